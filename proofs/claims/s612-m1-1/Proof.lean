import JvmDerived
import JvmDerived.Pilot.@@N@@Statement
import JvmDerived.Pilot.@@N@@Code
set_option linter.unusedVariables false
set_option linter.unusedSimpArgs false
namespace Jvm.RoadKit
open Sem ClassFile Op Lib Jvm.Stand Jvm.Free Jvm.LawKit
section New
variable {p : Program} {l : Launch} {e : Env} {R : Room} {s : State} {m : MethodId} {args : Array Value} {below : List Frame} {meth : Method} {c : Code} {T : State} {locs : List Loc} {cells slots : Nat}
theorem retI (X : Stand p l e R s m args below meth c T locs cells slots) (hx : p.tables.exec = Jvm.exec) {pc : Nat} {Ls : Array Slot} {z : Int32} {rest : List Value} (hret : meth.sig.returnType = some .int) (hd : decode c.code pc = .ok (.ireturn, 1)) {fs : List Frame}
    (hl : ∀ (f : JFrame) (acts : List Action), f.method = m → f.locked = none → f.entered = [] → (doReturn e (T.setTop f) acts (some (.int z))).1 = T.setFrames fs) : Steps p.tables e below (T.setTop (mkF m pc Ls (.int z :: rest))) (T.setFrames fs) := by
  have hm' : T.vm.method? m = some meth := X.method'
  have hn : narrow .int (.int z) = .int z := rfl
  show Steps p.tables e below (T.setTop { method := m, pc := pc, locals := Ls, stack := _ :: rest, locked := none }) _
  jvm_step X.here [X.here.top, hx, hd, hm', hret, hn]
  first | (intro acts; rw [hl _ acts rfl rfl rfl]) | rw [hl _ _ rfl rfl rfl]
  exact Steps.refl _
end New
end Jvm.RoadKit
namespace Jvm.Pilot.@@N@@
open Jvm Jvm.ClassFile Sem Op Lib Jvm.Free Jvm.Stand Jvm.LawKit Jvm.RoadKit Bundle Jvm.Pilot.@@N@@.Jvm.D
/-! the rest of a walk, from a state on: it returns, and what it leaves -/
def OwnGo (p : Program) (e : Env) (below : List Frame) (s : State) (Q : Option Value → Heap → List Loc → Prop) (K N : Nat) (U : State) : Prop :=
  ∃ t o, Steps p.tables e below U t ∧ t.status = .running ∧ Ended t below o ∧ ∃ v L, o = .returned v ∧ Q v t.heap L ∧ FrameEnd s o t L K N
section OwnKit
variable {p : Program} {l : Launch} {e : Env} {R : Room} {s : State} {m : MethodId} {args : Array Value} {below : List Frame} {meth : Method} {c : Code} {T : State} {locs : List Loc} {cells slots : Nat} {Q : Option Value → Heap → List Loc → Prop} {K N : Nat} {U U' : State} {h : Heap}
theorem own_on (st : ∀ t, Steps p.tables e below U' t → Steps p.tables e below U t) (k : OwnGo p e below s Q K N U') : OwnGo p e below s Q K N U := by
  obtain ⟨t, o, h1, r⟩ := k; exact ⟨t, o, st t h1, r⟩
theorem own_tr (st : Steps p.tables e below U U') (k : OwnGo p e below s Q K N U') : OwnGo p e below s Q K N U := own_on (fun _ q => st.trans q) k
theorem own_num {c' n' : Nat} {l' : List Loc} (X : Stand p l e R s m args below meth c T locs cells slots) (h0 : locs = l') (h1 : cells = c') (h2 : slots = n') : Stand p l e R s m args below meth c T l' c' n' := by
  subst h0 h1 h2; exact X
theorem own_cast {g g' : JFrame} (q : g = g') (k : OwnGo p e below s Q K N (T.setTop g')) : OwnGo p e below s Q K N (T.setTop g) := q ▸ k
theorem own_end (X : Stand p l e R s m args below meth c T locs cells slots) (hlk : meth.locks = false) {v : Option Value} (hv : meth.sig.returnType = none → v = none) (eT : T.heap = h) (q : Q v h locs) (hk : cells ≤ K) (hn : slots ≤ N)
    (st : ∀ fs, (∀ (f : JFrame) (acts : List Action), f.method = m → f.locked = none → f.entered = [] → (doReturn e (T.setTop f) acts v).1 = T.setFrames fs) → Steps p.tables e below U (T.setFrames fs)) : OwnGo p e below s Q K N U := by
  obtain ⟨fs, hr, hrun, hended, hW, hsame⟩ := X.leave (v := v) hv hlk
  refine ⟨_, _, st fs hr, hrun, hended, v, locs, rfl, ?_, ⟨_, rfl⟩, hW, hsame.mono hk hn⟩
  have : (T.setFrames fs).heap = h := eT
  rw [this]; exact q
theorem own_retN (X : Stand p l e R s m args below meth c T locs cells slots) (hx : p.tables.exec = Jvm.exec) (hlk : meth.locks = false) {pc : Nat} {Ls : Array Slot} {z : Int32} {t : FieldType} {rest : List Value} (hret : meth.sig.returnType = some t) (ht : t = .boolean ∨ t = .byte ∨ t = .char ∨ t = .short)
    (hd : decode c.code pc = .ok (.ireturn, 1)) (eT : T.heap = h) (q : Q (some (.int (nar t z))) h locs) (hk : cells ≤ K) (hn : slots ≤ N) : OwnGo p e below s Q K N (T.setTop (mkF m pc Ls (.int z :: rest))) :=
  own_end X hlk (fun h => by rw [hret] at h; cases h) eT q hk hn fun fs hr => retN X hx hret ht hd hr
theorem own_retI (X : Stand p l e R s m args below meth c T locs cells slots) (hx : p.tables.exec = Jvm.exec) (hlk : meth.locks = false) {pc : Nat} {Ls : Array Slot} {z : Int32} {rest : List Value} (hret : meth.sig.returnType = some .int)
    (hd : decode c.code pc = .ok (.ireturn, 1)) (eT : T.heap = h) (q : Q (some (.int z)) h locs) (hk : cells ≤ K) (hn : slots ≤ N) : OwnGo p e below s Q K N (T.setTop (mkF m pc Ls (.int z :: rest))) :=
  own_end X hlk (fun h => by rw [hret] at h; cases h) eT q hk hn fun fs hr => retI X hx hret hd hr
theorem own_retA (X : Stand p l e R s m args below meth c T locs cells slots) (hx : p.tables.exec = Jvm.exec) (hlk : meth.locks = false) {pc : Nat} {Ls : Array Slot} {w : Value} {t : FieldType} {rest : List Value} (hret : meth.sig.returnType = some t) (ht : t.isReference = true) (hw : w.isRef = true)
    (hd : decode c.code pc = .ok (.areturn, 1)) (eT : T.heap = h) (q : Q (some w) h locs) (hk : cells ≤ K) (hn : slots ≤ N) : OwnGo p e below s Q K N (T.setTop (mkF m pc Ls (w :: rest))) :=
  own_end X hlk (fun h => by rw [hret] at h; cases h) eT q hk hn fun fs hr => retOut X hx hret (by rcases ref_cases hw with rfl | ⟨a, rfl⟩ <;> cases t <;> rfl) (Or.inr (Or.inr (Or.inr (Or.inr ⟨rfl, ht, hw⟩)))) hd hr
theorem own_retV (X : Stand p l e R s m args below meth c T locs cells slots) (hx : p.tables.exec = Jvm.exec) (hlk : meth.locks = false) {pc : Nat} {Ls : Array Slot} (hret : meth.sig.returnType = none)
    (hd : decode c.code pc = .ok (.return_, 1)) (eT : T.heap = h) (q : Q none h locs) (hk : cells ≤ K) (hn : slots ≤ N) : OwnGo p e below s Q K N (T.setTop (mkF m pc Ls [])) :=
  own_end X hlk (fun _ => rfl) eT q hk hn fun fs hr => X.returnOut hx hret hd hr
end OwnKit

theorem own_i2c (x : Int32) : (x &&& (255 : Int32)).toUInt32.toUInt16.toUInt32.toInt32 = x &&& (255 : Int32) := by
  apply Int32.toBitVec_inj.mp
  simp only [UInt32.toBitVec_toInt32, UInt16.toBitVec_toUInt32, UInt32.toBitVec_toUInt16, Int32.toBitVec_toUInt32, Int32.toBitVec_and]
  have e : (255 : Int32).toBitVec = 255#32 := rfl
  rw [e]; generalize x.toBitVec = y
  apply BitVec.eq_of_toNat_eq
  have : (y &&& 255#32).toNat ≤ 255 := by rw [BitVec.toNat_and]; exact Nat.and_le_right
  simp only [BitVec.toNat_setWidth]; omega
theorem own_chr (x : Int32) : nar .char ((x &&& (255 : Int32)).toUInt32.toUInt16.toUInt32.toInt32) = x &&& (255 : Int32) ∧ nar .char (x &&& (255 : Int32)) = x &&& (255 : Int32) :=
  ⟨by simp only [nar, own_i2c], by simp only [nar, own_i2c]⟩
theorem own_shr0 (z : Int32) : z >>> ((0 : Int32) &&& 31) = z := by
  have : ((0 : Int32) &&& 31) = 0 := by decide
  rw [this]; simp
def own_isz (z : Int32) : Int32 := if z = 0 then 1 else 0
abbrev own_nil : List Addr := []
def OwnM (Z : State) (C : String) (mr : Addr) : Prop := ∃ (c : ClassId) (k : Class), Z.vm.findClass C = some c ∧ Z.vm.classes[c]? = some k ∧ k.mirror = some mr
def own_n (es : List Addr) : Int32 := Int32.ofNat es.length
def OwnA (Z : State) (h : Heap) (a : Addr) (N : Nat) (es : List Addr) : Prop := es.length ≤ N ∧ N ≤ 10 ∧ Exa Z h a "[Ljava/lang/Object;" ∧ ∃ k : ClassId, Arv Z h a k (.object "java/lang/Object") (Int32.ofNat N) (es.map Value.ref) .null
def OwnE (Z : State) (h : Heap) (es : List Addr) : Prop := ∀ x ∈ es, Exa Z h x "java/lang/String"
section OwnAl
variable {p : Program} {l : Launch} {e : Env} {R : Room} {s Z : State} {m : MethodId} {args a0 : Array Value} {below : List Frame} {meth : Method} {c : Code} {T : State} {locs : List Loc} {cells slots : Nat} {h h' : Heap} {a b : Addr} {N N' : Nat} {es es1 es2 : List Addr} {sl : Nat} {v : Value} {ws : List Addr}
theorem OwnA.exa (F : OwnA Z h a N es) : Exa Z h a "[Ljava/lang/Object;" := F.2.2.1
theorem OwnA.lt (F : OwnA Z h a N es) : a < h.size := F.2.2.1.lt
theorem OwnA.ext (F : OwnA Z h a N es) (E : Ext h h') : OwnA Z h' a N es := by obtain ⟨h1, h2, h3, k, h4⟩ := F; exact ⟨h1, h2, h3.ext E, k, h4.ext E⟩
theorem OwnA.other (F : OwnA Z h a N es) (W : Wr h h' b sl v) (q : a ≠ b) : OwnA Z h' a N es := by obtain ⟨h1, h2, h3, k, h4⟩ := F; exact ⟨h1, h2, h3.wr W, k, h4.other W q⟩
theorem OwnA.keep (F : OwnA Z h a N es) (K : Keep h h' ws) (q : a ∉ ws) : OwnA Z h' a N es := by obtain ⟨h1, h2, h3, k, h4⟩ := F; exact ⟨h1, h2, h3.keep K, k, h4.keep K q⟩
theorem OwnE.ext (F : OwnE Z h es) (E : Ext h h') : OwnE Z h' es := fun x q => (F x q).ext E
theorem OwnE.other (F : OwnE Z h es) (W : Wr h h' b sl v) : OwnE Z h' es := fun x q => (F x q).wr W
theorem OwnE.keep (F : OwnE Z h es) (K : Keep h h' ws) : OwnE Z h' es := fun x q => (F x q).keep K
theorem OwnE.app (F : OwnE Z h es1) (G : OwnE Z h es2) : OwnE Z h (es1 ++ es2) := fun x q => (List.mem_append.mp q).elim (F x) (G x)
theorem OwnE.one {x : Addr} (F : Exa Z h x "java/lang/String") : OwnE Z h [x] := fun y q => by rw [List.mem_singleton.mp q]; exact F
theorem own_onI {n : Nat} (q : n < 2 ^ 31) : (Int32.ofNat n).toInt = n := len_toInt q
theorem own_onC {n : Nat} (q : n < 2 ^ 31) : (Int32.ofNat n).toNatClampNeg = n := by simp only [Int32.toNatClampNeg, own_onI q]; rfl
theorem own_onN {n : Nat} (q : n < 2 ^ 31) : ¬ Int32.ofNat n < 0 := by
  rw [Int32.lt_iff_toInt_lt, own_onI q]; have : (0 : Int32).toInt = 0 := rfl
  omega
theorem own_lt' {x y : Nat} (qx : x < 2 ^ 31) (qy : y < 2 ^ 31) : Int32.ofNat x < Int32.ofNat y ↔ x < y := by
  rw [Int32.lt_iff_toInt_lt, own_onI qx, own_onI qy]; omega
theorem own_eq' {x y : Nat} (qx : x < 2 ^ 31) (qy : y < 2 ^ 31) : Int32.ofNat x = Int32.ofNat y ↔ x = y := by
  rw [← Int32.toInt_inj, own_onI qx, own_onI qy]; omega
theorem own_add' (x y : Nat) : Int32.ofNat x + Int32.ofNat y = Int32.ofNat (x + y) := (Int32.ofNat_add x y).symm
theorem own_sub' {x y : Nat} (qx : x < 2 ^ 31) (q : y ≤ x) : Int32.ofNat x - Int32.ofNat y = Int32.ofNat (x - y) := by
  have e : Int32.ofNat (x - y) + Int32.ofNat y = Int32.ofNat x := by rw [own_add', Nat.sub_add_cancel q]
  rw [← e]; simp
theorem own_mEv {C : String} {mr : Addr} (hZ : Z.Warmed39 s.vm) (M : OwnM Z C mr) : (Term.mirror C).eval args s none [] s = some (.ref mr) := by
  obtain ⟨cc, kc, m1, m2, m3⟩ := M
  obtain ⟨k', q, ek⟩ := hZ.alike.2.2 _ _ m2
  have e1 : s.vm.findClass C = some cc := by rw [hZ.alike.findClass]; exact m1
  have e2 : k'.mirror = some mr := by rw [ek]; exact m3
  simp [Term.eval, e1, q, e2]
theorem own_ldcM (X : Stand p l e R s m args below meth c T locs cells slots) (hx : p.tables.exec = Jvm.exec) (hZ : Z.Warmed39 s.vm) {own C : String} {index : Nat} (hown : s.vm.findClass own = some m.cls)
    (w : (Cond.classLink own index C).before a0 Z = true) {mr : Addr} (M : OwnM Z C mr) (eT : T.heap = h) {g : JFrame} (hg : g.method = m) (hd : decode c.code g.pc = .ok (.ldc index, 2)) :
    ∃ T', Stand p l e R s m args below meth c T' locs cells slots ∧ T'.heap = h ∧ ∀ target, Steps p.tables e below (T'.setTop { g with pc := g.pc + 2, stack := .ref mr :: g.stack }) target → Steps p.tables e below (T.setTop g) target := by
  obtain ⟨vm', X', st⟩ := X.ldcMirror hx hown (mvT hZ w) (own_mEv hZ M) hg hd
  exact ⟨_, X', eT, st⟩
theorem own_gc (X : Stand p l e R s m args below meth c T locs cells slots) (hx : p.tables.exec = Jvm.exec) (hZ : Z.Warmed39 s.vm) {own C : String} {index : Nat} (hown : s.vm.findClass own = some m.cls)
    (w1 : (Cond.methodLink own index Jvm.Stand.gcN).before a0 Z = true) (w2 : (Cond.declares Jvm.Stand.gcN).before a0 Z = true) (w4 : (Cond.selects C Jvm.Stand.gcN Jvm.Stand.gcN).before a0 Z = true)
    (w5 : (Cond.instanceMethod Jvm.Stand.gcN).before a0 Z = true) (w6 : (Cond.native Jvm.Stand.gcN).before a0 Z = true) (eT : T.heap = h) (E : Exa Z h a C) {mr : Addr} (M : OwnM Z C mr)
    {g : JFrame} (hg : g.method = m) (hsize : g.locals.size = c.maxLocals) {rest : List Value} (hs : g.stack = .ref a :: rest) (hd : decode c.code g.pc = .ok (.invokevirtual index, 3)) (hf : 1 ≤ R.frames) {W : Nat} (hW : 2 * g.monitorRoom + (rest.map fun v => v.category).sum ≤ W) (hl : W + (nativeFrameWords "java/lang/Object" "getClass" 1 + 11) ≤ R.locals) :
    ∃ T', Stand p l e R s m args below meth c T' locs cells slots ∧ T'.heap = h ∧ ∀ target, Steps p.tables e below (T'.setTop { g with pc := g.pc + 3, stack := .ref mr :: rest }) target → Steps p.tables e below (T.setTop g) target := by
  obtain ⟨cB, kB, i1, i2, i3⟩ := isOf hZ eT E
  obtain ⟨cc, kc, m1, m2, m3⟩ := M
  rw [hZ.alike.findClass] at i1
  cases i1.symm.trans m1
  obtain ⟨k', q, ek⟩ := hZ.alike.2.2 _ _ m2
  obtain ⟨vm', X', st⟩ := X.getClassOf hx hown (mvT hZ w1) (mvT hZ w2) (notFace_of_selects (args := #[]) (mvT hZ w4)) (mvT hZ w4) (mvT hZ w5) (mvT hZ w6) (by rw [hZ.alike.findClass]; exact m1) i3 q (by rw [ek]; exact m3) hg hsize hs hd hf (by omega)
  exact ⟨_, X', eT, st⟩
theorem own_gcI (X : Stand p l e R s m args below meth c T locs cells slots) (hx : p.tables.exec = Jvm.exec) (hZ : Z.Warmed39 s.vm) {own C : String} {index count : Nat} (hown : s.vm.findClass own = some m.cls)
    (w1 : (Cond.methodLink own index ⟨"java/util/Collection", "getClass", "()Ljava/lang/Class;"⟩).before a0 Z = true) (w2 : (Cond.declares Jvm.Stand.gcN).before a0 Z = true) (w3 : (Cond.interfaceMethod "java/util/Collection" "java/lang/Object" "getClass" "()Ljava/lang/Class;").before a0 Z = true) (w4 : (Cond.selects C ⟨"java/util/Collection", "getClass", "()Ljava/lang/Class;"⟩ Jvm.Stand.gcN).before a0 Z = true)
    (w5 : (Cond.instanceMethod Jvm.Stand.gcN).before a0 Z = true) (w6 : (Cond.publicMethod Jvm.Stand.gcN).before a0 Z = true) (w7 : (Cond.unhidden C "getClass" "()Ljava/lang/Class;").before a0 Z = true) (w8 : (Cond.castable C "java/util/Collection").before a0 Z = true) (w9 : (Cond.native Jvm.Stand.gcN).before a0 Z = true)
    (eT : T.heap = h) (E : Exa Z h a C) {mr : Addr} (M : OwnM Z C mr)
    {g : JFrame} (hg : g.method = m) (hsize : g.locals.size = c.maxLocals) {rest : List Value} (hs : g.stack = .ref a :: rest) (hd : decode c.code g.pc = .ok (.invokeinterface index count, 5)) (hf : 1 ≤ R.frames) {W : Nat} (hW : 2 * g.monitorRoom + (rest.map fun v => v.category).sum ≤ W) (hl : W + (nativeFrameWords "java/lang/Object" "getClass" 1 + 11) ≤ R.locals) :
    ∃ T', Stand p l e R s m args below meth c T' locs cells slots ∧ T'.heap = h ∧ ∀ target, Steps p.tables e below (T'.setTop { g with pc := g.pc + 5, stack := .ref mr :: rest }) target → Steps p.tables e below (T.setTop g) target := by
  obtain ⟨cB, kB, i1, i2, i3⟩ := isOf hZ eT E
  obtain ⟨cc, kc, m1, m2, m3⟩ := M
  rw [hZ.alike.findClass] at i1
  cases i1.symm.trans m1
  obtain ⟨k', q, ek⟩ := hZ.alike.2.2 _ _ m2
  obtain ⟨vm', X', st⟩ := X.getClassOfI hx (xi := ⟨"java/util/Collection", "getClass", "()Ljava/lang/Class;"⟩) hown (mvT hZ w1) (mvT hZ w2) (Jvm.Free.ULB.iface_rides hZ.alike w3) (mvT hZ w4) (mvT hZ w5) (mvT hZ w6) (mvT hZ w7) (mvT hZ w8) (mvT hZ w9) (by decide) (by decide) rfl rfl (by rw [hZ.alike.findClass]; exact m1) q i3 (by rw [ek]; exact m3) hg hsize hs hd hf (by omega)
  exact ⟨_, X', eT, st⟩
theorem own_ovr {cl : Cell} {ty : FieldType} (w : (Cond.arrayOver (.object "java/lang/Object")).before a0 Z = true) (E : Exa Z h a "[Ljava/lang/Object;") (A : Arr Z h a cl ty) : Ovr Z cl.cls "java/lang/Object" := by
  obtain ⟨comp, cA, k, h1, -, h2, h3, h4⟩ := Cond.arrayOver_spec w
  obtain ⟨cell, k', g1, g2, g3, -⟩ := E
  cases g1.symm.trans A.1
  have h4' : Z.vm.findClass "[Ljava/lang/Object;" = some cA := h4
  cases g2.symm.trans h4'
  exact ⟨k, comp, h2, h3, h1⟩
theorem own_sto {y : Addr} (w : (Cond.arrayOver (.object "java/lang/Object")).before a0 Z = true) (wc : (Cond.castable "java/lang/String" "java/lang/Object").before a0 Z = true) (A : OwnA Z h a N es) (E : Exa Z h y "java/lang/String") : Sto Z h a (.ref y) := by
  obtain ⟨h1, h2, h3, k, cl, h4, -⟩ := A
  exact Sto.of h4 (own_ovr w h3 h4) (Ins.of_exa E wc)
theorem own_getD (es : List Addr) (i : Nat) : (es.map Value.ref).getD i .null = .null ∨ ∃ x ∈ es, (es.map Value.ref).getD i .null = .ref x := by
  simp only [List.getD_eq_getElem?_getD, List.getElem?_map]
  cases q : es[i]? with
  | none => exact Or.inl rfl
  | some x => exact Or.inr ⟨x, List.mem_of_getElem? q, rfl⟩
theorem own_stoL (w : (Cond.arrayOver (.object "java/lang/Object")).before a0 Z = true) (wc : (Cond.castable "java/lang/String" "java/lang/Object").before a0 Z = true) (A : OwnA Z h b N es1) (E : OwnE Z h es2) (is : List Nat) : StoL Z h b (is.map fun i => (es2.map Value.ref).getD (0 + i) .null) := by
  induction is with
  | nil => exact trivial
  | cons i r ih =>
    refine ⟨?_, ih⟩
    rcases own_getD es2 (0 + i) with q | ⟨x, q1, q2⟩
    · exact Or.inl q
    · show Sto Z h b ((es2.map Value.ref).getD (0 + i) .null)
      rw [q2]; exact own_sto w wc A (E x q1)
theorem own_list {es1 es2 : List Addr} {N cc : Nat} (h1 : es2.length ≤ cc) (h2 : es1.length + cc ≤ N) (i : Nat) :
    ((es1 ++ es2).map Value.ref).getD i .null = (((es1.map Value.ref ++ List.replicate (N - es1.length) Value.null).take es1.length ++ (List.range cc).map (fun i => (es2.map Value.ref).getD (0 + i) .null)) ++ (es1.map Value.ref ++ List.replicate (N - es1.length) Value.null).drop (es1.length + cc)).getD i .null := by
  have e1 : (es1.map Value.ref ++ List.replicate (N - es1.length) Value.null).take es1.length = es1.map Value.ref := by rw [List.take_append_of_le_length (by simp), List.take_of_length_le (by simp)]
  have e2 : (es1.map Value.ref ++ List.replicate (N - es1.length) Value.null).drop (es1.length + cc) = List.replicate (N - es1.length - cc) Value.null := by rw [List.drop_append]; simp
  rw [e1, e2, List.map_append]
  simp only [List.getD_eq_getElem?_getD]
  by_cases c1 : i < es1.length
  · rw [List.append_assoc, List.getElem?_append_left (by simpa using c1), List.getElem?_append_left (by simpa using c1)]
  · rw [List.append_assoc, List.getElem?_append_right (by simpa using c1), List.getElem?_append_right (by simpa using c1), List.length_map]
    generalize i - es1.length = j
    by_cases c2 : j < cc
    · rw [List.getElem?_append_left (by simpa using c2)]
      simp [List.getElem?_range, c2]
    · rw [List.getElem?_append_right (by simpa using c2), List.getElem?_eq_none (by simp; omega)]
      cases q : (List.replicate (N - es1.length - cc) Value.null)[j - ((List.range cc).map (fun i => ((es2.map Value.ref)[0 + i]?.getD .null))).length]? with
      | none => rfl
      | some x => have := List.mem_of_getElem? q; rw [(List.mem_replicate.mp this).2]; rfl
theorem own_cpO (X : Stand p l e R s m args below meth c T locs cells slots) (hx : p.tables.exec = Jvm.exec) (hZ : Z.Warmed39 s.vm) {own : String} {index : Nat} (hown : s.vm.findClass own = some m.cls)
    (w1 : (Cond.methodLink own index Jvm.Stand.acN).before a0 Z = true) (w2 : (Cond.native Jvm.Stand.acN).before a0 Z = true) (w3 : (Cond.static Jvm.Stand.acN).before a0 Z = true) (w4 : (Cond.initialized "java/lang/System").before a0 Z = true)
    (w5 : (Cond.arrayOver (.object "java/lang/Object")).before a0 Z = true) (w6 : (Cond.castable "java/lang/String" "java/lang/Object").before a0 Z = true) (eT : T.heap = h)
    (A : OwnA Z h a N es2) (B : OwnA Z h b N' es1) (E : OwnE Z h es2) {cc : Nat} {sp dp nn : Int32} (hsp : sp = Int32.ofNat 0) (hdp : dp = Int32.ofNat es1.length) (hnn : nn = Int32.ofNat cc) (h1 : es2.length ≤ cc) (h2 : cc ≤ N) (h3 : es1.length + cc ≤ N') {n0 : Nat} (Nf : Fr n0 locs) (ge : n0 ≤ b)
    {g : JFrame} (hg : g.method = m) (hsize : g.locals.size = c.maxLocals) {rest : List Value} (hs : g.stack = .int nn :: .int dp :: .ref b :: .int sp :: .ref a :: rest) (hd : decode c.code g.pc = .ok (.invokestatic index, 3))
    (hf : 1 ≤ R.frames) {W : Nat} (hW : 2 * g.monitorRoom + (rest.map fun v => v.category).sum ≤ W) (hlo : W + (nativeFrameWords "java/lang/System" "arraycopy" 5 + 11) ≤ R.locals) :
    ∃ T' h' L, Stand p l e R s m args below meth c T' L cells slots ∧ T'.heap = h' ∧ Fr n0 L ∧ Keep h h' [b] ∧ OwnA Z h' b N' (es1 ++ es2) ∧
      ∀ target, Steps p.tables e below (T'.setTop { g with pc := g.pc + 3, stack := rest }) target → Steps p.tables e below (T.setTop g) target := by
  subst hsp hdp hnn
  have SL := own_stoL w5 w6 B E (List.range cc)
  obtain ⟨a1, a2, a3, ka, a4⟩ := A
  obtain ⟨b1, b2, b3, kb, b4⟩ := B
  have b5 := b4.pad (pad_rep (es1.map Value.ref) .null (N' - es1.length))
  have z0 : (Int32.ofNat 0).toNatClampNeg = 0 := rfl
  have z1 : (Int32.ofNat es1.length).toNatClampNeg = es1.length := own_onC (by omega)
  have z2 : (Int32.ofNat cc).toNatClampNeg = cc := own_onC (by omega)
  have z3 : (Int32.ofNat N).toNatClampNeg = N := own_onC (by omega)
  have z4 : (Int32.ofNat N').toNatClampNeg = N' := own_onC (by omega)
  obtain ⟨T', h', L, X', e', N1, K, V, st⟩ := cpA X hx hZ hown w1 w2 w3 w4 eT (us := (List.range cc).map fun i => (es2.map Value.ref).getD (0 + i) .null) a4 b5 (Or.inr ⟨rfl, rfl, SL⟩) (sp := Int32.ofNat 0) (dp := Int32.ofNat es1.length) (nn := Int32.ofNat cc)
    (own_onN (by omega)) (own_onN (by omega)) (own_onN (by omega)) (by rw [z0, z2, z3]; omega) (by rw [z1, z2, z4]; omega) (by rw [z0, z2]) (by rw [z1, z2]; simp; omega) Nf ge hg hsize hs hd hf hW hlo
  rw [z1, z2] at V
  exact ⟨T', h', L, X', e', N1, K, ⟨by rw [List.length_append]; omega, b2, b3.keep K, kb, V.pad (own_list h1 h3)⟩, st⟩
theorem own_newA (X : Stand p l e R s m args below meth c T locs cells slots) (hx : p.tables.exec = Jvm.exec) (hZ : Z.Warmed39 s.vm) {own : String} {index : Nat} (hown : s.vm.findClass own = some m.cls) (w1 : (Cond.classLink own index "java/lang/Object").before a0 Z = true) (w2 : (Cond.arrayOver (.object "java/lang/Object")).before a0 Z = true)
    (eT : T.heap = h) {g : JFrame} (hg : g.method = m) (hd : decode c.code g.pc = .ok (.anewarray index, 3)) {rest : List Value} (hs : g.stack = .int (Int32.ofNat N) :: rest) (hN : N ≤ 10) (hc : cells + 1 ≤ R.cells) (hl : slots + 10 ≤ R.slots) :
    ∃ T' h', Stand p l e R s m args below meth c T' locs (cells + 1) (slots + 10) ∧ T'.heap = h' ∧ Ext h h' ∧ OwnA Z h' h.size N [] ∧
      ∀ target, Steps p.tables e below (T'.setTop { g with pc := g.pc + 3, stack := .ref h.size :: rest }) target → Steps p.tables e below (T.setTop g) target := by
  obtain ⟨T', h', cA, X', e', E, A, Ex, -, st⟩ := newRE (cap := 10) (ad := "[Ljava/lang/Object;") X hx hZ hown w1 w2 eT hg hd hs (own_onN (by omega)) (by rw [own_onC (by omega)]; exact hN) (by decide) hc hl rfl
  exact ⟨T', h', X', e', E, ⟨Nat.zero_le _, hN, Ex, cA, Arv.new A (own_onN (by omega))⟩, st⟩
theorem own_setA {y : Addr} {cl : Cell} {k : ClassId} {j : Int32} (h0 : es.length < N) (h1 : N ≤ 10) (h2 : Exa Z h a "[Ljava/lang/Object;") (A : Arr Z h a cl (.object "java/lang/Object")) (q1 : cl.cls = k) (S : cl.slots.size = (Int32.ofNat N).toNatClampNeg) (q3 : ¬ Int32.ofNat N < 0) (H : Has cl (es.map Value.ref) .null)
    (G : ∀ i, i < cl.slots.size → fits (.object "java/lang/Object") ((es.map Value.ref).getD i .null) = true) (hj : j = Int32.ofNat es.length) (W : Wr h h' a j.toNatClampNeg (.ref y)) : OwnA Z h' a N (es ++ [y]) := by
  have z1 : (Int32.ofNat es.length).toNatClampNeg = es.length := own_onC (by omega)
  subst hj
  have pd := (pad_rep (es.map Value.ref) .null (N - es.length))
  refine ⟨by rw [List.length_append]; simp; omega, h1, h2.wr W, k, ?_⟩
  have V := Arv.set (v := .ref y) (vs := es.map Value.ref ++ List.replicate (N - es.length) Value.null) A q1 S q3 (fun i hi => by rw [pd]; exact H i hi) (fun i hi => by rw [pd]; exact G i hi) rfl W es.length z1 (by simp; omega)
  refine V.pad fun i => ?_
  simp only [List.getD_eq_getElem?_getD, List.map_append, List.map_cons, List.map_nil]
  by_cases c1 : i < es.length
  · rw [List.getElem?_append_left (by simpa using c1), List.getElem?_set_ne (by omega), List.getElem?_append_left (by simpa using c1)]
  · by_cases c2 : i = es.length
    · subst c2
      rw [List.getElem?_append_right (by simp), List.getElem?_set_self (by simp; omega)]; simp
    · rw [List.getElem?_append_right (by simp; omega), List.getElem?_set_ne (by omega), List.getElem?_append_right (by simp; omega), List.getElem?_eq_none (by simp; omega)]
      cases q : (List.replicate (N - es.length) Value.null)[i - (es.map Value.ref).length]? with
      | none => rfl
      | some x => have := List.mem_of_getElem? q; rw [(List.mem_replicate.mp this).2]; rfl
theorem own_at {j : Int32} (A : OwnA Z h a N es) (h1 : ¬ j < 0) (h2 : j < own_n es) : ∃ x ∈ es, (es.map Value.ref).getD j.toNatClampNeg .null = .ref x ∧ j < Int32.ofNat N := by
  obtain ⟨a1, a2, -⟩ := A
  have e1 := own_onI (n := es.length) (by omega); have e2 := own_onI (n := N) (by omega)
  rw [own_n, Int32.lt_iff_toInt_lt, e1] at h2; rw [Int32.lt_iff_toInt_lt] at h1
  have z : (0 : Int32).toInt = 0 := rfl
  have hj : j.toNatClampNeg < es.length := by simp only [Int32.toNatClampNeg]; omega
  refine ⟨es[j.toNatClampNeg], List.getElem_mem hj, by simp [List.getD_eq_getElem?_getD, hj], ?_⟩
  rw [Int32.lt_iff_toInt_lt, e2]; omega
end OwnAl

theorem own_shr1 (n : Nat) (h : n ≤ 10) : Int32.ofNat n >>> ((1 : Int32) &&& 31) = Int32.ofNat (n / 2) := by
  have : n = 0 ∨ n = 1 ∨ n = 2 ∨ n = 3 ∨ n = 4 ∨ n = 5 ∨ n = 6 ∨ n = 7 ∨ n = 8 ∨ n = 9 ∨ n = 10 := by omega
  rcases this with rfl | rfl | rfl | rfl | rfl | rfl | rfl | rfl | rfl | rfl | rfl <;> decide
theorem own_napp (es fs : List Addr) : own_n es + own_n fs = own_n (es ++ fs) := by unfold own_n; rw [List.length_append]; exact own_add' _ _
theorem own_napp1 (es : List Addr) (x : Addr) : own_n es + (1 : Int32) = own_n (es ++ [x]) := own_napp es [x]

theorem own_c255 (x : Int32) : ¬ (255 : Int32) < (x &&& (255 : Int32)).toUInt32.toUInt16.toUInt32.toInt32 := by
  rw [own_i2c]; have := c_and x 255 (by decide); simp only [Int32.lt_iff_toInt_lt]; simp only [Int32.reduceToInt] at *; omega
theorem own_r3 (x : Int32) : (x &&& (3 : Int32)) % (3 : Int32) = 0 ∨ (x &&& (3 : Int32)) % (3 : Int32) = 1 ∨ (x &&& (3 : Int32)) % (3 : Int32) = 2 := by
  have h1 := c_and x 3 (by decide); have h2 := (c_irem (x &&& (3 : Int32)) 3 3 (by decide)).1 h1.1
  have e0 : ∀ x y : Int32, x = y ↔ x.toInt = y.toInt := fun x y => Int32.toInt_inj.symm
  simp only [e0]; simp only [Int32.reduceToInt] at *; omega
theorem own_nz {t : Term} {args : Array Value} {s : State} {z : Int32} (ev : t.eval args s none [] s = some (.int z)) (h : (Cond.not (Cond.eq t (.int 0))).value args s none s [] = some true) : ¬ (z = (0 : Int32)) := by
  have h1 := not_v h
  rintro rfl
  simp [Cond.value, Term.eval, ev] at h1
theorem own_empty {s : State} {args : Array Value} {n : String} {ca : Addr} (hf : Fit s) (ev : (Term.static "java/util/ArrayList" n "[Ljava/lang/Object;").eval args s none [] s = some (.ref ca))
    (h1 : (Cond.arrayOf (Term.static "java/util/ArrayList" n "[Ljava/lang/Object;") (.object "java/lang/Object")).before args s = true) (h2 : (Cond.exactly (Term.static "java/util/ArrayList" n "[Ljava/lang/Object;") "[Ljava/lang/Object;").before args s = true)
    (h3 : (Cond.eq (.length (Term.static "java/util/ArrayList" n "[Ljava/lang/Object;")) (.int 0)).before args s = true) : OwnA s s.heap ca 0 own_nil := by
  obtain ⟨cl, A⟩ := Arr.start ev (Cond.before_iff.mp h1)
  obtain ⟨q1, q2⟩ := Jvm.Free.IntBox.length_fwd h3 ev A.1 A.2.1 A.2.2
  exact ⟨Nat.le_refl _, by decide, Exa.start ev (Cond.before_iff.mp h2), cl.cls, Arv.start hf A q1 q2 (by decide) rfl trivial⟩

theorem own_setS {Z : State} {h h' : Heap} {a y : Addr} {cl : Cell} {k : ClassId} {ty : FieldType} {es : List Addr} {j z : Int32} (h0 : es.length < 6) (hz : z = 6) (A : Arr Z h a cl ty) (q1 : cl.cls = k) (S : cl.slots.size = z.toNatClampNeg) (q3 : ¬ z < 0) (H : Has cl (es.map Value.ref) .null)
    (G : ∀ i, i < cl.slots.size → fits ty ((es.map Value.ref).getD i .null) = true) (hv : fits ty (.ref y) = true) (hj : j = own_n es) (W : Wr h h' a j.toNatClampNeg (.ref y)) : Arv Z h' a k ty z ((es ++ [y]).map Value.ref) .null := by
  have z1 : (own_n es).toNatClampNeg = es.length := own_onC (by omega)
  subst hj
  have pd := (pad_rep (es.map Value.ref) .null (6 - es.length))
  have V := Arv.set (v := .ref y) (vs := es.map Value.ref ++ List.replicate (6 - es.length) Value.null) A q1 S q3 (fun i hi => by rw [pd]; exact H i hi) (fun i hi => by rw [pd]; exact G i hi) hv W es.length z1 (by simp; omega)
  refine V.pad fun i => ?_
  simp only [List.getD_eq_getElem?_getD, List.map_append, List.map_cons, List.map_nil]
  by_cases c1 : i < es.length
  · rw [List.getElem?_append_left (by simpa using c1), List.getElem?_set_ne (by omega), List.getElem?_append_left (by simpa using c1)]
  · by_cases c2 : i = es.length
    · subst c2
      rw [List.getElem?_append_right (by simp), List.getElem?_set_self (by simp; omega)]; simp
    · rw [List.getElem?_append_right (by simp; omega), List.getElem?_set_ne (by omega), List.getElem?_append_right (by simp; omega), List.getElem?_eq_none (by simp; omega)]
      cases q : (List.replicate (6 - es.length) Value.null)[i - (es.map Value.ref).length]? with
      | none => rfl
      | some x => have := List.mem_of_getElem? q; rw [(List.mem_replicate.mp this).2]; rfl
def own_case (v : Int32) (l : List Addr) (x y : Addr) : Prop := (v = 0 ∧ l = own_nil) ∨ (v = 1 ∧ l = (own_nil ++ [x])) ∨ (v = 2 ∧ l = ((own_nil ++ [x]) ++ [y]))
theorem own_case.len {v : Int32} {l : List Addr} {x y : Addr} (F : own_case v l x y) : l.length ≤ 2 := by rcases F with ⟨-, rfl⟩ | ⟨-, rfl⟩ | ⟨-, rfl⟩ <;> simp [own_nil]
theorem own_case.val {v : Int32} {l : List Addr} {x y : Addr} (F : own_case v l x y) : v = own_n l := by rcases F with ⟨rfl, rfl⟩ | ⟨rfl, rfl⟩ | ⟨rfl, rfl⟩ <;> rfl

theorem w0 {a0 : Array Value} {Z : State} (hw : ∀ d ∈ tables_1, d.before a0 Z = true) : ((Jvm.Cond.methodLink "com/example/fachwissen/fachwissen/mail/MessageAssociationTextsPinLaw" (19 : Nat) ({ cls := "java/lang/String", name := "valueOf", desc := "(C)Ljava/lang/String;" } : Jvm.MethodName)) : Jvm.Cond).before a0 Z = true := hw _ (List.mem_of_getElem? (i := 0) rfl)
theorem w1 {a0 : Array Value} {Z : State} (hw : ∀ d ∈ tables_1, d.before a0 Z = true) : ((Jvm.Cond.static ({ cls := "java/lang/String", name := "valueOf", desc := "(C)Ljava/lang/String;" } : Jvm.MethodName)) : Jvm.Cond).before a0 Z = true := hw _ (List.mem_of_getElem? (i := 1) rfl)
theorem w2 {a0 : Array Value} {Z : State} (hw : ∀ d ∈ tables_1, d.before a0 Z = true) : ((Jvm.Cond.initialized "java/lang/String") : Jvm.Cond).before a0 Z = true := hw _ (List.mem_of_getElem? (i := 2) rfl)
theorem w3 {a0 : Array Value} {Z : State} (hw : ∀ d ∈ tables_1, d.before a0 Z = true) : ((Jvm.Cond.code ({ cls := "java/lang/String", name := "valueOf", desc := "(C)Ljava/lang/String;" } : Jvm.MethodName) jdk_42_method_139_code (1 : Nat) (Option.some (Jvm.ClassFile.FieldType.object "java/lang/String"))) : Jvm.Cond).before a0 Z = true := hw _ (List.mem_of_getElem? (i := 3) rfl)
theorem w4 {a0 : Array Value} {Z : State} (hw : ∀ d ∈ tables_1, d.before a0 Z = true) : ((Jvm.Cond.fieldLink "java/lang/String" (38 : Nat) "java/lang/String" "COMPACT_STRINGS" "Z") : Jvm.Cond).before a0 Z = true := hw _ (List.mem_of_getElem? (i := 4) rfl)
theorem w5 {a0 : Array Value} {Z : State} (hw : ∀ d ∈ tables_1, d.before a0 Z = true) : ((Jvm.Cond.methodLink "java/lang/String" (1015 : Nat) ({ cls := "java/lang/StringLatin1", name := "canEncode", desc := "(C)Z" } : Jvm.MethodName)) : Jvm.Cond).before a0 Z = true := hw _ (List.mem_of_getElem? (i := 5) rfl)
theorem w6 {a0 : Array Value} {Z : State} (hw : ∀ d ∈ tables_1, d.before a0 Z = true) : ((Jvm.Cond.static ({ cls := "java/lang/StringLatin1", name := "canEncode", desc := "(C)Z" } : Jvm.MethodName)) : Jvm.Cond).before a0 Z = true := hw _ (List.mem_of_getElem? (i := 6) rfl)
theorem w7 {a0 : Array Value} {Z : State} (hw : ∀ d ∈ tables_1, d.before a0 Z = true) : ((Jvm.Cond.initialized "java/lang/StringLatin1") : Jvm.Cond).before a0 Z = true := hw _ (List.mem_of_getElem? (i := 7) rfl)
theorem w8 {a0 : Array Value} {Z : State} (hw : ∀ d ∈ tables_1, d.before a0 Z = true) : ((Jvm.Cond.code ({ cls := "java/lang/StringLatin1", name := "canEncode", desc := "(C)Z" } : Jvm.MethodName) jdk_43_method_3_code (1 : Nat) (Option.some Jvm.ClassFile.FieldType.boolean)) : Jvm.Cond).before a0 Z = true := hw _ (List.mem_of_getElem? (i := 8) rfl)
theorem w9 {a0 : Array Value} {Z : State} (hw : ∀ d ∈ tables_1, d.before a0 Z = true) : ((Jvm.Cond.classLink "java/lang/String" (10 : Nat) "java/lang/String") : Jvm.Cond).before a0 Z = true := hw _ (List.mem_of_getElem? (i := 9) rfl)
theorem w10 {a0 : Array Value} {Z : State} (hw : ∀ d ∈ tables_1, d.before a0 Z = true) : ((Jvm.Cond.instantiable "java/lang/String" (4 : Nat)) : Jvm.Cond).before a0 Z = true := hw _ (List.mem_of_getElem? (i := 10) rfl)
theorem w11 {a0 : Array Value} {Z : State} (hw : ∀ d ∈ tables_1, d.before a0 Z = true) : ((Jvm.Cond.methodLink "java/lang/String" (1018 : Nat) ({ cls := "java/lang/StringLatin1", name := "toBytes", desc := "(C)[B" } : Jvm.MethodName)) : Jvm.Cond).before a0 Z = true := hw _ (List.mem_of_getElem? (i := 11) rfl)
theorem w12 {a0 : Array Value} {Z : State} (hw : ∀ d ∈ tables_1, d.before a0 Z = true) : ((Jvm.Cond.static ({ cls := "java/lang/StringLatin1", name := "toBytes", desc := "(C)[B" } : Jvm.MethodName)) : Jvm.Cond).before a0 Z = true := hw _ (List.mem_of_getElem? (i := 12) rfl)
theorem w13 {a0 : Array Value} {Z : State} (hw : ∀ d ∈ tables_1, d.before a0 Z = true) : ((Jvm.Cond.code ({ cls := "java/lang/StringLatin1", name := "toBytes", desc := "(C)[B" } : Jvm.MethodName) jdk_43_method_46_code (1 : Nat) (Option.some (Jvm.ClassFile.FieldType.array Jvm.ClassFile.FieldType.byte))) : Jvm.Cond).before a0 Z = true := hw _ (List.mem_of_getElem? (i := 13) rfl)
theorem w14 {a0 : Array Value} {Z : State} (hw : ∀ d ∈ tables_1, d.before a0 Z = true) : ((Jvm.Cond.arrayClass Jvm.ClassFile.FieldType.byte) : Jvm.Cond).before a0 Z = true := hw _ (List.mem_of_getElem? (i := 14) rfl)
theorem w15 {a0 : Array Value} {Z : State} (hw : ∀ d ∈ tables_1, d.before a0 Z = true) : ((Jvm.Cond.methodLink "java/lang/String" (209 : Nat) ({ cls := "java/lang/String", name := "<init>", desc := "([BB)V" } : Jvm.MethodName)) : Jvm.Cond).before a0 Z = true := hw _ (List.mem_of_getElem? (i := 15) rfl)
theorem w16 {a0 : Array Value} {Z : State} (hw : ∀ d ∈ tables_1, d.before a0 Z = true) : ((Jvm.Cond.instanceMethod ({ cls := "java/lang/String", name := "<init>", desc := "([BB)V" } : Jvm.MethodName)) : Jvm.Cond).before a0 Z = true := hw _ (List.mem_of_getElem? (i := 16) rfl)
theorem w18 {a0 : Array Value} {Z : State} (hw : ∀ d ∈ tables_1, d.before a0 Z = true) : ((Jvm.Cond.code ({ cls := "java/lang/String", name := "<init>", desc := "([BB)V" } : Jvm.MethodName) jdk_42_method_151_code (3 : Nat) (Option.none : Option Jvm.ClassFile.FieldType)) : Jvm.Cond).before a0 Z = true := hw _ (List.mem_of_getElem? (i := 18) rfl)
theorem w19 {a0 : Array Value} {Z : State} (hw : ∀ d ∈ tables_1, d.before a0 Z = true) : ((Jvm.Cond.methodLink "java/lang/String" (1 : Nat) ({ cls := "java/lang/Object", name := "<init>", desc := "()V" } : Jvm.MethodName)) : Jvm.Cond).before a0 Z = true := hw _ (List.mem_of_getElem? (i := 19) rfl)
theorem w20 {a0 : Array Value} {Z : State} (hw : ∀ d ∈ tables_1, d.before a0 Z = true) : ((Jvm.Cond.instanceMethod ({ cls := "java/lang/Object", name := "<init>", desc := "()V" } : Jvm.MethodName)) : Jvm.Cond).before a0 Z = true := hw _ (List.mem_of_getElem? (i := 20) rfl)
theorem w21 {a0 : Array Value} {Z : State} (hw : ∀ d ∈ tables_1, d.before a0 Z = true) : ((Jvm.Cond.code ({ cls := "java/lang/Object", name := "<init>", desc := "()V" } : Jvm.MethodName) object_method_1_code (1 : Nat) (Option.none : Option Jvm.ClassFile.FieldType)) : Jvm.Cond).before a0 Z = true := hw _ (List.mem_of_getElem? (i := 21) rfl)
theorem w22 {a0 : Array Value} {Z : State} (hw : ∀ d ∈ tables_1, d.before a0 Z = true) : ((Jvm.Cond.fieldLink "java/lang/String" (9 : Nat) "java/lang/String" "value" "[B") : Jvm.Cond).before a0 Z = true := hw _ (List.mem_of_getElem? (i := 22) rfl)
theorem w23 {a0 : Array Value} {Z : State} (hw : ∀ d ∈ tables_1, d.before a0 Z = true) : ((Jvm.Cond.laysFinal "java/lang/String" "java/lang/String" "value" "[B") : Jvm.Cond).before a0 Z = true := hw _ (List.mem_of_getElem? (i := 23) rfl)
theorem w24 {a0 : Array Value} {Z : State} (hw : ∀ d ∈ tables_1, d.before a0 Z = true) : ((Jvm.Cond.fieldLink "java/lang/String" (15 : Nat) "java/lang/String" "coder" "B") : Jvm.Cond).before a0 Z = true := hw _ (List.mem_of_getElem? (i := 24) rfl)
theorem w25 {a0 : Array Value} {Z : State} (hw : ∀ d ∈ tables_1, d.before a0 Z = true) : ((Jvm.Cond.laysFinal "java/lang/String" "java/lang/String" "coder" "B") : Jvm.Cond).before a0 Z = true := hw _ (List.mem_of_getElem? (i := 25) rfl)
theorem w26 {a0 : Array Value} {Z : State} (hw : ∀ d ∈ tables_1, d.before a0 Z = true) : ((Jvm.Cond.classLink "com/example/fachwissen/fachwissen/mail/MessageAssociationTextsPinLaw" (23 : Nat) "java/util/ArrayList") : Jvm.Cond).before a0 Z = true := hw _ (List.mem_of_getElem? (i := 26) rfl)
theorem w27 {a0 : Array Value} {Z : State} (hw : ∀ d ∈ tables_1, d.before a0 Z = true) : ((Jvm.Cond.instantiable "java/util/ArrayList" (3 : Nat)) : Jvm.Cond).before a0 Z = true := hw _ (List.mem_of_getElem? (i := 27) rfl)
theorem w28 {a0 : Array Value} {Z : State} (hw : ∀ d ∈ tables_1, d.before a0 Z = true) : ((Jvm.Cond.initialized "java/util/ArrayList") : Jvm.Cond).before a0 Z = true := hw _ (List.mem_of_getElem? (i := 28) rfl)
theorem w29 {a0 : Array Value} {Z : State} (hw : ∀ d ∈ tables_1, d.before a0 Z = true) : ((Jvm.Cond.methodLink "com/example/fachwissen/fachwissen/mail/MessageAssociationTextsPinLaw" (25 : Nat) ({ cls := "java/util/ArrayList", name := "<init>", desc := "()V" } : Jvm.MethodName)) : Jvm.Cond).before a0 Z = true := hw _ (List.mem_of_getElem? (i := 29) rfl)
theorem w30 {a0 : Array Value} {Z : State} (hw : ∀ d ∈ tables_1, d.before a0 Z = true) : ((Jvm.Cond.instanceMethod ({ cls := "java/util/ArrayList", name := "<init>", desc := "()V" } : Jvm.MethodName)) : Jvm.Cond).before a0 Z = true := hw _ (List.mem_of_getElem? (i := 30) rfl)
theorem w31 {a0 : Array Value} {Z : State} (hw : ∀ d ∈ tables_1, d.before a0 Z = true) : ((Jvm.Cond.code ({ cls := "java/util/ArrayList", name := "<init>", desc := "()V" } : Jvm.MethodName) jdk_38_method_2_code (1 : Nat) (Option.none : Option Jvm.ClassFile.FieldType)) : Jvm.Cond).before a0 Z = true := hw _ (List.mem_of_getElem? (i := 31) rfl)
theorem w32 {a0 : Array Value} {Z : State} (hw : ∀ d ∈ tables_1, d.before a0 Z = true) : ((Jvm.Cond.methodLink "java/util/ArrayList" (1 : Nat) ({ cls := "java/util/AbstractList", name := "<init>", desc := "()V" } : Jvm.MethodName)) : Jvm.Cond).before a0 Z = true := hw _ (List.mem_of_getElem? (i := 32) rfl)
theorem w33 {a0 : Array Value} {Z : State} (hw : ∀ d ∈ tables_1, d.before a0 Z = true) : ((Jvm.Cond.instanceMethod ({ cls := "java/util/AbstractList", name := "<init>", desc := "()V" } : Jvm.MethodName)) : Jvm.Cond).before a0 Z = true := hw _ (List.mem_of_getElem? (i := 33) rfl)
theorem w36 {a0 : Array Value} {Z : State} (hw : ∀ d ∈ tables_1, d.before a0 Z = true) : ((Jvm.Cond.initialized "java/util/AbstractList") : Jvm.Cond).before a0 Z = true := hw _ (List.mem_of_getElem? (i := 36) rfl)
theorem w37 {a0 : Array Value} {Z : State} (hw : ∀ d ∈ tables_1, d.before a0 Z = true) : ((Jvm.Cond.code ({ cls := "java/util/AbstractList", name := "<init>", desc := "()V" } : Jvm.MethodName) jdk_39_method_1_code (1 : Nat) (Option.none : Option Jvm.ClassFile.FieldType)) : Jvm.Cond).before a0 Z = true := hw _ (List.mem_of_getElem? (i := 37) rfl)
theorem w38 {a0 : Array Value} {Z : State} (hw : ∀ d ∈ tables_1, d.before a0 Z = true) : ((Jvm.Cond.methodLink "java/util/AbstractList" (1 : Nat) ({ cls := "java/util/AbstractCollection", name := "<init>", desc := "()V" } : Jvm.MethodName)) : Jvm.Cond).before a0 Z = true := hw _ (List.mem_of_getElem? (i := 38) rfl)
theorem w39 {a0 : Array Value} {Z : State} (hw : ∀ d ∈ tables_1, d.before a0 Z = true) : ((Jvm.Cond.instanceMethod ({ cls := "java/util/AbstractCollection", name := "<init>", desc := "()V" } : Jvm.MethodName)) : Jvm.Cond).before a0 Z = true := hw _ (List.mem_of_getElem? (i := 39) rfl)
theorem w42 {a0 : Array Value} {Z : State} (hw : ∀ d ∈ tables_1, d.before a0 Z = true) : ((Jvm.Cond.initialized "java/util/AbstractCollection") : Jvm.Cond).before a0 Z = true := hw _ (List.mem_of_getElem? (i := 42) rfl)
theorem w43 {a0 : Array Value} {Z : State} (hw : ∀ d ∈ tables_1, d.before a0 Z = true) : ((Jvm.Cond.code ({ cls := "java/util/AbstractCollection", name := "<init>", desc := "()V" } : Jvm.MethodName) jdk_22_method_1_code (1 : Nat) (Option.none : Option Jvm.ClassFile.FieldType)) : Jvm.Cond).before a0 Z = true := hw _ (List.mem_of_getElem? (i := 43) rfl)
theorem w44 {a0 : Array Value} {Z : State} (hw : ∀ d ∈ tables_1, d.before a0 Z = true) : ((Jvm.Cond.methodLink "java/util/AbstractCollection" (1 : Nat) ({ cls := "java/lang/Object", name := "<init>", desc := "()V" } : Jvm.MethodName)) : Jvm.Cond).before a0 Z = true := hw _ (List.mem_of_getElem? (i := 44) rfl)
theorem w45 {a0 : Array Value} {Z : State} (hw : ∀ d ∈ tables_1, d.before a0 Z = true) : ((Jvm.Cond.fieldLink "java/util/AbstractList" (7 : Nat) "java/util/AbstractList" "modCount" "I") : Jvm.Cond).before a0 Z = true := hw _ (List.mem_of_getElem? (i := 45) rfl)
theorem w46 {a0 : Array Value} {Z : State} (hw : ∀ d ∈ tables_1, d.before a0 Z = true) : ((Jvm.Cond.lays "java/util/ArrayList" "java/util/AbstractList" "modCount" "I") : Jvm.Cond).before a0 Z = true := hw _ (List.mem_of_getElem? (i := 46) rfl)
theorem w47 {a0 : Array Value} {Z : State} (hw : ∀ d ∈ tables_1, d.before a0 Z = true) : ((Jvm.Cond.fieldLink "java/util/ArrayList" (39 : Nat) "java/util/ArrayList" "DEFAULTCAPACITY_EMPTY_ELEMENTDATA" "[Ljava/lang/Object;") : Jvm.Cond).before a0 Z = true := hw _ (List.mem_of_getElem? (i := 47) rfl)
theorem w48 {a0 : Array Value} {Z : State} (hw : ∀ d ∈ tables_1, d.before a0 Z = true) : ((Jvm.Cond.fieldLink "java/util/ArrayList" (9 : Nat) "java/util/ArrayList" "elementData" "[Ljava/lang/Object;") : Jvm.Cond).before a0 Z = true := hw _ (List.mem_of_getElem? (i := 48) rfl)
theorem w49 {a0 : Array Value} {Z : State} (hw : ∀ d ∈ tables_1, d.before a0 Z = true) : ((Jvm.Cond.lays "java/util/ArrayList" "java/util/ArrayList" "elementData" "[Ljava/lang/Object;") : Jvm.Cond).before a0 Z = true := hw _ (List.mem_of_getElem? (i := 49) rfl)
theorem w50 {a0 : Array Value} {Z : State} (hw : ∀ d ∈ tables_1, d.before a0 Z = true) : ((Jvm.Cond.classLink "com/example/fachwissen/fachwissen/mail/MessageAssociationTextsPinLaw" (13 : Nat) "java/lang/String") : Jvm.Cond).before a0 Z = true := hw _ (List.mem_of_getElem? (i := 50) rfl)
theorem w51 {a0 : Array Value} {Z : State} (hw : ∀ d ∈ tables_1, d.before a0 Z = true) : ((Jvm.Cond.arrayOver (Jvm.ClassFile.FieldType.object "java/lang/String")) : Jvm.Cond).before a0 Z = true := hw _ (List.mem_of_getElem? (i := 51) rfl)
theorem w52 {a0 : Array Value} {Z : State} (hw : ∀ d ∈ tables_1, d.before a0 Z = true) : ((Jvm.Cond.classLink "com/example/fachwissen/fachwissen/mail/MessageAssociationTextsPinLaw" (29 : Nat) "com/example/fachwissen/fachwissen/mail/Message") : Jvm.Cond).before a0 Z = true := hw _ (List.mem_of_getElem? (i := 52) rfl)
theorem w53 {a0 : Array Value} {Z : State} (hw : ∀ d ∈ tables_1, d.before a0 Z = true) : ((Jvm.Cond.instantiable "com/example/fachwissen/fachwissen/mail/Message" (3 : Nat)) : Jvm.Cond).before a0 Z = true := hw _ (List.mem_of_getElem? (i := 53) rfl)
theorem w54 {a0 : Array Value} {Z : State} (hw : ∀ d ∈ tables_1, d.before a0 Z = true) : ((Jvm.Cond.initialized "com/example/fachwissen/fachwissen/mail/Message") : Jvm.Cond).before a0 Z = true := hw _ (List.mem_of_getElem? (i := 54) rfl)
theorem w55 {a0 : Array Value} {Z : State} (hw : ∀ d ∈ tables_1, d.before a0 Z = true) : ((Jvm.Cond.methodLink "com/example/fachwissen/fachwissen/mail/MessageAssociationTextsPinLaw" (31 : Nat) ({ cls := "com/example/fachwissen/fachwissen/mail/Message", name := "<init>", desc := "(Ljava/util/List;Ljava/util/List;Ljava/util/List;)V" } : Jvm.MethodName)) : Jvm.Cond).before a0 Z = true := hw _ (List.mem_of_getElem? (i := 55) rfl)
theorem w56 {a0 : Array Value} {Z : State} (hw : ∀ d ∈ tables_1, d.before a0 Z = true) : ((Jvm.Cond.instanceMethod ({ cls := "com/example/fachwissen/fachwissen/mail/Message", name := "<init>", desc := "(Ljava/util/List;Ljava/util/List;Ljava/util/List;)V" } : Jvm.MethodName)) : Jvm.Cond).before a0 Z = true := hw _ (List.mem_of_getElem? (i := 56) rfl)
theorem w57 {a0 : Array Value} {Z : State} (hw : ∀ d ∈ tables_1, d.before a0 Z = true) : ((Jvm.Cond.code ({ cls := "com/example/fachwissen/fachwissen/mail/Message", name := "<init>", desc := "(Ljava/util/List;Ljava/util/List;Ljava/util/List;)V" } : Jvm.MethodName) prog_12_method_1_code (4 : Nat) (Option.none : Option Jvm.ClassFile.FieldType)) : Jvm.Cond).before a0 Z = true := hw _ (List.mem_of_getElem? (i := 57) rfl)
theorem w58 {a0 : Array Value} {Z : State} (hw : ∀ d ∈ tables_1, d.before a0 Z = true) : ((Jvm.Cond.methodLink "com/example/fachwissen/fachwissen/mail/Message" (1 : Nat) ({ cls := "java/lang/Record", name := "<init>", desc := "()V" } : Jvm.MethodName)) : Jvm.Cond).before a0 Z = true := hw _ (List.mem_of_getElem? (i := 58) rfl)
theorem w59 {a0 : Array Value} {Z : State} (hw : ∀ d ∈ tables_1, d.before a0 Z = true) : ((Jvm.Cond.instanceMethod ({ cls := "java/lang/Record", name := "<init>", desc := "()V" } : Jvm.MethodName)) : Jvm.Cond).before a0 Z = true := hw _ (List.mem_of_getElem? (i := 59) rfl)
theorem w61 {a0 : Array Value} {Z : State} (hw : ∀ d ∈ tables_1, d.before a0 Z = true) : ((Jvm.Cond.initialized "java/lang/Record") : Jvm.Cond).before a0 Z = true := hw _ (List.mem_of_getElem? (i := 61) rfl)
theorem w62 {a0 : Array Value} {Z : State} (hw : ∀ d ∈ tables_1, d.before a0 Z = true) : ((Jvm.Cond.code ({ cls := "java/lang/Record", name := "<init>", desc := "()V" } : Jvm.MethodName) jdk_30_method_1_code (1 : Nat) (Option.none : Option Jvm.ClassFile.FieldType)) : Jvm.Cond).before a0 Z = true := hw _ (List.mem_of_getElem? (i := 62) rfl)
theorem w63 {a0 : Array Value} {Z : State} (hw : ∀ d ∈ tables_1, d.before a0 Z = true) : ((Jvm.Cond.methodLink "java/lang/Record" (1 : Nat) ({ cls := "java/lang/Object", name := "<init>", desc := "()V" } : Jvm.MethodName)) : Jvm.Cond).before a0 Z = true := hw _ (List.mem_of_getElem? (i := 63) rfl)
theorem w64 {a0 : Array Value} {Z : State} (hw : ∀ d ∈ tables_1, d.before a0 Z = true) : ((Jvm.Cond.fieldLink "com/example/fachwissen/fachwissen/mail/Message" (7 : Nat) "com/example/fachwissen/fachwissen/mail/Message" "subjects" "Ljava/util/List;") : Jvm.Cond).before a0 Z = true := hw _ (List.mem_of_getElem? (i := 64) rfl)
theorem w65 {a0 : Array Value} {Z : State} (hw : ∀ d ∈ tables_1, d.before a0 Z = true) : ((Jvm.Cond.laysFinal "com/example/fachwissen/fachwissen/mail/Message" "com/example/fachwissen/fachwissen/mail/Message" "subjects" "Ljava/util/List;") : Jvm.Cond).before a0 Z = true := hw _ (List.mem_of_getElem? (i := 65) rfl)
theorem w66 {a0 : Array Value} {Z : State} (hw : ∀ d ∈ tables_1, d.before a0 Z = true) : ((Jvm.Cond.fieldLink "com/example/fachwissen/fachwissen/mail/Message" (13 : Nat) "com/example/fachwissen/fachwissen/mail/Message" "addressHeaders" "Ljava/util/List;") : Jvm.Cond).before a0 Z = true := hw _ (List.mem_of_getElem? (i := 66) rfl)
theorem w67 {a0 : Array Value} {Z : State} (hw : ∀ d ∈ tables_1, d.before a0 Z = true) : ((Jvm.Cond.laysFinal "com/example/fachwissen/fachwissen/mail/Message" "com/example/fachwissen/fachwissen/mail/Message" "addressHeaders" "Ljava/util/List;") : Jvm.Cond).before a0 Z = true := hw _ (List.mem_of_getElem? (i := 67) rfl)
theorem w68 {a0 : Array Value} {Z : State} (hw : ∀ d ∈ tables_1, d.before a0 Z = true) : ((Jvm.Cond.fieldLink "com/example/fachwissen/fachwissen/mail/Message" (16 : Nat) "com/example/fachwissen/fachwissen/mail/Message" "textParts" "Ljava/util/List;") : Jvm.Cond).before a0 Z = true := hw _ (List.mem_of_getElem? (i := 68) rfl)
theorem w69 {a0 : Array Value} {Z : State} (hw : ∀ d ∈ tables_1, d.before a0 Z = true) : ((Jvm.Cond.laysFinal "com/example/fachwissen/fachwissen/mail/Message" "com/example/fachwissen/fachwissen/mail/Message" "textParts" "Ljava/util/List;") : Jvm.Cond).before a0 Z = true := hw _ (List.mem_of_getElem? (i := 69) rfl)
theorem w70 {a0 : Array Value} {Z : State} (hw : ∀ d ∈ tables_1, d.before a0 Z = true) : ((Jvm.Cond.methodLink "com/example/fachwissen/fachwissen/mail/MessageAssociationTextsPinLaw" (34 : Nat) ({ cls := "com/example/fachwissen/fachwissen/mail/Message", name := "associationTexts", desc := "()Ljava/util/List;" } : Jvm.MethodName)) : Jvm.Cond).before a0 Z = true := hw _ (List.mem_of_getElem? (i := 70) rfl)
theorem w71 {a0 : Array Value} {Z : State} (hw : ∀ d ∈ tables_1, d.before a0 Z = true) : ((Jvm.Cond.declares ({ cls := "com/example/fachwissen/fachwissen/mail/Message", name := "associationTexts", desc := "()Ljava/util/List;" } : Jvm.MethodName)) : Jvm.Cond).before a0 Z = true := hw _ (List.mem_of_getElem? (i := 71) rfl)
theorem w72 {a0 : Array Value} {Z : State} (hw : ∀ d ∈ tables_1, d.before a0 Z = true) : ((Jvm.Cond.instanceMethod ({ cls := "com/example/fachwissen/fachwissen/mail/Message", name := "associationTexts", desc := "()Ljava/util/List;" } : Jvm.MethodName)) : Jvm.Cond).before a0 Z = true := hw _ (List.mem_of_getElem? (i := 72) rfl)
theorem w73 {a0 : Array Value} {Z : State} (hw : ∀ d ∈ tables_1, d.before a0 Z = true) : ((Jvm.Cond.selects "com/example/fachwissen/fachwissen/mail/Message" ({ cls := "com/example/fachwissen/fachwissen/mail/Message", name := "associationTexts", desc := "()Ljava/util/List;" } : Jvm.MethodName) ({ cls := "com/example/fachwissen/fachwissen/mail/Message", name := "associationTexts", desc := "()Ljava/util/List;" } : Jvm.MethodName)) : Jvm.Cond).before a0 Z = true := hw _ (List.mem_of_getElem? (i := 73) rfl)
theorem w74 {a0 : Array Value} {Z : State} (hw : ∀ d ∈ tables_1, d.before a0 Z = true) : ((Jvm.Cond.code ({ cls := "com/example/fachwissen/fachwissen/mail/Message", name := "associationTexts", desc := "()Ljava/util/List;" } : Jvm.MethodName) prog_12_method_2_code (2 : Nat) (Option.some (Jvm.ClassFile.FieldType.object "java/util/List"))) : Jvm.Cond).before a0 Z = true := hw _ (List.mem_of_getElem? (i := 74) rfl)
theorem w75 {a0 : Array Value} {Z : State} (hw : ∀ d ∈ tables_1, d.before a0 Z = true) : ((Jvm.Cond.classLink "com/example/fachwissen/fachwissen/mail/Message" (19 : Nat) "java/util/ArrayList") : Jvm.Cond).before a0 Z = true := hw _ (List.mem_of_getElem? (i := 75) rfl)
theorem w76 {a0 : Array Value} {Z : State} (hw : ∀ d ∈ tables_1, d.before a0 Z = true) : ((Jvm.Cond.methodLink "com/example/fachwissen/fachwissen/mail/Message" (21 : Nat) ({ cls := "java/util/ArrayList", name := "<init>", desc := "(Ljava/util/Collection;)V" } : Jvm.MethodName)) : Jvm.Cond).before a0 Z = true := hw _ (List.mem_of_getElem? (i := 76) rfl)
theorem w77 {a0 : Array Value} {Z : State} (hw : ∀ d ∈ tables_1, d.before a0 Z = true) : ((Jvm.Cond.instanceMethod ({ cls := "java/util/ArrayList", name := "<init>", desc := "(Ljava/util/Collection;)V" } : Jvm.MethodName)) : Jvm.Cond).before a0 Z = true := hw _ (List.mem_of_getElem? (i := 77) rfl)
theorem w78 {a0 : Array Value} {Z : State} (hw : ∀ d ∈ tables_1, d.before a0 Z = true) : ((Jvm.Cond.code ({ cls := "java/util/ArrayList", name := "<init>", desc := "(Ljava/util/Collection;)V" } : Jvm.MethodName) jdk_38_method_3_code (3 : Nat) (Option.none : Option Jvm.ClassFile.FieldType)) : Jvm.Cond).before a0 Z = true := hw _ (List.mem_of_getElem? (i := 78) rfl)
theorem w79 {a0 : Array Value} {Z : State} (hw : ∀ d ∈ tables_1, d.before a0 Z = true) : ((Jvm.Cond.methodLink "java/util/ArrayList" (42 : Nat) ({ cls := "java/util/Collection", name := "toArray", desc := "()[Ljava/lang/Object;" } : Jvm.MethodName)) : Jvm.Cond).before a0 Z = true := hw _ (List.mem_of_getElem? (i := 79) rfl)
theorem w80 {a0 : Array Value} {Z : State} (hw : ∀ d ∈ tables_1, d.before a0 Z = true) : ((Jvm.Cond.declares ({ cls := "java/util/Collection", name := "toArray", desc := "()[Ljava/lang/Object;" } : Jvm.MethodName)) : Jvm.Cond).before a0 Z = true := hw _ (List.mem_of_getElem? (i := 80) rfl)
theorem w81 {a0 : Array Value} {Z : State} (hw : ∀ d ∈ tables_1, d.before a0 Z = true) : ((Jvm.Cond.interfaceMethod "java/util/Collection" "java/util/Collection" "toArray" "()[Ljava/lang/Object;") : Jvm.Cond).before a0 Z = true := hw _ (List.mem_of_getElem? (i := 81) rfl)
theorem w82 {a0 : Array Value} {Z : State} (hw : ∀ d ∈ tables_1, d.before a0 Z = true) : ((Jvm.Cond.selects "java/util/ArrayList" ({ cls := "java/util/Collection", name := "toArray", desc := "()[Ljava/lang/Object;" } : Jvm.MethodName) ({ cls := "java/util/ArrayList", name := "toArray", desc := "()[Ljava/lang/Object;" } : Jvm.MethodName)) : Jvm.Cond).before a0 Z = true := hw _ (List.mem_of_getElem? (i := 82) rfl)
theorem w83 {a0 : Array Value} {Z : State} (hw : ∀ d ∈ tables_1, d.before a0 Z = true) : ((Jvm.Cond.instanceMethod ({ cls := "java/util/ArrayList", name := "toArray", desc := "()[Ljava/lang/Object;" } : Jvm.MethodName)) : Jvm.Cond).before a0 Z = true := hw _ (List.mem_of_getElem? (i := 83) rfl)
theorem w84 {a0 : Array Value} {Z : State} (hw : ∀ d ∈ tables_1, d.before a0 Z = true) : ((Jvm.Cond.publicMethod ({ cls := "java/util/ArrayList", name := "toArray", desc := "()[Ljava/lang/Object;" } : Jvm.MethodName)) : Jvm.Cond).before a0 Z = true := hw _ (List.mem_of_getElem? (i := 84) rfl)
theorem w85 {a0 : Array Value} {Z : State} (hw : ∀ d ∈ tables_1, d.before a0 Z = true) : ((Jvm.Cond.unhidden "java/util/ArrayList" "toArray" "()[Ljava/lang/Object;") : Jvm.Cond).before a0 Z = true := hw _ (List.mem_of_getElem? (i := 85) rfl)
theorem w86 {a0 : Array Value} {Z : State} (hw : ∀ d ∈ tables_1, d.before a0 Z = true) : ((Jvm.Cond.castable "java/util/ArrayList" "java/util/Collection") : Jvm.Cond).before a0 Z = true := hw _ (List.mem_of_getElem? (i := 86) rfl)
theorem w87 {a0 : Array Value} {Z : State} (hw : ∀ d ∈ tables_1, d.before a0 Z = true) : ((Jvm.Cond.code ({ cls := "java/util/ArrayList", name := "toArray", desc := "()[Ljava/lang/Object;" } : Jvm.MethodName) jdk_38_method_16_code (1 : Nat) (Option.some (Jvm.ClassFile.FieldType.array (Jvm.ClassFile.FieldType.object "java/lang/Object")))) : Jvm.Cond).before a0 Z = true := hw _ (List.mem_of_getElem? (i := 87) rfl)
theorem w88 {a0 : Array Value} {Z : State} (hw : ∀ d ∈ tables_1, d.before a0 Z = true) : ((Jvm.Cond.fieldLink "java/util/ArrayList" (48 : Nat) "java/util/ArrayList" "size" "I") : Jvm.Cond).before a0 Z = true := hw _ (List.mem_of_getElem? (i := 88) rfl)
theorem w89 {a0 : Array Value} {Z : State} (hw : ∀ d ∈ tables_1, d.before a0 Z = true) : ((Jvm.Cond.lays "java/util/ArrayList" "java/util/ArrayList" "size" "I") : Jvm.Cond).before a0 Z = true := hw _ (List.mem_of_getElem? (i := 89) rfl)
theorem w90 {a0 : Array Value} {Z : State} (hw : ∀ d ∈ tables_1, d.before a0 Z = true) : ((Jvm.Cond.methodLink "java/util/ArrayList" (66 : Nat) ({ cls := "java/util/Arrays", name := "copyOf", desc := "([Ljava/lang/Object;I)[Ljava/lang/Object;" } : Jvm.MethodName)) : Jvm.Cond).before a0 Z = true := hw _ (List.mem_of_getElem? (i := 90) rfl)
theorem w91 {a0 : Array Value} {Z : State} (hw : ∀ d ∈ tables_1, d.before a0 Z = true) : ((Jvm.Cond.static ({ cls := "java/util/Arrays", name := "copyOf", desc := "([Ljava/lang/Object;I)[Ljava/lang/Object;" } : Jvm.MethodName)) : Jvm.Cond).before a0 Z = true := hw _ (List.mem_of_getElem? (i := 91) rfl)
theorem w92 {a0 : Array Value} {Z : State} (hw : ∀ d ∈ tables_1, d.before a0 Z = true) : ((Jvm.Cond.initialized "java/util/Arrays") : Jvm.Cond).before a0 Z = true := hw _ (List.mem_of_getElem? (i := 92) rfl)
theorem w93 {a0 : Array Value} {Z : State} (hw : ∀ d ∈ tables_1, d.before a0 Z = true) : ((Jvm.Cond.code ({ cls := "java/util/Arrays", name := "copyOf", desc := "([Ljava/lang/Object;I)[Ljava/lang/Object;" } : Jvm.MethodName) jdk_65_method_119_code (2 : Nat) (Option.some (Jvm.ClassFile.FieldType.array (Jvm.ClassFile.FieldType.object "java/lang/Object")))) : Jvm.Cond).before a0 Z = true := hw _ (List.mem_of_getElem? (i := 93) rfl)
theorem w94 {a0 : Array Value} {Z : State} (hw : ∀ d ∈ tables_1, d.before a0 Z = true) : ((Jvm.Cond.methodLink "java/util/Arrays" (86 : Nat) ({ cls := "java/lang/Object", name := "getClass", desc := "()Ljava/lang/Class;" } : Jvm.MethodName)) : Jvm.Cond).before a0 Z = true := hw _ (List.mem_of_getElem? (i := 94) rfl)
theorem w95 {a0 : Array Value} {Z : State} (hw : ∀ d ∈ tables_1, d.before a0 Z = true) : ((Jvm.Cond.declares ({ cls := "java/lang/Object", name := "getClass", desc := "()Ljava/lang/Class;" } : Jvm.MethodName)) : Jvm.Cond).before a0 Z = true := hw _ (List.mem_of_getElem? (i := 95) rfl)
theorem w96 {a0 : Array Value} {Z : State} (hw : ∀ d ∈ tables_1, d.before a0 Z = true) : ((Jvm.Cond.instanceMethod ({ cls := "java/lang/Object", name := "getClass", desc := "()Ljava/lang/Class;" } : Jvm.MethodName)) : Jvm.Cond).before a0 Z = true := hw _ (List.mem_of_getElem? (i := 96) rfl)
theorem w97 {a0 : Array Value} {Z : State} (hw : ∀ d ∈ tables_1, d.before a0 Z = true) : ((Jvm.Cond.selects "[Ljava/lang/Object;" ({ cls := "java/lang/Object", name := "getClass", desc := "()Ljava/lang/Class;" } : Jvm.MethodName) ({ cls := "java/lang/Object", name := "getClass", desc := "()Ljava/lang/Class;" } : Jvm.MethodName)) : Jvm.Cond).before a0 Z = true := hw _ (List.mem_of_getElem? (i := 97) rfl)
theorem w98 {a0 : Array Value} {Z : State} (hw : ∀ d ∈ tables_1, d.before a0 Z = true) : ((Jvm.Cond.native ({ cls := "java/lang/Object", name := "getClass", desc := "()Ljava/lang/Class;" } : Jvm.MethodName)) : Jvm.Cond).before a0 Z = true := hw _ (List.mem_of_getElem? (i := 98) rfl)
theorem w100 {a0 : Array Value} {Z : State} (hw : ∀ d ∈ tables_1, d.before a0 Z = true) : ((Jvm.Cond.methodLink "java/util/Arrays" (300 : Nat) ({ cls := "java/util/Arrays", name := "copyOf", desc := "([Ljava/lang/Object;ILjava/lang/Class;)[Ljava/lang/Object;" } : Jvm.MethodName)) : Jvm.Cond).before a0 Z = true := hw _ (List.mem_of_getElem? (i := 100) rfl)
theorem w101 {a0 : Array Value} {Z : State} (hw : ∀ d ∈ tables_1, d.before a0 Z = true) : ((Jvm.Cond.static ({ cls := "java/util/Arrays", name := "copyOf", desc := "([Ljava/lang/Object;ILjava/lang/Class;)[Ljava/lang/Object;" } : Jvm.MethodName)) : Jvm.Cond).before a0 Z = true := hw _ (List.mem_of_getElem? (i := 101) rfl)
theorem w102 {a0 : Array Value} {Z : State} (hw : ∀ d ∈ tables_1, d.before a0 Z = true) : ((Jvm.Cond.code ({ cls := "java/util/Arrays", name := "copyOf", desc := "([Ljava/lang/Object;ILjava/lang/Class;)[Ljava/lang/Object;" } : Jvm.MethodName) jdk_65_method_120_code (4 : Nat) (Option.some (Jvm.ClassFile.FieldType.array (Jvm.ClassFile.FieldType.object "java/lang/Object")))) : Jvm.Cond).before a0 Z = true := hw _ (List.mem_of_getElem? (i := 102) rfl)
theorem w103 {a0 : Array Value} {Z : State} (hw : ∀ d ∈ tables_1, d.before a0 Z = true) : ((Jvm.Cond.classLink "java/util/Arrays" (110 : Nat) "[Ljava/lang/Object;") : Jvm.Cond).before a0 Z = true := hw _ (List.mem_of_getElem? (i := 103) rfl)
theorem w104 {a0 : Array Value} {Z : State} (hw : ∀ d ∈ tables_1, d.before a0 Z = true) : ((Jvm.Cond.classLink "java/util/Arrays" (2 : Nat) "java/lang/Object") : Jvm.Cond).before a0 Z = true := hw _ (List.mem_of_getElem? (i := 104) rfl)
theorem w105 {a0 : Array Value} {Z : State} (hw : ∀ d ∈ tables_1, d.before a0 Z = true) : ((Jvm.Cond.arrayOver (Jvm.ClassFile.FieldType.object "java/lang/Object")) : Jvm.Cond).before a0 Z = true := hw _ (List.mem_of_getElem? (i := 105) rfl)
theorem w106 {a0 : Array Value} {Z : State} (hw : ∀ d ∈ tables_1, d.before a0 Z = true) : ((Jvm.Cond.methodLink "java/util/Arrays" (304 : Nat) ({ cls := "java/lang/Math", name := "min", desc := "(II)I" } : Jvm.MethodName)) : Jvm.Cond).before a0 Z = true := hw _ (List.mem_of_getElem? (i := 106) rfl)
theorem w107 {a0 : Array Value} {Z : State} (hw : ∀ d ∈ tables_1, d.before a0 Z = true) : ((Jvm.Cond.static ({ cls := "java/lang/Math", name := "min", desc := "(II)I" } : Jvm.MethodName)) : Jvm.Cond).before a0 Z = true := hw _ (List.mem_of_getElem? (i := 107) rfl)
theorem w108 {a0 : Array Value} {Z : State} (hw : ∀ d ∈ tables_1, d.before a0 Z = true) : ((Jvm.Cond.initialized "java/lang/Math") : Jvm.Cond).before a0 Z = true := hw _ (List.mem_of_getElem? (i := 108) rfl)
theorem w109 {a0 : Array Value} {Z : State} (hw : ∀ d ∈ tables_1, d.before a0 Z = true) : ((Jvm.Cond.code ({ cls := "java/lang/Math", name := "min", desc := "(II)I" } : Jvm.MethodName) jdk_29_method_69_code (2 : Nat) (Option.some Jvm.ClassFile.FieldType.int)) : Jvm.Cond).before a0 Z = true := hw _ (List.mem_of_getElem? (i := 109) rfl)
theorem w110 {a0 : Array Value} {Z : State} (hw : ∀ d ∈ tables_1, d.before a0 Z = true) : ((Jvm.Cond.methodLink "java/util/Arrays" (150 : Nat) ({ cls := "java/lang/System", name := "arraycopy", desc := "(Ljava/lang/Object;ILjava/lang/Object;II)V" } : Jvm.MethodName)) : Jvm.Cond).before a0 Z = true := hw _ (List.mem_of_getElem? (i := 110) rfl)
theorem w111 {a0 : Array Value} {Z : State} (hw : ∀ d ∈ tables_1, d.before a0 Z = true) : ((Jvm.Cond.static ({ cls := "java/lang/System", name := "arraycopy", desc := "(Ljava/lang/Object;ILjava/lang/Object;II)V" } : Jvm.MethodName)) : Jvm.Cond).before a0 Z = true := hw _ (List.mem_of_getElem? (i := 111) rfl)
theorem w112 {a0 : Array Value} {Z : State} (hw : ∀ d ∈ tables_1, d.before a0 Z = true) : ((Jvm.Cond.initialized "java/lang/System") : Jvm.Cond).before a0 Z = true := hw _ (List.mem_of_getElem? (i := 112) rfl)
theorem w113 {a0 : Array Value} {Z : State} (hw : ∀ d ∈ tables_1, d.before a0 Z = true) : ((Jvm.Cond.native ({ cls := "java/lang/System", name := "arraycopy", desc := "(Ljava/lang/Object;ILjava/lang/Object;II)V" } : Jvm.MethodName)) : Jvm.Cond).before a0 Z = true := hw _ (List.mem_of_getElem? (i := 113) rfl)
theorem w114 {a0 : Array Value} {Z : State} (hw : ∀ d ∈ tables_1, d.before a0 Z = true) : ((Jvm.Cond.fieldLink "java/util/ArrayList" (15 : Nat) "java/util/ArrayList" "EMPTY_ELEMENTDATA" "[Ljava/lang/Object;") : Jvm.Cond).before a0 Z = true := hw _ (List.mem_of_getElem? (i := 114) rfl)
theorem w115 {a0 : Array Value} {Z : State} (hw : ∀ d ∈ tables_1, d.before a0 Z = true) : ((Jvm.Cond.methodLink "com/example/fachwissen/fachwissen/mail/Message" (24 : Nat) ({ cls := "java/util/ArrayList", name := "addAll", desc := "(Ljava/util/Collection;)Z" } : Jvm.MethodName)) : Jvm.Cond).before a0 Z = true := hw _ (List.mem_of_getElem? (i := 115) rfl)
theorem w116 {a0 : Array Value} {Z : State} (hw : ∀ d ∈ tables_1, d.before a0 Z = true) : ((Jvm.Cond.declares ({ cls := "java/util/ArrayList", name := "addAll", desc := "(Ljava/util/Collection;)Z" } : Jvm.MethodName)) : Jvm.Cond).before a0 Z = true := hw _ (List.mem_of_getElem? (i := 116) rfl)
theorem w117 {a0 : Array Value} {Z : State} (hw : ∀ d ∈ tables_1, d.before a0 Z = true) : ((Jvm.Cond.instanceMethod ({ cls := "java/util/ArrayList", name := "addAll", desc := "(Ljava/util/Collection;)Z" } : Jvm.MethodName)) : Jvm.Cond).before a0 Z = true := hw _ (List.mem_of_getElem? (i := 117) rfl)
theorem w118 {a0 : Array Value} {Z : State} (hw : ∀ d ∈ tables_1, d.before a0 Z = true) : ((Jvm.Cond.selects "java/util/ArrayList" ({ cls := "java/util/ArrayList", name := "addAll", desc := "(Ljava/util/Collection;)Z" } : Jvm.MethodName) ({ cls := "java/util/ArrayList", name := "addAll", desc := "(Ljava/util/Collection;)Z" } : Jvm.MethodName)) : Jvm.Cond).before a0 Z = true := hw _ (List.mem_of_getElem? (i := 118) rfl)
theorem w119 {a0 : Array Value} {Z : State} (hw : ∀ d ∈ tables_1, d.before a0 Z = true) : ((Jvm.Cond.code ({ cls := "java/util/ArrayList", name := "addAll", desc := "(Ljava/util/Collection;)Z" } : Jvm.MethodName) jdk_38_method_41_code (6 : Nat) (Option.some Jvm.ClassFile.FieldType.boolean)) : Jvm.Cond).before a0 Z = true := hw _ (List.mem_of_getElem? (i := 119) rfl)
theorem w120 {a0 : Array Value} {Z : State} (hw : ∀ d ∈ tables_1, d.before a0 Z = true) : ((Jvm.Cond.fieldLink "java/util/ArrayList" (63 : Nat) "java/util/ArrayList" "modCount" "I") : Jvm.Cond).before a0 Z = true := hw _ (List.mem_of_getElem? (i := 120) rfl)
theorem w121 {a0 : Array Value} {Z : State} (hw : ∀ d ∈ tables_1, d.before a0 Z = true) : ((Jvm.Cond.sameField "java/util/ArrayList" "java/util/AbstractList" "modCount" "I") : Jvm.Cond).before a0 Z = true := hw _ (List.mem_of_getElem? (i := 121) rfl)
theorem w122 {a0 : Array Value} {Z : State} (hw : ∀ d ∈ tables_1, d.before a0 Z = true) : ((Jvm.Cond.methodLink "com/example/fachwissen/fachwissen/mail/MessageAssociationTextsPinLaw" (38 : Nat) ({ cls := "java/util/List", name := "size", desc := "()I" } : Jvm.MethodName)) : Jvm.Cond).before a0 Z = true := hw _ (List.mem_of_getElem? (i := 122) rfl)
theorem w123 {a0 : Array Value} {Z : State} (hw : ∀ d ∈ tables_1, d.before a0 Z = true) : ((Jvm.Cond.declares ({ cls := "java/util/List", name := "size", desc := "()I" } : Jvm.MethodName)) : Jvm.Cond).before a0 Z = true := hw _ (List.mem_of_getElem? (i := 123) rfl)
theorem w124 {a0 : Array Value} {Z : State} (hw : ∀ d ∈ tables_1, d.before a0 Z = true) : ((Jvm.Cond.interfaceMethod "java/util/List" "java/util/List" "size" "()I") : Jvm.Cond).before a0 Z = true := hw _ (List.mem_of_getElem? (i := 124) rfl)
theorem w125 {a0 : Array Value} {Z : State} (hw : ∀ d ∈ tables_1, d.before a0 Z = true) : ((Jvm.Cond.selects "java/util/ArrayList" ({ cls := "java/util/List", name := "size", desc := "()I" } : Jvm.MethodName) ({ cls := "java/util/ArrayList", name := "size", desc := "()I" } : Jvm.MethodName)) : Jvm.Cond).before a0 Z = true := hw _ (List.mem_of_getElem? (i := 125) rfl)
theorem w126 {a0 : Array Value} {Z : State} (hw : ∀ d ∈ tables_1, d.before a0 Z = true) : ((Jvm.Cond.instanceMethod ({ cls := "java/util/ArrayList", name := "size", desc := "()I" } : Jvm.MethodName)) : Jvm.Cond).before a0 Z = true := hw _ (List.mem_of_getElem? (i := 126) rfl)
theorem w127 {a0 : Array Value} {Z : State} (hw : ∀ d ∈ tables_1, d.before a0 Z = true) : ((Jvm.Cond.publicMethod ({ cls := "java/util/ArrayList", name := "size", desc := "()I" } : Jvm.MethodName)) : Jvm.Cond).before a0 Z = true := hw _ (List.mem_of_getElem? (i := 127) rfl)
theorem w128 {a0 : Array Value} {Z : State} (hw : ∀ d ∈ tables_1, d.before a0 Z = true) : ((Jvm.Cond.unhidden "java/util/ArrayList" "size" "()I") : Jvm.Cond).before a0 Z = true := hw _ (List.mem_of_getElem? (i := 128) rfl)
theorem w129 {a0 : Array Value} {Z : State} (hw : ∀ d ∈ tables_1, d.before a0 Z = true) : ((Jvm.Cond.castable "java/util/ArrayList" "java/util/List") : Jvm.Cond).before a0 Z = true := hw _ (List.mem_of_getElem? (i := 129) rfl)
theorem w130 {a0 : Array Value} {Z : State} (hw : ∀ d ∈ tables_1, d.before a0 Z = true) : ((Jvm.Cond.code ({ cls := "java/util/ArrayList", name := "size", desc := "()I" } : Jvm.MethodName) jdk_38_method_8_code (1 : Nat) (Option.some Jvm.ClassFile.FieldType.int)) : Jvm.Cond).before a0 Z = true := hw _ (List.mem_of_getElem? (i := 130) rfl)
theorem w131 {a0 : Array Value} {Z : State} (hw : ∀ d ∈ tables_1, d.before a0 Z = true) : ((Jvm.Cond.methodLink "com/example/fachwissen/fachwissen/mail/MessageAssociationTextsPinLaw" (42 : Nat) ({ cls := "com/example/fachwissen/fachwissen/mail/MessageAssociationTextsPinLaw", name := "at", desc := "(Ljava/util/List;[Ljava/lang/String;II)Z" } : Jvm.MethodName)) : Jvm.Cond).before a0 Z = true := hw _ (List.mem_of_getElem? (i := 131) rfl)
theorem w132 {a0 : Array Value} {Z : State} (hw : ∀ d ∈ tables_1, d.before a0 Z = true) : ((Jvm.Cond.static ({ cls := "com/example/fachwissen/fachwissen/mail/MessageAssociationTextsPinLaw", name := "at", desc := "(Ljava/util/List;[Ljava/lang/String;II)Z" } : Jvm.MethodName)) : Jvm.Cond).before a0 Z = true := hw _ (List.mem_of_getElem? (i := 132) rfl)
theorem w133 {a0 : Array Value} {Z : State} (hw : ∀ d ∈ tables_1, d.before a0 Z = true) : ((Jvm.Cond.initialized "com/example/fachwissen/fachwissen/mail/MessageAssociationTextsPinLaw") : Jvm.Cond).before a0 Z = true := hw _ (List.mem_of_getElem? (i := 133) rfl)
theorem w134 {a0 : Array Value} {Z : State} (hw : ∀ d ∈ tables_1, d.before a0 Z = true) : ((Jvm.Cond.code ({ cls := "com/example/fachwissen/fachwissen/mail/MessageAssociationTextsPinLaw", name := "at", desc := "(Ljava/util/List;[Ljava/lang/String;II)Z" } : Jvm.MethodName) method_2_code (4 : Nat) (Option.some Jvm.ClassFile.FieldType.boolean)) : Jvm.Cond).before a0 Z = true := hw _ (List.mem_of_getElem? (i := 134) rfl)
theorem w135 {a0 : Array Value} {Z : State} (hw : ∀ d ∈ tables_1, d.before a0 Z = true) : ((Jvm.Cond.methodLink "com/example/fachwissen/fachwissen/mail/MessageAssociationTextsPinLaw" (26 : Nat) ({ cls := "java/util/List", name := "add", desc := "(Ljava/lang/Object;)Z" } : Jvm.MethodName)) : Jvm.Cond).before a0 Z = true := hw _ (List.mem_of_getElem? (i := 135) rfl)
theorem w136 {a0 : Array Value} {Z : State} (hw : ∀ d ∈ tables_1, d.before a0 Z = true) : ((Jvm.Cond.declares ({ cls := "java/util/List", name := "add", desc := "(Ljava/lang/Object;)Z" } : Jvm.MethodName)) : Jvm.Cond).before a0 Z = true := hw _ (List.mem_of_getElem? (i := 136) rfl)
theorem w137 {a0 : Array Value} {Z : State} (hw : ∀ d ∈ tables_1, d.before a0 Z = true) : ((Jvm.Cond.interfaceMethod "java/util/List" "java/util/List" "add" "(Ljava/lang/Object;)Z") : Jvm.Cond).before a0 Z = true := hw _ (List.mem_of_getElem? (i := 137) rfl)
theorem w138 {a0 : Array Value} {Z : State} (hw : ∀ d ∈ tables_1, d.before a0 Z = true) : ((Jvm.Cond.selects "java/util/ArrayList" ({ cls := "java/util/List", name := "add", desc := "(Ljava/lang/Object;)Z" } : Jvm.MethodName) ({ cls := "java/util/ArrayList", name := "add", desc := "(Ljava/lang/Object;)Z" } : Jvm.MethodName)) : Jvm.Cond).before a0 Z = true := hw _ (List.mem_of_getElem? (i := 138) rfl)
theorem w139 {a0 : Array Value} {Z : State} (hw : ∀ d ∈ tables_1, d.before a0 Z = true) : ((Jvm.Cond.instanceMethod ({ cls := "java/util/ArrayList", name := "add", desc := "(Ljava/lang/Object;)Z" } : Jvm.MethodName)) : Jvm.Cond).before a0 Z = true := hw _ (List.mem_of_getElem? (i := 139) rfl)
theorem w140 {a0 : Array Value} {Z : State} (hw : ∀ d ∈ tables_1, d.before a0 Z = true) : ((Jvm.Cond.publicMethod ({ cls := "java/util/ArrayList", name := "add", desc := "(Ljava/lang/Object;)Z" } : Jvm.MethodName)) : Jvm.Cond).before a0 Z = true := hw _ (List.mem_of_getElem? (i := 140) rfl)
theorem w141 {a0 : Array Value} {Z : State} (hw : ∀ d ∈ tables_1, d.before a0 Z = true) : ((Jvm.Cond.unhidden "java/util/ArrayList" "add" "(Ljava/lang/Object;)Z") : Jvm.Cond).before a0 Z = true := hw _ (List.mem_of_getElem? (i := 141) rfl)
theorem w142 {a0 : Array Value} {Z : State} (hw : ∀ d ∈ tables_1, d.before a0 Z = true) : ((Jvm.Cond.code ({ cls := "java/util/ArrayList", name := "add", desc := "(Ljava/lang/Object;)Z" } : Jvm.MethodName) jdk_38_method_25_code (2 : Nat) (Option.some Jvm.ClassFile.FieldType.boolean)) : Jvm.Cond).before a0 Z = true := hw _ (List.mem_of_getElem? (i := 142) rfl)
theorem w143 {a0 : Array Value} {Z : State} (hw : ∀ d ∈ tables_1, d.before a0 Z = true) : ((Jvm.Cond.methodLink "java/util/ArrayList" (131 : Nat) ({ cls := "java/util/ArrayList", name := "add", desc := "(Ljava/lang/Object;[Ljava/lang/Object;I)V" } : Jvm.MethodName)) : Jvm.Cond).before a0 Z = true := hw _ (List.mem_of_getElem? (i := 143) rfl)
theorem w144 {a0 : Array Value} {Z : State} (hw : ∀ d ∈ tables_1, d.before a0 Z = true) : ((Jvm.Cond.instanceMethod ({ cls := "java/util/ArrayList", name := "add", desc := "(Ljava/lang/Object;[Ljava/lang/Object;I)V" } : Jvm.MethodName)) : Jvm.Cond).before a0 Z = true := hw _ (List.mem_of_getElem? (i := 144) rfl)
theorem w145 {a0 : Array Value} {Z : State} (hw : ∀ d ∈ tables_1, d.before a0 Z = true) : ((Jvm.Cond.privateMethod ({ cls := "java/util/ArrayList", name := "add", desc := "(Ljava/lang/Object;[Ljava/lang/Object;I)V" } : Jvm.MethodName)) : Jvm.Cond).before a0 Z = true := hw _ (List.mem_of_getElem? (i := 145) rfl)
theorem w146 {a0 : Array Value} {Z : State} (hw : ∀ d ∈ tables_1, d.before a0 Z = true) : ((Jvm.Cond.selects "java/util/ArrayList" ({ cls := "java/util/ArrayList", name := "add", desc := "(Ljava/lang/Object;[Ljava/lang/Object;I)V" } : Jvm.MethodName) ({ cls := "java/util/ArrayList", name := "add", desc := "(Ljava/lang/Object;[Ljava/lang/Object;I)V" } : Jvm.MethodName)) : Jvm.Cond).before a0 Z = true := hw _ (List.mem_of_getElem? (i := 146) rfl)
theorem w147 {a0 : Array Value} {Z : State} (hw : ∀ d ∈ tables_1, d.before a0 Z = true) : ((Jvm.Cond.code ({ cls := "java/util/ArrayList", name := "add", desc := "(Ljava/lang/Object;[Ljava/lang/Object;I)V" } : Jvm.MethodName) jdk_38_method_24_code (4 : Nat) (Option.none : Option Jvm.ClassFile.FieldType)) : Jvm.Cond).before a0 Z = true := hw _ (List.mem_of_getElem? (i := 147) rfl)
theorem w148 {a0 : Array Value} {Z : State} (hw : ∀ d ∈ tables_1, d.before a0 Z = true) : ((Jvm.Cond.methodLink "java/util/ArrayList" (129 : Nat) ({ cls := "java/util/ArrayList", name := "grow", desc := "()[Ljava/lang/Object;" } : Jvm.MethodName)) : Jvm.Cond).before a0 Z = true := hw _ (List.mem_of_getElem? (i := 148) rfl)
theorem w149 {a0 : Array Value} {Z : State} (hw : ∀ d ∈ tables_1, d.before a0 Z = true) : ((Jvm.Cond.instanceMethod ({ cls := "java/util/ArrayList", name := "grow", desc := "()[Ljava/lang/Object;" } : Jvm.MethodName)) : Jvm.Cond).before a0 Z = true := hw _ (List.mem_of_getElem? (i := 149) rfl)
theorem w150 {a0 : Array Value} {Z : State} (hw : ∀ d ∈ tables_1, d.before a0 Z = true) : ((Jvm.Cond.privateMethod ({ cls := "java/util/ArrayList", name := "grow", desc := "()[Ljava/lang/Object;" } : Jvm.MethodName)) : Jvm.Cond).before a0 Z = true := hw _ (List.mem_of_getElem? (i := 150) rfl)
theorem w151 {a0 : Array Value} {Z : State} (hw : ∀ d ∈ tables_1, d.before a0 Z = true) : ((Jvm.Cond.selects "java/util/ArrayList" ({ cls := "java/util/ArrayList", name := "grow", desc := "()[Ljava/lang/Object;" } : Jvm.MethodName) ({ cls := "java/util/ArrayList", name := "grow", desc := "()[Ljava/lang/Object;" } : Jvm.MethodName)) : Jvm.Cond).before a0 Z = true := hw _ (List.mem_of_getElem? (i := 151) rfl)
theorem w152 {a0 : Array Value} {Z : State} (hw : ∀ d ∈ tables_1, d.before a0 Z = true) : ((Jvm.Cond.code ({ cls := "java/util/ArrayList", name := "grow", desc := "()[Ljava/lang/Object;" } : Jvm.MethodName) jdk_38_method_7_code (1 : Nat) (Option.some (Jvm.ClassFile.FieldType.array (Jvm.ClassFile.FieldType.object "java/lang/Object")))) : Jvm.Cond).before a0 Z = true := hw _ (List.mem_of_getElem? (i := 152) rfl)
theorem w153 {a0 : Array Value} {Z : State} (hw : ∀ d ∈ tables_1, d.before a0 Z = true) : ((Jvm.Cond.methodLink "java/util/ArrayList" (69 : Nat) ({ cls := "java/util/ArrayList", name := "grow", desc := "(I)[Ljava/lang/Object;" } : Jvm.MethodName)) : Jvm.Cond).before a0 Z = true := hw _ (List.mem_of_getElem? (i := 153) rfl)
theorem w154 {a0 : Array Value} {Z : State} (hw : ∀ d ∈ tables_1, d.before a0 Z = true) : ((Jvm.Cond.instanceMethod ({ cls := "java/util/ArrayList", name := "grow", desc := "(I)[Ljava/lang/Object;" } : Jvm.MethodName)) : Jvm.Cond).before a0 Z = true := hw _ (List.mem_of_getElem? (i := 154) rfl)
theorem w155 {a0 : Array Value} {Z : State} (hw : ∀ d ∈ tables_1, d.before a0 Z = true) : ((Jvm.Cond.privateMethod ({ cls := "java/util/ArrayList", name := "grow", desc := "(I)[Ljava/lang/Object;" } : Jvm.MethodName)) : Jvm.Cond).before a0 Z = true := hw _ (List.mem_of_getElem? (i := 155) rfl)
theorem w156 {a0 : Array Value} {Z : State} (hw : ∀ d ∈ tables_1, d.before a0 Z = true) : ((Jvm.Cond.selects "java/util/ArrayList" ({ cls := "java/util/ArrayList", name := "grow", desc := "(I)[Ljava/lang/Object;" } : Jvm.MethodName) ({ cls := "java/util/ArrayList", name := "grow", desc := "(I)[Ljava/lang/Object;" } : Jvm.MethodName)) : Jvm.Cond).before a0 Z = true := hw _ (List.mem_of_getElem? (i := 156) rfl)
theorem w157 {a0 : Array Value} {Z : State} (hw : ∀ d ∈ tables_1, d.before a0 Z = true) : ((Jvm.Cond.code ({ cls := "java/util/ArrayList", name := "grow", desc := "(I)[Ljava/lang/Object;" } : Jvm.MethodName) jdk_38_method_6_code (4 : Nat) (Option.some (Jvm.ClassFile.FieldType.array (Jvm.ClassFile.FieldType.object "java/lang/Object")))) : Jvm.Cond).before a0 Z = true := hw _ (List.mem_of_getElem? (i := 157) rfl)
theorem w158 {a0 : Array Value} {Z : State} (hw : ∀ d ∈ tables_1, d.before a0 Z = true) : ((Jvm.Cond.methodLink "java/util/ArrayList" (79 : Nat) ({ cls := "java/lang/Math", name := "max", desc := "(II)I" } : Jvm.MethodName)) : Jvm.Cond).before a0 Z = true := hw _ (List.mem_of_getElem? (i := 158) rfl)
theorem w159 {a0 : Array Value} {Z : State} (hw : ∀ d ∈ tables_1, d.before a0 Z = true) : ((Jvm.Cond.static ({ cls := "java/lang/Math", name := "max", desc := "(II)I" } : Jvm.MethodName)) : Jvm.Cond).before a0 Z = true := hw _ (List.mem_of_getElem? (i := 159) rfl)
theorem w160 {a0 : Array Value} {Z : State} (hw : ∀ d ∈ tables_1, d.before a0 Z = true) : ((Jvm.Cond.code ({ cls := "java/lang/Math", name := "max", desc := "(II)I" } : Jvm.MethodName) jdk_29_method_65_code (2 : Nat) (Option.some Jvm.ClassFile.FieldType.int)) : Jvm.Cond).before a0 Z = true := hw _ (List.mem_of_getElem? (i := 160) rfl)
theorem w161 {a0 : Array Value} {Z : State} (hw : ∀ d ∈ tables_1, d.before a0 Z = true) : ((Jvm.Cond.classLink "java/util/ArrayList" (7 : Nat) "java/lang/Object") : Jvm.Cond).before a0 Z = true := hw _ (List.mem_of_getElem? (i := 161) rfl)
theorem w162 {a0 : Array Value} {Z : State} (hw : ∀ d ∈ tables_1, d.before a0 Z = true) : ((Jvm.Cond.castable "java/lang/String" "java/lang/Object") : Jvm.Cond).before a0 Z = true := hw _ (List.mem_of_getElem? (i := 162) rfl)
theorem w163 {a0 : Array Value} {Z : State} (hw : ∀ d ∈ tables_1, d.before a0 Z = true) : ((Jvm.Cond.methodLink "java/util/ArrayList" (52 : Nat) ({ cls := "java/util/Collection", name := "getClass", desc := "()Ljava/lang/Class;" } : Jvm.MethodName)) : Jvm.Cond).before a0 Z = true := hw _ (List.mem_of_getElem? (i := 163) rfl)
theorem w164 {a0 : Array Value} {Z : State} (hw : ∀ d ∈ tables_1, d.before a0 Z = true) : ((Jvm.Cond.interfaceMethod "java/util/Collection" "java/lang/Object" "getClass" "()Ljava/lang/Class;") : Jvm.Cond).before a0 Z = true := hw _ (List.mem_of_getElem? (i := 164) rfl)
theorem w165 {a0 : Array Value} {Z : State} (hw : ∀ d ∈ tables_1, d.before a0 Z = true) : ((Jvm.Cond.selects "java/util/ArrayList" ({ cls := "java/util/Collection", name := "getClass", desc := "()Ljava/lang/Class;" } : Jvm.MethodName) ({ cls := "java/lang/Object", name := "getClass", desc := "()Ljava/lang/Class;" } : Jvm.MethodName)) : Jvm.Cond).before a0 Z = true := hw _ (List.mem_of_getElem? (i := 165) rfl)
theorem w166 {a0 : Array Value} {Z : State} (hw : ∀ d ∈ tables_1, d.before a0 Z = true) : ((Jvm.Cond.publicMethod ({ cls := "java/lang/Object", name := "getClass", desc := "()Ljava/lang/Class;" } : Jvm.MethodName)) : Jvm.Cond).before a0 Z = true := hw _ (List.mem_of_getElem? (i := 166) rfl)
theorem w167 {a0 : Array Value} {Z : State} (hw : ∀ d ∈ tables_1, d.before a0 Z = true) : ((Jvm.Cond.unhidden "java/util/ArrayList" "getClass" "()Ljava/lang/Class;") : Jvm.Cond).before a0 Z = true := hw _ (List.mem_of_getElem? (i := 167) rfl)
theorem w169 {a0 : Array Value} {Z : State} (hw : ∀ d ∈ tables_1, d.before a0 Z = true) : ((Jvm.Cond.classLink "java/util/ArrayList" (10 : Nat) "java/util/ArrayList") : Jvm.Cond).before a0 Z = true := hw _ (List.mem_of_getElem? (i := 169) rfl)
theorem w170 {a0 : Array Value} {Z : State} (hw : ∀ d ∈ tables_1, d.before a0 Z = true) : ((Jvm.Cond.methodLink "com/example/fachwissen/fachwissen/mail/MessageAssociationTextsPinLaw" (7 : Nat) ({ cls := "java/util/List", name := "get", desc := "(I)Ljava/lang/Object;" } : Jvm.MethodName)) : Jvm.Cond).before a0 Z = true := hw _ (List.mem_of_getElem? (i := 170) rfl)
theorem w171 {a0 : Array Value} {Z : State} (hw : ∀ d ∈ tables_1, d.before a0 Z = true) : ((Jvm.Cond.declares ({ cls := "java/util/List", name := "get", desc := "(I)Ljava/lang/Object;" } : Jvm.MethodName)) : Jvm.Cond).before a0 Z = true := hw _ (List.mem_of_getElem? (i := 171) rfl)
theorem w172 {a0 : Array Value} {Z : State} (hw : ∀ d ∈ tables_1, d.before a0 Z = true) : ((Jvm.Cond.interfaceMethod "java/util/List" "java/util/List" "get" "(I)Ljava/lang/Object;") : Jvm.Cond).before a0 Z = true := hw _ (List.mem_of_getElem? (i := 172) rfl)
theorem w173 {a0 : Array Value} {Z : State} (hw : ∀ d ∈ tables_1, d.before a0 Z = true) : ((Jvm.Cond.selects "java/util/ArrayList" ({ cls := "java/util/List", name := "get", desc := "(I)Ljava/lang/Object;" } : Jvm.MethodName) ({ cls := "java/util/ArrayList", name := "get", desc := "(I)Ljava/lang/Object;" } : Jvm.MethodName)) : Jvm.Cond).before a0 Z = true := hw _ (List.mem_of_getElem? (i := 173) rfl)
theorem w174 {a0 : Array Value} {Z : State} (hw : ∀ d ∈ tables_1, d.before a0 Z = true) : ((Jvm.Cond.instanceMethod ({ cls := "java/util/ArrayList", name := "get", desc := "(I)Ljava/lang/Object;" } : Jvm.MethodName)) : Jvm.Cond).before a0 Z = true := hw _ (List.mem_of_getElem? (i := 174) rfl)
theorem w175 {a0 : Array Value} {Z : State} (hw : ∀ d ∈ tables_1, d.before a0 Z = true) : ((Jvm.Cond.publicMethod ({ cls := "java/util/ArrayList", name := "get", desc := "(I)Ljava/lang/Object;" } : Jvm.MethodName)) : Jvm.Cond).before a0 Z = true := hw _ (List.mem_of_getElem? (i := 175) rfl)
theorem w176 {a0 : Array Value} {Z : State} (hw : ∀ d ∈ tables_1, d.before a0 Z = true) : ((Jvm.Cond.unhidden "java/util/ArrayList" "get" "(I)Ljava/lang/Object;") : Jvm.Cond).before a0 Z = true := hw _ (List.mem_of_getElem? (i := 176) rfl)
theorem w177 {a0 : Array Value} {Z : State} (hw : ∀ d ∈ tables_1, d.before a0 Z = true) : ((Jvm.Cond.code ({ cls := "java/util/ArrayList", name := "get", desc := "(I)Ljava/lang/Object;" } : Jvm.MethodName) jdk_38_method_20_code (2 : Nat) (Option.some (Jvm.ClassFile.FieldType.object "java/lang/Object"))) : Jvm.Cond).before a0 Z = true := hw _ (List.mem_of_getElem? (i := 177) rfl)
theorem w178 {a0 : Array Value} {Z : State} (hw : ∀ d ∈ tables_1, d.before a0 Z = true) : ((Jvm.Cond.methodLink "java/util/ArrayList" (118 : Nat) ({ cls := "java/util/Objects", name := "checkIndex", desc := "(II)I" } : Jvm.MethodName)) : Jvm.Cond).before a0 Z = true := hw _ (List.mem_of_getElem? (i := 178) rfl)
theorem w179 {a0 : Array Value} {Z : State} (hw : ∀ d ∈ tables_1, d.before a0 Z = true) : ((Jvm.Cond.static ({ cls := "java/util/Objects", name := "checkIndex", desc := "(II)I" } : Jvm.MethodName)) : Jvm.Cond).before a0 Z = true := hw _ (List.mem_of_getElem? (i := 179) rfl)
theorem w180 {a0 : Array Value} {Z : State} (hw : ∀ d ∈ tables_1, d.before a0 Z = true) : ((Jvm.Cond.initialized "java/util/Objects") : Jvm.Cond).before a0 Z = true := hw _ (List.mem_of_getElem? (i := 180) rfl)
theorem w181 {a0 : Array Value} {Z : State} (hw : ∀ d ∈ tables_1, d.before a0 Z = true) : ((Jvm.Cond.code ({ cls := "java/util/Objects", name := "checkIndex", desc := "(II)I" } : Jvm.MethodName) jdk_31_method_17_code (2 : Nat) (Option.some Jvm.ClassFile.FieldType.int)) : Jvm.Cond).before a0 Z = true := hw _ (List.mem_of_getElem? (i := 181) rfl)
theorem w182 {a0 : Array Value} {Z : State} (hw : ∀ d ∈ tables_1, d.before a0 Z = true) : ((Jvm.Cond.methodLink "java/util/Objects" (105 : Nat) ({ cls := "jdk/internal/util/Preconditions", name := "checkIndex", desc := "(IILjava/util/function/BiFunction;)I" } : Jvm.MethodName)) : Jvm.Cond).before a0 Z = true := hw _ (List.mem_of_getElem? (i := 182) rfl)
theorem w183 {a0 : Array Value} {Z : State} (hw : ∀ d ∈ tables_1, d.before a0 Z = true) : ((Jvm.Cond.static ({ cls := "jdk/internal/util/Preconditions", name := "checkIndex", desc := "(IILjava/util/function/BiFunction;)I" } : Jvm.MethodName)) : Jvm.Cond).before a0 Z = true := hw _ (List.mem_of_getElem? (i := 183) rfl)
theorem w184 {a0 : Array Value} {Z : State} (hw : ∀ d ∈ tables_1, d.before a0 Z = true) : ((Jvm.Cond.initialized "jdk/internal/util/Preconditions") : Jvm.Cond).before a0 Z = true := hw _ (List.mem_of_getElem? (i := 184) rfl)
theorem w185 {a0 : Array Value} {Z : State} (hw : ∀ d ∈ tables_1, d.before a0 Z = true) : ((Jvm.Cond.code ({ cls := "jdk/internal/util/Preconditions", name := "checkIndex", desc := "(IILjava/util/function/BiFunction;)I" } : Jvm.MethodName) jdk_41_method_11_code (3 : Nat) (Option.some Jvm.ClassFile.FieldType.int)) : Jvm.Cond).before a0 Z = true := hw _ (List.mem_of_getElem? (i := 185) rfl)
theorem w186 {a0 : Array Value} {Z : State} (hw : ∀ d ∈ tables_1, d.before a0 Z = true) : ((Jvm.Cond.methodLink "java/util/ArrayList" (123 : Nat) ({ cls := "java/util/ArrayList", name := "elementData", desc := "(I)Ljava/lang/Object;" } : Jvm.MethodName)) : Jvm.Cond).before a0 Z = true := hw _ (List.mem_of_getElem? (i := 186) rfl)
theorem w187 {a0 : Array Value} {Z : State} (hw : ∀ d ∈ tables_1, d.before a0 Z = true) : ((Jvm.Cond.declares ({ cls := "java/util/ArrayList", name := "elementData", desc := "(I)Ljava/lang/Object;" } : Jvm.MethodName)) : Jvm.Cond).before a0 Z = true := hw _ (List.mem_of_getElem? (i := 187) rfl)
theorem w188 {a0 : Array Value} {Z : State} (hw : ∀ d ∈ tables_1, d.before a0 Z = true) : ((Jvm.Cond.instanceMethod ({ cls := "java/util/ArrayList", name := "elementData", desc := "(I)Ljava/lang/Object;" } : Jvm.MethodName)) : Jvm.Cond).before a0 Z = true := hw _ (List.mem_of_getElem? (i := 188) rfl)
theorem w189 {a0 : Array Value} {Z : State} (hw : ∀ d ∈ tables_1, d.before a0 Z = true) : ((Jvm.Cond.selects "java/util/ArrayList" ({ cls := "java/util/ArrayList", name := "elementData", desc := "(I)Ljava/lang/Object;" } : Jvm.MethodName) ({ cls := "java/util/ArrayList", name := "elementData", desc := "(I)Ljava/lang/Object;" } : Jvm.MethodName)) : Jvm.Cond).before a0 Z = true := hw _ (List.mem_of_getElem? (i := 189) rfl)
theorem w190 {a0 : Array Value} {Z : State} (hw : ∀ d ∈ tables_1, d.before a0 Z = true) : ((Jvm.Cond.code ({ cls := "java/util/ArrayList", name := "elementData", desc := "(I)Ljava/lang/Object;" } : Jvm.MethodName) jdk_38_method_18_code (2 : Nat) (Option.some (Jvm.ClassFile.FieldType.object "java/lang/Object"))) : Jvm.Cond).before a0 Z = true := hw _ (List.mem_of_getElem? (i := 190) rfl)
theorem w191 {a0 : Array Value} {Z : State} (hw : ∀ d ∈ tables_1, d.before a0 Z = true) : ((Jvm.Cond.methodLink "com/example/fachwissen/fachwissen/mail/MessageAssociationTextsPinLaw" (15 : Nat) ({ cls := "java/lang/String", name := "equals", desc := "(Ljava/lang/Object;)Z" } : Jvm.MethodName)) : Jvm.Cond).before a0 Z = true := hw _ (List.mem_of_getElem? (i := 191) rfl)
theorem w192 {a0 : Array Value} {Z : State} (hw : ∀ d ∈ tables_1, d.before a0 Z = true) : ((Jvm.Cond.declares ({ cls := "java/lang/String", name := "equals", desc := "(Ljava/lang/Object;)Z" } : Jvm.MethodName)) : Jvm.Cond).before a0 Z = true := hw _ (List.mem_of_getElem? (i := 192) rfl)
theorem w193 {a0 : Array Value} {Z : State} (hw : ∀ d ∈ tables_1, d.before a0 Z = true) : ((Jvm.Cond.instanceMethod ({ cls := "java/lang/String", name := "equals", desc := "(Ljava/lang/Object;)Z" } : Jvm.MethodName)) : Jvm.Cond).before a0 Z = true := hw _ (List.mem_of_getElem? (i := 193) rfl)
theorem w194 {a0 : Array Value} {Z : State} (hw : ∀ d ∈ tables_1, d.before a0 Z = true) : ((Jvm.Cond.selects "java/lang/String" ({ cls := "java/lang/String", name := "equals", desc := "(Ljava/lang/Object;)Z" } : Jvm.MethodName) ({ cls := "java/lang/String", name := "equals", desc := "(Ljava/lang/Object;)Z" } : Jvm.MethodName)) : Jvm.Cond).before a0 Z = true := hw _ (List.mem_of_getElem? (i := 194) rfl)
theorem w195 {a0 : Array Value} {Z : State} (hw : ∀ d ∈ tables_1, d.before a0 Z = true) : ((Jvm.Cond.code ({ cls := "java/lang/String", name := "equals", desc := "(Ljava/lang/Object;)Z" } : Jvm.MethodName) jdk_42_method_66_code (3 : Nat) (Option.some Jvm.ClassFile.FieldType.boolean)) : Jvm.Cond).before a0 Z = true := hw _ (List.mem_of_getElem? (i := 195) rfl)
theorem w196 {a0 : Array Value} {Z : State} (hw : ∀ d ∈ tables_1, d.before a0 Z = true) : ((Jvm.Cond.methodLink "java/util/ArrayList" (73 : Nat) ({ cls := "jdk/internal/util/ArraysSupport", name := "newLength", desc := "(III)I" } : Jvm.MethodName)) : Jvm.Cond).before a0 Z = true := hw _ (List.mem_of_getElem? (i := 196) rfl)
theorem w197 {a0 : Array Value} {Z : State} (hw : ∀ d ∈ tables_1, d.before a0 Z = true) : ((Jvm.Cond.static ({ cls := "jdk/internal/util/ArraysSupport", name := "newLength", desc := "(III)I" } : Jvm.MethodName)) : Jvm.Cond).before a0 Z = true := hw _ (List.mem_of_getElem? (i := 197) rfl)
theorem w198 {a0 : Array Value} {Z : State} (hw : ∀ d ∈ tables_1, d.before a0 Z = true) : ((Jvm.Cond.initialized "jdk/internal/util/ArraysSupport") : Jvm.Cond).before a0 Z = true := hw _ (List.mem_of_getElem? (i := 198) rfl)
theorem w199 {a0 : Array Value} {Z : State} (hw : ∀ d ∈ tables_1, d.before a0 Z = true) : ((Jvm.Cond.code ({ cls := "jdk/internal/util/ArraysSupport", name := "newLength", desc := "(III)I" } : Jvm.MethodName) jdk_48_method_27_code (4 : Nat) (Option.some Jvm.ClassFile.FieldType.int)) : Jvm.Cond).before a0 Z = true := hw _ (List.mem_of_getElem? (i := 199) rfl)
theorem w200 {a0 : Array Value} {Z : State} (hw : ∀ d ∈ tables_1, d.before a0 Z = true) : ((Jvm.Cond.methodLink "jdk/internal/util/ArraysSupport" (194 : Nat) ({ cls := "java/lang/Math", name := "max", desc := "(II)I" } : Jvm.MethodName)) : Jvm.Cond).before a0 Z = true := hw _ (List.mem_of_getElem? (i := 200) rfl)
theorem w201 {a0 : Array Value} {Z : State} (hw : ∀ d ∈ tables_1, d.before a0 Z = true) : ((Jvm.Cond.constant "jdk/internal/util/ArraysSupport" (200 : Nat) (2147483639 : Int32)) : Jvm.Cond).before a0 Z = true := hw _ (List.mem_of_getElem? (i := 201) rfl)
theorem w202 {a0 : Array Value} {Z : State} (hw : ∀ d ∈ tables_1, d.before a0 Z = true) : ((Jvm.Cond.methodLink "java/util/ArrayList" (112 : Nat) ({ cls := "java/lang/System", name := "arraycopy", desc := "(Ljava/lang/Object;ILjava/lang/Object;II)V" } : Jvm.MethodName)) : Jvm.Cond).before a0 Z = true := hw _ (List.mem_of_getElem? (i := 202) rfl)
theorem d8_0 : decode jdk_22_method_1_code 0 = .ok (.aload_n 0, 1) := by decide +kernel
theorem d8_1 : decode jdk_22_method_1_code 1 = .ok (.invokespecial 1, 3) := by decide +kernel
theorem d8_4 : decode jdk_22_method_1_code 4 = .ok (.return_, 1) := by decide +kernel
theorem pn_0 : plainName "java/util/AbstractCollection" = true := by first | (simp [plainName, overriddenIn]; done) | decide +kernel
theorem d7_0 : decode jdk_39_method_1_code 0 = .ok (.aload_n 0, 1) := by decide +kernel
theorem d7_1 : decode jdk_39_method_1_code 1 = .ok (.invokespecial 1, 3) := by decide +kernel
theorem pd_0 : parseMethodDescriptor "()V" = some ⟨[], none⟩ := by decide +kernel
theorem d7_4 : decode jdk_39_method_1_code 4 = .ok (.aload_n 0, 1) := by decide +kernel
theorem d7_5 : decode jdk_39_method_1_code 5 = .ok (.iconst 0, 1) := by decide +kernel
theorem d7_6 : decode jdk_39_method_1_code 6 = .ok (.putfield 7, 3) := by decide +kernel
theorem d7_9 : decode jdk_39_method_1_code 9 = .ok (.return_, 1) := by decide +kernel
theorem pn_1 : plainName "java/util/AbstractList" = true := by first | (simp [plainName, overriddenIn]; done) | decide +kernel
theorem d6_0 : decode jdk_38_method_2_code 0 = .ok (.aload_n 0, 1) := by decide +kernel
theorem d6_1 : decode jdk_38_method_2_code 1 = .ok (.invokespecial 1, 3) := by decide +kernel
theorem d6_4 : decode jdk_38_method_2_code 4 = .ok (.aload_n 0, 1) := by decide +kernel
theorem d6_5 : decode jdk_38_method_2_code 5 = .ok (.getstatic 39, 3) := by decide +kernel
theorem d6_8 : decode jdk_38_method_2_code 8 = .ok (.putfield 9, 3) := by decide +kernel
theorem d6_11 : decode jdk_38_method_2_code 11 = .ok (.return_, 1) := by decide +kernel
theorem pn_2 : plainName "java/util/ArrayList" = true := by first | (simp [plainName, overriddenIn]; done) | decide +kernel
theorem d16_0 : decode jdk_29_method_69_code 0 = .ok (.iload_n 0, 1) := by decide +kernel
theorem d16_1 : decode jdk_29_method_69_code 1 = .ok (.iload_n 1, 1) := by decide +kernel
theorem d16_2 : decode jdk_29_method_69_code 2 = .ok (.if_icmp .gt 7, 3) := by decide +kernel
theorem d16_9 : decode jdk_29_method_69_code 9 = .ok (.iload_n 1, 1) := by decide +kernel
theorem d16_10 : decode jdk_29_method_69_code 10 = .ok (.ireturn, 1) := by decide +kernel
theorem d16_5 : decode jdk_29_method_69_code 5 = .ok (.iload_n 0, 1) := by decide +kernel
theorem d16_6 : decode jdk_29_method_69_code 6 = .ok (.goto 4, 3) := by decide +kernel
theorem d24_0 : decode jdk_29_method_65_code 0 = .ok (.iload_n 0, 1) := by decide +kernel
theorem d24_1 : decode jdk_29_method_65_code 1 = .ok (.iload_n 1, 1) := by decide +kernel
theorem d24_2 : decode jdk_29_method_65_code 2 = .ok (.if_icmp .lt 7, 3) := by decide +kernel
theorem d24_9 : decode jdk_29_method_65_code 9 = .ok (.iload_n 1, 1) := by decide +kernel
theorem d24_10 : decode jdk_29_method_65_code 10 = .ok (.ireturn, 1) := by decide +kernel
theorem d24_5 : decode jdk_29_method_65_code 5 = .ok (.iload_n 0, 1) := by decide +kernel
theorem d24_6 : decode jdk_29_method_65_code 6 = .ok (.goto 4, 3) := by decide +kernel
theorem d30_0 : decode jdk_48_method_27_code 0 = .ok (.iload_n 0, 1) := by decide +kernel
theorem d30_1 : decode jdk_48_method_27_code 1 = .ok (.iload_n 1, 1) := by decide +kernel
theorem d30_2 : decode jdk_48_method_27_code 2 = .ok (.iload_n 2, 1) := by decide +kernel
theorem d30_3 : decode jdk_48_method_27_code 3 = .ok (.invokestatic 194, 3) := by decide +kernel
theorem pd_1 : parseMethodDescriptor "(II)I" = some ⟨[.int, .int], some .int⟩ := by decide +kernel
theorem d30_6 : decode jdk_48_method_27_code 6 = .ok (.iadd, 1) := by decide +kernel
theorem d30_7 : decode jdk_48_method_27_code 7 = .ok (.istore_n 3, 1) := by decide +kernel
theorem d30_8 : decode jdk_48_method_27_code 8 = .ok (.iconst 0, 1) := by decide +kernel
theorem d30_9 : decode jdk_48_method_27_code 9 = .ok (.iload_n 3, 1) := by decide +kernel
theorem d30_10 : decode jdk_48_method_27_code 10 = .ok (.if_icmp .ge 11, 3) := by decide +kernel
theorem d30_13 : decode jdk_48_method_27_code 13 = .ok (.iload_n 3, 1) := by decide +kernel
theorem d30_14 : decode jdk_48_method_27_code 14 = .ok (.ldc 200, 2) := by decide +kernel
theorem d30_16 : decode jdk_48_method_27_code 16 = .ok (.if_icmp .gt 5, 3) := by decide +kernel
theorem d30_19 : decode jdk_48_method_27_code 19 = .ok (.iload_n 3, 1) := by decide +kernel
theorem d30_20 : decode jdk_48_method_27_code 20 = .ok (.ireturn, 1) := by decide +kernel
theorem pn_3 : plainName "jdk/internal/util/ArraysSupport" = true := by first | (simp [plainName, overriddenIn]; done) | decide +kernel
theorem d15_0 : decode jdk_65_method_120_code 0 = .ok (.aload_n 2, 1) := by decide +kernel
theorem d15_1 : decode jdk_65_method_120_code 1 = .ok (.ldc 110, 2) := by decide +kernel
theorem d15_3 : decode jdk_65_method_120_code 3 = .ok (.if_acmp .ne 10, 3) := by decide +kernel
theorem d15_6 : decode jdk_65_method_120_code 6 = .ok (.iload_n 1, 1) := by decide +kernel
theorem d15_7 : decode jdk_65_method_120_code 7 = .ok (.anewarray 2, 3) := by decide +kernel
theorem d15_10 : decode jdk_65_method_120_code 10 = .ok (.goto 14, 3) := by decide +kernel
theorem d15_24 : decode jdk_65_method_120_code 24 = .ok (.astore_n 3, 1) := by decide +kernel
theorem d15_25 : decode jdk_65_method_120_code 25 = .ok (.aload_n 0, 1) := by decide +kernel
theorem d15_26 : decode jdk_65_method_120_code 26 = .ok (.iconst 0, 1) := by decide +kernel
theorem d15_27 : decode jdk_65_method_120_code 27 = .ok (.aload_n 3, 1) := by decide +kernel
theorem d15_28 : decode jdk_65_method_120_code 28 = .ok (.iconst 0, 1) := by decide +kernel
theorem d15_29 : decode jdk_65_method_120_code 29 = .ok (.aload_n 0, 1) := by decide +kernel
theorem d15_30 : decode jdk_65_method_120_code 30 = .ok (.arraylength, 1) := by decide +kernel
theorem d15_31 : decode jdk_65_method_120_code 31 = .ok (.iload_n 1, 1) := by decide +kernel
theorem d15_32 : decode jdk_65_method_120_code 32 = .ok (.invokestatic 304, 3) := by decide +kernel
theorem d15_35 : decode jdk_65_method_120_code 35 = .ok (.invokestatic 150, 3) := by decide +kernel
theorem d15_38 : decode jdk_65_method_120_code 38 = .ok (.aload_n 3, 1) := by decide +kernel
theorem d15_39 : decode jdk_65_method_120_code 39 = .ok (.areturn, 1) := by decide +kernel
theorem pn_4 : plainName "java/util/Arrays" = true := by first | (simp [plainName, overriddenIn]; done) | decide +kernel
theorem d14_0 : decode jdk_65_method_119_code 0 = .ok (.aload_n 0, 1) := by decide +kernel
theorem d14_1 : decode jdk_65_method_119_code 1 = .ok (.iload_n 1, 1) := by decide +kernel
theorem d14_2 : decode jdk_65_method_119_code 2 = .ok (.aload_n 0, 1) := by decide +kernel
theorem d14_3 : decode jdk_65_method_119_code 3 = .ok (.invokevirtual 86, 3) := by decide +kernel
theorem d14_6 : decode jdk_65_method_119_code 6 = .ok (.invokestatic 300, 3) := by decide +kernel
theorem pd_2 : parseMethodDescriptor "([Ljava/lang/Object;ILjava/lang/Class;)[Ljava/lang/Object;" = some ⟨[(.array (.object "java/lang/Object")), .int, (.object "java/lang/Class")], some (.array (.object "java/lang/Object"))⟩ := by decide +kernel
theorem d14_9 : decode jdk_65_method_119_code 9 = .ok (.areturn, 1) := by decide +kernel
theorem d13_0 : decode jdk_38_method_16_code 0 = .ok (.aload_n 0, 1) := by decide +kernel
theorem d13_1 : decode jdk_38_method_16_code 1 = .ok (.getfield 9, 3) := by decide +kernel
theorem d13_4 : decode jdk_38_method_16_code 4 = .ok (.aload_n 0, 1) := by decide +kernel
theorem d13_5 : decode jdk_38_method_16_code 5 = .ok (.getfield 48, 3) := by decide +kernel
theorem d13_8 : decode jdk_38_method_16_code 8 = .ok (.invokestatic 66, 3) := by decide +kernel
theorem pd_3 : parseMethodDescriptor "([Ljava/lang/Object;I)[Ljava/lang/Object;" = some ⟨[(.array (.object "java/lang/Object")), .int], some (.array (.object "java/lang/Object"))⟩ := by decide +kernel
theorem d13_11 : decode jdk_38_method_16_code 11 = .ok (.areturn, 1) := by decide +kernel
theorem d23_0 : decode jdk_38_method_6_code 0 = .ok (.aload_n 0, 1) := by decide +kernel
theorem d23_1 : decode jdk_38_method_6_code 1 = .ok (.getfield 9, 3) := by decide +kernel
theorem d23_4 : decode jdk_38_method_6_code 4 = .ok (.arraylength, 1) := by decide +kernel
theorem d23_5 : decode jdk_38_method_6_code 5 = .ok (.istore_n 2, 1) := by decide +kernel
theorem d23_6 : decode jdk_38_method_6_code 6 = .ok (.iload_n 2, 1) := by decide +kernel
theorem d23_7 : decode jdk_38_method_6_code 7 = .ok (.ifCond .gt 13, 3) := by decide +kernel
theorem d23_20 : decode jdk_38_method_6_code 20 = .ok (.iload_n 2, 1) := by decide +kernel
theorem d23_21 : decode jdk_38_method_6_code 21 = .ok (.iload_n 1, 1) := by decide +kernel
theorem d23_22 : decode jdk_38_method_6_code 22 = .ok (.iload_n 2, 1) := by decide +kernel
theorem d23_23 : decode jdk_38_method_6_code 23 = .ok (.isub, 1) := by decide +kernel
theorem d23_24 : decode jdk_38_method_6_code 24 = .ok (.iload_n 2, 1) := by decide +kernel
theorem d23_25 : decode jdk_38_method_6_code 25 = .ok (.iconst 1, 1) := by decide +kernel
theorem d23_26 : decode jdk_38_method_6_code 26 = .ok (.ishr, 1) := by decide +kernel
theorem d23_27 : decode jdk_38_method_6_code 27 = .ok (.invokestatic 73, 3) := by decide +kernel
theorem pd_4 : parseMethodDescriptor "(III)I" = some ⟨[.int, .int, .int], some .int⟩ := by decide +kernel
theorem d23_30 : decode jdk_38_method_6_code 30 = .ok (.istore_n 3, 1) := by decide +kernel
theorem d23_31 : decode jdk_38_method_6_code 31 = .ok (.aload_n 0, 1) := by decide +kernel
theorem d23_32 : decode jdk_38_method_6_code 32 = .ok (.aload_n 0, 1) := by decide +kernel
theorem d23_33 : decode jdk_38_method_6_code 33 = .ok (.getfield 9, 3) := by decide +kernel
theorem d23_36 : decode jdk_38_method_6_code 36 = .ok (.iload_n 3, 1) := by decide +kernel
theorem d23_37 : decode jdk_38_method_6_code 37 = .ok (.invokestatic 66, 3) := by decide +kernel
theorem d23_40 : decode jdk_38_method_6_code 40 = .ok (.dup_x1, 1) := by decide +kernel
theorem d23_41 : decode jdk_38_method_6_code 41 = .ok (.putfield 9, 3) := by decide +kernel
theorem d23_44 : decode jdk_38_method_6_code 44 = .ok (.areturn, 1) := by decide +kernel
theorem d23_10 : decode jdk_38_method_6_code 10 = .ok (.aload_n 0, 1) := by decide +kernel
theorem d23_11 : decode jdk_38_method_6_code 11 = .ok (.getfield 9, 3) := by decide +kernel
theorem d23_14 : decode jdk_38_method_6_code 14 = .ok (.getstatic 39, 3) := by decide +kernel
theorem d23_17 : decode jdk_38_method_6_code 17 = .ok (.if_acmp .eq 28, 3) := by decide +kernel
theorem d23_45 : decode jdk_38_method_6_code 45 = .ok (.aload_n 0, 1) := by decide +kernel
theorem d23_46 : decode jdk_38_method_6_code 46 = .ok (.bipush 10, 2) := by decide +kernel
theorem d23_48 : decode jdk_38_method_6_code 48 = .ok (.iload_n 1, 1) := by decide +kernel
theorem d23_49 : decode jdk_38_method_6_code 49 = .ok (.invokestatic 79, 3) := by decide +kernel
theorem d23_52 : decode jdk_38_method_6_code 52 = .ok (.anewarray 7, 3) := by decide +kernel
theorem d23_55 : decode jdk_38_method_6_code 55 = .ok (.dup_x1, 1) := by decide +kernel
theorem d23_56 : decode jdk_38_method_6_code 56 = .ok (.putfield 9, 3) := by decide +kernel
theorem d23_59 : decode jdk_38_method_6_code 59 = .ok (.areturn, 1) := by decide +kernel
theorem d22_0 : decode jdk_38_method_7_code 0 = .ok (.aload_n 0, 1) := by decide +kernel
theorem d22_1 : decode jdk_38_method_7_code 1 = .ok (.aload_n 0, 1) := by decide +kernel
theorem d22_2 : decode jdk_38_method_7_code 2 = .ok (.getfield 48, 3) := by decide +kernel
theorem d22_5 : decode jdk_38_method_7_code 5 = .ok (.iconst 1, 1) := by decide +kernel
theorem d22_6 : decode jdk_38_method_7_code 6 = .ok (.iadd, 1) := by decide +kernel
theorem d22_7 : decode jdk_38_method_7_code 7 = .ok (.invokevirtual 69, 3) := by decide +kernel
theorem pd_5 : parseMethodDescriptor "(I)[Ljava/lang/Object;" = some ⟨[.int], some (.array (.object "java/lang/Object"))⟩ := by decide +kernel
theorem d22_10 : decode jdk_38_method_7_code 10 = .ok (.areturn, 1) := by decide +kernel
theorem d21_0 : decode jdk_38_method_24_code 0 = .ok (.iload_n 3, 1) := by decide +kernel
theorem d21_1 : decode jdk_38_method_24_code 1 = .ok (.aload_n 2, 1) := by decide +kernel
theorem d21_2 : decode jdk_38_method_24_code 2 = .ok (.arraylength, 1) := by decide +kernel
theorem d21_3 : decode jdk_38_method_24_code 3 = .ok (.if_icmp .ne 8, 3) := by decide +kernel
theorem d21_6 : decode jdk_38_method_24_code 6 = .ok (.aload_n 0, 1) := by decide +kernel
theorem d21_7 : decode jdk_38_method_24_code 7 = .ok (.invokevirtual 129, 3) := by decide +kernel
theorem pd_6 : parseMethodDescriptor "()[Ljava/lang/Object;" = some ⟨[], some (.array (.object "java/lang/Object"))⟩ := by decide +kernel
theorem d21_10 : decode jdk_38_method_24_code 10 = .ok (.astore_n 2, 1) := by decide +kernel
theorem d21_11 : decode jdk_38_method_24_code 11 = .ok (.aload_n 2, 1) := by decide +kernel
theorem d21_12 : decode jdk_38_method_24_code 12 = .ok (.iload_n 3, 1) := by decide +kernel
theorem d21_13 : decode jdk_38_method_24_code 13 = .ok (.aload_n 1, 1) := by decide +kernel
theorem d21_14 : decode jdk_38_method_24_code 14 = .ok (.aastore, 1) := by decide +kernel
theorem d21_15 : decode jdk_38_method_24_code 15 = .ok (.aload_n 0, 1) := by decide +kernel
theorem d21_16 : decode jdk_38_method_24_code 16 = .ok (.iload_n 3, 1) := by decide +kernel
theorem d21_17 : decode jdk_38_method_24_code 17 = .ok (.iconst 1, 1) := by decide +kernel
theorem d21_18 : decode jdk_38_method_24_code 18 = .ok (.iadd, 1) := by decide +kernel
theorem d21_19 : decode jdk_38_method_24_code 19 = .ok (.putfield 48, 3) := by decide +kernel
theorem d21_22 : decode jdk_38_method_24_code 22 = .ok (.return_, 1) := by decide +kernel
theorem d20_0 : decode jdk_38_method_25_code 0 = .ok (.aload_n 0, 1) := by decide +kernel
theorem d20_1 : decode jdk_38_method_25_code 1 = .ok (.dup, 1) := by decide +kernel
theorem d20_2 : decode jdk_38_method_25_code 2 = .ok (.getfield 63, 3) := by decide +kernel
theorem d20_5 : decode jdk_38_method_25_code 5 = .ok (.iconst 1, 1) := by decide +kernel
theorem d20_6 : decode jdk_38_method_25_code 6 = .ok (.iadd, 1) := by decide +kernel
theorem d20_7 : decode jdk_38_method_25_code 7 = .ok (.putfield 63, 3) := by decide +kernel
theorem d20_10 : decode jdk_38_method_25_code 10 = .ok (.aload_n 0, 1) := by decide +kernel
theorem d20_11 : decode jdk_38_method_25_code 11 = .ok (.aload_n 1, 1) := by decide +kernel
theorem d20_12 : decode jdk_38_method_25_code 12 = .ok (.aload_n 0, 1) := by decide +kernel
theorem d20_13 : decode jdk_38_method_25_code 13 = .ok (.getfield 9, 3) := by decide +kernel
theorem d20_16 : decode jdk_38_method_25_code 16 = .ok (.aload_n 0, 1) := by decide +kernel
theorem d20_17 : decode jdk_38_method_25_code 17 = .ok (.getfield 48, 3) := by decide +kernel
theorem d20_20 : decode jdk_38_method_25_code 20 = .ok (.invokevirtual 131, 3) := by decide +kernel
theorem pd_7 : parseMethodDescriptor "(Ljava/lang/Object;[Ljava/lang/Object;I)V" = some ⟨[(.object "java/lang/Object"), (.array (.object "java/lang/Object")), .int], none⟩ := by decide +kernel
theorem d20_23 : decode jdk_38_method_25_code 23 = .ok (.iconst 1, 1) := by decide +kernel
theorem d20_24 : decode jdk_38_method_25_code 24 = .ok (.ireturn, 1) := by decide +kernel
theorem d18_0 : decode jdk_38_method_8_code 0 = .ok (.aload_n 0, 1) := by decide +kernel
theorem d18_1 : decode jdk_38_method_8_code 1 = .ok (.getfield 48, 3) := by decide +kernel
theorem d18_4 : decode jdk_38_method_8_code 4 = .ok (.ireturn, 1) := by decide +kernel
theorem d12_0 : decode jdk_38_method_3_code 0 = .ok (.aload_n 0, 1) := by decide +kernel
theorem d12_1 : decode jdk_38_method_3_code 1 = .ok (.invokespecial 1, 3) := by decide +kernel
theorem d12_4 : decode jdk_38_method_3_code 4 = .ok (.aload_n 1, 1) := by decide +kernel
theorem d12_5 : decode jdk_38_method_3_code 5 = .ok (.invokeinterface 42 1, 5) := by decide +kernel
theorem d12_10 : decode jdk_38_method_3_code 10 = .ok (.astore_n 2, 1) := by decide +kernel
theorem d12_11 : decode jdk_38_method_3_code 11 = .ok (.aload_n 0, 1) := by decide +kernel
theorem d12_12 : decode jdk_38_method_3_code 12 = .ok (.aload_n 2, 1) := by decide +kernel
theorem d12_13 : decode jdk_38_method_3_code 13 = .ok (.arraylength, 1) := by decide +kernel
theorem d12_14 : decode jdk_38_method_3_code 14 = .ok (.dup_x1, 1) := by decide +kernel
theorem d12_15 : decode jdk_38_method_3_code 15 = .ok (.putfield 48, 3) := by decide +kernel
theorem d12_18 : decode jdk_38_method_3_code 18 = .ok (.ifCond .eq 39, 3) := by decide +kernel
theorem d12_57 : decode jdk_38_method_3_code 57 = .ok (.aload_n 0, 1) := by decide +kernel
theorem d12_58 : decode jdk_38_method_3_code 58 = .ok (.getstatic 15, 3) := by decide +kernel
theorem d12_61 : decode jdk_38_method_3_code 61 = .ok (.putfield 9, 3) := by decide +kernel
theorem d12_64 : decode jdk_38_method_3_code 64 = .ok (.return_, 1) := by decide +kernel
theorem d12_21 : decode jdk_38_method_3_code 21 = .ok (.aload_n 1, 1) := by decide +kernel
theorem d12_22 : decode jdk_38_method_3_code 22 = .ok (.invokeinterface 52 1, 5) := by decide +kernel
theorem d12_27 : decode jdk_38_method_3_code 27 = .ok (.ldc 10, 2) := by decide +kernel
theorem d12_29 : decode jdk_38_method_3_code 29 = .ok (.if_acmp .ne 11, 3) := by decide +kernel
theorem d12_32 : decode jdk_38_method_3_code 32 = .ok (.aload_n 0, 1) := by decide +kernel
theorem d12_33 : decode jdk_38_method_3_code 33 = .ok (.aload_n 2, 1) := by decide +kernel
theorem d12_34 : decode jdk_38_method_3_code 34 = .ok (.putfield 9, 3) := by decide +kernel
theorem d12_37 : decode jdk_38_method_3_code 37 = .ok (.goto 27, 3) := by decide +kernel
theorem d17_0 : decode jdk_38_method_41_code 0 = .ok (.aload_n 1, 1) := by decide +kernel
theorem d17_1 : decode jdk_38_method_41_code 1 = .ok (.invokeinterface 42 1, 5) := by decide +kernel
theorem d17_6 : decode jdk_38_method_41_code 6 = .ok (.astore_n 2, 1) := by decide +kernel
theorem d17_7 : decode jdk_38_method_41_code 7 = .ok (.aload_n 0, 1) := by decide +kernel
theorem d17_8 : decode jdk_38_method_41_code 8 = .ok (.dup, 1) := by decide +kernel
theorem d17_9 : decode jdk_38_method_41_code 9 = .ok (.getfield 63, 3) := by decide +kernel
theorem d17_12 : decode jdk_38_method_41_code 12 = .ok (.iconst 1, 1) := by decide +kernel
theorem d17_13 : decode jdk_38_method_41_code 13 = .ok (.iadd, 1) := by decide +kernel
theorem d17_14 : decode jdk_38_method_41_code 14 = .ok (.putfield 63, 3) := by decide +kernel
theorem d17_17 : decode jdk_38_method_41_code 17 = .ok (.aload_n 2, 1) := by decide +kernel
theorem d17_18 : decode jdk_38_method_41_code 18 = .ok (.arraylength, 1) := by decide +kernel
theorem d17_19 : decode jdk_38_method_41_code 19 = .ok (.istore_n 3, 1) := by decide +kernel
theorem d17_20 : decode jdk_38_method_41_code 20 = .ok (.iload_n 3, 1) := by decide +kernel
theorem d17_21 : decode jdk_38_method_41_code 21 = .ok (.ifCond .ne 5, 3) := by decide +kernel
theorem d17_24 : decode jdk_38_method_41_code 24 = .ok (.iconst 0, 1) := by decide +kernel
theorem d17_25 : decode jdk_38_method_41_code 25 = .ok (.ireturn, 1) := by decide +kernel
theorem d17_26 : decode jdk_38_method_41_code 26 = .ok (.iload_n 3, 1) := by decide +kernel
theorem d17_27 : decode jdk_38_method_41_code 27 = .ok (.aload_n 0, 1) := by decide +kernel
theorem d17_28 : decode jdk_38_method_41_code 28 = .ok (.getfield 9, 3) := by decide +kernel
theorem d17_31 : decode jdk_38_method_41_code 31 = .ok (.dup, 1) := by decide +kernel
theorem d17_32 : decode jdk_38_method_41_code 32 = .ok (.astore 4, 2) := by decide +kernel
theorem d17_34 : decode jdk_38_method_41_code 34 = .ok (.arraylength, 1) := by decide +kernel
theorem d17_35 : decode jdk_38_method_41_code 35 = .ok (.aload_n 0, 1) := by decide +kernel
theorem d17_36 : decode jdk_38_method_41_code 36 = .ok (.getfield 48, 3) := by decide +kernel
theorem d17_39 : decode jdk_38_method_41_code 39 = .ok (.dup, 1) := by decide +kernel
theorem d17_40 : decode jdk_38_method_41_code 40 = .ok (.istore 5, 2) := by decide +kernel
theorem d17_42 : decode jdk_38_method_41_code 42 = .ok (.isub, 1) := by decide +kernel
theorem d17_43 : decode jdk_38_method_41_code 43 = .ok (.if_icmp .le 13, 3) := by decide +kernel
theorem d17_46 : decode jdk_38_method_41_code 46 = .ok (.aload_n 0, 1) := by decide +kernel
theorem d17_47 : decode jdk_38_method_41_code 47 = .ok (.iload 5, 2) := by decide +kernel
theorem d17_49 : decode jdk_38_method_41_code 49 = .ok (.iload_n 3, 1) := by decide +kernel
theorem d17_50 : decode jdk_38_method_41_code 50 = .ok (.iadd, 1) := by decide +kernel
theorem d17_51 : decode jdk_38_method_41_code 51 = .ok (.invokevirtual 69, 3) := by decide +kernel
theorem d17_54 : decode jdk_38_method_41_code 54 = .ok (.astore 4, 2) := by decide +kernel
theorem d17_56 : decode jdk_38_method_41_code 56 = .ok (.aload_n 2, 1) := by decide +kernel
theorem d17_57 : decode jdk_38_method_41_code 57 = .ok (.iconst 0, 1) := by decide +kernel
theorem d17_58 : decode jdk_38_method_41_code 58 = .ok (.aload 4, 2) := by decide +kernel
theorem d17_60 : decode jdk_38_method_41_code 60 = .ok (.iload 5, 2) := by decide +kernel
theorem d17_62 : decode jdk_38_method_41_code 62 = .ok (.iload_n 3, 1) := by decide +kernel
theorem d17_63 : decode jdk_38_method_41_code 63 = .ok (.invokestatic 112, 3) := by decide +kernel
theorem d17_66 : decode jdk_38_method_41_code 66 = .ok (.aload_n 0, 1) := by decide +kernel
theorem d17_67 : decode jdk_38_method_41_code 67 = .ok (.iload 5, 2) := by decide +kernel
theorem d17_69 : decode jdk_38_method_41_code 69 = .ok (.iload_n 3, 1) := by decide +kernel
theorem d17_70 : decode jdk_38_method_41_code 70 = .ok (.iadd, 1) := by decide +kernel
theorem d17_71 : decode jdk_38_method_41_code 71 = .ok (.putfield 48, 3) := by decide +kernel
theorem d17_74 : decode jdk_38_method_41_code 74 = .ok (.iconst 1, 1) := by decide +kernel
theorem d17_75 : decode jdk_38_method_41_code 75 = .ok (.ireturn, 1) := by decide +kernel
theorem d27_0 : decode jdk_41_method_11_code 0 = .ok (.iload_n 0, 1) := by decide +kernel
theorem d27_1 : decode jdk_41_method_11_code 1 = .ok (.ifCond .lt 8, 3) := by decide +kernel
theorem d27_4 : decode jdk_41_method_11_code 4 = .ok (.iload_n 0, 1) := by decide +kernel
theorem d27_5 : decode jdk_41_method_11_code 5 = .ok (.iload_n 1, 1) := by decide +kernel
theorem d27_6 : decode jdk_41_method_11_code 6 = .ok (.if_icmp .lt 10, 3) := by decide +kernel
theorem d27_16 : decode jdk_41_method_11_code 16 = .ok (.iload_n 0, 1) := by decide +kernel
theorem d27_17 : decode jdk_41_method_11_code 17 = .ok (.ireturn, 1) := by decide +kernel
theorem pn_5 : plainName "jdk/internal/util/Preconditions" = true := by first | (simp [plainName, overriddenIn]; done) | decide +kernel
theorem d26_0 : decode jdk_31_method_17_code 0 = .ok (.iload_n 0, 1) := by decide +kernel
theorem d26_1 : decode jdk_31_method_17_code 1 = .ok (.iload_n 1, 1) := by decide +kernel
theorem d26_2 : decode jdk_31_method_17_code 2 = .ok (.aconst_null, 1) := by decide +kernel
theorem d26_3 : decode jdk_31_method_17_code 3 = .ok (.invokestatic 105, 3) := by decide +kernel
theorem pd_8 : parseMethodDescriptor "(IILjava/util/function/BiFunction;)I" = some ⟨[.int, .int, (.object "java/util/function/BiFunction")], some .int⟩ := by decide +kernel
theorem d26_6 : decode jdk_31_method_17_code 6 = .ok (.ireturn, 1) := by decide +kernel
theorem pn_6 : plainName "java/util/Objects" = true := by first | (simp [plainName, overriddenIn]; done) | decide +kernel
theorem d28_0 : decode jdk_38_method_18_code 0 = .ok (.aload_n 0, 1) := by decide +kernel
theorem d28_1 : decode jdk_38_method_18_code 1 = .ok (.getfield 9, 3) := by decide +kernel
theorem d28_4 : decode jdk_38_method_18_code 4 = .ok (.iload_n 1, 1) := by decide +kernel
theorem d28_5 : decode jdk_38_method_18_code 5 = .ok (.aaload, 1) := by decide +kernel
theorem d28_6 : decode jdk_38_method_18_code 6 = .ok (.areturn, 1) := by decide +kernel
theorem d25_0 : decode jdk_38_method_20_code 0 = .ok (.iload_n 1, 1) := by decide +kernel
theorem d25_1 : decode jdk_38_method_20_code 1 = .ok (.aload_n 0, 1) := by decide +kernel
theorem d25_2 : decode jdk_38_method_20_code 2 = .ok (.getfield 48, 3) := by decide +kernel
theorem d25_5 : decode jdk_38_method_20_code 5 = .ok (.invokestatic 118, 3) := by decide +kernel
theorem d25_8 : decode jdk_38_method_20_code 8 = .ok (.pop, 1) := by decide +kernel
theorem d25_9 : decode jdk_38_method_20_code 9 = .ok (.aload_n 0, 1) := by decide +kernel
theorem d25_10 : decode jdk_38_method_20_code 10 = .ok (.iload_n 1, 1) := by decide +kernel
theorem d25_11 : decode jdk_38_method_20_code 11 = .ok (.invokevirtual 123, 3) := by decide +kernel
theorem pd_9 : parseMethodDescriptor "(I)Ljava/lang/Object;" = some ⟨[.int], some (.object "java/lang/Object")⟩ := by decide +kernel
theorem d25_14 : decode jdk_38_method_20_code 14 = .ok (.areturn, 1) := by decide +kernel
theorem d29_0 : decode jdk_42_method_66_code 0 = .ok (.aload_n 0, 1) := by decide +kernel
theorem d29_1 : decode jdk_42_method_66_code 1 = .ok (.aload_n 1, 1) := by decide +kernel
theorem d29_2 : decode jdk_42_method_66_code 2 = .ok (.if_acmp .ne 5, 3) := by decide +kernel
theorem d29_5 : decode jdk_42_method_66_code 5 = .ok (.iconst 1, 1) := by decide +kernel
theorem d29_6 : decode jdk_42_method_66_code 6 = .ok (.ireturn, 1) := by decide +kernel
theorem pn_7 : plainName "java/lang/String" = true := by first | (simp [plainName, overriddenIn]; done) | decide +kernel
theorem d2_0 : decode jdk_43_method_3_code 0 = .ok (.iload_n 0, 1) := by decide +kernel
theorem d2_1 : decode jdk_43_method_3_code 1 = .ok (.sipush 255, 3) := by decide +kernel
theorem d2_4 : decode jdk_43_method_3_code 4 = .ok (.if_icmp .gt 7, 3) := by decide +kernel
theorem d2_7 : decode jdk_43_method_3_code 7 = .ok (.iconst 1, 1) := by decide +kernel
theorem d2_8 : decode jdk_43_method_3_code 8 = .ok (.goto 4, 3) := by decide +kernel
theorem d2_12 : decode jdk_43_method_3_code 12 = .ok (.ireturn, 1) := by decide +kernel
theorem pn_8 : plainName "java/lang/StringLatin1" = true := by first | (simp [plainName, overriddenIn]; done) | decide +kernel
theorem d3_0 : decode jdk_43_method_46_code 0 = .ok (.iconst 1, 1) := by decide +kernel
theorem d3_1 : decode jdk_43_method_46_code 1 = .ok (.newarray .byte, 2) := by decide +kernel
theorem d3_3 : decode jdk_43_method_46_code 3 = .ok (.dup, 1) := by decide +kernel
theorem d3_4 : decode jdk_43_method_46_code 4 = .ok (.iconst 0, 1) := by decide +kernel
theorem d3_5 : decode jdk_43_method_46_code 5 = .ok (.iload_n 0, 1) := by decide +kernel
theorem d3_6 : decode jdk_43_method_46_code 6 = .ok (.i2b, 1) := by decide +kernel
theorem d3_7 : decode jdk_43_method_46_code 7 = .ok (.bastore, 1) := by decide +kernel
theorem d3_8 : decode jdk_43_method_46_code 8 = .ok (.areturn, 1) := by decide +kernel
theorem d4_0 : decode jdk_42_method_151_code 0 = .ok (.aload_n 0, 1) := by decide +kernel
theorem d4_1 : decode jdk_42_method_151_code 1 = .ok (.invokespecial 1, 3) := by decide +kernel
theorem d4_4 : decode jdk_42_method_151_code 4 = .ok (.aload_n 0, 1) := by decide +kernel
theorem d4_5 : decode jdk_42_method_151_code 5 = .ok (.aload_n 1, 1) := by decide +kernel
theorem d4_6 : decode jdk_42_method_151_code 6 = .ok (.putfield 9, 3) := by decide +kernel
theorem d4_9 : decode jdk_42_method_151_code 9 = .ok (.aload_n 0, 1) := by decide +kernel
theorem d4_10 : decode jdk_42_method_151_code 10 = .ok (.iload_n 2, 1) := by decide +kernel
theorem d4_11 : decode jdk_42_method_151_code 11 = .ok (.putfield 15, 3) := by decide +kernel
theorem d4_14 : decode jdk_42_method_151_code 14 = .ok (.return_, 1) := by decide +kernel
theorem d1_0 : decode jdk_42_method_139_code 0 = .ok (.getstatic 38, 3) := by decide +kernel
theorem d1_3 : decode jdk_42_method_139_code 3 = .ok (.ifCond .eq 23, 3) := by decide +kernel
theorem d1_6 : decode jdk_42_method_139_code 6 = .ok (.iload_n 0, 1) := by decide +kernel
theorem d1_7 : decode jdk_42_method_139_code 7 = .ok (.invokestatic 1015, 3) := by decide +kernel
theorem pd_10 : parseMethodDescriptor "(C)Z" = some ⟨[.char], some .boolean⟩ := by decide +kernel
theorem d1_10 : decode jdk_42_method_139_code 10 = .ok (.ifCond .eq 16, 3) := by decide +kernel
theorem d1_13 : decode jdk_42_method_139_code 13 = .ok (.new 10, 3) := by decide +kernel
theorem d1_16 : decode jdk_42_method_139_code 16 = .ok (.dup, 1) := by decide +kernel
theorem d1_17 : decode jdk_42_method_139_code 17 = .ok (.iload_n 0, 1) := by decide +kernel
theorem d1_18 : decode jdk_42_method_139_code 18 = .ok (.invokestatic 1018, 3) := by decide +kernel
theorem pd_11 : parseMethodDescriptor "(C)[B" = some ⟨[.char], some (.array .byte)⟩ := by decide +kernel
theorem d1_21 : decode jdk_42_method_139_code 21 = .ok (.iconst 0, 1) := by decide +kernel
theorem d1_22 : decode jdk_42_method_139_code 22 = .ok (.invokespecial 209, 3) := by decide +kernel
theorem pd_12 : parseMethodDescriptor "([BB)V" = some ⟨[(.array .byte), .byte], none⟩ := by decide +kernel
theorem d1_25 : decode jdk_42_method_139_code 25 = .ok (.areturn, 1) := by decide +kernel
theorem d19_0 : decode method_2_code 0 = .ok (.iload_n 3, 1) := by decide +kernel
theorem d19_1 : decode method_2_code 1 = .ok (.iload_n 2, 1) := by decide +kernel
theorem d19_2 : decode method_2_code 2 = .ok (.if_icmp .lt 5, 3) := by decide +kernel
theorem d19_7 : decode method_2_code 7 = .ok (.aload_n 0, 1) := by decide +kernel
theorem d19_8 : decode method_2_code 8 = .ok (.iload_n 3, 1) := by decide +kernel
theorem d19_9 : decode method_2_code 9 = .ok (.invokeinterface 7 2, 5) := by decide +kernel
theorem d19_14 : decode method_2_code 14 = .ok (.checkcast 13, 3) := by decide +kernel
theorem d19_17 : decode method_2_code 17 = .ok (.aload_n 1, 1) := by decide +kernel
theorem d19_18 : decode method_2_code 18 = .ok (.iload_n 3, 1) := by decide +kernel
theorem d19_19 : decode method_2_code 19 = .ok (.aaload, 1) := by decide +kernel
theorem d19_20 : decode method_2_code 20 = .ok (.invokevirtual 15, 3) := by decide +kernel
theorem pd_13 : parseMethodDescriptor "(Ljava/lang/Object;)Z" = some ⟨[(.object "java/lang/Object")], some .boolean⟩ := by decide +kernel
theorem d19_23 : decode method_2_code 23 = .ok (.ireturn, 1) := by decide +kernel
theorem d19_5 : decode method_2_code 5 = .ok (.iconst 1, 1) := by decide +kernel
theorem d19_6 : decode method_2_code 6 = .ok (.ireturn, 1) := by decide +kernel
theorem pn_9 : plainName "com/example/fachwissen/fachwissen/mail/MessageAssociationTextsPinLaw" = true := by first | (simp [plainName, overriddenIn]; done) | decide +kernel
theorem d10_0 : decode jdk_30_method_1_code 0 = .ok (.aload_n 0, 1) := by decide +kernel
theorem d10_1 : decode jdk_30_method_1_code 1 = .ok (.invokespecial 1, 3) := by decide +kernel
theorem d10_4 : decode jdk_30_method_1_code 4 = .ok (.return_, 1) := by decide +kernel
theorem pn_10 : plainName "java/lang/Record" = true := by first | (simp [plainName, overriddenIn]; done) | decide +kernel
theorem d9_0 : decode prog_12_method_1_code 0 = .ok (.aload_n 0, 1) := by decide +kernel
theorem d9_1 : decode prog_12_method_1_code 1 = .ok (.invokespecial 1, 3) := by decide +kernel
theorem d9_4 : decode prog_12_method_1_code 4 = .ok (.aload_n 0, 1) := by decide +kernel
theorem d9_5 : decode prog_12_method_1_code 5 = .ok (.aload_n 1, 1) := by decide +kernel
theorem d9_6 : decode prog_12_method_1_code 6 = .ok (.putfield 7, 3) := by decide +kernel
theorem d9_9 : decode prog_12_method_1_code 9 = .ok (.aload_n 0, 1) := by decide +kernel
theorem d9_10 : decode prog_12_method_1_code 10 = .ok (.aload_n 2, 1) := by decide +kernel
theorem d9_11 : decode prog_12_method_1_code 11 = .ok (.putfield 13, 3) := by decide +kernel
theorem d9_14 : decode prog_12_method_1_code 14 = .ok (.aload_n 0, 1) := by decide +kernel
theorem d9_15 : decode prog_12_method_1_code 15 = .ok (.aload_n 3, 1) := by decide +kernel
theorem d9_16 : decode prog_12_method_1_code 16 = .ok (.putfield 16, 3) := by decide +kernel
theorem d9_19 : decode prog_12_method_1_code 19 = .ok (.return_, 1) := by decide +kernel
theorem pn_11 : plainName "com/example/fachwissen/fachwissen/mail/Message" = true := by first | (simp [plainName, overriddenIn]; done) | decide +kernel
theorem d11_0 : decode prog_12_method_2_code 0 = .ok (.new 19, 3) := by decide +kernel
theorem d11_3 : decode prog_12_method_2_code 3 = .ok (.dup, 1) := by decide +kernel
theorem d11_4 : decode prog_12_method_2_code 4 = .ok (.aload_n 0, 1) := by decide +kernel
theorem d11_5 : decode prog_12_method_2_code 5 = .ok (.getfield 13, 3) := by decide +kernel
theorem d11_8 : decode prog_12_method_2_code 8 = .ok (.invokespecial 21, 3) := by decide +kernel
theorem pd_14 : parseMethodDescriptor "(Ljava/util/Collection;)V" = some ⟨[(.object "java/util/Collection")], none⟩ := by decide +kernel
theorem d11_11 : decode prog_12_method_2_code 11 = .ok (.astore_n 1, 1) := by decide +kernel
theorem d11_12 : decode prog_12_method_2_code 12 = .ok (.aload_n 1, 1) := by decide +kernel
theorem d11_13 : decode prog_12_method_2_code 13 = .ok (.aload_n 0, 1) := by decide +kernel
theorem d11_14 : decode prog_12_method_2_code 14 = .ok (.getfield 7, 3) := by decide +kernel
theorem d11_17 : decode prog_12_method_2_code 17 = .ok (.invokevirtual 24, 3) := by decide +kernel
theorem pd_15 : parseMethodDescriptor "(Ljava/util/Collection;)Z" = some ⟨[(.object "java/util/Collection")], some .boolean⟩ := by decide +kernel
theorem d11_20 : decode prog_12_method_2_code 20 = .ok (.pop, 1) := by decide +kernel
theorem d11_21 : decode prog_12_method_2_code 21 = .ok (.aload_n 1, 1) := by decide +kernel
theorem d11_22 : decode prog_12_method_2_code 22 = .ok (.aload_n 0, 1) := by decide +kernel
theorem d11_23 : decode prog_12_method_2_code 23 = .ok (.getfield 16, 3) := by decide +kernel
theorem d11_26 : decode prog_12_method_2_code 26 = .ok (.invokevirtual 24, 3) := by decide +kernel
theorem d11_29 : decode prog_12_method_2_code 29 = .ok (.pop, 1) := by decide +kernel
theorem d11_30 : decode prog_12_method_2_code 30 = .ok (.aload_n 1, 1) := by decide +kernel
theorem d11_31 : decode prog_12_method_2_code 31 = .ok (.areturn, 1) := by decide +kernel
theorem pd_16 : parseMethodDescriptor "(Ljava/util/List;Ljava/util/List;Ljava/util/List;)V" = some ⟨[(.object "java/util/List"), (.object "java/util/List"), (.object "java/util/List")], none⟩ := by decide +kernel
theorem pd_17 : parseMethodDescriptor "()Ljava/util/List;" = some ⟨[], some (.object "java/util/List")⟩ := by decide +kernel
theorem pd_18 : parseMethodDescriptor "()I" = some ⟨[], some .int⟩ := by decide +kernel
theorem pd_19 : parseMethodDescriptor "(Ljava/util/List;[Ljava/lang/String;II)Z" = some ⟨[(.object "java/util/List"), (.array (.object "java/lang/String")), .int, .int], some .boolean⟩ := by decide +kernel
theorem pd_20 : parseMethodDescriptor "(C)Ljava/lang/String;" = some ⟨[.char], some (.object "java/lang/String")⟩ := by decide +kernel
theorem ef_8 (m : MethodId) (a : Addr)  : entryFrame m #[(.ref a)] 1 = mkF m 0 #[.val (.ref a)] [] := by first | (simp [entryFrame, mkF, argsToLocals, Value.category]; done) | rfl
def Q8 (Z : State) (a : Addr) (h0 : Heap) (n0 : Nat) (v_ : Option Value) (h_ : Heap) (L_ : List Loc) : Prop := v_ = none ∧ Fr n0 L_ ∧ h_ = h0
set_option maxRecDepth 65536 in
set_option maxHeartbeats 40000000 in
theorem rm8 (l : Launch) (Z : State) (a0 : Array Value) (hw : ∀ d ∈ tables_1, d.before a0 Z = true) (ws : List Jvm.Cond) (a : Addr) (h0 : Heap) (n0 : Nat) (Z0 : n0 ≤ h0.size)  :
    MetFree l (⟨"java/util/AbstractCollection", "<init>", "()V"⟩ : MethodName) (head1 (Jvm.Cond.code (⟨"java/util/AbstractCollection", "<init>", "()V"⟩ : MethodName) jdk_22_method_1_code 1 none :: ws) ({ frames := 1, cells := 0, slots := 0, locals := 12 } : Room)) (fun A_ U => A_ = #[(.ref a)] ∧ Z.Warmed39 U.vm ∧ U.heap = h0) (fun _ _ _ _ _ => True) (fun _ U_ o_ U'_ => ∃ v_ L_, o_ = .returned v_ ∧ Q8 Z a h0 n0 v_ U'_.heap L_ ∧ FrameEnd U_ o_ U'_ L_ ({ frames := 1, cells := 0, slots := 0, locals := 12 } : Room).cells ({ frames := 1, cells := 0, slots := 0, locals := 12 } : Room).slots) := by
  refine MetFree.of_bodySF (plainFor_of_name pn_0) hisR ?_
  intro p e s m args below meth c s₁ Bd hml0 hP hK
  obtain ⟨rfl, hZ, hh⟩ := hP
  have hx := Bd.exec
  have hby := Bd.bytes
  have hml : c.maxLocals = 1 := hml0
  have hown : s.vm.findClass "java/util/AbstractCollection" = some m.cls := findClass_of_methodNamed Bd.named
  have hnm := (name_of_methodNamed Bd.named Bd.method).1
  have hlk : meth.locks = false := Bd.notSynchronized
  have X0 : Stand p l e ({ frames := 1, cells := 0, slots := 0, locals := 12 } : Room) s m #[(.ref a)] below meth c s₁ [] 0 0 := Stand.of_body Bd
  have e0 : s₁.heap = h0 := by rw [← hh, Bd.state]; rfl
  have N0 := Fr.nil n0
  have K0 : Keep h0 h0 [] := Keep.refl _ _
  refine own_cast (ef_8 m a) ?_
  show OwnGo p e below s (Q8 Z a h0 n0) ({ frames := 1, cells := 0, slots := 0, locals := 12 } : Room).cells ({ frames := 1, cells := 0, slots := 0, locals := 12 } : Room).slots (s₁.setTop (mkF m 0 #[.val (.ref a)] []))
  refine own_on (fun t_ k_ => XS.aloadN X0.here hx rfl (hb hby d8_0) rfl rfl k_) ?_
  show OwnGo p e below s _ _ _ (s₁.setTop (mkF m 1 #[.val (.ref a)] [(.ref a)]))
  obtain ⟨T1, X1, e1, st1⟩ := initO X0 hx hZ hown (w44 hw) (w20 hw) (w21 hw) e0 (g := (mkF m 1 #[.val (.ref a)] [(.ref a)])) rfl (by rw [hml]; rfl) rfl (hb hby d8_1) (by decide) (W := 0) (by show 2 * 0 + _ ≤ _; exact Nat.le_of_eq rfl) (by decide)
  refine own_on st1 ?_
  show OwnGo p e below s _ _ _ (T1.setTop (mkF m 4 #[.val (.ref a)] []))
  exact own_retV X1 hx hlk Bd.returns (hb hby d8_4) e1 ⟨rfl, N0, rfl⟩ (by decide) (by decide)
theorem ef_7 (m : MethodId) (a : Addr)  : entryFrame m #[(.ref a)] 1 = mkF m 0 #[.val (.ref a)] [] := by first | (simp [entryFrame, mkF, argsToLocals, Value.category]; done) | rfl
def Q7 (Z : State) (a : Addr) (u : Value) (u' : Value) (u'' : Value) (h0 : Heap) (n0 : Nat) (v_ : Option Value) (h_ : Heap) (L_ : List Loc) : Prop := v_ = none ∧ Fr n0 L_ ∧ Keep h0 h_ [a] ∧ (Exa Z h_ a "java/util/ArrayList") ∧ (Fld Z h_ a "java/util/ArrayList" "elementData" "[Ljava/lang/Object;" u) ∧ (Fld Z h_ a "java/util/ArrayList" "size" "I" u') ∧ (Fld Z h_ a "java/util/AbstractList" "modCount" "I" (.int (0 : Int32)))
set_option maxRecDepth 65536 in
set_option maxHeartbeats 40000000 in
theorem rm7 (l : Launch) (Z : State) (a0 : Array Value) (hw : ∀ d ∈ tables_1, d.before a0 Z = true) (ws : List Jvm.Cond) (a : Addr) (u : Value) (u' : Value) (u'' : Value) (h0 : Heap) (n0 : Nat) (Z0 : n0 ≤ h0.size) (P0 : Exa Z h0 a "java/util/ArrayList") (P1 : Fld Z h0 a "java/util/ArrayList" "elementData" "[Ljava/lang/Object;" u) (P2 : Fld Z h0 a "java/util/ArrayList" "size" "I" u') (P3 : Fld Z h0 a "java/util/AbstractList" "modCount" "I" u'') (P4 : n0 ≤ a) :
    MetFree l (⟨"java/util/AbstractList", "<init>", "()V"⟩ : MethodName) (head1 (Jvm.Cond.code (⟨"java/util/AbstractList", "<init>", "()V"⟩ : MethodName) jdk_39_method_1_code 1 none :: ws) ({ frames := 2, cells := 0, slots := 0, locals := 24 } : Room)) (fun A_ U => A_ = #[(.ref a)] ∧ Z.Warmed39 U.vm ∧ U.heap = h0) (fun _ _ _ _ _ => True) (fun _ U_ o_ U'_ => ∃ v_ L_, o_ = .returned v_ ∧ Q7 Z a u u' u'' h0 n0 v_ U'_.heap L_ ∧ FrameEnd U_ o_ U'_ L_ ({ frames := 2, cells := 0, slots := 0, locals := 24 } : Room).cells ({ frames := 2, cells := 0, slots := 0, locals := 24 } : Room).slots) := by
  refine MetFree.of_bodySF (plainFor_of_name pn_1) hisR ?_
  intro p e s m args below meth c s₁ Bd hml0 hP hK
  obtain ⟨rfl, hZ, hh⟩ := hP
  have hx := Bd.exec
  have hby := Bd.bytes
  have hml : c.maxLocals = 1 := hml0
  have hown : s.vm.findClass "java/util/AbstractList" = some m.cls := findClass_of_methodNamed Bd.named
  have hnm := (name_of_methodNamed Bd.named Bd.method).1
  have hlk : meth.locks = false := Bd.notSynchronized
  have X0 : Stand p l e ({ frames := 2, cells := 0, slots := 0, locals := 24 } : Room) s m #[(.ref a)] below meth c s₁ [] 0 0 := Stand.of_body Bd
  have e0 : s₁.heap = h0 := by rw [← hh, Bd.state]; rfl
  have N0 := Fr.nil n0
  have K0 : Keep h0 h0 [a] := Keep.refl _ _
  refine own_cast (ef_7 m a) ?_
  show OwnGo p e below s (Q7 Z a u u' u'' h0 n0) ({ frames := 2, cells := 0, slots := 0, locals := 24 } : Room).cells ({ frames := 2, cells := 0, slots := 0, locals := 24 } : Room).slots (s₁.setTop (mkF m 0 #[.val (.ref a)] []))
  refine own_on (fun t_ k_ => XS.aloadN X0.here hx rfl (hb hby d7_0) rfl rfl k_) ?_
  show OwnGo p e below s _ _ _ (s₁.setTop (mkF m 1 #[.val (.ref a)] [(.ref a)]))
  obtain ⟨_, _, ⟨T1, L1, k1, n1⟩, -, X1, ⟨Lc1, hQ1, l1, y1, z1⟩, st1⟩ := X0.specialBack hx (y := (⟨"java/util/AbstractCollection", "<init>", "()V"⟩ : MethodName)) rfl hown (mvT hZ (w38 hw)) (mvT hZ (w39 hw)) (mvT hZ (w43 hw)) (by decide) (backOf (W := 0) (rm8 l Z a0 hw [] a h0 n0 Z0 ) hZ (w43 hw) (w42 hw) (by decide) (by decide)) (g := (mkF m 1 #[.val (.ref a)] [(.ref a)])) rfl (by rw [hml]; rfl) (Steps.refl _) (a := a) (argsL := []) (rest := []) (lenOf pd_0 rfl) rfl (by show 2 * 0 + _ ≤ _; exact Nat.le_of_eq rfl) (hb hby d7_1) (fun _ hWx => ⟨rfl, e0, (by decide : 0 + 0 ≤ _), (by decide : 0 + 0 ≤ _)⟩)
  dsimp only [Pt.U, Pt.locs, Pt.cells, Pt.slots] at X1 l1 y1 z1 st1 hQ1
  replace X1 := own_num (c' := 0) (n' := 0) X1 l1 (y1.trans rfl) (z1.trans rfl)
  obtain ⟨rfl, N1q, e1⟩ := hQ1
  have N1 := Fr.app N0 N1q
  refine own_tr st1 ?_
  show OwnGo p e below s _ _ _ (T1.setTop (mkF m 4 #[.val (.ref a)] []))
  refine own_on (fun t_ k_ => XS.aloadN X1.here hx rfl (hb hby d7_4) rfl rfl k_) ?_
  show OwnGo p e below s _ _ _ (T1.setTop (mkF m 5 #[.val (.ref a)] [(.ref a)]))
  refine own_on (fun t_ k_ => XS.iconst X1.here hx rfl (hb hby d7_5) k_) ?_
  show OwnGo p e below s _ _ _ (T1.setTop (mkF m 6 #[.val (.ref a)] [(.int (0 : Int32)), (.ref a)]))
  obtain ⟨T2, h2, X2, e2, W2, st2⟩ := putF X1 hx hZ hown (host := "") (Or.inl (w45 hw)) Via.refl e1 P3 P0 (Or.inl (w46 hw)) (w27 hw) (ty := .int) (by decide) rfl rfl (g := (mkF m 6 #[.val (.ref a)] [(.int (0 : Int32)), (.ref a)])) rfl rfl (hb hby d7_6)
  have F2 := P3.same W2
  have N2 := Fr.snoc X2 N1 P4
  have Z2 : n0 ≤ h2.size := Nat.le_trans Z0 (Keep.of_wr W2).1
  have K2 : Keep h0 h2 [a] := K0.wr W2 (Or.inl (List.mem_of_getElem? (i := 0) rfl))
  refine own_on st2 ?_
  show OwnGo p e below s _ _ _ (T2.setTop (mkF m 9 #[.val (.ref a)] []))
  have f3 : Exa Z h2 a "java/util/ArrayList" := P0.wr W2
  have f4 : Fld Z h2 a "java/util/ArrayList" "elementData" "[Ljava/lang/Object;" u := P1.other W2 (Or.inr (slot_ne (Or.inl (w49 hw)) (Or.inl (w46 hw)) (by decide) (t := (.array (.object "java/lang/Object"))) (t' := .int) (by decide) (by decide)))
  have f5 : Fld Z h2 a "java/util/ArrayList" "size" "I" u' := P2.other W2 (Or.inr (slot_ne (Or.inl (w89 hw)) (Or.inl (w46 hw)) (by decide) (t := .int) (t' := .int) (by decide) (by decide)))
  exact own_retV X2 hx hlk Bd.returns (hb hby d7_9) e2 ⟨rfl, N2, K2, f3, f4, f5, F2⟩ (by decide) (by decide)
theorem ef_6 (m : MethodId) (a : Addr)  : entryFrame m #[(.ref a)] 1 = mkF m 0 #[.val (.ref a)] [] := by first | (simp [entryFrame, mkF, argsToLocals, Value.category]; done) | rfl
def Q6 (Z : State) (a : Addr) (u : Value) (u'' : Value) (dc : Addr) (h0 : Heap) (n0 : Nat) (v_ : Option Value) (h_ : Heap) (L_ : List Loc) : Prop := v_ = none ∧ Fr n0 L_ ∧ Keep h0 h_ [a] ∧ (Exa Z h_ a "java/util/ArrayList") ∧ (Fld Z h_ a "java/util/ArrayList" "elementData" "[Ljava/lang/Object;" (.ref dc)) ∧ (Fld Z h_ a "java/util/ArrayList" "size" "I" (.int (own_n own_nil))) ∧ (Fld Z h_ a "java/util/AbstractList" "modCount" "I" (.int (0 : Int32))) ∧ (OwnA Z h_ dc 0 own_nil) ∧ (Old Z n0 h_)
set_option maxRecDepth 65536 in
set_option maxHeartbeats 40000000 in
theorem rm6 (l : Launch) (Z : State) (a0 : Array Value) (hw : ∀ d ∈ tables_1, d.before a0 Z = true) (ws : List Jvm.Cond) (a : Addr) (u : Value) (u'' : Value) (dc : Addr) (h0 : Heap) (n0 : Nat) (Z0 : n0 ≤ h0.size) (P0 : Exa Z h0 a "java/util/ArrayList") (P1 : Fld Z h0 a "java/util/ArrayList" "elementData" "[Ljava/lang/Object;" u) (P2 : Fld Z h0 a "java/util/ArrayList" "size" "I" (.int (0 : Int32))) (P3 : Fld Z h0 a "java/util/AbstractList" "modCount" "I" u'') (P4 : n0 ≤ a) (P5 : Old Z n0 h0) (P6 : Sta Z Z.heap "java/util/ArrayList" "DEFAULTCAPACITY_EMPTY_ELEMENTDATA" "[Ljava/lang/Object;" (.ref dc)) (P7 : OwnA Z Z.heap dc 0 own_nil) :
    MetFree l (⟨"java/util/ArrayList", "<init>", "()V"⟩ : MethodName) (head1 (Jvm.Cond.code (⟨"java/util/ArrayList", "<init>", "()V"⟩ : MethodName) jdk_38_method_2_code 1 none :: ws) ({ frames := 3, cells := 0, slots := 0, locals := 36 } : Room)) (fun A_ U => A_ = #[(.ref a)] ∧ Z.Warmed39 U.vm ∧ U.heap = h0) (fun _ _ _ _ _ => True) (fun _ U_ o_ U'_ => ∃ v_ L_, o_ = .returned v_ ∧ Q6 Z a u u'' dc h0 n0 v_ U'_.heap L_ ∧ FrameEnd U_ o_ U'_ L_ ({ frames := 3, cells := 0, slots := 0, locals := 36 } : Room).cells ({ frames := 3, cells := 0, slots := 0, locals := 36 } : Room).slots) := by
  refine MetFree.of_bodySF (plainFor_of_name pn_2) hisR ?_
  intro p e s m args below meth c s₁ Bd hml0 hP hK
  obtain ⟨rfl, hZ, hh⟩ := hP
  have hx := Bd.exec
  have hby := Bd.bytes
  have hml : c.maxLocals = 1 := hml0
  have hown : s.vm.findClass "java/util/ArrayList" = some m.cls := findClass_of_methodNamed Bd.named
  have hnm := (name_of_methodNamed Bd.named Bd.method).1
  have hlk : meth.locks = false := Bd.notSynchronized
  have X0 : Stand p l e ({ frames := 3, cells := 0, slots := 0, locals := 36 } : Room) s m #[(.ref a)] below meth c s₁ [] 0 0 := Stand.of_body Bd
  have e0 : s₁.heap = h0 := by rw [← hh, Bd.state]; rfl
  have N0 := Fr.nil n0
  have K0 : Keep h0 h0 [a] := Keep.refl _ _
  refine own_cast (ef_6 m a) ?_
  show OwnGo p e below s (Q6 Z a u u'' dc h0 n0) ({ frames := 3, cells := 0, slots := 0, locals := 36 } : Room).cells ({ frames := 3, cells := 0, slots := 0, locals := 36 } : Room).slots (s₁.setTop (mkF m 0 #[.val (.ref a)] []))
  refine own_on (fun t_ k_ => XS.aloadN X0.here hx rfl (hb hby d6_0) rfl rfl k_) ?_
  show OwnGo p e below s _ _ _ (s₁.setTop (mkF m 1 #[.val (.ref a)] [(.ref a)]))
  obtain ⟨_, _, ⟨T1, L1, k1, n1⟩, -, X1, ⟨Lc1, hQ1, l1, y1, z1⟩, st1⟩ := X0.specialBack hx (y := (⟨"java/util/AbstractList", "<init>", "()V"⟩ : MethodName)) rfl hown (mvT hZ (w32 hw)) (mvT hZ (w33 hw)) (mvT hZ (w37 hw)) (by decide) (backOf (W := 0) (rm7 l Z a0 hw [] a u (.int (0 : Int32)) u'' h0 n0 Z0 P0 P1 P2 P3 P4) hZ (w37 hw) (w36 hw) (by decide) (by decide)) (g := (mkF m 1 #[.val (.ref a)] [(.ref a)])) rfl (by rw [hml]; rfl) (Steps.refl _) (a := a) (argsL := []) (rest := []) (lenOf pd_0 rfl) rfl (by show 2 * 0 + _ ≤ _; exact Nat.le_of_eq rfl) (hb hby d6_1) (fun _ hWx => ⟨rfl, e0, (by decide : 0 + 0 ≤ _), (by decide : 0 + 0 ≤ _)⟩)
  dsimp only [Pt.U, Pt.locs, Pt.cells, Pt.slots] at X1 l1 y1 z1 st1 hQ1
  replace X1 := own_num (c' := 0) (n' := 0) X1 l1 (y1.trans rfl) (z1.trans rfl)
  obtain ⟨rfl, N1q, K1q, c1_0, c1_1, c1_2, c1_3⟩ := hQ1
  have N1 := Fr.app N0 N1q
  have Z1 : n0 ≤ T1.heap.size := Nat.le_trans Z0 K1q.1
  have K1 : Keep h0 T1.heap [a] := K0.trans K1q (allS (P := fun x => x ∈ [a] ∨ h0.size ≤ x) (Or.inl (List.mem_of_getElem? (i := 0) rfl)) all0)
  refine own_tr st1 ?_
  show OwnGo p e below s _ _ _ (T1.setTop (mkF m 4 #[.val (.ref a)] []))
  refine own_on (fun t_ k_ => XS.aloadN X1.here hx rfl (hb hby d6_4) rfl rfl k_) ?_
  show OwnGo p e below s _ _ _ (T1.setTop (mkF m 5 #[.val (.ref a)] [(.ref a)]))
  have f2 : Old Z n0 T1.heap := P5.keep K1q (allS P4 all0)
  obtain ⟨T3, X3, e3, st3⟩ := getS2 X1 hx hZ hown (host := "") (Or.inl (w47 hw)) Via.refl rfl (P6.ext f2.2) (g := (mkF m 5 #[.val (.ref a)] [(.ref a)])) rfl (hb hby d6_5)
  refine own_on st3 ?_
  show OwnGo p e below s _ _ _ (T3.setTop (mkF m 8 #[.val (.ref a)] [(.ref dc), (.ref a)]))
  obtain ⟨T4, h4, X4, e4, W4, st4⟩ := putF X3 hx hZ hown (host := "") (Or.inl (w48 hw)) Via.refl e3 c1_1 c1_0 (Or.inl (w49 hw)) (w27 hw) (ty := (.array (.object "java/lang/Object"))) (by decide) rfl rfl (g := (mkF m 8 #[.val (.ref a)] [(.ref dc), (.ref a)])) rfl rfl (hb hby d6_8)
  have F4 := c1_1.same W4
  have N4 := Fr.snoc X4 N1 P4
  have Z4 : n0 ≤ h4.size := Nat.le_trans Z1 (Keep.of_wr W4).1
  have K4 : Keep h0 h4 [a] := K1.wr W4 (Or.inl (List.mem_of_getElem? (i := 0) rfl))
  refine own_on st4 ?_
  show OwnGo p e below s _ _ _ (T4.setTop (mkF m 11 #[.val (.ref a)] []))
  have f5 : Fld Z h4 a "java/util/ArrayList" "size" "I" (.int (0 : Int32)) := c1_2.other W4 (Or.inr (slot_ne (Or.inl (w89 hw)) (Or.inl (w49 hw)) (by decide) (t := .int) (t' := (.array (.object "java/lang/Object"))) (by decide) (by decide)))
  have f6 : Fld Z h4 a "java/util/ArrayList" "size" "I" (.int (own_n own_nil)) := f5
  have f7 : Old Z n0 h4 := f2.wr W4 P4
  have f8 : OwnA Z h4 dc 0 own_nil := P7.ext f7.2
  have f9 : Exa Z h4 a "java/util/ArrayList" := c1_0.wr W4
  have f10 : Fld Z h4 a "java/util/AbstractList" "modCount" "I" (.int (0 : Int32)) := c1_3.other W4 (Or.inr (slot_ne (Or.inl (w46 hw)) (Or.inl (w49 hw)) (by decide) (t := .int) (t' := (.array (.object "java/lang/Object"))) (by decide) (by decide)))
  exact own_retV X4 hx hlk Bd.returns (hb hby d6_11) e4 ⟨rfl, N4, K4, f9, F4, f6, f10, f8, f7⟩ (by decide) (by decide)
theorem ef_16 (m : MethodId) (nx : Nat) (ny : Nat)  : entryFrame m #[(.int (Int32.ofNat nx)), (.int (Int32.ofNat ny))] 2 = mkF m 0 #[.val (.int (Int32.ofNat nx)), .val (.int (Int32.ofNat ny))] [] := by first | (simp [entryFrame, mkF, argsToLocals, Value.category]; done) | rfl
def Q16 (Z : State) (nx : Nat) (ny : Nat) (h0 : Heap) (n0 : Nat) (v_ : Option Value) (h_ : Heap) (L_ : List Loc) : Prop := v_ = some (.int (Int32.ofNat (min nx ny))) ∧ Fr n0 L_ ∧ h_ = h0
set_option maxRecDepth 65536 in
set_option maxHeartbeats 40000000 in
theorem rm16 (l : Launch) (Z : State) (a0 : Array Value) (hw : ∀ d ∈ tables_1, d.before a0 Z = true) (ws : List Jvm.Cond) (nx : Nat) (ny : Nat) (h0 : Heap) (n0 : Nat) (Z0 : n0 ≤ h0.size) (P0 : nx ≤ 20) (P1 : ny ≤ 20) :
    MetFree l (⟨"java/lang/Math", "min", "(II)I"⟩ : MethodName) (head1 (Jvm.Cond.code (⟨"java/lang/Math", "min", "(II)I"⟩ : MethodName) jdk_29_method_69_code 2 (some .int) :: ws) ({ frames := 0, cells := 0, slots := 0, locals := 0 } : Room)) (fun A_ U => A_ = #[(.int (Int32.ofNat nx)), (.int (Int32.ofNat ny))] ∧ Z.Warmed39 U.vm ∧ U.heap = h0) (fun _ _ _ _ _ => True) (fun _ U_ o_ U'_ => ∃ v_ L_, o_ = .returned v_ ∧ Q16 Z nx ny h0 n0 v_ U'_.heap L_ ∧ FrameEnd U_ o_ U'_ L_ ({ frames := 0, cells := 0, slots := 0, locals := 0 } : Room).cells ({ frames := 0, cells := 0, slots := 0, locals := 0 } : Room).slots) := by
  refine MetFree.of_bodySF (by decide +kernel) hisR ?_
  intro p e s m args below meth c s₁ Bd hml0 hP hK
  obtain ⟨rfl, hZ, hh⟩ := hP
  have hx := Bd.exec
  have hby := Bd.bytes
  have hml : c.maxLocals = 2 := hml0
  have hown : s.vm.findClass "java/lang/Math" = some m.cls := findClass_of_methodNamed Bd.named
  have hnm := (name_of_methodNamed Bd.named Bd.method).1
  have hlk : meth.locks = false := Bd.notSynchronized
  have X0 : Stand p l e ({ frames := 0, cells := 0, slots := 0, locals := 0 } : Room) s m #[(.int (Int32.ofNat nx)), (.int (Int32.ofNat ny))] below meth c s₁ [] 0 0 := Stand.of_body Bd
  have e0 : s₁.heap = h0 := by rw [← hh, Bd.state]; rfl
  have N0 := Fr.nil n0
  have K0 : Keep h0 h0 [] := Keep.refl _ _
  refine own_cast (ef_16 m nx ny) ?_
  show OwnGo p e below s (Q16 Z nx ny h0 n0) ({ frames := 0, cells := 0, slots := 0, locals := 0 } : Room).cells ({ frames := 0, cells := 0, slots := 0, locals := 0 } : Room).slots (s₁.setTop (mkF m 0 #[.val (.int (Int32.ofNat nx)), .val (.int (Int32.ofNat ny))] []))
  refine own_on (fun t_ k_ => XS.iloadN X0.here hx rfl (hb hby d16_0) rfl k_) ?_
  show OwnGo p e below s _ _ _ (s₁.setTop (mkF m 1 #[.val (.int (Int32.ofNat nx)), .val (.int (Int32.ofNat ny))] [(.int (Int32.ofNat nx))]))
  refine own_on (fun t_ k_ => XS.iloadN X0.here hx rfl (hb hby d16_1) rfl k_) ?_
  show OwnGo p e below s _ _ _ (s₁.setTop (mkF m 2 #[.val (.int (Int32.ofNat nx)), .val (.int (Int32.ofNat ny))] [(.int (Int32.ofNat ny)), (.int (Int32.ofNat nx))]))
  by_cases q0 : (Int32.ofNat ny) < (Int32.ofNat nx)
  · refine own_on (fun t_ k_ => XS.icmpYes X0.here hx rfl (pc0 := 2) (pc' := 9) rfl (hb hby d16_2) rfl (tlt q0).2.2.1 (by decide) (by decide) k_) ?_
    show OwnGo p e below s _ _ _ (s₁.setTop (mkF m 9 #[.val (.int (Int32.ofNat nx)), .val (.int (Int32.ofNat ny))] []))
    rw [own_lt' (by omega) (by omega)] at q0
    refine own_on (fun t_ k_ => XS.iloadN X0.here hx rfl (hb hby d16_9) rfl k_) ?_
    show OwnGo p e below s _ _ _ (s₁.setTop (mkF m 10 #[.val (.int (Int32.ofNat nx)), .val (.int (Int32.ofNat ny))] [(.int (Int32.ofNat ny))]))
    exact own_retI X0 hx hlk Bd.returns (hb hby d16_10) e0 ⟨(congrArg (fun z => some (Value.int (Int32.ofNat z))) (by omega)), N0, rfl⟩ (by decide) (by decide)
  · refine own_on (fun t_ k_ => XS.icmpNo X0.here hx rfl (hb hby d16_2) rfl (flt q0).2.2.1 k_) ?_
    show OwnGo p e below s _ _ _ (s₁.setTop (mkF m 5 #[.val (.int (Int32.ofNat nx)), .val (.int (Int32.ofNat ny))] []))
    rw [own_lt' (by omega) (by omega)] at q0
    refine own_on (fun t_ k_ => XS.iloadN X0.here hx rfl (hb hby d16_5) rfl k_) ?_
    show OwnGo p e below s _ _ _ (s₁.setTop (mkF m 6 #[.val (.int (Int32.ofNat nx)), .val (.int (Int32.ofNat ny))] [(.int (Int32.ofNat nx))]))
    refine own_on (fun t_ k_ => XS.goto X0.here hx rfl (pc0 := 6) (pc' := 10) rfl (hb hby d16_6) (by decide) (by decide) k_) ?_
    show OwnGo p e below s _ _ _ (s₁.setTop (mkF m 10 #[.val (.int (Int32.ofNat nx)), .val (.int (Int32.ofNat ny))] [(.int (Int32.ofNat nx))]))
    exact own_retI X0 hx hlk Bd.returns (hb hby d16_10) e0 ⟨(congrArg (fun z => some (Value.int (Int32.ofNat z))) (by omega)), N0, rfl⟩ (by decide) (by decide)
theorem ef_24 (m : MethodId) (nx : Nat) (ny : Nat)  : entryFrame m #[(.int (Int32.ofNat nx)), (.int (Int32.ofNat ny))] 2 = mkF m 0 #[.val (.int (Int32.ofNat nx)), .val (.int (Int32.ofNat ny))] [] := by first | (simp [entryFrame, mkF, argsToLocals, Value.category]; done) | rfl
def Q24 (Z : State) (nx : Nat) (ny : Nat) (h0 : Heap) (n0 : Nat) (v_ : Option Value) (h_ : Heap) (L_ : List Loc) : Prop := v_ = some (.int (Int32.ofNat (max nx ny))) ∧ Fr n0 L_ ∧ h_ = h0
set_option maxRecDepth 65536 in
set_option maxHeartbeats 40000000 in
theorem rm24 (l : Launch) (Z : State) (a0 : Array Value) (hw : ∀ d ∈ tables_1, d.before a0 Z = true) (ws : List Jvm.Cond) (nx : Nat) (ny : Nat) (h0 : Heap) (n0 : Nat) (Z0 : n0 ≤ h0.size) (P0 : nx ≤ 20) (P1 : ny ≤ 20) :
    MetFree l (⟨"java/lang/Math", "max", "(II)I"⟩ : MethodName) (head1 (Jvm.Cond.code (⟨"java/lang/Math", "max", "(II)I"⟩ : MethodName) jdk_29_method_65_code 2 (some .int) :: ws) ({ frames := 0, cells := 0, slots := 0, locals := 0 } : Room)) (fun A_ U => A_ = #[(.int (Int32.ofNat nx)), (.int (Int32.ofNat ny))] ∧ Z.Warmed39 U.vm ∧ U.heap = h0) (fun _ _ _ _ _ => True) (fun _ U_ o_ U'_ => ∃ v_ L_, o_ = .returned v_ ∧ Q24 Z nx ny h0 n0 v_ U'_.heap L_ ∧ FrameEnd U_ o_ U'_ L_ ({ frames := 0, cells := 0, slots := 0, locals := 0 } : Room).cells ({ frames := 0, cells := 0, slots := 0, locals := 0 } : Room).slots) := by
  refine MetFree.of_bodySF (by decide +kernel) hisR ?_
  intro p e s m args below meth c s₁ Bd hml0 hP hK
  obtain ⟨rfl, hZ, hh⟩ := hP
  have hx := Bd.exec
  have hby := Bd.bytes
  have hml : c.maxLocals = 2 := hml0
  have hown : s.vm.findClass "java/lang/Math" = some m.cls := findClass_of_methodNamed Bd.named
  have hnm := (name_of_methodNamed Bd.named Bd.method).1
  have hlk : meth.locks = false := Bd.notSynchronized
  have X0 : Stand p l e ({ frames := 0, cells := 0, slots := 0, locals := 0 } : Room) s m #[(.int (Int32.ofNat nx)), (.int (Int32.ofNat ny))] below meth c s₁ [] 0 0 := Stand.of_body Bd
  have e0 : s₁.heap = h0 := by rw [← hh, Bd.state]; rfl
  have N0 := Fr.nil n0
  have K0 : Keep h0 h0 [] := Keep.refl _ _
  refine own_cast (ef_24 m nx ny) ?_
  show OwnGo p e below s (Q24 Z nx ny h0 n0) ({ frames := 0, cells := 0, slots := 0, locals := 0 } : Room).cells ({ frames := 0, cells := 0, slots := 0, locals := 0 } : Room).slots (s₁.setTop (mkF m 0 #[.val (.int (Int32.ofNat nx)), .val (.int (Int32.ofNat ny))] []))
  refine own_on (fun t_ k_ => XS.iloadN X0.here hx rfl (hb hby d24_0) rfl k_) ?_
  show OwnGo p e below s _ _ _ (s₁.setTop (mkF m 1 #[.val (.int (Int32.ofNat nx)), .val (.int (Int32.ofNat ny))] [(.int (Int32.ofNat nx))]))
  refine own_on (fun t_ k_ => XS.iloadN X0.here hx rfl (hb hby d24_1) rfl k_) ?_
  show OwnGo p e below s _ _ _ (s₁.setTop (mkF m 2 #[.val (.int (Int32.ofNat nx)), .val (.int (Int32.ofNat ny))] [(.int (Int32.ofNat ny)), (.int (Int32.ofNat nx))]))
  by_cases q0 : (Int32.ofNat nx) < (Int32.ofNat ny)
  · refine own_on (fun t_ k_ => XS.icmpYes X0.here hx rfl (pc0 := 2) (pc' := 9) rfl (hb hby d24_2) rfl (tlt q0).1 (by decide) (by decide) k_) ?_
    show OwnGo p e below s _ _ _ (s₁.setTop (mkF m 9 #[.val (.int (Int32.ofNat nx)), .val (.int (Int32.ofNat ny))] []))
    rw [own_lt' (by omega) (by omega)] at q0
    refine own_on (fun t_ k_ => XS.iloadN X0.here hx rfl (hb hby d24_9) rfl k_) ?_
    show OwnGo p e below s _ _ _ (s₁.setTop (mkF m 10 #[.val (.int (Int32.ofNat nx)), .val (.int (Int32.ofNat ny))] [(.int (Int32.ofNat ny))]))
    exact own_retI X0 hx hlk Bd.returns (hb hby d24_10) e0 ⟨(congrArg (fun z => some (Value.int (Int32.ofNat z))) (by omega)), N0, rfl⟩ (by decide) (by decide)
  · refine own_on (fun t_ k_ => XS.icmpNo X0.here hx rfl (hb hby d24_2) rfl (flt q0).1 k_) ?_
    show OwnGo p e below s _ _ _ (s₁.setTop (mkF m 5 #[.val (.int (Int32.ofNat nx)), .val (.int (Int32.ofNat ny))] []))
    rw [own_lt' (by omega) (by omega)] at q0
    refine own_on (fun t_ k_ => XS.iloadN X0.here hx rfl (hb hby d24_5) rfl k_) ?_
    show OwnGo p e below s _ _ _ (s₁.setTop (mkF m 6 #[.val (.int (Int32.ofNat nx)), .val (.int (Int32.ofNat ny))] [(.int (Int32.ofNat nx))]))
    refine own_on (fun t_ k_ => XS.goto X0.here hx rfl (pc0 := 6) (pc' := 10) rfl (hb hby d24_6) (by decide) (by decide) k_) ?_
    show OwnGo p e below s _ _ _ (s₁.setTop (mkF m 10 #[.val (.int (Int32.ofNat nx)), .val (.int (Int32.ofNat ny))] [(.int (Int32.ofNat nx))]))
    exact own_retI X0 hx hlk Bd.returns (hb hby d24_10) e0 ⟨(congrArg (fun z => some (Value.int (Int32.ofNat z))) (by omega)), N0, rfl⟩ (by decide) (by decide)
theorem ef_30 (m : MethodId) (nx : Nat) (ny : Nat) (nz : Nat)  : entryFrame m #[(.int (Int32.ofNat nx)), (.int (Int32.ofNat ny)), (.int (Int32.ofNat nz))] 4 = mkF m 0 #[.val (.int (Int32.ofNat nx)), .val (.int (Int32.ofNat ny)), .val (.int (Int32.ofNat nz)), .unset] [] := by first | (simp [entryFrame, mkF, argsToLocals, Value.category]; done) | rfl
def Q30 (Z : State) (nx : Nat) (ny : Nat) (nz : Nat) (h0 : Heap) (n0 : Nat) (v_ : Option Value) (h_ : Heap) (L_ : List Loc) : Prop := v_ = some (.int (Int32.ofNat (nx + max ny nz))) ∧ Fr n0 L_ ∧ h_ = h0
set_option maxRecDepth 65536 in
set_option maxHeartbeats 40000000 in
theorem rm30 (l : Launch) (Z : State) (a0 : Array Value) (hw : ∀ d ∈ tables_1, d.before a0 Z = true) (ws : List Jvm.Cond) (nx : Nat) (ny : Nat) (nz : Nat) (h0 : Heap) (n0 : Nat) (Z0 : n0 ≤ h0.size) (P0 : nx ≤ 10) (P1 : ny ≤ 10) (P2 : nz ≤ 10) (P3 : 0 < ny) :
    MetFree l (⟨"jdk/internal/util/ArraysSupport", "newLength", "(III)I"⟩ : MethodName) (head1 (Jvm.Cond.code (⟨"jdk/internal/util/ArraysSupport", "newLength", "(III)I"⟩ : MethodName) jdk_48_method_27_code 4 (some .int) :: ws) ({ frames := 1, cells := 0, slots := 0, locals := 14 } : Room)) (fun A_ U => A_ = #[(.int (Int32.ofNat nx)), (.int (Int32.ofNat ny)), (.int (Int32.ofNat nz))] ∧ Z.Warmed39 U.vm ∧ U.heap = h0) (fun _ _ _ _ _ => True) (fun _ U_ o_ U'_ => ∃ v_ L_, o_ = .returned v_ ∧ Q30 Z nx ny nz h0 n0 v_ U'_.heap L_ ∧ FrameEnd U_ o_ U'_ L_ ({ frames := 1, cells := 0, slots := 0, locals := 14 } : Room).cells ({ frames := 1, cells := 0, slots := 0, locals := 14 } : Room).slots) := by
  refine MetFree.of_bodySF (plainFor_of_name pn_3) hisR ?_
  intro p e s m args below meth c s₁ Bd hml0 hP hK
  obtain ⟨rfl, hZ, hh⟩ := hP
  have hx := Bd.exec
  have hby := Bd.bytes
  have hml : c.maxLocals = 4 := hml0
  have hown : s.vm.findClass "jdk/internal/util/ArraysSupport" = some m.cls := findClass_of_methodNamed Bd.named
  have hnm := (name_of_methodNamed Bd.named Bd.method).1
  have hlk : meth.locks = false := Bd.notSynchronized
  have X0 : Stand p l e ({ frames := 1, cells := 0, slots := 0, locals := 14 } : Room) s m #[(.int (Int32.ofNat nx)), (.int (Int32.ofNat ny)), (.int (Int32.ofNat nz))] below meth c s₁ [] 0 0 := Stand.of_body Bd
  have e0 : s₁.heap = h0 := by rw [← hh, Bd.state]; rfl
  have N0 := Fr.nil n0
  have K0 : Keep h0 h0 [] := Keep.refl _ _
  refine own_cast (ef_30 m nx ny nz) ?_
  show OwnGo p e below s (Q30 Z nx ny nz h0 n0) ({ frames := 1, cells := 0, slots := 0, locals := 14 } : Room).cells ({ frames := 1, cells := 0, slots := 0, locals := 14 } : Room).slots (s₁.setTop (mkF m 0 #[.val (.int (Int32.ofNat nx)), .val (.int (Int32.ofNat ny)), .val (.int (Int32.ofNat nz)), .unset] []))
  refine own_on (fun t_ k_ => XS.iloadN X0.here hx rfl (hb hby d30_0) rfl k_) ?_
  show OwnGo p e below s _ _ _ (s₁.setTop (mkF m 1 #[.val (.int (Int32.ofNat nx)), .val (.int (Int32.ofNat ny)), .val (.int (Int32.ofNat nz)), .unset] [(.int (Int32.ofNat nx))]))
  refine own_on (fun t_ k_ => XS.iloadN X0.here hx rfl (hb hby d30_1) rfl k_) ?_
  show OwnGo p e below s _ _ _ (s₁.setTop (mkF m 2 #[.val (.int (Int32.ofNat nx)), .val (.int (Int32.ofNat ny)), .val (.int (Int32.ofNat nz)), .unset] [(.int (Int32.ofNat ny)), (.int (Int32.ofNat nx))]))
  refine own_on (fun t_ k_ => XS.iloadN X0.here hx rfl (hb hby d30_2) rfl k_) ?_
  show OwnGo p e below s _ _ _ (s₁.setTop (mkF m 3 #[.val (.int (Int32.ofNat nx)), .val (.int (Int32.ofNat ny)), .val (.int (Int32.ofNat nz)), .unset] [(.int (Int32.ofNat nz)), (.int (Int32.ofNat ny)), (.int (Int32.ofNat nx))]))
  obtain ⟨_, _, ⟨T1, L1, k1, n1⟩, -, X1, ⟨Lc1, hQ1, l1, y1, z1⟩, st1⟩ := Jvm.LawKit.callS X0 hx (y := (⟨"java/lang/Math", "max", "(II)I"⟩ : MethodName)) hown (mvT hZ (w200 hw)) (mvT hZ (w159 hw)) (mvT hZ (w108 hw)) (mvT hZ (w160 hw)) (by decide) (backOf (W := 1) (rm24 l Z a0 hw [] ny nz h0 n0 Z0 (by omega : ny ≤ 20) (by omega : nz ≤ 20)) hZ (w160 hw) (w108 hw) (by decide) (by decide)) (g := (mkF m 3 #[.val (.int (Int32.ofNat nx)), .val (.int (Int32.ofNat ny)), .val (.int (Int32.ofNat nz)), .unset] [(.int (Int32.ofNat nz)), (.int (Int32.ofNat ny)), (.int (Int32.ofNat nx))])) rfl (by rw [hml]; rfl) (argsL := [(.int (Int32.ofNat ny)), (.int (Int32.ofNat nz))]) (rest := [(.int (Int32.ofNat nx))]) (lenOf pd_1 rfl) rfl (by show 2 * 0 + _ ≤ _; exact Nat.le_of_eq rfl) (hb hby d30_3) (fun _ hWx => ⟨rfl, e0, (by decide : 0 + 0 ≤ _), (by decide : 0 + 0 ≤ _)⟩)
  dsimp only [Pt.U, Pt.locs, Pt.cells, Pt.slots] at X1 l1 y1 z1 st1 hQ1
  replace X1 := own_num (c' := 0) (n' := 0) X1 l1 (y1.trans rfl) (z1.trans rfl)
  obtain ⟨rfl, N1q, e1⟩ := hQ1
  have N1 := Fr.app N0 N1q
  refine own_on st1 ?_
  show OwnGo p e below s _ _ _ (T1.setTop (mkF m 6 #[.val (.int (Int32.ofNat nx)), .val (.int (Int32.ofNat ny)), .val (.int (Int32.ofNat nz)), .unset] [(.int (Int32.ofNat (max ny nz))), (.int (Int32.ofNat nx))]))
  refine own_on (fun t_ k_ => XS.iadd X1.here hx rfl (hb hby d30_6) rfl k_) ?_
  show OwnGo p e below s _ _ _ (T1.setTop (mkF m 7 #[.val (.int (Int32.ofNat nx)), .val (.int (Int32.ofNat ny)), .val (.int (Int32.ofNat nz)), .unset] [(.int ((Int32.ofNat nx) + (Int32.ofNat (max ny nz))))]))
  rw [show ((Int32.ofNat nx) + (Int32.ofNat (max ny nz))) = (Int32.ofNat (nx + max ny nz)) from own_add' _ _]
  show OwnGo p e below s _ _ _ (T1.setTop (mkF m 7 #[.val (.int (Int32.ofNat nx)), .val (.int (Int32.ofNat ny)), .val (.int (Int32.ofNat nz)), .unset] [(.int (Int32.ofNat (nx + max ny nz)))]))
  refine own_on (fun t_ k_ => XS.istoreN X1.here hx rfl (hb hby d30_7) rfl (l' := #[.val (.int (Int32.ofNat nx)), .val (.int (Int32.ofNat ny)), .val (.int (Int32.ofNat nz)), .val (.int (Int32.ofNat (nx + max ny nz)))]) rfl k_) ?_
  show OwnGo p e below s _ _ _ (T1.setTop (mkF m 8 #[.val (.int (Int32.ofNat nx)), .val (.int (Int32.ofNat ny)), .val (.int (Int32.ofNat nz)), .val (.int (Int32.ofNat (nx + max ny nz)))] []))
  refine own_on (fun t_ k_ => XS.iconst X1.here hx rfl (hb hby d30_8) k_) ?_
  show OwnGo p e below s _ _ _ (T1.setTop (mkF m 9 #[.val (.int (Int32.ofNat nx)), .val (.int (Int32.ofNat ny)), .val (.int (Int32.ofNat nz)), .val (.int (Int32.ofNat (nx + max ny nz)))] [(.int (0 : Int32))]))
  refine own_on (fun t_ k_ => XS.iloadN X1.here hx rfl (hb hby d30_9) rfl k_) ?_
  show OwnGo p e below s _ _ _ (T1.setTop (mkF m 10 #[.val (.int (Int32.ofNat nx)), .val (.int (Int32.ofNat ny)), .val (.int (Int32.ofNat nz)), .val (.int (Int32.ofNat (nx + max ny nz)))] [(.int (Int32.ofNat (nx + max ny nz))), (.int (0 : Int32))]))
  refine own_on (fun t_ k_ => XS.icmpNo X1.here hx rfl (hb hby d30_10) rfl (tlt (by rw [show (0 : Int32) = Int32.ofNat 0 from rfl, own_lt' (by omega) (by omega)]; omega)).2.1 k_) ?_
  show OwnGo p e below s _ _ _ (T1.setTop (mkF m 13 #[.val (.int (Int32.ofNat nx)), .val (.int (Int32.ofNat ny)), .val (.int (Int32.ofNat nz)), .val (.int (Int32.ofNat (nx + max ny nz)))] []))
  refine own_on (fun t_ k_ => XS.iloadN X1.here hx rfl (hb hby d30_13) rfl k_) ?_
  show OwnGo p e below s _ _ _ (T1.setTop (mkF m 14 #[.val (.int (Int32.ofNat nx)), .val (.int (Int32.ofNat ny)), .val (.int (Int32.ofNat nz)), .val (.int (Int32.ofNat (nx + max ny nz)))] [(.int (Int32.ofNat (nx + max ny nz)))]))
  refine own_on (X1.ldcInt hx hown (mvT hZ (w201 hw)) (g := (mkF m 14 #[.val (.int (Int32.ofNat nx)), .val (.int (Int32.ofNat ny)), .val (.int (Int32.ofNat nz)), .val (.int (Int32.ofNat (nx + max ny nz)))] [(.int (Int32.ofNat (nx + max ny nz)))])) rfl (hb hby d30_14)) ?_
  show OwnGo p e below s _ _ _ (T1.setTop (mkF m 16 #[.val (.int (Int32.ofNat nx)), .val (.int (Int32.ofNat ny)), .val (.int (Int32.ofNat nz)), .val (.int (Int32.ofNat (nx + max ny nz)))] [(.int (2147483639 : Int32)), (.int (Int32.ofNat (nx + max ny nz)))]))
  refine own_on (fun t_ k_ => XS.icmpNo X1.here hx rfl (hb hby d30_16) rfl (flt (by rw [show (2147483639 : Int32) = Int32.ofNat 2147483639 from rfl, own_lt' (by omega) (by omega)]; omega)).2.2.1 k_) ?_
  show OwnGo p e below s _ _ _ (T1.setTop (mkF m 19 #[.val (.int (Int32.ofNat nx)), .val (.int (Int32.ofNat ny)), .val (.int (Int32.ofNat nz)), .val (.int (Int32.ofNat (nx + max ny nz)))] []))
  refine own_on (fun t_ k_ => XS.iloadN X1.here hx rfl (hb hby d30_19) rfl k_) ?_
  show OwnGo p e below s _ _ _ (T1.setTop (mkF m 20 #[.val (.int (Int32.ofNat nx)), .val (.int (Int32.ofNat ny)), .val (.int (Int32.ofNat nz)), .val (.int (Int32.ofNat (nx + max ny nz)))] [(.int (Int32.ofNat (nx + max ny nz)))]))
  exact own_retI X1 hx hlk Bd.returns (hb hby d30_20) e1 ⟨rfl, N1, rfl⟩ (by decide) (by decide)
theorem ef_15 (m : MethodId) (a : Addr) (nn : Nat) (mr : Addr)  : entryFrame m #[(.ref a), (.int (Int32.ofNat nn)), (.ref mr)] 4 = mkF m 0 #[.val (.ref a), .val (.int (Int32.ofNat nn)), .val (.ref mr), .unset] [] := by first | (simp [entryFrame, mkF, argsToLocals, Value.category]; done) | rfl
def Q15 (Z : State) (a : Addr) (nn : Nat) (mr : Addr) (cap : Nat) (es : List Addr) (h0 : Heap) (n0 : Nat) (v_ : Option Value) (h_ : Heap) (L_ : List Loc) : Prop := ∃ r : Addr, v_ = some (.ref r) ∧ Fr n0 L_ ∧ Keep h0 h_ [] ∧ (OwnA Z h_ r nn es) ∧ (n0 ≤ r) ∧ (h0.size ≤ r)
set_option maxRecDepth 65536 in
set_option maxHeartbeats 40000000 in
theorem rm15 (l : Launch) (Z : State) (a0 : Array Value) (hw : ∀ d ∈ tables_1, d.before a0 Z = true) (ws : List Jvm.Cond) (a : Addr) (nn : Nat) (mr : Addr) (cap : Nat) (es : List Addr) (h0 : Heap) (n0 : Nat) (Z0 : n0 ≤ h0.size) (P0 : OwnA Z h0 a cap es) (P1 : OwnE Z h0 es) (P2 : OwnM Z "[Ljava/lang/Object;" mr) (P3 : es.length ≤ nn) (P4 : nn ≤ 10) :
    MetFree l (⟨"java/util/Arrays", "copyOf", "([Ljava/lang/Object;ILjava/lang/Class;)[Ljava/lang/Object;"⟩ : MethodName) (head1 (Jvm.Cond.code (⟨"java/util/Arrays", "copyOf", "([Ljava/lang/Object;ILjava/lang/Class;)[Ljava/lang/Object;"⟩ : MethodName) jdk_65_method_120_code 4 (some (.array (.object "java/lang/Object"))) :: ws) ({ frames := 1, cells := 1, slots := 10, locals := 18 } : Room)) (fun A_ U => A_ = #[(.ref a), (.int (Int32.ofNat nn)), (.ref mr)] ∧ Z.Warmed39 U.vm ∧ U.heap = h0) (fun _ _ _ _ _ => True) (fun _ U_ o_ U'_ => ∃ v_ L_, o_ = .returned v_ ∧ Q15 Z a nn mr cap es h0 n0 v_ U'_.heap L_ ∧ FrameEnd U_ o_ U'_ L_ ({ frames := 1, cells := 1, slots := 10, locals := 18 } : Room).cells ({ frames := 1, cells := 1, slots := 10, locals := 18 } : Room).slots) := by
  refine MetFree.of_bodySF (plainFor_of_name pn_4) hisR ?_
  intro p e s m args below meth c s₁ Bd hml0 hP hK
  obtain ⟨rfl, hZ, hh⟩ := hP
  have hx := Bd.exec
  have hby := Bd.bytes
  have hml : c.maxLocals = 4 := hml0
  have hown : s.vm.findClass "java/util/Arrays" = some m.cls := findClass_of_methodNamed Bd.named
  have hnm := (name_of_methodNamed Bd.named Bd.method).1
  have hlk : meth.locks = false := Bd.notSynchronized
  have X0 : Stand p l e ({ frames := 1, cells := 1, slots := 10, locals := 18 } : Room) s m #[(.ref a), (.int (Int32.ofNat nn)), (.ref mr)] below meth c s₁ [] 0 0 := Stand.of_body Bd
  have e0 : s₁.heap = h0 := by rw [← hh, Bd.state]; rfl
  have N0 := Fr.nil n0
  have K0 : Keep h0 h0 [] := Keep.refl _ _
  refine own_cast (ef_15 m a nn mr) ?_
  show OwnGo p e below s (Q15 Z a nn mr cap es h0 n0) ({ frames := 1, cells := 1, slots := 10, locals := 18 } : Room).cells ({ frames := 1, cells := 1, slots := 10, locals := 18 } : Room).slots (s₁.setTop (mkF m 0 #[.val (.ref a), .val (.int (Int32.ofNat nn)), .val (.ref mr), .unset] []))
  have hl1a := P0.1
  have hl1b := P0.2.1
  refine own_on (fun t_ k_ => XS.aloadN X0.here hx rfl (hb hby d15_0) rfl rfl k_) ?_
  show OwnGo p e below s _ _ _ (s₁.setTop (mkF m 1 #[.val (.ref a), .val (.int (Int32.ofNat nn)), .val (.ref mr), .unset] [(.ref mr)]))
  obtain ⟨T2, X2, e2, st2⟩ := own_ldcM X0 hx hZ hown (w103 hw) P2 e0 (g := (mkF m 1 #[.val (.ref a), .val (.int (Int32.ofNat nn)), .val (.ref mr), .unset] [(.ref mr)])) rfl (hb hby d15_1)
  refine own_on st2 ?_
  show OwnGo p e below s _ _ _ (T2.setTop (mkF m 3 #[.val (.ref a), .val (.int (Int32.ofNat nn)), .val (.ref mr), .unset] [(.ref mr), (.ref mr)]))
  refine own_on (fun t_ k_ => Jvm.RoadKit.acmp (g := (mkF m 3 #[.val (.ref a), .val (.int (Int32.ofNat nn)), .val (.ref mr), .unset] [(.ref mr), (.ref mr)])) X2 hx rfl rfl rfl (pc0 := 3) (pc' := 6) (same := true) rfl (hb hby d15_3) rfl (decide_eq_true rfl) (by decide) (by decide) k_) ?_
  show OwnGo p e below s _ _ _ (T2.setTop (mkF m 6 #[.val (.ref a), .val (.int (Int32.ofNat nn)), .val (.ref mr), .unset] []))
  refine own_on (fun t_ k_ => XS.iloadN X2.here hx rfl (hb hby d15_6) rfl k_) ?_
  show OwnGo p e below s _ _ _ (T2.setTop (mkF m 7 #[.val (.ref a), .val (.int (Int32.ofNat nn)), .val (.ref mr), .unset] [(.int (Int32.ofNat nn))]))
  obtain ⟨T3, h3, X3, e3, E3, A3, st3⟩ := own_newA (N := nn) X2 hx hZ hown (w104 hw) (w105 hw) e2 (g := (mkF m 7 #[.val (.ref a), .val (.int (Int32.ofNat nn)), .val (.ref mr), .unset] [(.int (Int32.ofNat nn))])) rfl (hb hby d15_7) rfl (by omega) (by decide) (by decide)
  obtain ⟨b3, g3⟩ : ∃ z, z = h0.size := ⟨_, rfl⟩
  rw [← g3] at A3 st3
  have ne4' : a < b3 := Nat.lt_of_lt_of_le P0.lt (Nat.le_of_eq g3.symm)
  have ne4 : a ≠ b3 := Nat.ne_of_lt ne4'
  have g5 : n0 ≤ b3 := Nat.le_trans Z0 (Nat.le_of_eq g3.symm)
  have z6 : h0.size ≤ b3 := Nat.le_trans K0.1 (Nat.le_of_eq g3.symm)
  have Z3 : n0 ≤ h3.size := Nat.le_trans Z0 E3.1
  have K3 : Keep h0 h3 [] := K0.ext E3
  refine own_on st3 ?_
  show OwnGo p e below s _ _ _ (T3.setTop (mkF m 10 #[.val (.ref a), .val (.int (Int32.ofNat nn)), .val (.ref mr), .unset] [(.ref b3)]))
  refine own_on (fun t_ k_ => XS.goto X3.here hx rfl (pc0 := 10) (pc' := 24) rfl (hb hby d15_10) (by decide) (by decide) k_) ?_
  show OwnGo p e below s _ _ _ (T3.setTop (mkF m 24 #[.val (.ref a), .val (.int (Int32.ofNat nn)), .val (.ref mr), .unset] [(.ref b3)]))
  refine own_on (fun t_ k_ => XS.astoreN X3.here hx rfl (hb hby d15_24) rfl rfl (l' := #[.val (.ref a), .val (.int (Int32.ofNat nn)), .val (.ref mr), .val (.ref b3)]) rfl k_) ?_
  show OwnGo p e below s _ _ _ (T3.setTop (mkF m 25 #[.val (.ref a), .val (.int (Int32.ofNat nn)), .val (.ref mr), .val (.ref b3)] []))
  refine own_on (fun t_ k_ => XS.aloadN X3.here hx rfl (hb hby d15_25) rfl rfl k_) ?_
  show OwnGo p e below s _ _ _ (T3.setTop (mkF m 26 #[.val (.ref a), .val (.int (Int32.ofNat nn)), .val (.ref mr), .val (.ref b3)] [(.ref a)]))
  refine own_on (fun t_ k_ => XS.iconst X3.here hx rfl (hb hby d15_26) k_) ?_
  show OwnGo p e below s _ _ _ (T3.setTop (mkF m 27 #[.val (.ref a), .val (.int (Int32.ofNat nn)), .val (.ref mr), .val (.ref b3)] [(.int (0 : Int32)), (.ref a)]))
  refine own_on (fun t_ k_ => XS.aloadN X3.here hx rfl (hb hby d15_27) rfl rfl k_) ?_
  show OwnGo p e below s _ _ _ (T3.setTop (mkF m 28 #[.val (.ref a), .val (.int (Int32.ofNat nn)), .val (.ref mr), .val (.ref b3)] [(.ref b3), (.int (0 : Int32)), (.ref a)]))
  refine own_on (fun t_ k_ => XS.iconst X3.here hx rfl (hb hby d15_28) k_) ?_
  show OwnGo p e below s _ _ _ (T3.setTop (mkF m 29 #[.val (.ref a), .val (.int (Int32.ofNat nn)), .val (.ref mr), .val (.ref b3)] [(.int (0 : Int32)), (.ref b3), (.int (0 : Int32)), (.ref a)]))
  refine own_on (fun t_ k_ => XS.aloadN X3.here hx rfl (hb hby d15_29) rfl rfl k_) ?_
  show OwnGo p e below s _ _ _ (T3.setTop (mkF m 30 #[.val (.ref a), .val (.int (Int32.ofNat nn)), .val (.ref mr), .val (.ref b3)] [(.ref a), (.int (0 : Int32)), (.ref b3), (.int (0 : Int32)), (.ref a)]))
  have f7 : OwnA Z h3 a cap es := P0.ext E3
  obtain ⟨A8a, A8b, A8c, kk8, cl8, Ar8, q8, S8, M8, H8, G8⟩ := id f7
  refine own_on (X3.arraylength hx (by rw [e3]; exact Ar8.1) (State.isArrayOf_alike hZ.alike Ar8.2.1) (g := (mkF m 30 #[.val (.ref a), .val (.int (Int32.ofNat nn)), .val (.ref mr), .val (.ref b3)] [(.ref a), (.int (0 : Int32)), (.ref b3), (.int (0 : Int32)), (.ref a)])) rfl rfl (hb hby d15_30)) ?_
  rw [len_of S8 M8]
  show OwnGo p e below s _ _ _ (T3.setTop (mkF m 31 #[.val (.ref a), .val (.int (Int32.ofNat nn)), .val (.ref mr), .val (.ref b3)] [(.int (Int32.ofNat cap)), (.int (0 : Int32)), (.ref b3), (.int (0 : Int32)), (.ref a)]))
  refine own_on (fun t_ k_ => XS.iloadN X3.here hx rfl (hb hby d15_31) rfl k_) ?_
  show OwnGo p e below s _ _ _ (T3.setTop (mkF m 32 #[.val (.ref a), .val (.int (Int32.ofNat nn)), .val (.ref mr), .val (.ref b3)] [(.int (Int32.ofNat nn)), (.int (Int32.ofNat cap)), (.int (0 : Int32)), (.ref b3), (.int (0 : Int32)), (.ref a)]))
  obtain ⟨_, _, ⟨T9, L9, k9, n9⟩, -, X9, ⟨Lc9, hQ9, l9, y9, z9⟩, st9⟩ := Jvm.LawKit.callS X3 hx (y := (⟨"java/lang/Math", "min", "(II)I"⟩ : MethodName)) hown (mvT hZ (w106 hw)) (mvT hZ (w107 hw)) (mvT hZ (w108 hw)) (mvT hZ (w109 hw)) (by decide) (backOf (W := 4) (rm16 l Z a0 hw [] cap nn h3 n0 Z3 (by omega : cap ≤ 20) (by omega : nn ≤ 20)) hZ (w109 hw) (w108 hw) (by decide) (by decide)) (g := (mkF m 32 #[.val (.ref a), .val (.int (Int32.ofNat nn)), .val (.ref mr), .val (.ref b3)] [(.int (Int32.ofNat nn)), (.int (Int32.ofNat cap)), (.int (0 : Int32)), (.ref b3), (.int (0 : Int32)), (.ref a)])) rfl (by rw [hml]; rfl) (argsL := [(.int (Int32.ofNat cap)), (.int (Int32.ofNat nn))]) (rest := [(.int (0 : Int32)), (.ref b3), (.int (0 : Int32)), (.ref a)]) (lenOf pd_1 rfl) rfl (by show 2 * 0 + _ ≤ _; exact Nat.le_of_eq rfl) (hb hby d15_32) (fun _ hWx => ⟨rfl, e3, (by decide : 1 + 0 ≤ _), (by decide : 10 + 0 ≤ _)⟩)
  dsimp only [Pt.U, Pt.locs, Pt.cells, Pt.slots] at X9 l9 y9 z9 st9 hQ9
  replace X9 := own_num (c' := 1) (n' := 10) X9 l9 (y9.trans rfl) (z9.trans rfl)
  obtain ⟨rfl, N9q, e9⟩ := hQ9
  have N9 := Fr.app N0 N9q
  refine own_on st9 ?_
  show OwnGo p e below s _ _ _ (T9.setTop (mkF m 35 #[.val (.ref a), .val (.int (Int32.ofNat nn)), .val (.ref mr), .val (.ref b3)] [(.int (Int32.ofNat (min cap nn))), (.int (0 : Int32)), (.ref b3), (.int (0 : Int32)), (.ref a)]))
  have f10 : OwnE Z h3 es := P1.ext E3
  obtain ⟨T11, h11, L11, X11, e11, N11, K11, A11, st11⟩ := own_cpO (cc := (min cap nn)) (es1 := own_nil) X9 hx hZ hown (w110 hw) (w113 hw) (w111 hw) (w112 hw) (w105 hw) (w162 hw) e9 f7 A3 f10 (sp := (0 : Int32)) (dp := (0 : Int32)) (nn := (Int32.ofNat (min cap nn))) rfl rfl rfl (by omega) (by omega) (by simp; omega) N9 g5 (g := (mkF m 35 #[.val (.ref a), .val (.int (Int32.ofNat nn)), .val (.ref mr), .val (.ref b3)] [(.int (Int32.ofNat (min cap nn))), (.int (0 : Int32)), (.ref b3), (.int (0 : Int32)), (.ref a)])) rfl (by rw [hml]; rfl) (rest := []) rfl (hb hby d15_35) (by decide) (W := 0) (by show 2 * 0 + _ ≤ _; exact Nat.le_of_eq rfl) (by decide)
  have Z11 : n0 ≤ h11.size := Nat.le_trans Z3 K11.1
  have K11x : Keep h0 h11 [] := K3.trans K11 (allS (P := fun x => x ∈ [] ∨ h0.size ≤ x) (Or.inr z6) all0)
  refine own_on st11 ?_
  show OwnGo p e below s _ _ _ (T11.setTop (mkF m 38 #[.val (.ref a), .val (.int (Int32.ofNat nn)), .val (.ref mr), .val (.ref b3)] []))
  have f12 : OwnA Z h11 b3 nn es := A11
  refine own_on (fun t_ k_ => XS.aloadN X11.here hx rfl (hb hby d15_38) rfl rfl k_) ?_
  show OwnGo p e below s _ _ _ (T11.setTop (mkF m 39 #[.val (.ref a), .val (.int (Int32.ofNat nn)), .val (.ref mr), .val (.ref b3)] [(.ref b3)]))
  exact own_retA X11 hx hlk Bd.returns rfl rfl (hb hby d15_39) e11 ⟨b3, rfl, N11, K11x, f12, g5, z6⟩ (by decide) (by decide)
theorem ef_14 (m : MethodId) (a : Addr) (nn : Nat)  : entryFrame m #[(.ref a), (.int (Int32.ofNat nn))] 2 = mkF m 0 #[.val (.ref a), .val (.int (Int32.ofNat nn))] [] := by first | (simp [entryFrame, mkF, argsToLocals, Value.category]; done) | rfl
def Q14 (Z : State) (a : Addr) (nn : Nat) (cap : Nat) (es : List Addr) (mr : Addr) (h0 : Heap) (n0 : Nat) (v_ : Option Value) (h_ : Heap) (L_ : List Loc) : Prop := ∃ r : Addr, v_ = some (.ref r) ∧ Fr n0 L_ ∧ Keep h0 h_ [] ∧ (OwnA Z h_ r nn es) ∧ (n0 ≤ r) ∧ (h0.size ≤ r)
set_option maxRecDepth 65536 in
set_option maxHeartbeats 40000000 in
theorem rm14 (l : Launch) (Z : State) (a0 : Array Value) (hw : ∀ d ∈ tables_1, d.before a0 Z = true) (ws : List Jvm.Cond) (a : Addr) (nn : Nat) (cap : Nat) (es : List Addr) (mr : Addr) (h0 : Heap) (n0 : Nat) (Z0 : n0 ≤ h0.size) (P0 : OwnA Z h0 a cap es) (P1 : OwnE Z h0 es) (P2 : OwnM Z "[Ljava/lang/Object;" mr) (P3 : es.length ≤ nn) (P4 : nn ≤ 10) :
    MetFree l (⟨"java/util/Arrays", "copyOf", "([Ljava/lang/Object;I)[Ljava/lang/Object;"⟩ : MethodName) (head1 (Jvm.Cond.code (⟨"java/util/Arrays", "copyOf", "([Ljava/lang/Object;I)[Ljava/lang/Object;"⟩ : MethodName) jdk_65_method_119_code 2 (some (.array (.object "java/lang/Object"))) :: ws) ({ frames := 2, cells := 1, slots := 10, locals := 33 } : Room)) (fun A_ U => A_ = #[(.ref a), (.int (Int32.ofNat nn))] ∧ Z.Warmed39 U.vm ∧ U.heap = h0) (fun _ _ _ _ _ => True) (fun _ U_ o_ U'_ => ∃ v_ L_, o_ = .returned v_ ∧ Q14 Z a nn cap es mr h0 n0 v_ U'_.heap L_ ∧ FrameEnd U_ o_ U'_ L_ ({ frames := 2, cells := 1, slots := 10, locals := 33 } : Room).cells ({ frames := 2, cells := 1, slots := 10, locals := 33 } : Room).slots) := by
  refine MetFree.of_bodySF (plainFor_of_name pn_4) hisR ?_
  intro p e s m args below meth c s₁ Bd hml0 hP hK
  obtain ⟨rfl, hZ, hh⟩ := hP
  have hx := Bd.exec
  have hby := Bd.bytes
  have hml : c.maxLocals = 2 := hml0
  have hown : s.vm.findClass "java/util/Arrays" = some m.cls := findClass_of_methodNamed Bd.named
  have hnm := (name_of_methodNamed Bd.named Bd.method).1
  have hlk : meth.locks = false := Bd.notSynchronized
  have X0 : Stand p l e ({ frames := 2, cells := 1, slots := 10, locals := 33 } : Room) s m #[(.ref a), (.int (Int32.ofNat nn))] below meth c s₁ [] 0 0 := Stand.of_body Bd
  have e0 : s₁.heap = h0 := by rw [← hh, Bd.state]; rfl
  have N0 := Fr.nil n0
  have K0 : Keep h0 h0 [] := Keep.refl _ _
  refine own_cast (ef_14 m a nn) ?_
  show OwnGo p e below s (Q14 Z a nn cap es mr h0 n0) ({ frames := 2, cells := 1, slots := 10, locals := 33 } : Room).cells ({ frames := 2, cells := 1, slots := 10, locals := 33 } : Room).slots (s₁.setTop (mkF m 0 #[.val (.ref a), .val (.int (Int32.ofNat nn))] []))
  refine own_on (fun t_ k_ => XS.aloadN X0.here hx rfl (hb hby d14_0) rfl rfl k_) ?_
  show OwnGo p e below s _ _ _ (s₁.setTop (mkF m 1 #[.val (.ref a), .val (.int (Int32.ofNat nn))] [(.ref a)]))
  refine own_on (fun t_ k_ => XS.iloadN X0.here hx rfl (hb hby d14_1) rfl k_) ?_
  show OwnGo p e below s _ _ _ (s₁.setTop (mkF m 2 #[.val (.ref a), .val (.int (Int32.ofNat nn))] [(.int (Int32.ofNat nn)), (.ref a)]))
  refine own_on (fun t_ k_ => XS.aloadN X0.here hx rfl (hb hby d14_2) rfl rfl k_) ?_
  show OwnGo p e below s _ _ _ (s₁.setTop (mkF m 3 #[.val (.ref a), .val (.int (Int32.ofNat nn))] [(.ref a), (.int (Int32.ofNat nn)), (.ref a)]))
  obtain ⟨T1, X1, e1, st1⟩ := own_gc X0 hx hZ hown (w94 hw) (w95 hw) (w97 hw) (w96 hw) (w98 hw) e0 P0.exa P2 (g := (mkF m 3 #[.val (.ref a), .val (.int (Int32.ofNat nn))] [(.ref a), (.int (Int32.ofNat nn)), (.ref a)])) rfl (by rw [hml]; rfl) (rest := [(.int (Int32.ofNat nn)), (.ref a)]) rfl (hb hby d14_3) (by decide) (W := 2) (by show 2 * 0 + _ ≤ _; exact Nat.le_of_eq rfl) (by decide)
  refine own_on st1 ?_
  show OwnGo p e below s _ _ _ (T1.setTop (mkF m 6 #[.val (.ref a), .val (.int (Int32.ofNat nn))] [(.ref mr), (.int (Int32.ofNat nn)), (.ref a)]))
  obtain ⟨_, _, ⟨T2, L2, k2, n2⟩, -, X2, ⟨Lc2, hQ2, l2, y2, z2⟩, st2⟩ := Jvm.LawKit.callS X1 hx (y := (⟨"java/util/Arrays", "copyOf", "([Ljava/lang/Object;ILjava/lang/Class;)[Ljava/lang/Object;"⟩ : MethodName)) hown (mvT hZ (w100 hw)) (mvT hZ (w101 hw)) (mvT hZ (w92 hw)) (mvT hZ (w102 hw)) (by decide) (backOf (W := 0) (rm15 l Z a0 hw [] a nn mr cap es h0 n0 Z0 P0 P1 P2 P3 P4) hZ (w102 hw) (w92 hw) (by decide) (by decide)) (g := (mkF m 6 #[.val (.ref a), .val (.int (Int32.ofNat nn))] [(.ref mr), (.int (Int32.ofNat nn)), (.ref a)])) rfl (by rw [hml]; rfl) (argsL := [(.ref a), (.int (Int32.ofNat nn)), (.ref mr)]) (rest := []) (lenOf pd_2 rfl) rfl (by show 2 * 0 + _ ≤ _; exact Nat.le_of_eq rfl) (hb hby d14_6) (fun _ hWx => ⟨rfl, e1, (by decide : 0 + 1 ≤ _), (by decide : 0 + 10 ≤ _)⟩)
  dsimp only [Pt.U, Pt.locs, Pt.cells, Pt.slots] at X2 l2 y2 z2 st2 hQ2
  replace X2 := own_num (c' := 1) (n' := 10) X2 l2 (y2.trans rfl) (z2.trans rfl)
  obtain ⟨r_2, rfl, N2q, K2q, c2_0, c2_1, c2_2⟩ := hQ2
  have N2 := Fr.app N0 N2q
  have Z2 : n0 ≤ T2.heap.size := Nat.le_trans Z0 K2q.1
  have K2 : Keep h0 T2.heap [] := K0.trans K2q all0
  have ne3 : a ≠ r_2 := Nat.ne_of_lt (Nat.lt_of_lt_of_le P0.lt c2_2)
  have z4 : h0.size ≤ r_2 := Nat.le_trans K0.1 c2_2
  refine own_on st2 ?_
  show OwnGo p e below s _ _ _ (T2.setTop (mkF m 9 #[.val (.ref a), .val (.int (Int32.ofNat nn))] [(.ref r_2)]))
  exact own_retA X2 hx hlk Bd.returns rfl rfl (hb hby d14_9) rfl ⟨r_2, rfl, N2, K2, c2_0, c2_1, z4⟩ (by decide) (by decide)
theorem ef_13 (m : MethodId) (a : Addr)  : entryFrame m #[(.ref a)] 1 = mkF m 0 #[.val (.ref a)] [] := by first | (simp [entryFrame, mkF, argsToLocals, Value.category]; done) | rfl
def Q13 (Z : State) (a : Addr) (ea : Addr) (cap : Nat) (es : List Addr) (mr : Addr) (h0 : Heap) (n0 : Nat) (v_ : Option Value) (h_ : Heap) (L_ : List Loc) : Prop := ∃ r : Addr, v_ = some (.ref r) ∧ Fr n0 L_ ∧ Keep h0 h_ [] ∧ (OwnA Z h_ r es.length es) ∧ (n0 ≤ r) ∧ (h0.size ≤ r)
set_option maxRecDepth 65536 in
set_option maxHeartbeats 40000000 in
theorem rm13 (l : Launch) (Z : State) (a0 : Array Value) (hw : ∀ d ∈ tables_1, d.before a0 Z = true) (ws : List Jvm.Cond) (a : Addr) (ea : Addr) (cap : Nat) (es : List Addr) (mr : Addr) (h0 : Heap) (n0 : Nat) (Z0 : n0 ≤ h0.size) (P0 : Fld Z h0 a "java/util/ArrayList" "elementData" "[Ljava/lang/Object;" (.ref ea)) (P1 : Fld Z h0 a "java/util/ArrayList" "size" "I" (.int (own_n es))) (P2 : OwnA Z h0 ea cap es) (P3 : OwnE Z h0 es) (P4 : OwnM Z "[Ljava/lang/Object;" mr) :
    MetFree l (⟨"java/util/ArrayList", "toArray", "()[Ljava/lang/Object;"⟩ : MethodName) (head1 (Jvm.Cond.code (⟨"java/util/ArrayList", "toArray", "()[Ljava/lang/Object;"⟩ : MethodName) jdk_38_method_16_code 1 (some (.array (.object "java/lang/Object"))) :: ws) ({ frames := 3, cells := 1, slots := 10, locals := 46 } : Room)) (fun A_ U => A_ = #[(.ref a)] ∧ Z.Warmed39 U.vm ∧ U.heap = h0) (fun _ _ _ _ _ => True) (fun _ U_ o_ U'_ => ∃ v_ L_, o_ = .returned v_ ∧ Q13 Z a ea cap es mr h0 n0 v_ U'_.heap L_ ∧ FrameEnd U_ o_ U'_ L_ ({ frames := 3, cells := 1, slots := 10, locals := 46 } : Room).cells ({ frames := 3, cells := 1, slots := 10, locals := 46 } : Room).slots) := by
  refine MetFree.of_bodySF (plainFor_of_name pn_2) hisR ?_
  intro p e s m args below meth c s₁ Bd hml0 hP hK
  obtain ⟨rfl, hZ, hh⟩ := hP
  have hx := Bd.exec
  have hby := Bd.bytes
  have hml : c.maxLocals = 1 := hml0
  have hown : s.vm.findClass "java/util/ArrayList" = some m.cls := findClass_of_methodNamed Bd.named
  have hnm := (name_of_methodNamed Bd.named Bd.method).1
  have hlk : meth.locks = false := Bd.notSynchronized
  have X0 : Stand p l e ({ frames := 3, cells := 1, slots := 10, locals := 46 } : Room) s m #[(.ref a)] below meth c s₁ [] 0 0 := Stand.of_body Bd
  have e0 : s₁.heap = h0 := by rw [← hh, Bd.state]; rfl
  have N0 := Fr.nil n0
  have K0 : Keep h0 h0 [] := Keep.refl _ _
  refine own_cast (ef_13 m a) ?_
  show OwnGo p e below s (Q13 Z a ea cap es mr h0 n0) ({ frames := 3, cells := 1, slots := 10, locals := 46 } : Room).cells ({ frames := 3, cells := 1, slots := 10, locals := 46 } : Room).slots (s₁.setTop (mkF m 0 #[.val (.ref a)] []))
  have hl1a := P2.1
  have hl1b := P2.2.1
  refine own_on (fun t_ k_ => XS.aloadN X0.here hx rfl (hb hby d13_0) rfl rfl k_) ?_
  show OwnGo p e below s _ _ _ (s₁.setTop (mkF m 1 #[.val (.ref a)] [(.ref a)]))
  obtain ⟨T2, X2, e2, st2⟩ := getF X0 hx hZ hown (host := "") (Or.inl (w48 hw)) Via.refl e0 P0 (g := (mkF m 1 #[.val (.ref a)] [(.ref a)])) rfl rfl (hb hby d13_1)
  refine own_on st2 ?_
  show OwnGo p e below s _ _ _ (T2.setTop (mkF m 4 #[.val (.ref a)] [(.ref ea)]))
  refine own_on (fun t_ k_ => XS.aloadN X2.here hx rfl (hb hby d13_4) rfl rfl k_) ?_
  show OwnGo p e below s _ _ _ (T2.setTop (mkF m 5 #[.val (.ref a)] [(.ref a), (.ref ea)]))
  obtain ⟨T3, X3, e3, st3⟩ := getF X2 hx hZ hown (host := "") (Or.inl (w88 hw)) Via.refl e2 P1 (g := (mkF m 5 #[.val (.ref a)] [(.ref a), (.ref ea)])) rfl rfl (hb hby d13_5)
  refine own_on st3 ?_
  show OwnGo p e below s _ _ _ (T3.setTop (mkF m 8 #[.val (.ref a)] [(.int (own_n es)), (.ref ea)]))
  rw [show (own_n es) = (Int32.ofNat es.length) from rfl]
  show OwnGo p e below s _ _ _ (T3.setTop (mkF m 8 #[.val (.ref a)] [(.int (Int32.ofNat es.length)), (.ref ea)]))
  obtain ⟨_, _, ⟨T4, L4, k4, n4⟩, -, X4, ⟨Lc4, hQ4, l4, y4, z4⟩, st4⟩ := Jvm.LawKit.callS X3 hx (y := (⟨"java/util/Arrays", "copyOf", "([Ljava/lang/Object;I)[Ljava/lang/Object;"⟩ : MethodName)) hown (mvT hZ (w90 hw)) (mvT hZ (w91 hw)) (mvT hZ (w92 hw)) (mvT hZ (w93 hw)) (by decide) (backOf (W := 0) (rm14 l Z a0 hw [] ea es.length cap es mr h0 n0 Z0 P2 P3 P4 (by omega : es.length ≤ es.length) (by omega : es.length ≤ 10)) hZ (w93 hw) (w92 hw) (by decide) (by decide)) (g := (mkF m 8 #[.val (.ref a)] [(.int (Int32.ofNat es.length)), (.ref ea)])) rfl (by rw [hml]; rfl) (argsL := [(.ref ea), (.int (Int32.ofNat es.length))]) (rest := []) (lenOf pd_3 rfl) rfl (by show 2 * 0 + _ ≤ _; exact Nat.le_of_eq rfl) (hb hby d13_8) (fun _ hWx => ⟨rfl, e3, (by decide : 0 + 1 ≤ _), (by decide : 0 + 10 ≤ _)⟩)
  dsimp only [Pt.U, Pt.locs, Pt.cells, Pt.slots] at X4 l4 y4 z4 st4 hQ4
  replace X4 := own_num (c' := 1) (n' := 10) X4 l4 (y4.trans rfl) (z4.trans rfl)
  obtain ⟨r_4, rfl, N4q, K4q, c4_0, c4_1, c4_2⟩ := hQ4
  have N4 := Fr.app N0 N4q
  have Z4 : n0 ≤ T4.heap.size := Nat.le_trans Z0 K4q.1
  have K4 : Keep h0 T4.heap [] := K0.trans K4q all0
  have ne5 : a ≠ r_4 := Nat.ne_of_lt (Nat.lt_of_lt_of_le P0.lt c4_2)
  have ne6 : ea ≠ r_4 := Nat.ne_of_lt (Nat.lt_of_lt_of_le P2.lt c4_2)
  have z7 : h0.size ≤ r_4 := Nat.le_trans K0.1 c4_2
  refine own_on st4 ?_
  show OwnGo p e below s _ _ _ (T4.setTop (mkF m 11 #[.val (.ref a)] [(.ref r_4)]))
  exact own_retA X4 hx hlk Bd.returns rfl rfl (hb hby d13_11) rfl ⟨r_4, rfl, N4, K4, c4_0, c4_1, z7⟩ (by decide) (by decide)
theorem ef_23 (m : MethodId) (a : Addr) (mm : Nat)  : entryFrame m #[(.ref a), (.int (Int32.ofNat mm))] 4 = mkF m 0 #[.val (.ref a), .val (.int (Int32.ofNat mm)), .unset, .unset] [] := by first | (simp [entryFrame, mkF, argsToLocals, Value.category]; done) | rfl
def Q23 (Z : State) (a : Addr) (mm : Nat) (ea : Addr) (cap : Nat) (es : List Addr) (mc : Int32) (dc : Addr) (mr : Addr) (h0 : Heap) (n0 : Nat) (v_ : Option Value) (h_ : Heap) (L_ : List Loc) : Prop := ∃ r : Addr, ∃ cp2 : Nat, v_ = some (.ref r) ∧ Fr n0 L_ ∧ Keep h0 h_ [a] ∧ (Exa Z h_ a "java/util/ArrayList") ∧ (Fld Z h_ a "java/util/ArrayList" "elementData" "[Ljava/lang/Object;" (.ref r)) ∧ (Fld Z h_ a "java/util/ArrayList" "size" "I" (.int (own_n es))) ∧ (Fld Z h_ a "java/util/AbstractList" "modCount" "I" (.int mc)) ∧ (OwnA Z h_ r cp2 es) ∧ (mm ≤ cp2) ∧ (n0 ≤ r) ∧ (h0.size ≤ r) ∧ (OwnE Z h_ es) ∧ (Old Z n0 h_)
set_option maxRecDepth 65536 in
set_option maxHeartbeats 40000000 in
theorem rm23 (l : Launch) (Z : State) (a0 : Array Value) (hw : ∀ d ∈ tables_1, d.before a0 Z = true) (ws : List Jvm.Cond) (a : Addr) (mm : Nat) (ea : Addr) (cap : Nat) (es : List Addr) (mc : Int32) (dc : Addr) (mr : Addr) (h0 : Heap) (n0 : Nat) (Z0 : n0 ≤ h0.size) (P0 : Exa Z h0 a "java/util/ArrayList") (P1 : Fld Z h0 a "java/util/ArrayList" "elementData" "[Ljava/lang/Object;" (.ref ea)) (P2 : Fld Z h0 a "java/util/ArrayList" "size" "I" (.int (own_n es))) (P3 : Fld Z h0 a "java/util/AbstractList" "modCount" "I" (.int mc)) (P4 : OwnA Z h0 ea cap es) (P5 : OwnE Z h0 es) (P6 : Old Z n0 h0) (P7 : Sta Z Z.heap "java/util/ArrayList" "DEFAULTCAPACITY_EMPTY_ELEMENTDATA" "[Ljava/lang/Object;" (.ref dc)) (P8 : OwnM Z "[Ljava/lang/Object;" mr) (P9 : n0 ≤ a) (P10 : cap < mm) (P11 : mm ≤ 6) :
    MetFree l (⟨"java/util/ArrayList", "grow", "(I)[Ljava/lang/Object;"⟩ : MethodName) (head1 (Jvm.Cond.code (⟨"java/util/ArrayList", "grow", "(I)[Ljava/lang/Object;"⟩ : MethodName) jdk_38_method_6_code 4 (some (.array (.object "java/lang/Object"))) :: ws) ({ frames := 3, cells := 1, slots := 10, locals := 47 } : Room)) (fun A_ U => A_ = #[(.ref a), (.int (Int32.ofNat mm))] ∧ Z.Warmed39 U.vm ∧ U.heap = h0) (fun _ _ _ _ _ => True) (fun _ U_ o_ U'_ => ∃ v_ L_, o_ = .returned v_ ∧ Q23 Z a mm ea cap es mc dc mr h0 n0 v_ U'_.heap L_ ∧ FrameEnd U_ o_ U'_ L_ ({ frames := 3, cells := 1, slots := 10, locals := 47 } : Room).cells ({ frames := 3, cells := 1, slots := 10, locals := 47 } : Room).slots) := by
  refine MetFree.of_bodySF (plainFor_of_name pn_2) hisR ?_
  intro p e s m args below meth c s₁ Bd hml0 hP hK
  obtain ⟨rfl, hZ, hh⟩ := hP
  have hx := Bd.exec
  have hby := Bd.bytes
  have hml : c.maxLocals = 4 := hml0
  have hown : s.vm.findClass "java/util/ArrayList" = some m.cls := findClass_of_methodNamed Bd.named
  have hnm := (name_of_methodNamed Bd.named Bd.method).1
  have hlk : meth.locks = false := Bd.notSynchronized
  have X0 : Stand p l e ({ frames := 3, cells := 1, slots := 10, locals := 47 } : Room) s m #[(.ref a), (.int (Int32.ofNat mm))] below meth c s₁ [] 0 0 := Stand.of_body Bd
  have e0 : s₁.heap = h0 := by rw [← hh, Bd.state]; rfl
  have N0 := Fr.nil n0
  have K0 : Keep h0 h0 [a] := Keep.refl _ _
  refine own_cast (ef_23 m a mm) ?_
  show OwnGo p e below s (Q23 Z a mm ea cap es mc dc mr h0 n0) ({ frames := 3, cells := 1, slots := 10, locals := 47 } : Room).cells ({ frames := 3, cells := 1, slots := 10, locals := 47 } : Room).slots (s₁.setTop (mkF m 0 #[.val (.ref a), .val (.int (Int32.ofNat mm)), .unset, .unset] []))
  have hl1a := P4.1
  have hl1b := P4.2.1
  refine own_on (fun t_ k_ => XS.aloadN X0.here hx rfl (hb hby d23_0) rfl rfl k_) ?_
  show OwnGo p e below s _ _ _ (s₁.setTop (mkF m 1 #[.val (.ref a), .val (.int (Int32.ofNat mm)), .unset, .unset] [(.ref a)]))
  obtain ⟨T2, X2, e2, st2⟩ := getF X0 hx hZ hown (host := "") (Or.inl (w48 hw)) Via.refl e0 P1 (g := (mkF m 1 #[.val (.ref a), .val (.int (Int32.ofNat mm)), .unset, .unset] [(.ref a)])) rfl rfl (hb hby d23_1)
  refine own_on st2 ?_
  show OwnGo p e below s _ _ _ (T2.setTop (mkF m 4 #[.val (.ref a), .val (.int (Int32.ofNat mm)), .unset, .unset] [(.ref ea)]))
  obtain ⟨A3a, A3b, A3c, kk3, cl3, Ar3, q3, S3, M3, H3, G3⟩ := id P4
  refine own_on (X2.arraylength hx (by rw [e2]; exact Ar3.1) (State.isArrayOf_alike hZ.alike Ar3.2.1) (g := (mkF m 4 #[.val (.ref a), .val (.int (Int32.ofNat mm)), .unset, .unset] [(.ref ea)])) rfl rfl (hb hby d23_4)) ?_
  rw [len_of S3 M3]
  show OwnGo p e below s _ _ _ (T2.setTop (mkF m 5 #[.val (.ref a), .val (.int (Int32.ofNat mm)), .unset, .unset] [(.int (Int32.ofNat cap))]))
  refine own_on (fun t_ k_ => XS.istoreN X2.here hx rfl (hb hby d23_5) rfl (l' := #[.val (.ref a), .val (.int (Int32.ofNat mm)), .val (.int (Int32.ofNat cap)), .unset]) rfl k_) ?_
  show OwnGo p e below s _ _ _ (T2.setTop (mkF m 6 #[.val (.ref a), .val (.int (Int32.ofNat mm)), .val (.int (Int32.ofNat cap)), .unset] []))
  refine own_on (fun t_ k_ => XS.iloadN X2.here hx rfl (hb hby d23_6) rfl k_) ?_
  show OwnGo p e below s _ _ _ (T2.setTop (mkF m 7 #[.val (.ref a), .val (.int (Int32.ofNat mm)), .val (.int (Int32.ofNat cap)), .unset] [(.int (Int32.ofNat cap))]))
  by_cases q0 : (0 : Int32) < (Int32.ofNat cap)
  · refine own_on (fun t_ k_ => XS.ifYes X2.here hx rfl (pc0 := 7) (pc' := 20) rfl (hb hby d23_7) rfl ((if0 _ _).trans (tlt q0).2.2.1) (by decide) (by decide) k_) ?_
    show OwnGo p e below s _ _ _ (T2.setTop (mkF m 20 #[.val (.ref a), .val (.int (Int32.ofNat mm)), .val (.int (Int32.ofNat cap)), .unset] []))
    refine own_on (fun t_ k_ => XS.iloadN X2.here hx rfl (hb hby d23_20) rfl k_) ?_
    show OwnGo p e below s _ _ _ (T2.setTop (mkF m 21 #[.val (.ref a), .val (.int (Int32.ofNat mm)), .val (.int (Int32.ofNat cap)), .unset] [(.int (Int32.ofNat cap))]))
    refine own_on (fun t_ k_ => XS.iloadN X2.here hx rfl (hb hby d23_21) rfl k_) ?_
    show OwnGo p e below s _ _ _ (T2.setTop (mkF m 22 #[.val (.ref a), .val (.int (Int32.ofNat mm)), .val (.int (Int32.ofNat cap)), .unset] [(.int (Int32.ofNat mm)), (.int (Int32.ofNat cap))]))
    refine own_on (fun t_ k_ => XS.iloadN X2.here hx rfl (hb hby d23_22) rfl k_) ?_
    show OwnGo p e below s _ _ _ (T2.setTop (mkF m 23 #[.val (.ref a), .val (.int (Int32.ofNat mm)), .val (.int (Int32.ofNat cap)), .unset] [(.int (Int32.ofNat cap)), (.int (Int32.ofNat mm)), (.int (Int32.ofNat cap))]))
    refine own_on (fun t_ k_ => XS.isub X2.here hx rfl (hb hby d23_23) rfl k_) ?_
    show OwnGo p e below s _ _ _ (T2.setTop (mkF m 24 #[.val (.ref a), .val (.int (Int32.ofNat mm)), .val (.int (Int32.ofNat cap)), .unset] [(.int ((Int32.ofNat mm) - (Int32.ofNat cap))), (.int (Int32.ofNat cap))]))
    rw [show ((Int32.ofNat mm) - (Int32.ofNat cap)) = (Int32.ofNat (mm - cap)) from own_sub' (by omega) (by omega)]
    show OwnGo p e below s _ _ _ (T2.setTop (mkF m 24 #[.val (.ref a), .val (.int (Int32.ofNat mm)), .val (.int (Int32.ofNat cap)), .unset] [(.int (Int32.ofNat (mm - cap))), (.int (Int32.ofNat cap))]))
    refine own_on (fun t_ k_ => XS.iloadN X2.here hx rfl (hb hby d23_24) rfl k_) ?_
    show OwnGo p e below s _ _ _ (T2.setTop (mkF m 25 #[.val (.ref a), .val (.int (Int32.ofNat mm)), .val (.int (Int32.ofNat cap)), .unset] [(.int (Int32.ofNat cap)), (.int (Int32.ofNat (mm - cap))), (.int (Int32.ofNat cap))]))
    refine own_on (fun t_ k_ => XS.iconst X2.here hx rfl (hb hby d23_25) k_) ?_
    show OwnGo p e below s _ _ _ (T2.setTop (mkF m 26 #[.val (.ref a), .val (.int (Int32.ofNat mm)), .val (.int (Int32.ofNat cap)), .unset] [(.int (1 : Int32)), (.int (Int32.ofNat cap)), (.int (Int32.ofNat (mm - cap))), (.int (Int32.ofNat cap))]))
    refine own_on (fun t_ k_ => XS.ishr X2.here hx rfl (hb hby d23_26) rfl k_) ?_
    show OwnGo p e below s _ _ _ (T2.setTop (mkF m 27 #[.val (.ref a), .val (.int (Int32.ofNat mm)), .val (.int (Int32.ofNat cap)), .unset] [(.int ((Int32.ofNat cap) >>> ((1 : Int32) &&& 31))), (.int (Int32.ofNat (mm - cap))), (.int (Int32.ofNat cap))]))
    rw [show ((Int32.ofNat cap) >>> ((1 : Int32) &&& 31)) = (Int32.ofNat (cap / 2)) from own_shr1 _ (by omega)]
    show OwnGo p e below s _ _ _ (T2.setTop (mkF m 27 #[.val (.ref a), .val (.int (Int32.ofNat mm)), .val (.int (Int32.ofNat cap)), .unset] [(.int (Int32.ofNat (cap / 2))), (.int (Int32.ofNat (mm - cap))), (.int (Int32.ofNat cap))]))
    obtain ⟨_, _, ⟨T4, L4, k4, n4⟩, -, X4, ⟨Lc4, hQ4, l4, y4, z4⟩, st4⟩ := Jvm.LawKit.callS X2 hx (y := (⟨"jdk/internal/util/ArraysSupport", "newLength", "(III)I"⟩ : MethodName)) hown (mvT hZ (w196 hw)) (mvT hZ (w197 hw)) (mvT hZ (w198 hw)) (mvT hZ (w199 hw)) (by decide) (backOf (W := 0) (rm30 l Z a0 hw [] cap (mm - cap) (cap / 2) h0 n0 Z0 (by omega : cap ≤ 10) (by omega : (mm - cap) ≤ 10) (by omega : (cap / 2) ≤ 10) (by omega : 0 < (mm - cap))) hZ (w199 hw) (w198 hw) (by decide) (by decide)) (g := (mkF m 27 #[.val (.ref a), .val (.int (Int32.ofNat mm)), .val (.int (Int32.ofNat cap)), .unset] [(.int (Int32.ofNat (cap / 2))), (.int (Int32.ofNat (mm - cap))), (.int (Int32.ofNat cap))])) rfl (by rw [hml]; rfl) (argsL := [(.int (Int32.ofNat cap)), (.int (Int32.ofNat (mm - cap))), (.int (Int32.ofNat (cap / 2)))]) (rest := []) (lenOf pd_4 rfl) rfl (by show 2 * 0 + _ ≤ _; exact Nat.le_of_eq rfl) (hb hby d23_27) (fun _ hWx => ⟨rfl, e2, (by decide : 0 + 0 ≤ _), (by decide : 0 + 0 ≤ _)⟩)
    dsimp only [Pt.U, Pt.locs, Pt.cells, Pt.slots] at X4 l4 y4 z4 st4 hQ4
    replace X4 := own_num (c' := 0) (n' := 0) X4 l4 (y4.trans rfl) (z4.trans rfl)
    obtain ⟨rfl, N4q, e4⟩ := hQ4
    have N4 := Fr.app N0 N4q
    refine own_on st4 ?_
    show OwnGo p e below s _ _ _ (T4.setTop (mkF m 30 #[.val (.ref a), .val (.int (Int32.ofNat mm)), .val (.int (Int32.ofNat cap)), .unset] [(.int (Int32.ofNat (cap + max (mm - cap) (cap / 2))))]))
    refine own_on (fun t_ k_ => XS.istoreN X4.here hx rfl (hb hby d23_30) rfl (l' := #[.val (.ref a), .val (.int (Int32.ofNat mm)), .val (.int (Int32.ofNat cap)), .val (.int (Int32.ofNat (cap + max (mm - cap) (cap / 2))))]) rfl k_) ?_
    show OwnGo p e below s _ _ _ (T4.setTop (mkF m 31 #[.val (.ref a), .val (.int (Int32.ofNat mm)), .val (.int (Int32.ofNat cap)), .val (.int (Int32.ofNat (cap + max (mm - cap) (cap / 2))))] []))
    refine own_on (fun t_ k_ => XS.aloadN X4.here hx rfl (hb hby d23_31) rfl rfl k_) ?_
    show OwnGo p e below s _ _ _ (T4.setTop (mkF m 32 #[.val (.ref a), .val (.int (Int32.ofNat mm)), .val (.int (Int32.ofNat cap)), .val (.int (Int32.ofNat (cap + max (mm - cap) (cap / 2))))] [(.ref a)]))
    refine own_on (fun t_ k_ => XS.aloadN X4.here hx rfl (hb hby d23_32) rfl rfl k_) ?_
    show OwnGo p e below s _ _ _ (T4.setTop (mkF m 33 #[.val (.ref a), .val (.int (Int32.ofNat mm)), .val (.int (Int32.ofNat cap)), .val (.int (Int32.ofNat (cap + max (mm - cap) (cap / 2))))] [(.ref a), (.ref a)]))
    obtain ⟨T5, X5, e5, st5⟩ := getF X4 hx hZ hown (host := "") (Or.inl (w48 hw)) Via.refl e4 P1 (g := (mkF m 33 #[.val (.ref a), .val (.int (Int32.ofNat mm)), .val (.int (Int32.ofNat cap)), .val (.int (Int32.ofNat (cap + max (mm - cap) (cap / 2))))] [(.ref a), (.ref a)])) rfl rfl (hb hby d23_33)
    refine own_on st5 ?_
    show OwnGo p e below s _ _ _ (T5.setTop (mkF m 36 #[.val (.ref a), .val (.int (Int32.ofNat mm)), .val (.int (Int32.ofNat cap)), .val (.int (Int32.ofNat (cap + max (mm - cap) (cap / 2))))] [(.ref ea), (.ref a)]))
    refine own_on (fun t_ k_ => XS.iloadN X5.here hx rfl (hb hby d23_36) rfl k_) ?_
    show OwnGo p e below s _ _ _ (T5.setTop (mkF m 37 #[.val (.ref a), .val (.int (Int32.ofNat mm)), .val (.int (Int32.ofNat cap)), .val (.int (Int32.ofNat (cap + max (mm - cap) (cap / 2))))] [(.int (Int32.ofNat (cap + max (mm - cap) (cap / 2)))), (.ref ea), (.ref a)]))
    obtain ⟨_, _, ⟨T6, L6, k6, n6⟩, -, X6, ⟨Lc6, hQ6, l6, y6, z6⟩, st6⟩ := Jvm.LawKit.callS X5 hx (y := (⟨"java/util/Arrays", "copyOf", "([Ljava/lang/Object;I)[Ljava/lang/Object;"⟩ : MethodName)) hown (mvT hZ (w90 hw)) (mvT hZ (w91 hw)) (mvT hZ (w92 hw)) (mvT hZ (w93 hw)) (by decide) (backOf (W := 1) (rm14 l Z a0 hw [] ea (cap + max (mm - cap) (cap / 2)) cap es mr h0 n0 Z0 P4 P5 P8 (by omega : es.length ≤ (cap + max (mm - cap) (cap / 2))) (by omega : (cap + max (mm - cap) (cap / 2)) ≤ 10)) hZ (w93 hw) (w92 hw) (by decide) (by decide)) (g := (mkF m 37 #[.val (.ref a), .val (.int (Int32.ofNat mm)), .val (.int (Int32.ofNat cap)), .val (.int (Int32.ofNat (cap + max (mm - cap) (cap / 2))))] [(.int (Int32.ofNat (cap + max (mm - cap) (cap / 2)))), (.ref ea), (.ref a)])) rfl (by rw [hml]; rfl) (argsL := [(.ref ea), (.int (Int32.ofNat (cap + max (mm - cap) (cap / 2))))]) (rest := [(.ref a)]) (lenOf pd_3 rfl) rfl (by show 2 * 0 + _ ≤ _; exact Nat.le_of_eq rfl) (hb hby d23_37) (fun _ hWx => ⟨rfl, e5, (by decide : 0 + 1 ≤ _), (by decide : 0 + 10 ≤ _)⟩)
    dsimp only [Pt.U, Pt.locs, Pt.cells, Pt.slots] at X6 l6 y6 z6 st6 hQ6
    replace X6 := own_num (c' := 1) (n' := 10) X6 l6 (y6.trans rfl) (z6.trans rfl)
    obtain ⟨r_6, rfl, N6q, K6q, c6_0, c6_1, c6_2⟩ := hQ6
    have N6 := Fr.app N4 N6q
    have Z6 : n0 ≤ T6.heap.size := Nat.le_trans Z0 K6q.1
    have K6 : Keep h0 T6.heap [a] := K0.trans K6q all0
    have ne7 : a ≠ r_6 := Nat.ne_of_lt (Nat.lt_of_lt_of_le P0.lt c6_2)
    have ne8 : ea ≠ r_6 := Nat.ne_of_lt (Nat.lt_of_lt_of_le P4.lt c6_2)
    have z9 : h0.size ≤ r_6 := Nat.le_trans K0.1 c6_2
    refine own_on st6 ?_
    show OwnGo p e below s _ _ _ (T6.setTop (mkF m 40 #[.val (.ref a), .val (.int (Int32.ofNat mm)), .val (.int (Int32.ofNat cap)), .val (.int (Int32.ofNat (cap + max (mm - cap) (cap / 2))))] [(.ref r_6), (.ref a)]))
    refine own_on (fun t_ k_ => XS.dupX1 X6.here hx rfl (hb hby d23_40) rfl rfl rfl k_) ?_
    show OwnGo p e below s _ _ _ (T6.setTop (mkF m 41 #[.val (.ref a), .val (.int (Int32.ofNat mm)), .val (.int (Int32.ofNat cap)), .val (.int (Int32.ofNat (cap + max (mm - cap) (cap / 2))))] [(.ref r_6), (.ref a), (.ref r_6)]))
    have f10 : Fld Z T6.heap a "java/util/ArrayList" "elementData" "[Ljava/lang/Object;" (.ref ea) := P1.keep K6q nin0
    have f11 : Exa Z T6.heap a "java/util/ArrayList" := P0.keep K6q
    obtain ⟨T12, h12, X12, e12, W12, st12⟩ := putF X6 hx hZ hown (host := "") (Or.inl (w48 hw)) Via.refl rfl f10 f11 (Or.inl (w49 hw)) (w27 hw) (ty := (.array (.object "java/lang/Object"))) (by decide) rfl rfl (g := (mkF m 41 #[.val (.ref a), .val (.int (Int32.ofNat mm)), .val (.int (Int32.ofNat cap)), .val (.int (Int32.ofNat (cap + max (mm - cap) (cap / 2))))] [(.ref r_6), (.ref a), (.ref r_6)])) rfl rfl (hb hby d23_41)
    have F12 := f10.same W12
    have N12 := Fr.snoc X12 N6 P9
    have Z12 : n0 ≤ h12.size := Nat.le_trans Z6 (Keep.of_wr W12).1
    have K12 : Keep h0 h12 [a] := K6.wr W12 (Or.inl (List.mem_of_getElem? (i := 0) rfl))
    refine own_on st12 ?_
    show OwnGo p e below s _ _ _ (T12.setTop (mkF m 44 #[.val (.ref a), .val (.int (Int32.ofNat mm)), .val (.int (Int32.ofNat cap)), .val (.int (Int32.ofNat (cap + max (mm - cap) (cap / 2))))] [(.ref r_6)]))
    have f13 : Exa Z h12 a "java/util/ArrayList" := f11.wr W12
    have f14 : Fld Z T6.heap a "java/util/ArrayList" "size" "I" (.int (own_n es)) := P2.keep K6q nin0
    have f15 : Fld Z h12 a "java/util/ArrayList" "size" "I" (.int (own_n es)) := f14.other W12 (Or.inr (slot_ne (Or.inl (w89 hw)) (Or.inl (w49 hw)) (by decide) (t := .int) (t' := (.array (.object "java/lang/Object"))) (by decide) (by decide)))
    have f16 : Fld Z T6.heap a "java/util/AbstractList" "modCount" "I" (.int mc) := P3.keep K6q nin0
    have f17 : Fld Z h12 a "java/util/AbstractList" "modCount" "I" (.int mc) := f16.other W12 (Or.inr (slot_ne (Or.inl (w46 hw)) (Or.inl (w49 hw)) (by decide) (t := .int) (t' := (.array (.object "java/lang/Object"))) (by decide) (by decide)))
    have f18 : OwnA Z h12 r_6 (cap + max (mm - cap) (cap / 2)) es := c6_0.other W12 (Ne.symm ne7)
    have f19 : OwnE Z T6.heap es := P5.keep K6q 
    have f20 : OwnE Z h12 es := f19.other W12 
    have f21 : Old Z n0 T6.heap := P6.keep K6q all0
    have f22 : Old Z n0 h12 := f21.wr W12 P9
    exact own_retA X12 hx hlk Bd.returns rfl rfl (hb hby d23_44) e12 ⟨r_6, (cap + max (mm - cap) (cap / 2)), rfl, N12, K12, f13, F12, f15, f17, f18, (by omega), c6_1, z9, f20, f22⟩ (by decide) (by decide)
  · refine own_on (fun t_ k_ => XS.ifNo X2.here hx rfl (hb hby d23_7) rfl ((if0 _ _).trans (flt q0).2.2.1) k_) ?_
    show OwnGo p e below s _ _ _ (T2.setTop (mkF m 10 #[.val (.ref a), .val (.int (Int32.ofNat mm)), .val (.int (Int32.ofNat cap)), .unset] []))
    rw [show (0 : Int32) = Int32.ofNat 0 from rfl, own_lt' (by omega) (by omega)] at q0
    refine own_on (fun t_ k_ => XS.aloadN X2.here hx rfl (hb hby d23_10) rfl rfl k_) ?_
    show OwnGo p e below s _ _ _ (T2.setTop (mkF m 11 #[.val (.ref a), .val (.int (Int32.ofNat mm)), .val (.int (Int32.ofNat cap)), .unset] [(.ref a)]))
    obtain ⟨T23, X23, e23, st23⟩ := getF X2 hx hZ hown (host := "") (Or.inl (w48 hw)) Via.refl e2 P1 (g := (mkF m 11 #[.val (.ref a), .val (.int (Int32.ofNat mm)), .val (.int (Int32.ofNat cap)), .unset] [(.ref a)])) rfl rfl (hb hby d23_11)
    refine own_on st23 ?_
    show OwnGo p e below s _ _ _ (T23.setTop (mkF m 14 #[.val (.ref a), .val (.int (Int32.ofNat mm)), .val (.int (Int32.ofNat cap)), .unset] [(.ref ea)]))
    obtain ⟨T24, X24, e24, st24⟩ := getS2 X23 hx hZ hown (host := "") (Or.inl (w47 hw)) Via.refl e23 (P7.ext P6.2) (g := (mkF m 14 #[.val (.ref a), .val (.int (Int32.ofNat mm)), .val (.int (Int32.ofNat cap)), .unset] [(.ref ea)])) rfl (hb hby d23_14)
    refine own_on st24 ?_
    show OwnGo p e below s _ _ _ (T24.setTop (mkF m 17 #[.val (.ref a), .val (.int (Int32.ofNat mm)), .val (.int (Int32.ofNat cap)), .unset] [(.ref dc), (.ref ea)]))
    by_cases q1 : ea = dc
    · refine own_on (fun t_ k_ => Jvm.RoadKit.acmp (g := (mkF m 17 #[.val (.ref a), .val (.int (Int32.ofNat mm)), .val (.int (Int32.ofNat cap)), .unset] [(.ref dc), (.ref ea)])) X24 hx rfl rfl rfl (pc0 := 17) (pc' := 45) (same := true) rfl (hb hby d23_17) rfl (decide_eq_true (congrArg Value.ref q1)) (by decide) (by decide) k_) ?_
      show OwnGo p e below s _ _ _ (T24.setTop (mkF m 45 #[.val (.ref a), .val (.int (Int32.ofNat mm)), .val (.int (Int32.ofNat cap)), .unset] []))
      refine own_on (fun t_ k_ => XS.aloadN X24.here hx rfl (hb hby d23_45) rfl rfl k_) ?_
      show OwnGo p e below s _ _ _ (T24.setTop (mkF m 46 #[.val (.ref a), .val (.int (Int32.ofNat mm)), .val (.int (Int32.ofNat cap)), .unset] [(.ref a)]))
      refine own_on (fun t_ k_ => XS.bipush X24.here hx rfl (hb hby d23_46) k_) ?_
      show OwnGo p e below s _ _ _ (T24.setTop (mkF m 48 #[.val (.ref a), .val (.int (Int32.ofNat mm)), .val (.int (Int32.ofNat cap)), .unset] [(.int (10 : Int32)), (.ref a)]))
      rw [show (10 : Int32) = (Int32.ofNat 10) from rfl]
      show OwnGo p e below s _ _ _ (T24.setTop (mkF m 48 #[.val (.ref a), .val (.int (Int32.ofNat mm)), .val (.int (Int32.ofNat cap)), .unset] [(.int (Int32.ofNat 10)), (.ref a)]))
      refine own_on (fun t_ k_ => XS.iloadN X24.here hx rfl (hb hby d23_48) rfl k_) ?_
      show OwnGo p e below s _ _ _ (T24.setTop (mkF m 49 #[.val (.ref a), .val (.int (Int32.ofNat mm)), .val (.int (Int32.ofNat cap)), .unset] [(.int (Int32.ofNat mm)), (.int (Int32.ofNat 10)), (.ref a)]))
      obtain ⟨_, _, ⟨T25, L25, k25, n25⟩, -, X25, ⟨Lc25, hQ25, l25, y25, z25⟩, st25⟩ := Jvm.LawKit.callS X24 hx (y := (⟨"java/lang/Math", "max", "(II)I"⟩ : MethodName)) hown (mvT hZ (w158 hw)) (mvT hZ (w159 hw)) (mvT hZ (w108 hw)) (mvT hZ (w160 hw)) (by decide) (backOf (W := 1) (rm24 l Z a0 hw [] 10 mm h0 n0 Z0 (by omega : 10 ≤ 20) (by omega : mm ≤ 20)) hZ (w160 hw) (w108 hw) (by decide) (by decide)) (g := (mkF m 49 #[.val (.ref a), .val (.int (Int32.ofNat mm)), .val (.int (Int32.ofNat cap)), .unset] [(.int (Int32.ofNat mm)), (.int (Int32.ofNat 10)), (.ref a)])) rfl (by rw [hml]; rfl) (argsL := [(.int (Int32.ofNat 10)), (.int (Int32.ofNat mm))]) (rest := [(.ref a)]) (lenOf pd_1 rfl) rfl (by show 2 * 0 + _ ≤ _; exact Nat.le_of_eq rfl) (hb hby d23_49) (fun _ hWx => ⟨rfl, e24, (by decide : 0 + 0 ≤ _), (by decide : 0 + 0 ≤ _)⟩)
      dsimp only [Pt.U, Pt.locs, Pt.cells, Pt.slots] at X25 l25 y25 z25 st25 hQ25
      replace X25 := own_num (c' := 0) (n' := 0) X25 l25 (y25.trans rfl) (z25.trans rfl)
      obtain ⟨rfl, N25q, e25⟩ := hQ25
      have N25 := Fr.app N0 N25q
      refine own_on st25 ?_
      show OwnGo p e below s _ _ _ (T25.setTop (mkF m 52 #[.val (.ref a), .val (.int (Int32.ofNat mm)), .val (.int (Int32.ofNat cap)), .unset] [(.int (Int32.ofNat (max 10 mm))), (.ref a)]))
      obtain ⟨T26, h26, X26, e26, E26, A26, st26⟩ := own_newA (N := (max 10 mm)) X25 hx hZ hown (w161 hw) (w105 hw) e25 (g := (mkF m 52 #[.val (.ref a), .val (.int (Int32.ofNat mm)), .val (.int (Int32.ofNat cap)), .unset] [(.int (Int32.ofNat (max 10 mm))), (.ref a)])) rfl (hb hby d23_52) rfl (by omega) (by decide) (by decide)
      obtain ⟨b26, g26⟩ : ∃ z, z = h0.size := ⟨_, rfl⟩
      rw [← g26] at A26 st26
      have ne27' : a < b26 := Nat.lt_of_lt_of_le P0.lt (Nat.le_of_eq g26.symm)
      have ne27 : a ≠ b26 := Nat.ne_of_lt ne27'
      have ne28' : ea < b26 := Nat.lt_of_lt_of_le P4.lt (Nat.le_of_eq g26.symm)
      have ne28 : ea ≠ b26 := Nat.ne_of_lt ne28'
      have g29 : n0 ≤ b26 := Nat.le_trans Z0 (Nat.le_of_eq g26.symm)
      have z30 : h0.size ≤ b26 := Nat.le_trans K0.1 (Nat.le_of_eq g26.symm)
      have Z26 : n0 ≤ h26.size := Nat.le_trans Z0 E26.1
      have K26 : Keep h0 h26 [a] := K0.ext E26
      refine own_on st26 ?_
      show OwnGo p e below s _ _ _ (T26.setTop (mkF m 55 #[.val (.ref a), .val (.int (Int32.ofNat mm)), .val (.int (Int32.ofNat cap)), .unset] [(.ref b26), (.ref a)]))
      have hes : es = [] := List.length_eq_zero_iff.mp (by omega)
      have f31 : OwnA Z h26 b26 (max 10 mm) es := by rw [hes]; exact A26
      refine own_on (fun t_ k_ => XS.dupX1 X26.here hx rfl (hb hby d23_55) rfl rfl rfl k_) ?_
      show OwnGo p e below s _ _ _ (T26.setTop (mkF m 56 #[.val (.ref a), .val (.int (Int32.ofNat mm)), .val (.int (Int32.ofNat cap)), .unset] [(.ref b26), (.ref a), (.ref b26)]))
      have f32 : Fld Z h26 a "java/util/ArrayList" "elementData" "[Ljava/lang/Object;" (.ref ea) := P1.ext E26
      have f33 : Exa Z h26 a "java/util/ArrayList" := P0.ext E26
      obtain ⟨T34, h34, X34, e34, W34, st34⟩ := putF X26 hx hZ hown (host := "") (Or.inl (w48 hw)) Via.refl e26 f32 f33 (Or.inl (w49 hw)) (w27 hw) (ty := (.array (.object "java/lang/Object"))) (by decide) rfl rfl (g := (mkF m 56 #[.val (.ref a), .val (.int (Int32.ofNat mm)), .val (.int (Int32.ofNat cap)), .unset] [(.ref b26), (.ref a), (.ref b26)])) rfl rfl (hb hby d23_56)
      have F34 := f32.same W34
      have N34 := Fr.snoc X34 N25 P9
      have Z34 : n0 ≤ h34.size := Nat.le_trans Z26 (Keep.of_wr W34).1
      have K34 : Keep h0 h34 [a] := K26.wr W34 (Or.inl (List.mem_of_getElem? (i := 0) rfl))
      refine own_on st34 ?_
      show OwnGo p e below s _ _ _ (T34.setTop (mkF m 59 #[.val (.ref a), .val (.int (Int32.ofNat mm)), .val (.int (Int32.ofNat cap)), .unset] [(.ref b26)]))
      have f35 : Exa Z h34 a "java/util/ArrayList" := f33.wr W34
      have f36 : Fld Z h26 a "java/util/ArrayList" "size" "I" (.int (own_n es)) := P2.ext E26
      have f37 : Fld Z h34 a "java/util/ArrayList" "size" "I" (.int (own_n es)) := f36.other W34 (Or.inr (slot_ne (Or.inl (w89 hw)) (Or.inl (w49 hw)) (by decide) (t := .int) (t' := (.array (.object "java/lang/Object"))) (by decide) (by decide)))
      have f38 : Fld Z h26 a "java/util/AbstractList" "modCount" "I" (.int mc) := P3.ext E26
      have f39 : Fld Z h34 a "java/util/AbstractList" "modCount" "I" (.int mc) := f38.other W34 (Or.inr (slot_ne (Or.inl (w46 hw)) (Or.inl (w49 hw)) (by decide) (t := .int) (t' := (.array (.object "java/lang/Object"))) (by decide) (by decide)))
      have f40 : OwnA Z h34 b26 (max 10 mm) es := f31.other W34 (Ne.symm ne27)
      have f41 : OwnE Z h26 es := P5.ext E26
      have f42 : OwnE Z h34 es := f41.other W34 
      have f43 : Old Z n0 h26 := P6.ext E26
      have f44 : Old Z n0 h34 := f43.wr W34 P9
      exact own_retA X34 hx hlk Bd.returns rfl rfl (hb hby d23_59) e34 ⟨b26, (max 10 mm), rfl, N34, K34, f35, F34, f37, f39, f40, (by omega), g29, z30, f42, f44⟩ (by decide) (by decide)
    · refine own_on (fun t_ k_ => Jvm.RoadKit.acmp (g := (mkF m 17 #[.val (.ref a), .val (.int (Int32.ofNat mm)), .val (.int (Int32.ofNat cap)), .unset] [(.ref dc), (.ref ea)])) X24 hx rfl rfl rfl (pc0 := 17) (pc' := 20) (same := false) rfl (hb hby d23_17) rfl (decide_eq_false fun q => q1 (Value.ref.inj q)) (by decide) (by decide) k_) ?_
      show OwnGo p e below s _ _ _ (T24.setTop (mkF m 20 #[.val (.ref a), .val (.int (Int32.ofNat mm)), .val (.int (Int32.ofNat cap)), .unset] []))
      refine own_on (fun t_ k_ => XS.iloadN X24.here hx rfl (hb hby d23_20) rfl k_) ?_
      show OwnGo p e below s _ _ _ (T24.setTop (mkF m 21 #[.val (.ref a), .val (.int (Int32.ofNat mm)), .val (.int (Int32.ofNat cap)), .unset] [(.int (Int32.ofNat cap))]))
      refine own_on (fun t_ k_ => XS.iloadN X24.here hx rfl (hb hby d23_21) rfl k_) ?_
      show OwnGo p e below s _ _ _ (T24.setTop (mkF m 22 #[.val (.ref a), .val (.int (Int32.ofNat mm)), .val (.int (Int32.ofNat cap)), .unset] [(.int (Int32.ofNat mm)), (.int (Int32.ofNat cap))]))
      refine own_on (fun t_ k_ => XS.iloadN X24.here hx rfl (hb hby d23_22) rfl k_) ?_
      show OwnGo p e below s _ _ _ (T24.setTop (mkF m 23 #[.val (.ref a), .val (.int (Int32.ofNat mm)), .val (.int (Int32.ofNat cap)), .unset] [(.int (Int32.ofNat cap)), (.int (Int32.ofNat mm)), (.int (Int32.ofNat cap))]))
      refine own_on (fun t_ k_ => XS.isub X24.here hx rfl (hb hby d23_23) rfl k_) ?_
      show OwnGo p e below s _ _ _ (T24.setTop (mkF m 24 #[.val (.ref a), .val (.int (Int32.ofNat mm)), .val (.int (Int32.ofNat cap)), .unset] [(.int ((Int32.ofNat mm) - (Int32.ofNat cap))), (.int (Int32.ofNat cap))]))
      rw [show ((Int32.ofNat mm) - (Int32.ofNat cap)) = (Int32.ofNat (mm - cap)) from own_sub' (by omega) (by omega)]
      show OwnGo p e below s _ _ _ (T24.setTop (mkF m 24 #[.val (.ref a), .val (.int (Int32.ofNat mm)), .val (.int (Int32.ofNat cap)), .unset] [(.int (Int32.ofNat (mm - cap))), (.int (Int32.ofNat cap))]))
      refine own_on (fun t_ k_ => XS.iloadN X24.here hx rfl (hb hby d23_24) rfl k_) ?_
      show OwnGo p e below s _ _ _ (T24.setTop (mkF m 25 #[.val (.ref a), .val (.int (Int32.ofNat mm)), .val (.int (Int32.ofNat cap)), .unset] [(.int (Int32.ofNat cap)), (.int (Int32.ofNat (mm - cap))), (.int (Int32.ofNat cap))]))
      refine own_on (fun t_ k_ => XS.iconst X24.here hx rfl (hb hby d23_25) k_) ?_
      show OwnGo p e below s _ _ _ (T24.setTop (mkF m 26 #[.val (.ref a), .val (.int (Int32.ofNat mm)), .val (.int (Int32.ofNat cap)), .unset] [(.int (1 : Int32)), (.int (Int32.ofNat cap)), (.int (Int32.ofNat (mm - cap))), (.int (Int32.ofNat cap))]))
      refine own_on (fun t_ k_ => XS.ishr X24.here hx rfl (hb hby d23_26) rfl k_) ?_
      show OwnGo p e below s _ _ _ (T24.setTop (mkF m 27 #[.val (.ref a), .val (.int (Int32.ofNat mm)), .val (.int (Int32.ofNat cap)), .unset] [(.int ((Int32.ofNat cap) >>> ((1 : Int32) &&& 31))), (.int (Int32.ofNat (mm - cap))), (.int (Int32.ofNat cap))]))
      rw [show ((Int32.ofNat cap) >>> ((1 : Int32) &&& 31)) = (Int32.ofNat (cap / 2)) from own_shr1 _ (by omega)]
      show OwnGo p e below s _ _ _ (T24.setTop (mkF m 27 #[.val (.ref a), .val (.int (Int32.ofNat mm)), .val (.int (Int32.ofNat cap)), .unset] [(.int (Int32.ofNat (cap / 2))), (.int (Int32.ofNat (mm - cap))), (.int (Int32.ofNat cap))]))
      obtain ⟨_, _, ⟨T45, L45, k45, n45⟩, -, X45, ⟨Lc45, hQ45, l45, y45, z45⟩, st45⟩ := Jvm.LawKit.callS X24 hx (y := (⟨"jdk/internal/util/ArraysSupport", "newLength", "(III)I"⟩ : MethodName)) hown (mvT hZ (w196 hw)) (mvT hZ (w197 hw)) (mvT hZ (w198 hw)) (mvT hZ (w199 hw)) (by decide) (backOf (W := 0) (rm30 l Z a0 hw [] cap (mm - cap) (cap / 2) h0 n0 Z0 (by omega : cap ≤ 10) (by omega : (mm - cap) ≤ 10) (by omega : (cap / 2) ≤ 10) (by omega : 0 < (mm - cap))) hZ (w199 hw) (w198 hw) (by decide) (by decide)) (g := (mkF m 27 #[.val (.ref a), .val (.int (Int32.ofNat mm)), .val (.int (Int32.ofNat cap)), .unset] [(.int (Int32.ofNat (cap / 2))), (.int (Int32.ofNat (mm - cap))), (.int (Int32.ofNat cap))])) rfl (by rw [hml]; rfl) (argsL := [(.int (Int32.ofNat cap)), (.int (Int32.ofNat (mm - cap))), (.int (Int32.ofNat (cap / 2)))]) (rest := []) (lenOf pd_4 rfl) rfl (by show 2 * 0 + _ ≤ _; exact Nat.le_of_eq rfl) (hb hby d23_27) (fun _ hWx => ⟨rfl, e24, (by decide : 0 + 0 ≤ _), (by decide : 0 + 0 ≤ _)⟩)
      dsimp only [Pt.U, Pt.locs, Pt.cells, Pt.slots] at X45 l45 y45 z45 st45 hQ45
      replace X45 := own_num (c' := 0) (n' := 0) X45 l45 (y45.trans rfl) (z45.trans rfl)
      obtain ⟨rfl, N45q, e45⟩ := hQ45
      have N45 := Fr.app N0 N45q
      refine own_on st45 ?_
      show OwnGo p e below s _ _ _ (T45.setTop (mkF m 30 #[.val (.ref a), .val (.int (Int32.ofNat mm)), .val (.int (Int32.ofNat cap)), .unset] [(.int (Int32.ofNat (cap + max (mm - cap) (cap / 2))))]))
      refine own_on (fun t_ k_ => XS.istoreN X45.here hx rfl (hb hby d23_30) rfl (l' := #[.val (.ref a), .val (.int (Int32.ofNat mm)), .val (.int (Int32.ofNat cap)), .val (.int (Int32.ofNat (cap + max (mm - cap) (cap / 2))))]) rfl k_) ?_
      show OwnGo p e below s _ _ _ (T45.setTop (mkF m 31 #[.val (.ref a), .val (.int (Int32.ofNat mm)), .val (.int (Int32.ofNat cap)), .val (.int (Int32.ofNat (cap + max (mm - cap) (cap / 2))))] []))
      refine own_on (fun t_ k_ => XS.aloadN X45.here hx rfl (hb hby d23_31) rfl rfl k_) ?_
      show OwnGo p e below s _ _ _ (T45.setTop (mkF m 32 #[.val (.ref a), .val (.int (Int32.ofNat mm)), .val (.int (Int32.ofNat cap)), .val (.int (Int32.ofNat (cap + max (mm - cap) (cap / 2))))] [(.ref a)]))
      refine own_on (fun t_ k_ => XS.aloadN X45.here hx rfl (hb hby d23_32) rfl rfl k_) ?_
      show OwnGo p e below s _ _ _ (T45.setTop (mkF m 33 #[.val (.ref a), .val (.int (Int32.ofNat mm)), .val (.int (Int32.ofNat cap)), .val (.int (Int32.ofNat (cap + max (mm - cap) (cap / 2))))] [(.ref a), (.ref a)]))
      obtain ⟨T46, X46, e46, st46⟩ := getF X45 hx hZ hown (host := "") (Or.inl (w48 hw)) Via.refl e45 P1 (g := (mkF m 33 #[.val (.ref a), .val (.int (Int32.ofNat mm)), .val (.int (Int32.ofNat cap)), .val (.int (Int32.ofNat (cap + max (mm - cap) (cap / 2))))] [(.ref a), (.ref a)])) rfl rfl (hb hby d23_33)
      refine own_on st46 ?_
      show OwnGo p e below s _ _ _ (T46.setTop (mkF m 36 #[.val (.ref a), .val (.int (Int32.ofNat mm)), .val (.int (Int32.ofNat cap)), .val (.int (Int32.ofNat (cap + max (mm - cap) (cap / 2))))] [(.ref ea), (.ref a)]))
      refine own_on (fun t_ k_ => XS.iloadN X46.here hx rfl (hb hby d23_36) rfl k_) ?_
      show OwnGo p e below s _ _ _ (T46.setTop (mkF m 37 #[.val (.ref a), .val (.int (Int32.ofNat mm)), .val (.int (Int32.ofNat cap)), .val (.int (Int32.ofNat (cap + max (mm - cap) (cap / 2))))] [(.int (Int32.ofNat (cap + max (mm - cap) (cap / 2)))), (.ref ea), (.ref a)]))
      obtain ⟨_, _, ⟨T47, L47, k47, n47⟩, -, X47, ⟨Lc47, hQ47, l47, y47, z47⟩, st47⟩ := Jvm.LawKit.callS X46 hx (y := (⟨"java/util/Arrays", "copyOf", "([Ljava/lang/Object;I)[Ljava/lang/Object;"⟩ : MethodName)) hown (mvT hZ (w90 hw)) (mvT hZ (w91 hw)) (mvT hZ (w92 hw)) (mvT hZ (w93 hw)) (by decide) (backOf (W := 1) (rm14 l Z a0 hw [] ea (cap + max (mm - cap) (cap / 2)) cap es mr h0 n0 Z0 P4 P5 P8 (by omega : es.length ≤ (cap + max (mm - cap) (cap / 2))) (by omega : (cap + max (mm - cap) (cap / 2)) ≤ 10)) hZ (w93 hw) (w92 hw) (by decide) (by decide)) (g := (mkF m 37 #[.val (.ref a), .val (.int (Int32.ofNat mm)), .val (.int (Int32.ofNat cap)), .val (.int (Int32.ofNat (cap + max (mm - cap) (cap / 2))))] [(.int (Int32.ofNat (cap + max (mm - cap) (cap / 2)))), (.ref ea), (.ref a)])) rfl (by rw [hml]; rfl) (argsL := [(.ref ea), (.int (Int32.ofNat (cap + max (mm - cap) (cap / 2))))]) (rest := [(.ref a)]) (lenOf pd_3 rfl) rfl (by show 2 * 0 + _ ≤ _; exact Nat.le_of_eq rfl) (hb hby d23_37) (fun _ hWx => ⟨rfl, e46, (by decide : 0 + 1 ≤ _), (by decide : 0 + 10 ≤ _)⟩)
      dsimp only [Pt.U, Pt.locs, Pt.cells, Pt.slots] at X47 l47 y47 z47 st47 hQ47
      replace X47 := own_num (c' := 1) (n' := 10) X47 l47 (y47.trans rfl) (z47.trans rfl)
      obtain ⟨r_47, rfl, N47q, K47q, c47_0, c47_1, c47_2⟩ := hQ47
      have N47 := Fr.app N45 N47q
      have Z47 : n0 ≤ T47.heap.size := Nat.le_trans Z0 K47q.1
      have K47 : Keep h0 T47.heap [a] := K0.trans K47q all0
      have ne48 : a ≠ r_47 := Nat.ne_of_lt (Nat.lt_of_lt_of_le P0.lt c47_2)
      have ne49 : ea ≠ r_47 := Nat.ne_of_lt (Nat.lt_of_lt_of_le P4.lt c47_2)
      have z50 : h0.size ≤ r_47 := Nat.le_trans K0.1 c47_2
      refine own_on st47 ?_
      show OwnGo p e below s _ _ _ (T47.setTop (mkF m 40 #[.val (.ref a), .val (.int (Int32.ofNat mm)), .val (.int (Int32.ofNat cap)), .val (.int (Int32.ofNat (cap + max (mm - cap) (cap / 2))))] [(.ref r_47), (.ref a)]))
      refine own_on (fun t_ k_ => XS.dupX1 X47.here hx rfl (hb hby d23_40) rfl rfl rfl k_) ?_
      show OwnGo p e below s _ _ _ (T47.setTop (mkF m 41 #[.val (.ref a), .val (.int (Int32.ofNat mm)), .val (.int (Int32.ofNat cap)), .val (.int (Int32.ofNat (cap + max (mm - cap) (cap / 2))))] [(.ref r_47), (.ref a), (.ref r_47)]))
      have f51 : Fld Z T47.heap a "java/util/ArrayList" "elementData" "[Ljava/lang/Object;" (.ref ea) := P1.keep K47q nin0
      have f52 : Exa Z T47.heap a "java/util/ArrayList" := P0.keep K47q
      obtain ⟨T53, h53, X53, e53, W53, st53⟩ := putF X47 hx hZ hown (host := "") (Or.inl (w48 hw)) Via.refl rfl f51 f52 (Or.inl (w49 hw)) (w27 hw) (ty := (.array (.object "java/lang/Object"))) (by decide) rfl rfl (g := (mkF m 41 #[.val (.ref a), .val (.int (Int32.ofNat mm)), .val (.int (Int32.ofNat cap)), .val (.int (Int32.ofNat (cap + max (mm - cap) (cap / 2))))] [(.ref r_47), (.ref a), (.ref r_47)])) rfl rfl (hb hby d23_41)
      have F53 := f51.same W53
      have N53 := Fr.snoc X53 N47 P9
      have Z53 : n0 ≤ h53.size := Nat.le_trans Z47 (Keep.of_wr W53).1
      have K53 : Keep h0 h53 [a] := K47.wr W53 (Or.inl (List.mem_of_getElem? (i := 0) rfl))
      refine own_on st53 ?_
      show OwnGo p e below s _ _ _ (T53.setTop (mkF m 44 #[.val (.ref a), .val (.int (Int32.ofNat mm)), .val (.int (Int32.ofNat cap)), .val (.int (Int32.ofNat (cap + max (mm - cap) (cap / 2))))] [(.ref r_47)]))
      have f54 : Exa Z h53 a "java/util/ArrayList" := f52.wr W53
      have f55 : Fld Z T47.heap a "java/util/ArrayList" "size" "I" (.int (own_n es)) := P2.keep K47q nin0
      have f56 : Fld Z h53 a "java/util/ArrayList" "size" "I" (.int (own_n es)) := f55.other W53 (Or.inr (slot_ne (Or.inl (w89 hw)) (Or.inl (w49 hw)) (by decide) (t := .int) (t' := (.array (.object "java/lang/Object"))) (by decide) (by decide)))
      have f57 : Fld Z T47.heap a "java/util/AbstractList" "modCount" "I" (.int mc) := P3.keep K47q nin0
      have f58 : Fld Z h53 a "java/util/AbstractList" "modCount" "I" (.int mc) := f57.other W53 (Or.inr (slot_ne (Or.inl (w46 hw)) (Or.inl (w49 hw)) (by decide) (t := .int) (t' := (.array (.object "java/lang/Object"))) (by decide) (by decide)))
      have f59 : OwnA Z h53 r_47 (cap + max (mm - cap) (cap / 2)) es := c47_0.other W53 (Ne.symm ne48)
      have f60 : OwnE Z T47.heap es := P5.keep K47q 
      have f61 : OwnE Z h53 es := f60.other W53 
      have f62 : Old Z n0 T47.heap := P6.keep K47q all0
      have f63 : Old Z n0 h53 := f62.wr W53 P9
      exact own_retA X53 hx hlk Bd.returns rfl rfl (hb hby d23_44) e53 ⟨r_47, (cap + max (mm - cap) (cap / 2)), rfl, N53, K53, f54, F53, f56, f58, f59, (by omega), c47_1, z50, f61, f63⟩ (by decide) (by decide)
theorem ef_22 (m : MethodId) (a : Addr)  : entryFrame m #[(.ref a)] 1 = mkF m 0 #[.val (.ref a)] [] := by first | (simp [entryFrame, mkF, argsToLocals, Value.category]; done) | rfl
def Q22 (Z : State) (a : Addr) (ea : Addr) (cap : Nat) (es : List Addr) (mc : Int32) (dc : Addr) (mr : Addr) (h0 : Heap) (n0 : Nat) (v_ : Option Value) (h_ : Heap) (L_ : List Loc) : Prop := ∃ r : Addr, ∃ cp2 : Nat, v_ = some (.ref r) ∧ Fr n0 L_ ∧ Keep h0 h_ [a] ∧ (Exa Z h_ a "java/util/ArrayList") ∧ (Fld Z h_ a "java/util/ArrayList" "elementData" "[Ljava/lang/Object;" (.ref r)) ∧ (Fld Z h_ a "java/util/ArrayList" "size" "I" (.int (own_n es))) ∧ (Fld Z h_ a "java/util/AbstractList" "modCount" "I" (.int mc)) ∧ (OwnA Z h_ r cp2 es) ∧ (es.length + 1 ≤ cp2) ∧ (n0 ≤ r) ∧ (h0.size ≤ r) ∧ (OwnE Z h_ es) ∧ (Old Z n0 h_)
set_option maxRecDepth 65536 in
set_option maxHeartbeats 40000000 in
theorem rm22 (l : Launch) (Z : State) (a0 : Array Value) (hw : ∀ d ∈ tables_1, d.before a0 Z = true) (ws : List Jvm.Cond) (a : Addr) (ea : Addr) (cap : Nat) (es : List Addr) (mc : Int32) (dc : Addr) (mr : Addr) (h0 : Heap) (n0 : Nat) (Z0 : n0 ≤ h0.size) (P0 : Exa Z h0 a "java/util/ArrayList") (P1 : Fld Z h0 a "java/util/ArrayList" "elementData" "[Ljava/lang/Object;" (.ref ea)) (P2 : Fld Z h0 a "java/util/ArrayList" "size" "I" (.int (own_n es))) (P3 : Fld Z h0 a "java/util/AbstractList" "modCount" "I" (.int mc)) (P4 : OwnA Z h0 ea cap es) (P5 : OwnE Z h0 es) (P6 : Old Z n0 h0) (P7 : Sta Z Z.heap "java/util/ArrayList" "DEFAULTCAPACITY_EMPTY_ELEMENTDATA" "[Ljava/lang/Object;" (.ref dc)) (P8 : OwnM Z "[Ljava/lang/Object;" mr) (P9 : n0 ≤ a) (P10 : es.length = cap) (P11 : cap ≤ 5) :
    MetFree l (⟨"java/util/ArrayList", "grow", "()[Ljava/lang/Object;"⟩ : MethodName) (head1 (Jvm.Cond.code (⟨"java/util/ArrayList", "grow", "()[Ljava/lang/Object;"⟩ : MethodName) jdk_38_method_7_code 1 (some (.array (.object "java/lang/Object"))) :: ws) ({ frames := 4, cells := 1, slots := 10, locals := 62 } : Room)) (fun A_ U => A_ = #[(.ref a)] ∧ Z.Warmed39 U.vm ∧ U.heap = h0) (fun _ _ _ _ _ => True) (fun _ U_ o_ U'_ => ∃ v_ L_, o_ = .returned v_ ∧ Q22 Z a ea cap es mc dc mr h0 n0 v_ U'_.heap L_ ∧ FrameEnd U_ o_ U'_ L_ ({ frames := 4, cells := 1, slots := 10, locals := 62 } : Room).cells ({ frames := 4, cells := 1, slots := 10, locals := 62 } : Room).slots) := by
  refine MetFree.of_bodySF (plainFor_of_name pn_2) hisR ?_
  intro p e s m args below meth c s₁ Bd hml0 hP hK
  obtain ⟨rfl, hZ, hh⟩ := hP
  have hx := Bd.exec
  have hby := Bd.bytes
  have hml : c.maxLocals = 1 := hml0
  have hown : s.vm.findClass "java/util/ArrayList" = some m.cls := findClass_of_methodNamed Bd.named
  have hnm := (name_of_methodNamed Bd.named Bd.method).1
  have hlk : meth.locks = false := Bd.notSynchronized
  have X0 : Stand p l e ({ frames := 4, cells := 1, slots := 10, locals := 62 } : Room) s m #[(.ref a)] below meth c s₁ [] 0 0 := Stand.of_body Bd
  have e0 : s₁.heap = h0 := by rw [← hh, Bd.state]; rfl
  have N0 := Fr.nil n0
  have K0 : Keep h0 h0 [a] := Keep.refl _ _
  refine own_cast (ef_22 m a) ?_
  show OwnGo p e below s (Q22 Z a ea cap es mc dc mr h0 n0) ({ frames := 4, cells := 1, slots := 10, locals := 62 } : Room).cells ({ frames := 4, cells := 1, slots := 10, locals := 62 } : Room).slots (s₁.setTop (mkF m 0 #[.val (.ref a)] []))
  refine own_on (fun t_ k_ => XS.aloadN X0.here hx rfl (hb hby d22_0) rfl rfl k_) ?_
  show OwnGo p e below s _ _ _ (s₁.setTop (mkF m 1 #[.val (.ref a)] [(.ref a)]))
  refine own_on (fun t_ k_ => XS.aloadN X0.here hx rfl (hb hby d22_1) rfl rfl k_) ?_
  show OwnGo p e below s _ _ _ (s₁.setTop (mkF m 2 #[.val (.ref a)] [(.ref a), (.ref a)]))
  obtain ⟨T1, X1, e1, st1⟩ := getF X0 hx hZ hown (host := "") (Or.inl (w88 hw)) Via.refl e0 P2 (g := (mkF m 2 #[.val (.ref a)] [(.ref a), (.ref a)])) rfl rfl (hb hby d22_2)
  refine own_on st1 ?_
  show OwnGo p e below s _ _ _ (T1.setTop (mkF m 5 #[.val (.ref a)] [(.int (own_n es)), (.ref a)]))
  refine own_on (fun t_ k_ => XS.iconst X1.here hx rfl (hb hby d22_5) k_) ?_
  show OwnGo p e below s _ _ _ (T1.setTop (mkF m 6 #[.val (.ref a)] [(.int (1 : Int32)), (.int (own_n es)), (.ref a)]))
  refine own_on (fun t_ k_ => XS.iadd X1.here hx rfl (hb hby d22_6) rfl k_) ?_
  show OwnGo p e below s _ _ _ (T1.setTop (mkF m 7 #[.val (.ref a)] [(.int ((own_n es) + (1 : Int32))), (.ref a)]))
  rw [show ((own_n es) + (1 : Int32)) = (Int32.ofNat (es.length + 1)) from own_add' es.length 1]
  show OwnGo p e below s _ _ _ (T1.setTop (mkF m 7 #[.val (.ref a)] [(.int (Int32.ofNat (es.length + 1))), (.ref a)]))
  obtain ⟨cq2, q2, q2'⟩ := P0.cell
  obtain ⟨_, _, ⟨T2, L2, k2, n2⟩, -, X2, ⟨Lc2, hQ2, l2, y2, z2⟩, st2⟩ := X1.privateBack hx (y := (⟨"java/util/ArrayList", "grow", "(I)[Ljava/lang/Object;"⟩ : MethodName)) hown (mvT hZ (w153 hw)) (mvT hZ (w154 hw)) (mvT hZ (w156 hw)) (Cond.privateMethod_at (mvP hZ (w155 hw) (args := #[]))) (mvT hZ (w157 hw)) (by decide) (backOf (W := 0) (rm23 l Z a0 hw [] a (es.length + 1) ea cap es mc dc mr h0 n0 Z0 P0 P1 P2 P3 P4 P5 P6 P7 P8 P9 (by omega : cap < (es.length + 1)) (by omega : (es.length + 1) ≤ 6)) hZ (w157 hw) (w28 hw) (by decide) (by decide)) (g := (mkF m 7 #[.val (.ref a)] [(.int (Int32.ofNat (es.length + 1))), (.ref a)])) rfl (by rw [hml]; rfl) (Steps.refl _) (a := a) (by rw [e1]; exact q2) q2' (argsL := [(.int (Int32.ofNat (es.length + 1)))]) (rest := []) (lenOf pd_5 rfl) rfl (by show 2 * 0 + _ ≤ _; exact Nat.le_of_eq rfl) (hb hby d22_7) (fun _ hWx => ⟨rfl, e1, (by decide : 0 + 1 ≤ _), (by decide : 0 + 10 ≤ _)⟩)
  dsimp only [Pt.U, Pt.locs, Pt.cells, Pt.slots] at X2 l2 y2 z2 st2 hQ2
  replace X2 := own_num (c' := 1) (n' := 10) X2 l2 (y2.trans rfl) (z2.trans rfl)
  obtain ⟨r_2, cp2_2, rfl, N2q, K2q, c2_0, c2_1, c2_2, c2_3, c2_4, c2_5, c2_6, c2_7, c2_8, c2_9⟩ := hQ2
  have N2 := Fr.app N0 N2q
  have Z2 : n0 ≤ T2.heap.size := Nat.le_trans Z0 K2q.1
  have K2 : Keep h0 T2.heap [a] := K0.trans K2q (allS (P := fun x => x ∈ [a] ∨ h0.size ≤ x) (Or.inl (List.mem_of_getElem? (i := 0) rfl)) all0)
  have ne3 : a ≠ r_2 := Nat.ne_of_lt (Nat.lt_of_lt_of_le P0.lt c2_7)
  have ne4 : ea ≠ r_2 := Nat.ne_of_lt (Nat.lt_of_lt_of_le P4.lt c2_7)
  have z5 : h0.size ≤ r_2 := Nat.le_trans K0.1 c2_7
  refine own_tr st2 ?_
  show OwnGo p e below s _ _ _ (T2.setTop (mkF m 10 #[.val (.ref a)] [(.ref r_2)]))
  exact own_retA X2 hx hlk Bd.returns rfl rfl (hb hby d22_10) rfl ⟨r_2, cp2_2, rfl, N2, K2, c2_0, c2_1, c2_2, c2_3, c2_4, (by omega), c2_6, z5, c2_8, c2_9⟩ (by decide) (by decide)
theorem ef_21 (m : MethodId) (a : Addr) (x : Addr) (ea : Addr) (es : List Addr)  : entryFrame m #[(.ref a), (.ref x), (.ref ea), (.int (own_n es))] 4 = mkF m 0 #[.val (.ref a), .val (.ref x), .val (.ref ea), .val (.int (own_n es))] [] := by first | (simp [entryFrame, mkF, argsToLocals, Value.category]; done) | rfl
def Q21 (Z : State) (a : Addr) (x : Addr) (ea : Addr) (es : List Addr) (cap : Nat) (mc : Int32) (wa : Addr) (nb : Nat) (dc : Addr) (mr : Addr) (h0 : Heap) (n0 : Nat) (v_ : Option Value) (h_ : Heap) (L_ : List Loc) : Prop := ∃ ea2 : Addr, ∃ cp2 : Nat, ∃ wa2 : Addr, v_ = none ∧ Fr n0 L_ ∧ Keep h0 h_ [a, wa] ∧ (Exa Z h_ a "java/util/ArrayList") ∧ (Fld Z h_ a "java/util/ArrayList" "elementData" "[Ljava/lang/Object;" (.ref ea2)) ∧ (Fld Z h_ a "java/util/ArrayList" "size" "I" (.int (own_n (es ++ [x])))) ∧ (Fld Z h_ a "java/util/AbstractList" "modCount" "I" (.int mc)) ∧ (OwnA Z h_ ea2 cp2 (es ++ [x])) ∧ (wa2 = ea2 ∨ cp2 = 0) ∧ (n0 ≤ wa2) ∧ (nb ≤ wa2) ∧ (Old Z n0 h_) ∧ (OwnE Z h_ (es ++ [x]))
set_option maxRecDepth 65536 in
set_option maxHeartbeats 40000000 in
theorem rm21 (l : Launch) (Z : State) (a0 : Array Value) (hw : ∀ d ∈ tables_1, d.before a0 Z = true) (ws : List Jvm.Cond) (a : Addr) (x : Addr) (ea : Addr) (es : List Addr) (cap : Nat) (mc : Int32) (wa : Addr) (nb : Nat) (dc : Addr) (mr : Addr) (h0 : Heap) (n0 : Nat) (Z0 : n0 ≤ h0.size) (P0 : Exa Z h0 a "java/util/ArrayList") (P1 : Fld Z h0 a "java/util/ArrayList" "elementData" "[Ljava/lang/Object;" (.ref ea)) (P2 : Fld Z h0 a "java/util/ArrayList" "size" "I" (.int (own_n es))) (P3 : Fld Z h0 a "java/util/AbstractList" "modCount" "I" (.int mc)) (P4 : OwnA Z h0 ea cap es) (P5 : OwnE Z h0 es) (P6 : Exa Z h0 x "java/lang/String") (P7 : wa = ea ∨ cap = 0) (P8 : n0 ≤ wa) (P9 : nb ≤ wa) (P10 : nb ≤ h0.size) (P11 : Old Z n0 h0) (P12 : Sta Z Z.heap "java/util/ArrayList" "DEFAULTCAPACITY_EMPTY_ELEMENTDATA" "[Ljava/lang/Object;" (.ref dc)) (P13 : OwnM Z "[Ljava/lang/Object;" mr) (P14 : n0 ≤ a) (P15 : es.length ≤ 5) :
    MetFree l (⟨"java/util/ArrayList", "add", "(Ljava/lang/Object;[Ljava/lang/Object;I)V"⟩ : MethodName) (head1 (Jvm.Cond.code (⟨"java/util/ArrayList", "add", "(Ljava/lang/Object;[Ljava/lang/Object;I)V"⟩ : MethodName) jdk_38_method_24_code 4 none :: ws) ({ frames := 5, cells := 1, slots := 10, locals := 74 } : Room)) (fun A_ U => A_ = #[(.ref a), (.ref x), (.ref ea), (.int (own_n es))] ∧ Z.Warmed39 U.vm ∧ U.heap = h0) (fun _ _ _ _ _ => True) (fun _ U_ o_ U'_ => ∃ v_ L_, o_ = .returned v_ ∧ Q21 Z a x ea es cap mc wa nb dc mr h0 n0 v_ U'_.heap L_ ∧ FrameEnd U_ o_ U'_ L_ ({ frames := 5, cells := 1, slots := 10, locals := 74 } : Room).cells ({ frames := 5, cells := 1, slots := 10, locals := 74 } : Room).slots) := by
  refine MetFree.of_bodySF (plainFor_of_name pn_2) hisR ?_
  intro p e s m args below meth c s₁ Bd hml0 hP hK
  obtain ⟨rfl, hZ, hh⟩ := hP
  have hx := Bd.exec
  have hby := Bd.bytes
  have hml : c.maxLocals = 4 := hml0
  have hown : s.vm.findClass "java/util/ArrayList" = some m.cls := findClass_of_methodNamed Bd.named
  have hnm := (name_of_methodNamed Bd.named Bd.method).1
  have hlk : meth.locks = false := Bd.notSynchronized
  have X0 : Stand p l e ({ frames := 5, cells := 1, slots := 10, locals := 74 } : Room) s m #[(.ref a), (.ref x), (.ref ea), (.int (own_n es))] below meth c s₁ [] 0 0 := Stand.of_body Bd
  have e0 : s₁.heap = h0 := by rw [← hh, Bd.state]; rfl
  have N0 := Fr.nil n0
  have K0 : Keep h0 h0 [a, wa] := Keep.refl _ _
  refine own_cast (ef_21 m a x ea es) ?_
  show OwnGo p e below s (Q21 Z a x ea es cap mc wa nb dc mr h0 n0) ({ frames := 5, cells := 1, slots := 10, locals := 74 } : Room).cells ({ frames := 5, cells := 1, slots := 10, locals := 74 } : Room).slots (s₁.setTop (mkF m 0 #[.val (.ref a), .val (.ref x), .val (.ref ea), .val (.int (own_n es))] []))
  have hl1a := P4.1
  have hl1b := P4.2.1
  have ne2 : a ≠ ea := Exa.ne P0 P4.exa (by decide)
  refine own_on (fun t_ k_ => XS.iloadN X0.here hx rfl (hb hby d21_0) rfl k_) ?_
  show OwnGo p e below s _ _ _ (s₁.setTop (mkF m 1 #[.val (.ref a), .val (.ref x), .val (.ref ea), .val (.int (own_n es))] [(.int (own_n es))]))
  refine own_on (fun t_ k_ => XS.aloadN X0.here hx rfl (hb hby d21_1) rfl rfl k_) ?_
  show OwnGo p e below s _ _ _ (s₁.setTop (mkF m 2 #[.val (.ref a), .val (.ref x), .val (.ref ea), .val (.int (own_n es))] [(.ref ea), (.int (own_n es))]))
  obtain ⟨A3a, A3b, A3c, kk3, cl3, Ar3, q3, S3, M3, H3, G3⟩ := id P4
  refine own_on (X0.arraylength hx (by rw [e0]; exact Ar3.1) (State.isArrayOf_alike hZ.alike Ar3.2.1) (g := (mkF m 2 #[.val (.ref a), .val (.ref x), .val (.ref ea), .val (.int (own_n es))] [(.ref ea), (.int (own_n es))])) rfl rfl (hb hby d21_2)) ?_
  rw [len_of S3 M3]
  show OwnGo p e below s _ _ _ (s₁.setTop (mkF m 3 #[.val (.ref a), .val (.ref x), .val (.ref ea), .val (.int (own_n es))] [(.int (Int32.ofNat cap)), (.int (own_n es))]))
  by_cases q0 : (own_n es) = (Int32.ofNat cap)
  · refine own_on (fun t_ k_ => XS.icmpNo X0.here hx rfl (hb hby d21_3) rfl (teq q0).2 k_) ?_
    show OwnGo p e below s _ _ _ (s₁.setTop (mkF m 6 #[.val (.ref a), .val (.ref x), .val (.ref ea), .val (.int (own_n es))] []))
    have q0' : es.length = cap := (own_eq' (by omega) (by omega)).mp q0
    have hr4 : es.length = cap := q0'
    refine own_on (fun t_ k_ => XS.aloadN X0.here hx rfl (hb hby d21_6) rfl rfl k_) ?_
    show OwnGo p e below s _ _ _ (s₁.setTop (mkF m 7 #[.val (.ref a), .val (.ref x), .val (.ref ea), .val (.int (own_n es))] [(.ref a)]))
    obtain ⟨cq5, q5, q5'⟩ := P0.cell
    obtain ⟨_, _, ⟨T5, L5, k5, n5⟩, -, X5, ⟨Lc5, hQ5, l5, y5, z5⟩, st5⟩ := X0.privateBack hx (y := (⟨"java/util/ArrayList", "grow", "()[Ljava/lang/Object;"⟩ : MethodName)) hown (mvT hZ (w148 hw)) (mvT hZ (w149 hw)) (mvT hZ (w151 hw)) (Cond.privateMethod_at (mvP hZ (w150 hw) (args := #[]))) (mvT hZ (w152 hw)) (by decide) (backOf (W := 0) (rm22 l Z a0 hw [] a ea cap es mc dc mr h0 n0 Z0 P0 P1 P2 P3 P4 P5 P11 P12 P13 P14 hr4 (by omega : cap ≤ 5)) hZ (w152 hw) (w28 hw) (by decide) (by decide)) (g := (mkF m 7 #[.val (.ref a), .val (.ref x), .val (.ref ea), .val (.int (own_n es))] [(.ref a)])) rfl (by rw [hml]; rfl) (Steps.refl _) (a := a) (by rw [e0]; exact q5) q5' (argsL := []) (rest := []) (lenOf pd_6 rfl) rfl (by show 2 * 0 + _ ≤ _; exact Nat.le_of_eq rfl) (hb hby d21_7) (fun _ hWx => ⟨rfl, e0, (by decide : 0 + 1 ≤ _), (by decide : 0 + 10 ≤ _)⟩)
    dsimp only [Pt.U, Pt.locs, Pt.cells, Pt.slots] at X5 l5 y5 z5 st5 hQ5
    replace X5 := own_num (c' := 1) (n' := 10) X5 l5 (y5.trans rfl) (z5.trans rfl)
    obtain ⟨r_5, cp2_5, rfl, N5q, K5q, c5_0, c5_1, c5_2, c5_3, c5_4, c5_5, c5_6, c5_7, c5_8, c5_9⟩ := hQ5
    have N5 := Fr.app N0 N5q
    have Z5 : n0 ≤ T5.heap.size := Nat.le_trans Z0 K5q.1
    have K5 : Keep h0 T5.heap [a, wa] := K0.trans K5q (allS (P := fun x => x ∈ [a, wa] ∨ h0.size ≤ x) (Or.inl (List.mem_of_getElem? (i := 0) rfl)) all0)
    have ne6 : a ≠ r_5 := Nat.ne_of_lt (Nat.lt_of_lt_of_le P0.lt c5_7)
    have ne7 : ea ≠ r_5 := Nat.ne_of_lt (Nat.lt_of_lt_of_le P4.lt c5_7)
    have ne8 : x ≠ r_5 := Nat.ne_of_lt (Nat.lt_of_lt_of_le P6.lt c5_7)
    have z9 : h0.size ≤ r_5 := Nat.le_trans K0.1 c5_7
    refine own_tr st5 ?_
    show OwnGo p e below s _ _ _ (T5.setTop (mkF m 10 #[.val (.ref a), .val (.ref x), .val (.ref ea), .val (.int (own_n es))] [(.ref r_5)]))
    refine own_on (fun t_ k_ => XS.astoreN X5.here hx rfl (hb hby d21_10) rfl rfl (l' := #[.val (.ref a), .val (.ref x), .val (.ref r_5), .val (.int (own_n es))]) rfl k_) ?_
    show OwnGo p e below s _ _ _ (T5.setTop (mkF m 11 #[.val (.ref a), .val (.ref x), .val (.ref r_5), .val (.int (own_n es))] []))
    have hr10 : r_5 = r_5 ∨ cp2_5 = 0 := Or.inl rfl
    have hr11 : nb ≤ r_5 := Nat.le_trans P10 z9
    have hr12 : es.length < cp2_5 := by omega
    refine own_on (fun t_ k_ => XS.aloadN X5.here hx rfl (hb hby d21_11) rfl rfl k_) ?_
    show OwnGo p e below s _ _ _ (T5.setTop (mkF m 12 #[.val (.ref a), .val (.ref x), .val (.ref r_5), .val (.int (own_n es))] [(.ref r_5)]))
    refine own_on (fun t_ k_ => XS.iloadN X5.here hx rfl (hb hby d21_12) rfl k_) ?_
    show OwnGo p e below s _ _ _ (T5.setTop (mkF m 13 #[.val (.ref a), .val (.ref x), .val (.ref r_5), .val (.int (own_n es))] [(.int (own_n es)), (.ref r_5)]))
    refine own_on (fun t_ k_ => XS.aloadN X5.here hx rfl (hb hby d21_13) rfl rfl k_) ?_
    show OwnGo p e below s _ _ _ (T5.setTop (mkF m 14 #[.val (.ref a), .val (.ref x), .val (.ref r_5), .val (.int (own_n es))] [(.ref x), (.int (own_n es)), (.ref r_5)]))
    have f13 : Exa Z T5.heap x "java/lang/String" := P6.keep K5q
    obtain ⟨A14a, A14b, A14c, kk14, cl14, Ar14, q14, S14, M14, H14, G14⟩ := id c5_4
    have hlt15 : es.length < cp2_5 := by omega
    have hin14 : ¬ ((own_n es) < 0 ∨ cl14.slots.size ≤ ((own_n es)).toNatClampNeg) := inb_of S14 ⟨own_onN (by omega), (own_lt' (by omega) (by omega)).mpr hlt15⟩
    obtain ⟨T16, h16, X16, e16, W16, st16⟩ := stR X5 hx hZ rfl Ar14 (j := (own_n es)) hin14 rfl (own_sto (w105 hw) (w162 hw) c5_4 f13) (g := (mkF m 14 #[.val (.ref a), .val (.ref x), .val (.ref r_5), .val (.int (own_n es))] [(.ref x), (.int (own_n es)), (.ref r_5)])) rfl rfl (hb hby d21_14)
    have V16 : OwnA Z h16 r_5 cp2_5 (es ++ [x]) := own_setA hlt15 A14b A14c Ar14 q14 S14 M14 H14 G14 rfl W16
    have N16 := Fr.snoc X16 N5 c5_6
    have Z16 : n0 ≤ h16.size := Nat.le_trans Z5 (Keep.of_wr W16).1
    have K16 : Keep h0 h16 [a, wa] := K5.wr W16 (Or.inr z9)
    refine own_on st16 ?_
    show OwnGo p e below s _ _ _ (T16.setTop (mkF m 15 #[.val (.ref a), .val (.ref x), .val (.ref r_5), .val (.int (own_n es))] []))
    refine own_on (fun t_ k_ => XS.aloadN X16.here hx rfl (hb hby d21_15) rfl rfl k_) ?_
    show OwnGo p e below s _ _ _ (T16.setTop (mkF m 16 #[.val (.ref a), .val (.ref x), .val (.ref r_5), .val (.int (own_n es))] [(.ref a)]))
    refine own_on (fun t_ k_ => XS.iloadN X16.here hx rfl (hb hby d21_16) rfl k_) ?_
    show OwnGo p e below s _ _ _ (T16.setTop (mkF m 17 #[.val (.ref a), .val (.ref x), .val (.ref r_5), .val (.int (own_n es))] [(.int (own_n es)), (.ref a)]))
    refine own_on (fun t_ k_ => XS.iconst X16.here hx rfl (hb hby d21_17) k_) ?_
    show OwnGo p e below s _ _ _ (T16.setTop (mkF m 18 #[.val (.ref a), .val (.ref x), .val (.ref r_5), .val (.int (own_n es))] [(.int (1 : Int32)), (.int (own_n es)), (.ref a)]))
    refine own_on (fun t_ k_ => XS.iadd X16.here hx rfl (hb hby d21_18) rfl k_) ?_
    show OwnGo p e below s _ _ _ (T16.setTop (mkF m 19 #[.val (.ref a), .val (.ref x), .val (.ref r_5), .val (.int (own_n es))] [(.int ((own_n es) + (1 : Int32))), (.ref a)]))
    rw [show ((own_n es) + (1 : Int32)) = (own_n (es ++ [x])) from own_napp1 es x]
    show OwnGo p e below s _ _ _ (T16.setTop (mkF m 19 #[.val (.ref a), .val (.ref x), .val (.ref r_5), .val (.int (own_n es))] [(.int (own_n (es ++ [x]))), (.ref a)]))
    have f17 : Fld Z h16 a "java/util/ArrayList" "size" "I" (.int (own_n es)) := c5_2.other W16 (Or.inl ne6)
    have f18 : Exa Z h16 a "java/util/ArrayList" := c5_0.wr W16
    obtain ⟨T19, h19, X19, e19, W19, st19⟩ := putF X16 hx hZ hown (host := "") (Or.inl (w88 hw)) Via.refl e16 f17 f18 (Or.inl (w89 hw)) (w27 hw) (ty := .int) (by decide) rfl rfl (g := (mkF m 19 #[.val (.ref a), .val (.ref x), .val (.ref r_5), .val (.int (own_n es))] [(.int (own_n (es ++ [x]))), (.ref a)])) rfl rfl (hb hby d21_19)
    have F19 := f17.same W19
    have N19 := Fr.snoc X19 N16 P14
    have Z19 : n0 ≤ h19.size := Nat.le_trans Z16 (Keep.of_wr W19).1
    have K19 : Keep h0 h19 [a, wa] := K16.wr W19 (Or.inl (List.mem_of_getElem? (i := 0) rfl))
    refine own_on st19 ?_
    show OwnGo p e below s _ _ _ (T19.setTop (mkF m 22 #[.val (.ref a), .val (.ref x), .val (.ref r_5), .val (.int (own_n es))] []))
    have f20 : OwnE Z h16 es := c5_8.other W16 
    have f21 : OwnE Z h19 es := f20.other W19 
    have f22 : Exa Z h16 x "java/lang/String" := f13.wr W16
    have f23 : Exa Z h19 x "java/lang/String" := f22.wr W19
    have f24 : OwnE Z h19 (es ++ [x]) := f21.app (OwnE.one f23)
    have f25 : Exa Z h19 a "java/util/ArrayList" := f18.wr W19
    have f26 : Fld Z h16 a "java/util/ArrayList" "elementData" "[Ljava/lang/Object;" (.ref r_5) := c5_1.other W16 (Or.inl ne6)
    have f27 : Fld Z h19 a "java/util/ArrayList" "elementData" "[Ljava/lang/Object;" (.ref r_5) := f26.other W19 (Or.inr (slot_ne (Or.inl (w49 hw)) (Or.inl (w89 hw)) (by decide) (t := (.array (.object "java/lang/Object"))) (t' := .int) (by decide) (by decide)))
    have f28 : Fld Z h16 a "java/util/AbstractList" "modCount" "I" (.int mc) := c5_3.other W16 (Or.inl ne6)
    have f29 : Fld Z h19 a "java/util/AbstractList" "modCount" "I" (.int mc) := f28.other W19 (Or.inr (slot_ne (Or.inl (w46 hw)) (Or.inl (w89 hw)) (by decide) (t := .int) (t' := .int) (by decide) (by decide)))
    have f30 : OwnA Z h19 r_5 cp2_5 (es ++ [x]) := V16.other W19 (Ne.symm ne6)
    have f31 : Old Z n0 h16 := c5_9.wr W16 c5_6
    have f32 : Old Z n0 h19 := f31.wr W19 P14
    exact own_retV X19 hx hlk Bd.returns (hb hby d21_22) e19 ⟨r_5, cp2_5, r_5, rfl, N19, K19, f25, f27, F19, f29, f30, hr10, c5_6, hr11, f32, f24⟩ (by decide) (by decide)
  · refine own_on (fun t_ k_ => XS.icmpYes X0.here hx rfl (pc0 := 3) (pc' := 11) rfl (hb hby d21_3) rfl (feq q0).2 (by decide) (by decide) k_) ?_
    show OwnGo p e below s _ _ _ (s₁.setTop (mkF m 11 #[.val (.ref a), .val (.ref x), .val (.ref ea), .val (.int (own_n es))] []))
    have q0' : ¬ es.length = cap := fun q => q0 ((own_eq' (by omega) (by omega)).mpr q)
    have hwa : wa = ea := P7.resolve_right (by omega)
    have hmem : ea ∈ [a, wa] := by rw [← hwa]; exact List.mem_of_getElem? (i := 1) rfl
    have g33 : n0 ≤ ea := hwa ▸ P8
    refine own_on (fun t_ k_ => XS.aloadN X0.here hx rfl (hb hby d21_11) rfl rfl k_) ?_
    show OwnGo p e below s _ _ _ (s₁.setTop (mkF m 12 #[.val (.ref a), .val (.ref x), .val (.ref ea), .val (.int (own_n es))] [(.ref ea)]))
    refine own_on (fun t_ k_ => XS.iloadN X0.here hx rfl (hb hby d21_12) rfl k_) ?_
    show OwnGo p e below s _ _ _ (s₁.setTop (mkF m 13 #[.val (.ref a), .val (.ref x), .val (.ref ea), .val (.int (own_n es))] [(.int (own_n es)), (.ref ea)]))
    refine own_on (fun t_ k_ => XS.aloadN X0.here hx rfl (hb hby d21_13) rfl rfl k_) ?_
    show OwnGo p e below s _ _ _ (s₁.setTop (mkF m 14 #[.val (.ref a), .val (.ref x), .val (.ref ea), .val (.int (own_n es))] [(.ref x), (.int (own_n es)), (.ref ea)]))
    obtain ⟨A34a, A34b, A34c, kk34, cl34, Ar34, q34, S34, M34, H34, G34⟩ := id P4
    have hlt35 : es.length < cap := by omega
    have hin34 : ¬ ((own_n es) < 0 ∨ cl34.slots.size ≤ ((own_n es)).toNatClampNeg) := inb_of S34 ⟨own_onN (by omega), (own_lt' (by omega) (by omega)).mpr hlt35⟩
    obtain ⟨T36, h36, X36, e36, W36, st36⟩ := stR X0 hx hZ e0 Ar34 (j := (own_n es)) hin34 rfl (own_sto (w105 hw) (w162 hw) P4 P6) (g := (mkF m 14 #[.val (.ref a), .val (.ref x), .val (.ref ea), .val (.int (own_n es))] [(.ref x), (.int (own_n es)), (.ref ea)])) rfl rfl (hb hby d21_14)
    have V36 : OwnA Z h36 ea cap (es ++ [x]) := own_setA hlt35 A34b A34c Ar34 q34 S34 M34 H34 G34 rfl W36
    have N36 := Fr.snoc X36 N0 g33
    have Z36 : n0 ≤ h36.size := Nat.le_trans Z0 (Keep.of_wr W36).1
    have K36 : Keep h0 h36 [a, wa] := K0.wr W36 (Or.inl hmem)
    refine own_on st36 ?_
    show OwnGo p e below s _ _ _ (T36.setTop (mkF m 15 #[.val (.ref a), .val (.ref x), .val (.ref ea), .val (.int (own_n es))] []))
    refine own_on (fun t_ k_ => XS.aloadN X36.here hx rfl (hb hby d21_15) rfl rfl k_) ?_
    show OwnGo p e below s _ _ _ (T36.setTop (mkF m 16 #[.val (.ref a), .val (.ref x), .val (.ref ea), .val (.int (own_n es))] [(.ref a)]))
    refine own_on (fun t_ k_ => XS.iloadN X36.here hx rfl (hb hby d21_16) rfl k_) ?_
    show OwnGo p e below s _ _ _ (T36.setTop (mkF m 17 #[.val (.ref a), .val (.ref x), .val (.ref ea), .val (.int (own_n es))] [(.int (own_n es)), (.ref a)]))
    refine own_on (fun t_ k_ => XS.iconst X36.here hx rfl (hb hby d21_17) k_) ?_
    show OwnGo p e below s _ _ _ (T36.setTop (mkF m 18 #[.val (.ref a), .val (.ref x), .val (.ref ea), .val (.int (own_n es))] [(.int (1 : Int32)), (.int (own_n es)), (.ref a)]))
    refine own_on (fun t_ k_ => XS.iadd X36.here hx rfl (hb hby d21_18) rfl k_) ?_
    show OwnGo p e below s _ _ _ (T36.setTop (mkF m 19 #[.val (.ref a), .val (.ref x), .val (.ref ea), .val (.int (own_n es))] [(.int ((own_n es) + (1 : Int32))), (.ref a)]))
    rw [show ((own_n es) + (1 : Int32)) = (own_n (es ++ [x])) from own_napp1 es x]
    show OwnGo p e below s _ _ _ (T36.setTop (mkF m 19 #[.val (.ref a), .val (.ref x), .val (.ref ea), .val (.int (own_n es))] [(.int (own_n (es ++ [x]))), (.ref a)]))
    have f37 : Fld Z h36 a "java/util/ArrayList" "size" "I" (.int (own_n es)) := P2.other W36 (Or.inl ne2)
    have f38 : Exa Z h36 a "java/util/ArrayList" := P0.wr W36
    obtain ⟨T39, h39, X39, e39, W39, st39⟩ := putF X36 hx hZ hown (host := "") (Or.inl (w88 hw)) Via.refl e36 f37 f38 (Or.inl (w89 hw)) (w27 hw) (ty := .int) (by decide) rfl rfl (g := (mkF m 19 #[.val (.ref a), .val (.ref x), .val (.ref ea), .val (.int (own_n es))] [(.int (own_n (es ++ [x]))), (.ref a)])) rfl rfl (hb hby d21_19)
    have F39 := f37.same W39
    have N39 := Fr.snoc X39 N36 P14
    have Z39 : n0 ≤ h39.size := Nat.le_trans Z36 (Keep.of_wr W39).1
    have K39 : Keep h0 h39 [a, wa] := K36.wr W39 (Or.inl (List.mem_of_getElem? (i := 0) rfl))
    refine own_on st39 ?_
    show OwnGo p e below s _ _ _ (T39.setTop (mkF m 22 #[.val (.ref a), .val (.ref x), .val (.ref ea), .val (.int (own_n es))] []))
    have f40 : OwnE Z h36 es := P5.other W36 
    have f41 : OwnE Z h39 es := f40.other W39 
    have f42 : Exa Z h36 x "java/lang/String" := P6.wr W36
    have f43 : Exa Z h39 x "java/lang/String" := f42.wr W39
    have f44 : OwnE Z h39 (es ++ [x]) := f41.app (OwnE.one f43)
    have f45 : Exa Z h39 a "java/util/ArrayList" := f38.wr W39
    have f46 : Fld Z h36 a "java/util/ArrayList" "elementData" "[Ljava/lang/Object;" (.ref ea) := P1.other W36 (Or.inl ne2)
    have f47 : Fld Z h39 a "java/util/ArrayList" "elementData" "[Ljava/lang/Object;" (.ref ea) := f46.other W39 (Or.inr (slot_ne (Or.inl (w49 hw)) (Or.inl (w89 hw)) (by decide) (t := (.array (.object "java/lang/Object"))) (t' := .int) (by decide) (by decide)))
    have f48 : Fld Z h36 a "java/util/AbstractList" "modCount" "I" (.int mc) := P3.other W36 (Or.inl ne2)
    have f49 : Fld Z h39 a "java/util/AbstractList" "modCount" "I" (.int mc) := f48.other W39 (Or.inr (slot_ne (Or.inl (w46 hw)) (Or.inl (w89 hw)) (by decide) (t := .int) (t' := .int) (by decide) (by decide)))
    have f50 : OwnA Z h39 ea cap (es ++ [x]) := V36.other W39 (Ne.symm ne2)
    have f51 : Old Z n0 h36 := P11.wr W36 g33
    have f52 : Old Z n0 h39 := f51.wr W39 P14
    exact own_retV X39 hx hlk Bd.returns (hb hby d21_22) e39 ⟨ea, cap, wa, rfl, N39, K39, f45, f47, F39, f49, f50, P7, P8, P9, f52, f44⟩ (by decide) (by decide)
theorem ef_20 (m : MethodId) (a : Addr) (x : Addr)  : entryFrame m #[(.ref a), (.ref x)] 2 = mkF m 0 #[.val (.ref a), .val (.ref x)] [] := by first | (simp [entryFrame, mkF, argsToLocals, Value.category]; done) | rfl
def Q20 (Z : State) (a : Addr) (x : Addr) (ea : Addr) (cap : Nat) (es : List Addr) (mc : Int32) (wa : Addr) (nb : Nat) (dc : Addr) (mr : Addr) (h0 : Heap) (n0 : Nat) (v_ : Option Value) (h_ : Heap) (L_ : List Loc) : Prop := ∃ ea2 : Addr, ∃ cp2 : Nat, ∃ wa2 : Addr, v_ = some (.int (1 : Int32)) ∧ Fr n0 L_ ∧ Keep h0 h_ [a, wa] ∧ (Exa Z h_ a "java/util/ArrayList") ∧ (Fld Z h_ a "java/util/ArrayList" "elementData" "[Ljava/lang/Object;" (.ref ea2)) ∧ (Fld Z h_ a "java/util/ArrayList" "size" "I" (.int (own_n (es ++ [x])))) ∧ (Fld Z h_ a "java/util/AbstractList" "modCount" "I" (.int (mc + (1 : Int32)))) ∧ (OwnA Z h_ ea2 cp2 (es ++ [x])) ∧ (wa2 = ea2 ∨ cp2 = 0) ∧ (n0 ≤ wa2) ∧ (nb ≤ wa2) ∧ (Old Z n0 h_) ∧ (OwnE Z h_ (es ++ [x]))
set_option maxRecDepth 65536 in
set_option maxHeartbeats 40000000 in
theorem rm20 (l : Launch) (Z : State) (a0 : Array Value) (hw : ∀ d ∈ tables_1, d.before a0 Z = true) (ws : List Jvm.Cond) (a : Addr) (x : Addr) (ea : Addr) (cap : Nat) (es : List Addr) (mc : Int32) (wa : Addr) (nb : Nat) (dc : Addr) (mr : Addr) (h0 : Heap) (n0 : Nat) (Z0 : n0 ≤ h0.size) (P0 : Exa Z h0 a "java/util/ArrayList") (P1 : Fld Z h0 a "java/util/ArrayList" "elementData" "[Ljava/lang/Object;" (.ref ea)) (P2 : Fld Z h0 a "java/util/ArrayList" "size" "I" (.int (own_n es))) (P3 : Fld Z h0 a "java/util/AbstractList" "modCount" "I" (.int mc)) (P4 : OwnA Z h0 ea cap es) (P5 : OwnE Z h0 es) (P6 : Exa Z h0 x "java/lang/String") (P7 : wa = ea ∨ cap = 0) (P8 : n0 ≤ wa) (P9 : nb ≤ wa) (P10 : nb ≤ h0.size) (P11 : Old Z n0 h0) (P12 : Sta Z Z.heap "java/util/ArrayList" "DEFAULTCAPACITY_EMPTY_ELEMENTDATA" "[Ljava/lang/Object;" (.ref dc)) (P13 : OwnM Z "[Ljava/lang/Object;" mr) (P14 : n0 ≤ a) (P15 : es.length ≤ 5) :
    MetFree l (⟨"java/util/ArrayList", "add", "(Ljava/lang/Object;)Z"⟩ : MethodName) (head1 (Jvm.Cond.code (⟨"java/util/ArrayList", "add", "(Ljava/lang/Object;)Z"⟩ : MethodName) jdk_38_method_25_code 2 (some .boolean) :: ws) ({ frames := 6, cells := 1, slots := 10, locals := 89 } : Room)) (fun A_ U => A_ = #[(.ref a), (.ref x)] ∧ Z.Warmed39 U.vm ∧ U.heap = h0) (fun _ _ _ _ _ => True) (fun _ U_ o_ U'_ => ∃ v_ L_, o_ = .returned v_ ∧ Q20 Z a x ea cap es mc wa nb dc mr h0 n0 v_ U'_.heap L_ ∧ FrameEnd U_ o_ U'_ L_ ({ frames := 6, cells := 1, slots := 10, locals := 89 } : Room).cells ({ frames := 6, cells := 1, slots := 10, locals := 89 } : Room).slots) := by
  refine MetFree.of_bodySF (plainFor_of_name pn_2) hisR ?_
  intro p e s m args below meth c s₁ Bd hml0 hP hK
  obtain ⟨rfl, hZ, hh⟩ := hP
  have hx := Bd.exec
  have hby := Bd.bytes
  have hml : c.maxLocals = 2 := hml0
  have hown : s.vm.findClass "java/util/ArrayList" = some m.cls := findClass_of_methodNamed Bd.named
  have hnm := (name_of_methodNamed Bd.named Bd.method).1
  have hlk : meth.locks = false := Bd.notSynchronized
  have X0 : Stand p l e ({ frames := 6, cells := 1, slots := 10, locals := 89 } : Room) s m #[(.ref a), (.ref x)] below meth c s₁ [] 0 0 := Stand.of_body Bd
  have e0 : s₁.heap = h0 := by rw [← hh, Bd.state]; rfl
  have N0 := Fr.nil n0
  have K0 : Keep h0 h0 [a, wa] := Keep.refl _ _
  refine own_cast (ef_20 m a x) ?_
  show OwnGo p e below s (Q20 Z a x ea cap es mc wa nb dc mr h0 n0) ({ frames := 6, cells := 1, slots := 10, locals := 89 } : Room).cells ({ frames := 6, cells := 1, slots := 10, locals := 89 } : Room).slots (s₁.setTop (mkF m 0 #[.val (.ref a), .val (.ref x)] []))
  have ne1 : a ≠ ea := Exa.ne P0 P4.exa (by decide)
  refine own_on (fun t_ k_ => XS.aloadN X0.here hx rfl (hb hby d20_0) rfl rfl k_) ?_
  show OwnGo p e below s _ _ _ (s₁.setTop (mkF m 1 #[.val (.ref a), .val (.ref x)] [(.ref a)]))
  refine own_on (fun t_ k_ => XS.dup X0.here hx rfl (hb hby d20_1) rfl rfl k_) ?_
  show OwnGo p e below s _ _ _ (s₁.setTop (mkF m 2 #[.val (.ref a), .val (.ref x)] [(.ref a), (.ref a)]))
  obtain ⟨T2, X2, e2, st2⟩ := getF X0 hx hZ hown (host := "") (Or.inl (w120 hw)) (Via.of (w121 hw)) e0 P3 (g := (mkF m 2 #[.val (.ref a), .val (.ref x)] [(.ref a), (.ref a)])) rfl rfl (hb hby d20_2)
  refine own_on st2 ?_
  show OwnGo p e below s _ _ _ (T2.setTop (mkF m 5 #[.val (.ref a), .val (.ref x)] [(.int mc), (.ref a)]))
  refine own_on (fun t_ k_ => XS.iconst X2.here hx rfl (hb hby d20_5) k_) ?_
  show OwnGo p e below s _ _ _ (T2.setTop (mkF m 6 #[.val (.ref a), .val (.ref x)] [(.int (1 : Int32)), (.int mc), (.ref a)]))
  refine own_on (fun t_ k_ => XS.iadd X2.here hx rfl (hb hby d20_6) rfl k_) ?_
  show OwnGo p e below s _ _ _ (T2.setTop (mkF m 7 #[.val (.ref a), .val (.ref x)] [(.int (mc + (1 : Int32))), (.ref a)]))
  obtain ⟨T3, h3, X3, e3, W3, st3⟩ := putF X2 hx hZ hown (host := "") (Or.inl (w120 hw)) (Via.of (w121 hw)) e2 P3 P0 (Or.inl (w46 hw)) (w27 hw) (ty := .int) (by decide) rfl rfl (g := (mkF m 7 #[.val (.ref a), .val (.ref x)] [(.int (mc + (1 : Int32))), (.ref a)])) rfl rfl (hb hby d20_7)
  have F3 := P3.same W3
  have N3 := Fr.snoc X3 N0 P14
  have Z3 : n0 ≤ h3.size := Nat.le_trans Z0 (Keep.of_wr W3).1
  have K3 : Keep h0 h3 [a, wa] := K0.wr W3 (Or.inl (List.mem_of_getElem? (i := 0) rfl))
  refine own_on st3 ?_
  show OwnGo p e below s _ _ _ (T3.setTop (mkF m 10 #[.val (.ref a), .val (.ref x)] []))
  refine own_on (fun t_ k_ => XS.aloadN X3.here hx rfl (hb hby d20_10) rfl rfl k_) ?_
  show OwnGo p e below s _ _ _ (T3.setTop (mkF m 11 #[.val (.ref a), .val (.ref x)] [(.ref a)]))
  refine own_on (fun t_ k_ => XS.aloadN X3.here hx rfl (hb hby d20_11) rfl rfl k_) ?_
  show OwnGo p e below s _ _ _ (T3.setTop (mkF m 12 #[.val (.ref a), .val (.ref x)] [(.ref x), (.ref a)]))
  refine own_on (fun t_ k_ => XS.aloadN X3.here hx rfl (hb hby d20_12) rfl rfl k_) ?_
  show OwnGo p e below s _ _ _ (T3.setTop (mkF m 13 #[.val (.ref a), .val (.ref x)] [(.ref a), (.ref x), (.ref a)]))
  have f4 : Fld Z h3 a "java/util/ArrayList" "elementData" "[Ljava/lang/Object;" (.ref ea) := P1.other W3 (Or.inr (slot_ne (Or.inl (w49 hw)) (Or.inl (w46 hw)) (by decide) (t := (.array (.object "java/lang/Object"))) (t' := .int) (by decide) (by decide)))
  obtain ⟨T5, X5, e5, st5⟩ := getF X3 hx hZ hown (host := "") (Or.inl (w48 hw)) Via.refl e3 f4 (g := (mkF m 13 #[.val (.ref a), .val (.ref x)] [(.ref a), (.ref x), (.ref a)])) rfl rfl (hb hby d20_13)
  refine own_on st5 ?_
  show OwnGo p e below s _ _ _ (T5.setTop (mkF m 16 #[.val (.ref a), .val (.ref x)] [(.ref ea), (.ref x), (.ref a)]))
  refine own_on (fun t_ k_ => XS.aloadN X5.here hx rfl (hb hby d20_16) rfl rfl k_) ?_
  show OwnGo p e below s _ _ _ (T5.setTop (mkF m 17 #[.val (.ref a), .val (.ref x)] [(.ref a), (.ref ea), (.ref x), (.ref a)]))
  have f6 : Fld Z h3 a "java/util/ArrayList" "size" "I" (.int (own_n es)) := P2.other W3 (Or.inr (slot_ne (Or.inl (w89 hw)) (Or.inl (w46 hw)) (by decide) (t := .int) (t' := .int) (by decide) (by decide)))
  obtain ⟨T7, X7, e7, st7⟩ := getF X5 hx hZ hown (host := "") (Or.inl (w88 hw)) Via.refl e5 f6 (g := (mkF m 17 #[.val (.ref a), .val (.ref x)] [(.ref a), (.ref ea), (.ref x), (.ref a)])) rfl rfl (hb hby d20_17)
  refine own_on st7 ?_
  show OwnGo p e below s _ _ _ (T7.setTop (mkF m 20 #[.val (.ref a), .val (.ref x)] [(.int (own_n es)), (.ref ea), (.ref x), (.ref a)]))
  have f8 : Exa Z h3 a "java/util/ArrayList" := P0.wr W3
  have f9 : OwnA Z h3 ea cap es := P4.other W3 (Ne.symm ne1)
  have f10 : OwnE Z h3 es := P5.other W3 
  have f11 : Exa Z h3 x "java/lang/String" := P6.wr W3
  have f12 : nb ≤ h3.size := Nat.le_trans P10 (Keep.of_wr W3).1
  have f13 : Old Z n0 h3 := P11.wr W3 P14
  obtain ⟨cq14, q14, q14'⟩ := f8.cell
  obtain ⟨_, _, ⟨T14, L14, k14, n14⟩, -, X14, ⟨Lc14, hQ14, l14, y14, z14⟩, st14⟩ := X7.privateBack hx (y := (⟨"java/util/ArrayList", "add", "(Ljava/lang/Object;[Ljava/lang/Object;I)V"⟩ : MethodName)) hown (mvT hZ (w143 hw)) (mvT hZ (w144 hw)) (mvT hZ (w146 hw)) (Cond.privateMethod_at (mvP hZ (w145 hw) (args := #[]))) (mvT hZ (w147 hw)) (by decide) (backOf (W := 0) (rm21 l Z a0 hw [] a x ea es cap (mc + (1 : Int32)) wa nb dc mr h3 n0 Z3 f8 f4 f6 F3 f9 f10 f11 P7 P8 P9 f12 f13 P12 P13 P14 P15) hZ (w147 hw) (w28 hw) (by decide) (by decide)) (g := (mkF m 20 #[.val (.ref a), .val (.ref x)] [(.int (own_n es)), (.ref ea), (.ref x), (.ref a)])) rfl (by rw [hml]; rfl) (Steps.refl _) (a := a) (by rw [e7]; exact q14) q14' (argsL := [(.ref x), (.ref ea), (.int (own_n es))]) (rest := []) (lenOf pd_7 rfl) rfl (by show 2 * 0 + _ ≤ _; exact Nat.le_of_eq rfl) (hb hby d20_20) (fun _ hWx => ⟨rfl, e7, (by decide : 0 + 1 ≤ _), (by decide : 0 + 10 ≤ _)⟩)
  dsimp only [Pt.U, Pt.locs, Pt.cells, Pt.slots] at X14 l14 y14 z14 st14 hQ14
  replace X14 := own_num (c' := 1) (n' := 10) X14 l14 (y14.trans rfl) (z14.trans rfl)
  obtain ⟨ea2_14, cp2_14, wa2_14, rfl, N14q, K14q, c14_0, c14_1, c14_2, c14_3, c14_4, c14_5, c14_6, c14_7, c14_8, c14_9⟩ := hQ14
  have N14 := Fr.app N3 N14q
  have Z14 : n0 ≤ T14.heap.size := Nat.le_trans Z3 K14q.1
  have K14 : Keep h0 T14.heap [a, wa] := K3.trans K14q (allS (P := fun x => x ∈ [a, wa] ∨ h0.size ≤ x) (Or.inl (List.mem_of_getElem? (i := 0) rfl)) (allS (P := fun x => x ∈ [a, wa] ∨ h0.size ≤ x) (Or.inl (List.mem_of_getElem? (i := 1) rfl)) all0))
  refine own_tr st14 ?_
  show OwnGo p e below s _ _ _ (T14.setTop (mkF m 23 #[.val (.ref a), .val (.ref x)] []))
  refine own_on (fun t_ k_ => XS.iconst X14.here hx rfl (hb hby d20_23) k_) ?_
  show OwnGo p e below s _ _ _ (T14.setTop (mkF m 24 #[.val (.ref a), .val (.ref x)] [(.int (1 : Int32))]))
  exact own_retN X14 hx hlk (t := .boolean) Bd.returns (by simp) (hb hby d20_24) rfl ⟨ea2_14, cp2_14, wa2_14, rfl, N14, K14, c14_0, c14_1, c14_2, c14_3, c14_4, c14_5, c14_6, c14_7, c14_8, c14_9⟩ (by decide) (by decide)
theorem ef_18 (m : MethodId) (a : Addr)  : entryFrame m #[(.ref a)] 1 = mkF m 0 #[.val (.ref a)] [] := by first | (simp [entryFrame, mkF, argsToLocals, Value.category]; done) | rfl
def Q18 (Z : State) (a : Addr) (es : List Addr) (h0 : Heap) (n0 : Nat) (v_ : Option Value) (h_ : Heap) (L_ : List Loc) : Prop := v_ = some (.int (own_n es)) ∧ Fr n0 L_ ∧ h_ = h0
set_option maxRecDepth 65536 in
set_option maxHeartbeats 40000000 in
theorem rm18 (l : Launch) (Z : State) (a0 : Array Value) (hw : ∀ d ∈ tables_1, d.before a0 Z = true) (ws : List Jvm.Cond) (a : Addr) (es : List Addr) (h0 : Heap) (n0 : Nat) (Z0 : n0 ≤ h0.size) (P0 : Fld Z h0 a "java/util/ArrayList" "size" "I" (.int (own_n es))) :
    MetFree l (⟨"java/util/ArrayList", "size", "()I"⟩ : MethodName) (head1 (Jvm.Cond.code (⟨"java/util/ArrayList", "size", "()I"⟩ : MethodName) jdk_38_method_8_code 1 (some .int) :: ws) ({ frames := 0, cells := 0, slots := 0, locals := 0 } : Room)) (fun A_ U => A_ = #[(.ref a)] ∧ Z.Warmed39 U.vm ∧ U.heap = h0) (fun _ _ _ _ _ => True) (fun _ U_ o_ U'_ => ∃ v_ L_, o_ = .returned v_ ∧ Q18 Z a es h0 n0 v_ U'_.heap L_ ∧ FrameEnd U_ o_ U'_ L_ ({ frames := 0, cells := 0, slots := 0, locals := 0 } : Room).cells ({ frames := 0, cells := 0, slots := 0, locals := 0 } : Room).slots) := by
  refine MetFree.of_bodySF (plainFor_of_name pn_2) hisR ?_
  intro p e s m args below meth c s₁ Bd hml0 hP hK
  obtain ⟨rfl, hZ, hh⟩ := hP
  have hx := Bd.exec
  have hby := Bd.bytes
  have hml : c.maxLocals = 1 := hml0
  have hown : s.vm.findClass "java/util/ArrayList" = some m.cls := findClass_of_methodNamed Bd.named
  have hnm := (name_of_methodNamed Bd.named Bd.method).1
  have hlk : meth.locks = false := Bd.notSynchronized
  have X0 : Stand p l e ({ frames := 0, cells := 0, slots := 0, locals := 0 } : Room) s m #[(.ref a)] below meth c s₁ [] 0 0 := Stand.of_body Bd
  have e0 : s₁.heap = h0 := by rw [← hh, Bd.state]; rfl
  have N0 := Fr.nil n0
  have K0 : Keep h0 h0 [] := Keep.refl _ _
  refine own_cast (ef_18 m a) ?_
  show OwnGo p e below s (Q18 Z a es h0 n0) ({ frames := 0, cells := 0, slots := 0, locals := 0 } : Room).cells ({ frames := 0, cells := 0, slots := 0, locals := 0 } : Room).slots (s₁.setTop (mkF m 0 #[.val (.ref a)] []))
  refine own_on (fun t_ k_ => XS.aloadN X0.here hx rfl (hb hby d18_0) rfl rfl k_) ?_
  show OwnGo p e below s _ _ _ (s₁.setTop (mkF m 1 #[.val (.ref a)] [(.ref a)]))
  obtain ⟨T1, X1, e1, st1⟩ := getF X0 hx hZ hown (host := "") (Or.inl (w88 hw)) Via.refl e0 P0 (g := (mkF m 1 #[.val (.ref a)] [(.ref a)])) rfl rfl (hb hby d18_1)
  refine own_on st1 ?_
  show OwnGo p e below s _ _ _ (T1.setTop (mkF m 4 #[.val (.ref a)] [(.int (own_n es))]))
  exact own_retI X1 hx hlk Bd.returns (hb hby d18_4) e1 ⟨rfl, N0, rfl⟩ (by decide) (by decide)
theorem ef_12 (m : MethodId) (a : Addr) (cc : Addr)  : entryFrame m #[(.ref a), (.ref cc)] 3 = mkF m 0 #[.val (.ref a), .val (.ref cc), .unset] [] := by first | (simp [entryFrame, mkF, argsToLocals, Value.category]; done) | rfl
def Q12 (Z : State) (a : Addr) (cc : Addr) (u : Value) (u' : Value) (u'' : Value) (ec : Addr) (cap : Nat) (es : List Addr) (em : Addr) (mr : Addr) (ml : Addr) (h0 : Heap) (n0 : Nat) (v_ : Option Value) (h_ : Heap) (L_ : List Loc) : Prop := ∃ ea2 : Addr, ∃ cp2 : Nat, ∃ wa2 : Addr, v_ = none ∧ Fr n0 L_ ∧ Keep h0 h_ [a] ∧ (Exa Z h_ a "java/util/ArrayList") ∧ (Fld Z h_ a "java/util/ArrayList" "elementData" "[Ljava/lang/Object;" (.ref ea2)) ∧ (Fld Z h_ a "java/util/ArrayList" "size" "I" (.int (own_n es))) ∧ (Fld Z h_ a "java/util/AbstractList" "modCount" "I" (.int (0 : Int32))) ∧ (OwnA Z h_ ea2 cp2 es) ∧ (wa2 = ea2 ∨ cp2 = 0) ∧ (n0 ≤ wa2) ∧ (h0.size ≤ wa2) ∧ (Old Z n0 h_) ∧ (OwnE Z h_ es)
set_option maxRecDepth 65536 in
set_option maxHeartbeats 40000000 in
theorem rm12 (l : Launch) (Z : State) (a0 : Array Value) (hw : ∀ d ∈ tables_1, d.before a0 Z = true) (ws : List Jvm.Cond) (a : Addr) (cc : Addr) (u : Value) (u' : Value) (u'' : Value) (ec : Addr) (cap : Nat) (es : List Addr) (em : Addr) (mr : Addr) (ml : Addr) (h0 : Heap) (n0 : Nat) (Z0 : n0 ≤ h0.size) (P0 : Exa Z h0 a "java/util/ArrayList") (P1 : Fld Z h0 a "java/util/ArrayList" "elementData" "[Ljava/lang/Object;" u) (P2 : Fld Z h0 a "java/util/ArrayList" "size" "I" u') (P3 : Fld Z h0 a "java/util/AbstractList" "modCount" "I" u'') (P4 : n0 ≤ a) (P5 : Old Z n0 h0) (P6 : Exa Z h0 cc "java/util/ArrayList") (P7 : Fld Z h0 cc "java/util/ArrayList" "elementData" "[Ljava/lang/Object;" (.ref ec)) (P8 : Fld Z h0 cc "java/util/ArrayList" "size" "I" (.int (own_n es))) (P9 : OwnA Z h0 ec cap es) (P10 : OwnE Z h0 es) (P11 : Sta Z Z.heap "java/util/ArrayList" "EMPTY_ELEMENTDATA" "[Ljava/lang/Object;" (.ref em)) (P12 : OwnA Z Z.heap em 0 own_nil) (P13 : OwnM Z "[Ljava/lang/Object;" mr) (P14 : OwnM Z "java/util/ArrayList" ml) (P15 : cc ≠ a) :
    MetFree l (⟨"java/util/ArrayList", "<init>", "(Ljava/util/Collection;)V"⟩ : MethodName) (head1 (Jvm.Cond.code (⟨"java/util/ArrayList", "<init>", "(Ljava/util/Collection;)V"⟩ : MethodName) jdk_38_method_3_code 3 none :: ws) ({ frames := 4, cells := 1, slots := 10, locals := 58 } : Room)) (fun A_ U => A_ = #[(.ref a), (.ref cc)] ∧ Z.Warmed39 U.vm ∧ U.heap = h0) (fun _ _ _ _ _ => True) (fun _ U_ o_ U'_ => ∃ v_ L_, o_ = .returned v_ ∧ Q12 Z a cc u u' u'' ec cap es em mr ml h0 n0 v_ U'_.heap L_ ∧ FrameEnd U_ o_ U'_ L_ ({ frames := 4, cells := 1, slots := 10, locals := 58 } : Room).cells ({ frames := 4, cells := 1, slots := 10, locals := 58 } : Room).slots) := by
  refine MetFree.of_bodySF (plainFor_of_name pn_2) hisR ?_
  intro p e s m args below meth c s₁ Bd hml0 hP hK
  obtain ⟨rfl, hZ, hh⟩ := hP
  have hx := Bd.exec
  have hby := Bd.bytes
  have hml : c.maxLocals = 3 := hml0
  have hown : s.vm.findClass "java/util/ArrayList" = some m.cls := findClass_of_methodNamed Bd.named
  have hnm := (name_of_methodNamed Bd.named Bd.method).1
  have hlk : meth.locks = false := Bd.notSynchronized
  have X0 : Stand p l e ({ frames := 4, cells := 1, slots := 10, locals := 58 } : Room) s m #[(.ref a), (.ref cc)] below meth c s₁ [] 0 0 := Stand.of_body Bd
  have e0 : s₁.heap = h0 := by rw [← hh, Bd.state]; rfl
  have N0 := Fr.nil n0
  have K0 : Keep h0 h0 [a] := Keep.refl _ _
  refine own_cast (ef_12 m a cc) ?_
  show OwnGo p e below s (Q12 Z a cc u u' u'' ec cap es em mr ml h0 n0) ({ frames := 4, cells := 1, slots := 10, locals := 58 } : Room).cells ({ frames := 4, cells := 1, slots := 10, locals := 58 } : Room).slots (s₁.setTop (mkF m 0 #[.val (.ref a), .val (.ref cc), .unset] []))
  have hl1a := P9.1
  have hl1b := P9.2.1
  have ne2 : a ≠ ec := Exa.ne P0 P9.exa (by decide)
  refine own_on (fun t_ k_ => XS.aloadN X0.here hx rfl (hb hby d12_0) rfl rfl k_) ?_
  show OwnGo p e below s _ _ _ (s₁.setTop (mkF m 1 #[.val (.ref a), .val (.ref cc), .unset] [(.ref a)]))
  obtain ⟨_, _, ⟨T3, L3, k3, n3⟩, -, X3, ⟨Lc3, hQ3, l3, y3, z3⟩, st3⟩ := X0.specialBack hx (y := (⟨"java/util/AbstractList", "<init>", "()V"⟩ : MethodName)) rfl hown (mvT hZ (w32 hw)) (mvT hZ (w33 hw)) (mvT hZ (w37 hw)) (by decide) (backOf (W := 0) (rm7 l Z a0 hw [] a u u' u'' h0 n0 Z0 P0 P1 P2 P3 P4) hZ (w37 hw) (w36 hw) (by decide) (by decide)) (g := (mkF m 1 #[.val (.ref a), .val (.ref cc), .unset] [(.ref a)])) rfl (by rw [hml]; rfl) (Steps.refl _) (a := a) (argsL := []) (rest := []) (lenOf pd_0 rfl) rfl (by show 2 * 0 + _ ≤ _; exact Nat.le_of_eq rfl) (hb hby d12_1) (fun _ hWx => ⟨rfl, e0, (by decide : 0 + 0 ≤ _), (by decide : 0 + 0 ≤ _)⟩)
  dsimp only [Pt.U, Pt.locs, Pt.cells, Pt.slots] at X3 l3 y3 z3 st3 hQ3
  replace X3 := own_num (c' := 0) (n' := 0) X3 l3 (y3.trans rfl) (z3.trans rfl)
  obtain ⟨rfl, N3q, K3q, c3_0, c3_1, c3_2, c3_3⟩ := hQ3
  have N3 := Fr.app N0 N3q
  have Z3 : n0 ≤ T3.heap.size := Nat.le_trans Z0 K3q.1
  have K3 : Keep h0 T3.heap [a] := K0.trans K3q (allS (P := fun x => x ∈ [a] ∨ h0.size ≤ x) (Or.inl (List.mem_of_getElem? (i := 0) rfl)) all0)
  refine own_tr st3 ?_
  show OwnGo p e below s _ _ _ (T3.setTop (mkF m 4 #[.val (.ref a), .val (.ref cc), .unset] []))
  refine own_on (fun t_ k_ => XS.aloadN X3.here hx rfl (hb hby d12_4) rfl rfl k_) ?_
  show OwnGo p e below s _ _ _ (T3.setTop (mkF m 5 #[.val (.ref a), .val (.ref cc), .unset] [(.ref cc)]))
  have f4 : Fld Z T3.heap cc "java/util/ArrayList" "elementData" "[Ljava/lang/Object;" (.ref ec) := P7.keep K3q (ninS P15 nin0)
  have f5 : Fld Z T3.heap cc "java/util/ArrayList" "size" "I" (.int (own_n es)) := P8.keep K3q (ninS P15 nin0)
  have f6 : OwnA Z T3.heap ec cap es := P9.keep K3q (ninS (Ne.symm ne2) nin0)
  have f7 : OwnE Z T3.heap es := P10.keep K3q 
  have f8 : Exa Z T3.heap cc "java/util/ArrayList" := P6.keep K3q
  obtain ⟨cq9, kq9, q9a, q9b, q9c⟩ := isOf hZ rfl f8
  obtain ⟨_, _, ⟨T9, L9, k9, n9⟩, -, X9, ⟨Lc9, hQ9, l9, y9, z9⟩, st9⟩ := X3.interfaceBack hx (xi := (⟨"java/util/Collection", "toArray", "()[Ljava/lang/Object;"⟩ : MethodName)) (y := (⟨"java/util/ArrayList", "toArray", "()[Ljava/lang/Object;"⟩ : MethodName)) hown (mvT hZ (w79 hw)) (mvT hZ (w80 hw)) (mvT hZ (w81 hw)) (mvT hZ (w82 hw)) (mvT hZ (w83 hw)) (mvT hZ (w84 hw)) (mvT hZ (w85 hw)) (mvT hZ (w86 hw)) (by decide) (backOf (W := 0) (rm13 l Z a0 hw [] cc ec cap es mr T3.heap n0 Z3 f4 f5 f6 f7 P13) hZ (w87 hw) (w28 hw) (by decide) (by decide)) q9a q9b q9c (g := (mkF m 5 #[.val (.ref a), .val (.ref cc), .unset] [(.ref cc)])) rfl (by rw [hml]; rfl) (Steps.refl _) (argsL := []) (rest := []) (lenOf pd_6 rfl) rfl (by show 2 * 0 + _ ≤ _; exact Nat.le_of_eq rfl) (hb hby d12_5) (fun _ hWx => ⟨rfl, rfl, (by decide : 0 + 1 ≤ _), (by decide : 0 + 10 ≤ _)⟩)
  have f10 : Exa Z T3.heap a "java/util/ArrayList" := P0.keep K3q
  dsimp only [Pt.U, Pt.locs, Pt.cells, Pt.slots] at X9 l9 y9 z9 st9 hQ9
  replace X9 := own_num (c' := 1) (n' := 10) X9 l9 (y9.trans rfl) (z9.trans rfl)
  obtain ⟨r_9, rfl, N9q, K9q, c9_0, c9_1, c9_2⟩ := hQ9
  have N9 := Fr.app N3 N9q
  have Z9 : n0 ≤ T9.heap.size := Nat.le_trans Z3 K9q.1
  have K9 : Keep h0 T9.heap [a] := K3.trans K9q all0
  have ne11 : a ≠ r_9 := Nat.ne_of_lt (Nat.lt_of_lt_of_le f10.lt c9_2)
  have ne12 : cc ≠ r_9 := Nat.ne_of_lt (Nat.lt_of_lt_of_le f8.lt c9_2)
  have ne13 : ec ≠ r_9 := Nat.ne_of_lt (Nat.lt_of_lt_of_le f6.lt c9_2)
  have z14 : h0.size ≤ r_9 := Nat.le_trans K3.1 c9_2
  refine own_tr st9 ?_
  show OwnGo p e below s _ _ _ (T9.setTop (mkF m 10 #[.val (.ref a), .val (.ref cc), .unset] [(.ref r_9)]))
  refine own_on (fun t_ k_ => XS.astoreN X9.here hx rfl (hb hby d12_10) rfl rfl (l' := #[.val (.ref a), .val (.ref cc), .val (.ref r_9)]) rfl k_) ?_
  show OwnGo p e below s _ _ _ (T9.setTop (mkF m 11 #[.val (.ref a), .val (.ref cc), .val (.ref r_9)] []))
  refine own_on (fun t_ k_ => XS.aloadN X9.here hx rfl (hb hby d12_11) rfl rfl k_) ?_
  show OwnGo p e below s _ _ _ (T9.setTop (mkF m 12 #[.val (.ref a), .val (.ref cc), .val (.ref r_9)] [(.ref a)]))
  refine own_on (fun t_ k_ => XS.aloadN X9.here hx rfl (hb hby d12_12) rfl rfl k_) ?_
  show OwnGo p e below s _ _ _ (T9.setTop (mkF m 13 #[.val (.ref a), .val (.ref cc), .val (.ref r_9)] [(.ref r_9), (.ref a)]))
  obtain ⟨A15a, A15b, A15c, kk15, cl15, Ar15, q15, S15, M15, H15, G15⟩ := id c9_0
  refine own_on (X9.arraylength hx (by exact Ar15.1) (State.isArrayOf_alike hZ.alike Ar15.2.1) (g := (mkF m 13 #[.val (.ref a), .val (.ref cc), .val (.ref r_9)] [(.ref r_9), (.ref a)])) rfl rfl (hb hby d12_13)) ?_
  rw [len_of S15 M15]
  show OwnGo p e below s _ _ _ (T9.setTop (mkF m 14 #[.val (.ref a), .val (.ref cc), .val (.ref r_9)] [(.int (Int32.ofNat es.length)), (.ref a)]))
  rw [show (Int32.ofNat es.length) = (own_n es) from rfl]
  show OwnGo p e below s _ _ _ (T9.setTop (mkF m 14 #[.val (.ref a), .val (.ref cc), .val (.ref r_9)] [(.int (own_n es)), (.ref a)]))
  refine own_on (fun t_ k_ => XS.dupX1 X9.here hx rfl (hb hby d12_14) rfl rfl rfl k_) ?_
  show OwnGo p e below s _ _ _ (T9.setTop (mkF m 15 #[.val (.ref a), .val (.ref cc), .val (.ref r_9)] [(.int (own_n es)), (.ref a), (.int (own_n es))]))
  have f16 : Fld Z T9.heap a "java/util/ArrayList" "size" "I" u' := c3_2.keep K9q nin0
  have f17 : Exa Z T9.heap a "java/util/ArrayList" := c3_0.keep K9q
  obtain ⟨T18, h18, X18, e18, W18, st18⟩ := putF X9 hx hZ hown (host := "") (Or.inl (w88 hw)) Via.refl rfl f16 f17 (Or.inl (w89 hw)) (w27 hw) (ty := .int) (by decide) rfl rfl (g := (mkF m 15 #[.val (.ref a), .val (.ref cc), .val (.ref r_9)] [(.int (own_n es)), (.ref a), (.int (own_n es))])) rfl rfl (hb hby d12_15)
  have F18 := f16.same W18
  have N18 := Fr.snoc X18 N9 P4
  have Z18 : n0 ≤ h18.size := Nat.le_trans Z9 (Keep.of_wr W18).1
  have K18 : Keep h0 h18 [a] := K9.wr W18 (Or.inl (List.mem_of_getElem? (i := 0) rfl))
  refine own_on st18 ?_
  show OwnGo p e below s _ _ _ (T18.setTop (mkF m 18 #[.val (.ref a), .val (.ref cc), .val (.ref r_9)] [(.int (own_n es))]))
  by_cases q0 : (own_n es) = (0 : Int32)
  · refine own_on (fun t_ k_ => XS.ifYes X18.here hx rfl (pc0 := 18) (pc' := 57) rfl (hb hby d12_18) rfl ((if0 _ _).trans (teq q0).1) (by decide) (by decide) k_) ?_
    show OwnGo p e below s _ _ _ (T18.setTop (mkF m 57 #[.val (.ref a), .val (.ref cc), .val (.ref r_9)] []))
    have hes : es = [] := List.length_eq_zero_iff.mp ((own_eq' (by omega) (by omega)).mp (q0 : Int32.ofNat es.length = Int32.ofNat 0))
    refine own_on (fun t_ k_ => XS.aloadN X18.here hx rfl (hb hby d12_57) rfl rfl k_) ?_
    show OwnGo p e below s _ _ _ (T18.setTop (mkF m 58 #[.val (.ref a), .val (.ref cc), .val (.ref r_9)] [(.ref a)]))
    have f19 : Old Z n0 T3.heap := P5.keep K3q (allS P4 all0)
    have f20 : Old Z n0 T9.heap := f19.keep K9q all0
    have f21 : Old Z n0 h18 := f20.wr W18 P4
    obtain ⟨T22, X22, e22, st22⟩ := getS2 X18 hx hZ hown (host := "") (Or.inl (w114 hw)) Via.refl e18 (P11.ext f21.2) (g := (mkF m 58 #[.val (.ref a), .val (.ref cc), .val (.ref r_9)] [(.ref a)])) rfl (hb hby d12_58)
    refine own_on st22 ?_
    show OwnGo p e below s _ _ _ (T22.setTop (mkF m 61 #[.val (.ref a), .val (.ref cc), .val (.ref r_9)] [(.ref em), (.ref a)]))
    have f23 : Fld Z T9.heap a "java/util/ArrayList" "elementData" "[Ljava/lang/Object;" u := c3_1.keep K9q nin0
    have f24 : Fld Z h18 a "java/util/ArrayList" "elementData" "[Ljava/lang/Object;" u := f23.other W18 (Or.inr (slot_ne (Or.inl (w49 hw)) (Or.inl (w89 hw)) (by decide) (t := (.array (.object "java/lang/Object"))) (t' := .int) (by decide) (by decide)))
    have f25 : Exa Z h18 a "java/util/ArrayList" := f17.wr W18
    obtain ⟨T26, h26, X26, e26, W26, st26⟩ := putF X22 hx hZ hown (host := "") (Or.inl (w48 hw)) Via.refl e22 f24 f25 (Or.inl (w49 hw)) (w27 hw) (ty := (.array (.object "java/lang/Object"))) (by decide) rfl rfl (g := (mkF m 61 #[.val (.ref a), .val (.ref cc), .val (.ref r_9)] [(.ref em), (.ref a)])) rfl rfl (hb hby d12_61)
    have F26 := f24.same W26
    have N26 := Fr.snoc X26 N18 P4
    have Z26 : n0 ≤ h26.size := Nat.le_trans Z18 (Keep.of_wr W26).1
    have K26 : Keep h0 h26 [a] := K18.wr W26 (Or.inl (List.mem_of_getElem? (i := 0) rfl))
    refine own_on st26 ?_
    show OwnGo p e below s _ _ _ (T26.setTop (mkF m 64 #[.val (.ref a), .val (.ref cc), .val (.ref r_9)] []))
    have f27 : Old Z n0 h26 := f21.wr W26 P4
    have f28 : OwnA Z h26 em 0 own_nil := P12.ext f27.2
    have f29 : OwnA Z h26 em 0 es := by rw [hes]; exact f28
    have hr30 : r_9 = em ∨ 0 = 0 := Or.inr rfl
    have f31 : Exa Z h26 a "java/util/ArrayList" := f25.wr W26
    have f32 : Fld Z h26 a "java/util/ArrayList" "size" "I" (.int (own_n es)) := F18.other W26 (Or.inr (slot_ne (Or.inl (w89 hw)) (Or.inl (w49 hw)) (by decide) (t := .int) (t' := (.array (.object "java/lang/Object"))) (by decide) (by decide)))
    have f33 : Fld Z T9.heap a "java/util/AbstractList" "modCount" "I" (.int (0 : Int32)) := c3_3.keep K9q nin0
    have f34 : Fld Z h18 a "java/util/AbstractList" "modCount" "I" (.int (0 : Int32)) := f33.other W18 (Or.inr (slot_ne (Or.inl (w46 hw)) (Or.inl (w89 hw)) (by decide) (t := .int) (t' := .int) (by decide) (by decide)))
    have f35 : Fld Z h26 a "java/util/AbstractList" "modCount" "I" (.int (0 : Int32)) := f34.other W26 (Or.inr (slot_ne (Or.inl (w46 hw)) (Or.inl (w49 hw)) (by decide) (t := .int) (t' := (.array (.object "java/lang/Object"))) (by decide) (by decide)))
    have f36 : OwnE Z T9.heap es := f7.keep K9q 
    have f37 : OwnE Z h18 es := f36.other W18 
    have f38 : OwnE Z h26 es := f37.other W26 
    exact own_retV X26 hx hlk Bd.returns (hb hby d12_64) e26 ⟨em, 0, r_9, rfl, N26, K26, f31, F26, f32, f35, f29, hr30, c9_1, z14, f27, f38⟩ (by decide) (by decide)
  · refine own_on (fun t_ k_ => XS.ifNo X18.here hx rfl (hb hby d12_18) rfl ((if0 _ _).trans (feq q0).1) k_) ?_
    show OwnGo p e below s _ _ _ (T18.setTop (mkF m 21 #[.val (.ref a), .val (.ref cc), .val (.ref r_9)] []))
    refine own_on (fun t_ k_ => XS.aloadN X18.here hx rfl (hb hby d12_21) rfl rfl k_) ?_
    show OwnGo p e below s _ _ _ (T18.setTop (mkF m 22 #[.val (.ref a), .val (.ref cc), .val (.ref r_9)] [(.ref cc)]))
    have f39 : Exa Z T9.heap cc "java/util/ArrayList" := f8.keep K9q
    have f40 : Exa Z h18 cc "java/util/ArrayList" := f39.wr W18
    obtain ⟨T41, X41, e41, st41⟩ := own_gcI X18 hx hZ hown (w163 hw) (w95 hw) (w164 hw) (w165 hw) (w96 hw) (w166 hw) (w167 hw) (w86 hw) (w98 hw) e18 f40 P14 (g := (mkF m 22 #[.val (.ref a), .val (.ref cc), .val (.ref r_9)] [(.ref cc)])) rfl (by rw [hml]; rfl) (rest := []) rfl (hb hby d12_22) (by decide) (W := 0) (by show 2 * 0 + _ ≤ _; exact Nat.le_of_eq rfl) (by decide)
    refine own_on st41 ?_
    show OwnGo p e below s _ _ _ (T41.setTop (mkF m 27 #[.val (.ref a), .val (.ref cc), .val (.ref r_9)] [(.ref ml)]))
    obtain ⟨T42, X42, e42, st42⟩ := own_ldcM X41 hx hZ hown (w169 hw) P14 e41 (g := (mkF m 27 #[.val (.ref a), .val (.ref cc), .val (.ref r_9)] [(.ref ml)])) rfl (hb hby d12_27)
    refine own_on st42 ?_
    show OwnGo p e below s _ _ _ (T42.setTop (mkF m 29 #[.val (.ref a), .val (.ref cc), .val (.ref r_9)] [(.ref ml), (.ref ml)]))
    refine own_on (fun t_ k_ => Jvm.RoadKit.acmp (g := (mkF m 29 #[.val (.ref a), .val (.ref cc), .val (.ref r_9)] [(.ref ml), (.ref ml)])) X42 hx rfl rfl rfl (pc0 := 29) (pc' := 32) (same := true) rfl (hb hby d12_29) rfl (decide_eq_true rfl) (by decide) (by decide) k_) ?_
    show OwnGo p e below s _ _ _ (T42.setTop (mkF m 32 #[.val (.ref a), .val (.ref cc), .val (.ref r_9)] []))
    refine own_on (fun t_ k_ => XS.aloadN X42.here hx rfl (hb hby d12_32) rfl rfl k_) ?_
    show OwnGo p e below s _ _ _ (T42.setTop (mkF m 33 #[.val (.ref a), .val (.ref cc), .val (.ref r_9)] [(.ref a)]))
    refine own_on (fun t_ k_ => XS.aloadN X42.here hx rfl (hb hby d12_33) rfl rfl k_) ?_
    show OwnGo p e below s _ _ _ (T42.setTop (mkF m 34 #[.val (.ref a), .val (.ref cc), .val (.ref r_9)] [(.ref r_9), (.ref a)]))
    have f43 : Fld Z T9.heap a "java/util/ArrayList" "elementData" "[Ljava/lang/Object;" u := c3_1.keep K9q nin0
    have f44 : Fld Z h18 a "java/util/ArrayList" "elementData" "[Ljava/lang/Object;" u := f43.other W18 (Or.inr (slot_ne (Or.inl (w49 hw)) (Or.inl (w89 hw)) (by decide) (t := (.array (.object "java/lang/Object"))) (t' := .int) (by decide) (by decide)))
    have f45 : Exa Z h18 a "java/util/ArrayList" := f17.wr W18
    obtain ⟨T46, h46, X46, e46, W46, st46⟩ := putF X42 hx hZ hown (host := "") (Or.inl (w48 hw)) Via.refl e42 f44 f45 (Or.inl (w49 hw)) (w27 hw) (ty := (.array (.object "java/lang/Object"))) (by decide) rfl rfl (g := (mkF m 34 #[.val (.ref a), .val (.ref cc), .val (.ref r_9)] [(.ref r_9), (.ref a)])) rfl rfl (hb hby d12_34)
    have F46 := f44.same W46
    have N46 := Fr.snoc X46 N18 P4
    have Z46 : n0 ≤ h46.size := Nat.le_trans Z18 (Keep.of_wr W46).1
    have K46 : Keep h0 h46 [a] := K18.wr W46 (Or.inl (List.mem_of_getElem? (i := 0) rfl))
    refine own_on st46 ?_
    show OwnGo p e below s _ _ _ (T46.setTop (mkF m 37 #[.val (.ref a), .val (.ref cc), .val (.ref r_9)] []))
    refine own_on (fun t_ k_ => XS.goto X46.here hx rfl (pc0 := 37) (pc' := 64) rfl (hb hby d12_37) (by decide) (by decide) k_) ?_
    show OwnGo p e below s _ _ _ (T46.setTop (mkF m 64 #[.val (.ref a), .val (.ref cc), .val (.ref r_9)] []))
    have hr47 : r_9 = r_9 ∨ es.length = 0 := Or.inl rfl
    have f48 : Exa Z h46 a "java/util/ArrayList" := f45.wr W46
    have f49 : Fld Z h46 a "java/util/ArrayList" "size" "I" (.int (own_n es)) := F18.other W46 (Or.inr (slot_ne (Or.inl (w89 hw)) (Or.inl (w49 hw)) (by decide) (t := .int) (t' := (.array (.object "java/lang/Object"))) (by decide) (by decide)))
    have f50 : Fld Z T9.heap a "java/util/AbstractList" "modCount" "I" (.int (0 : Int32)) := c3_3.keep K9q nin0
    have f51 : Fld Z h18 a "java/util/AbstractList" "modCount" "I" (.int (0 : Int32)) := f50.other W18 (Or.inr (slot_ne (Or.inl (w46 hw)) (Or.inl (w89 hw)) (by decide) (t := .int) (t' := .int) (by decide) (by decide)))
    have f52 : Fld Z h46 a "java/util/AbstractList" "modCount" "I" (.int (0 : Int32)) := f51.other W46 (Or.inr (slot_ne (Or.inl (w46 hw)) (Or.inl (w49 hw)) (by decide) (t := .int) (t' := (.array (.object "java/lang/Object"))) (by decide) (by decide)))
    have f53 : OwnA Z h18 r_9 es.length es := c9_0.other W18 (Ne.symm ne11)
    have f54 : OwnA Z h46 r_9 es.length es := f53.other W46 (Ne.symm ne11)
    have f55 : Old Z n0 T3.heap := P5.keep K3q (allS P4 all0)
    have f56 : Old Z n0 T9.heap := f55.keep K9q all0
    have f57 : Old Z n0 h18 := f56.wr W18 P4
    have f58 : Old Z n0 h46 := f57.wr W46 P4
    have f59 : OwnE Z T9.heap es := f7.keep K9q 
    have f60 : OwnE Z h18 es := f59.other W18 
    have f61 : OwnE Z h46 es := f60.other W46 
    exact own_retV X46 hx hlk Bd.returns (hb hby d12_64) e46 ⟨r_9, es.length, r_9, rfl, N46, K46, f48, F46, f49, f52, f54, hr47, c9_1, z14, f58, f61⟩ (by decide) (by decide)
theorem ef_17 (m : MethodId) (a : Addr) (cc : Addr)  : entryFrame m #[(.ref a), (.ref cc)] 6 = mkF m 0 #[.val (.ref a), .val (.ref cc), .unset, .unset, .unset, .unset] [] := by first | (simp [entryFrame, mkF, argsToLocals, Value.category]; done) | rfl
def Q17 (Z : State) (a : Addr) (cc : Addr) (ea : Addr) (cap : Nat) (es : List Addr) (mc : Int32) (wa : Addr) (nb : Nat) (dc : Addr) (mr : Addr) (ec : Addr) (cpc : Nat) (fs : List Addr) (h0 : Heap) (n0 : Nat) (v_ : Option Value) (h_ : Heap) (L_ : List Loc) : Prop := ∃ ea2 : Addr, ∃ cp2 : Nat, ∃ wa2 : Addr, ∃ rr : Int32, v_ = some (.int rr) ∧ Fr n0 L_ ∧ Keep h0 h_ [a, wa] ∧ (Exa Z h_ a "java/util/ArrayList") ∧ (Fld Z h_ a "java/util/ArrayList" "elementData" "[Ljava/lang/Object;" (.ref ea2)) ∧ (Fld Z h_ a "java/util/ArrayList" "size" "I" (.int (own_n (es ++ fs)))) ∧ (Fld Z h_ a "java/util/AbstractList" "modCount" "I" (.int (mc + (1 : Int32)))) ∧ (OwnA Z h_ ea2 cp2 (es ++ fs)) ∧ (wa2 = ea2 ∨ cp2 = 0) ∧ (n0 ≤ wa2) ∧ (nb ≤ wa2) ∧ (Old Z n0 h_) ∧ (OwnE Z h_ (es ++ fs))
set_option maxRecDepth 65536 in
set_option maxHeartbeats 40000000 in
theorem rm17 (l : Launch) (Z : State) (a0 : Array Value) (hw : ∀ d ∈ tables_1, d.before a0 Z = true) (ws : List Jvm.Cond) (a : Addr) (cc : Addr) (ea : Addr) (cap : Nat) (es : List Addr) (mc : Int32) (wa : Addr) (nb : Nat) (dc : Addr) (mr : Addr) (ec : Addr) (cpc : Nat) (fs : List Addr) (h0 : Heap) (n0 : Nat) (Z0 : n0 ≤ h0.size) (P0 : Exa Z h0 a "java/util/ArrayList") (P1 : Fld Z h0 a "java/util/ArrayList" "elementData" "[Ljava/lang/Object;" (.ref ea)) (P2 : Fld Z h0 a "java/util/ArrayList" "size" "I" (.int (own_n es))) (P3 : Fld Z h0 a "java/util/AbstractList" "modCount" "I" (.int mc)) (P4 : OwnA Z h0 ea cap es) (P5 : OwnE Z h0 es) (P6 : wa = ea ∨ cap = 0) (P7 : n0 ≤ wa) (P8 : nb ≤ wa) (P9 : nb ≤ h0.size) (P10 : Old Z n0 h0) (P11 : Sta Z Z.heap "java/util/ArrayList" "DEFAULTCAPACITY_EMPTY_ELEMENTDATA" "[Ljava/lang/Object;" (.ref dc)) (P12 : OwnM Z "[Ljava/lang/Object;" mr) (P13 : n0 ≤ a) (P14 : Exa Z h0 cc "java/util/ArrayList") (P15 : Fld Z h0 cc "java/util/ArrayList" "elementData" "[Ljava/lang/Object;" (.ref ec)) (P16 : Fld Z h0 cc "java/util/ArrayList" "size" "I" (.int (own_n fs))) (P17 : OwnA Z h0 ec cpc fs) (P18 : OwnE Z h0 fs) (P19 : es.length + fs.length ≤ 6) :
    MetFree l (⟨"java/util/ArrayList", "addAll", "(Ljava/util/Collection;)Z"⟩ : MethodName) (head1 (Jvm.Cond.code (⟨"java/util/ArrayList", "addAll", "(Ljava/util/Collection;)Z"⟩ : MethodName) jdk_38_method_41_code 6 (some .boolean) :: ws) ({ frames := 4, cells := 2, slots := 20, locals := 62 } : Room)) (fun A_ U => A_ = #[(.ref a), (.ref cc)] ∧ Z.Warmed39 U.vm ∧ U.heap = h0) (fun _ _ _ _ _ => True) (fun _ U_ o_ U'_ => ∃ v_ L_, o_ = .returned v_ ∧ Q17 Z a cc ea cap es mc wa nb dc mr ec cpc fs h0 n0 v_ U'_.heap L_ ∧ FrameEnd U_ o_ U'_ L_ ({ frames := 4, cells := 2, slots := 20, locals := 62 } : Room).cells ({ frames := 4, cells := 2, slots := 20, locals := 62 } : Room).slots) := by
  refine MetFree.of_bodySF (plainFor_of_name pn_2) hisR ?_
  intro p e s m args below meth c s₁ Bd hml0 hP hK
  obtain ⟨rfl, hZ, hh⟩ := hP
  have hx := Bd.exec
  have hby := Bd.bytes
  have hml : c.maxLocals = 6 := hml0
  have hown : s.vm.findClass "java/util/ArrayList" = some m.cls := findClass_of_methodNamed Bd.named
  have hnm := (name_of_methodNamed Bd.named Bd.method).1
  have hlk : meth.locks = false := Bd.notSynchronized
  have X0 : Stand p l e ({ frames := 4, cells := 2, slots := 20, locals := 62 } : Room) s m #[(.ref a), (.ref cc)] below meth c s₁ [] 0 0 := Stand.of_body Bd
  have e0 : s₁.heap = h0 := by rw [← hh, Bd.state]; rfl
  have N0 := Fr.nil n0
  have K0 : Keep h0 h0 [a, wa] := Keep.refl _ _
  refine own_cast (ef_17 m a cc) ?_
  show OwnGo p e below s (Q17 Z a cc ea cap es mc wa nb dc mr ec cpc fs h0 n0) ({ frames := 4, cells := 2, slots := 20, locals := 62 } : Room).cells ({ frames := 4, cells := 2, slots := 20, locals := 62 } : Room).slots (s₁.setTop (mkF m 0 #[.val (.ref a), .val (.ref cc), .unset, .unset, .unset, .unset] []))
  have hl1a := P4.1
  have hl1b := P4.2.1
  have hl2a := P17.1
  have hl2b := P17.2.1
  have ne3 : a ≠ ea := Exa.ne P0 P4.exa (by decide)
  refine own_on (fun t_ k_ => XS.aloadN X0.here hx rfl (hb hby d17_0) rfl rfl k_) ?_
  show OwnGo p e below s _ _ _ (s₁.setTop (mkF m 1 #[.val (.ref a), .val (.ref cc), .unset, .unset, .unset, .unset] [(.ref cc)]))
  obtain ⟨cq4, kq4, q4a, q4b, q4c⟩ := isOf hZ e0 P14
  obtain ⟨_, _, ⟨T4, L4, k4, n4⟩, -, X4, ⟨Lc4, hQ4, l4, y4, z4⟩, st4⟩ := X0.interfaceBack hx (xi := (⟨"java/util/Collection", "toArray", "()[Ljava/lang/Object;"⟩ : MethodName)) (y := (⟨"java/util/ArrayList", "toArray", "()[Ljava/lang/Object;"⟩ : MethodName)) hown (mvT hZ (w79 hw)) (mvT hZ (w80 hw)) (mvT hZ (w81 hw)) (mvT hZ (w82 hw)) (mvT hZ (w83 hw)) (mvT hZ (w84 hw)) (mvT hZ (w85 hw)) (mvT hZ (w86 hw)) (by decide) (backOf (W := 0) (rm13 l Z a0 hw [] cc ec cpc fs mr h0 n0 Z0 P15 P16 P17 P18 P12) hZ (w87 hw) (w28 hw) (by decide) (by decide)) q4a q4b q4c (g := (mkF m 1 #[.val (.ref a), .val (.ref cc), .unset, .unset, .unset, .unset] [(.ref cc)])) rfl (by rw [hml]; rfl) (Steps.refl _) (argsL := []) (rest := []) (lenOf pd_6 rfl) rfl (by show 2 * 0 + _ ≤ _; exact Nat.le_of_eq rfl) (hb hby d17_1) (fun _ hWx => ⟨rfl, e0, (by decide : 0 + 1 ≤ _), (by decide : 0 + 10 ≤ _)⟩)
  dsimp only [Pt.U, Pt.locs, Pt.cells, Pt.slots] at X4 l4 y4 z4 st4 hQ4
  replace X4 := own_num (c' := 1) (n' := 10) X4 l4 (y4.trans rfl) (z4.trans rfl)
  obtain ⟨r_4, rfl, N4q, K4q, c4_0, c4_1, c4_2⟩ := hQ4
  have N4 := Fr.app N0 N4q
  have Z4 : n0 ≤ T4.heap.size := Nat.le_trans Z0 K4q.1
  have K4 : Keep h0 T4.heap [a, wa] := K0.trans K4q all0
  have ne5 : a ≠ r_4 := Nat.ne_of_lt (Nat.lt_of_lt_of_le P0.lt c4_2)
  have ne6 : ea ≠ r_4 := Nat.ne_of_lt (Nat.lt_of_lt_of_le P4.lt c4_2)
  have ne7 : cc ≠ r_4 := Nat.ne_of_lt (Nat.lt_of_lt_of_le P14.lt c4_2)
  have ne8 : ec ≠ r_4 := Nat.ne_of_lt (Nat.lt_of_lt_of_le P17.lt c4_2)
  have z9 : h0.size ≤ r_4 := Nat.le_trans K0.1 c4_2
  refine own_tr st4 ?_
  show OwnGo p e below s _ _ _ (T4.setTop (mkF m 6 #[.val (.ref a), .val (.ref cc), .unset, .unset, .unset, .unset] [(.ref r_4)]))
  refine own_on (fun t_ k_ => XS.astoreN X4.here hx rfl (hb hby d17_6) rfl rfl (l' := #[.val (.ref a), .val (.ref cc), .val (.ref r_4), .unset, .unset, .unset]) rfl k_) ?_
  show OwnGo p e below s _ _ _ (T4.setTop (mkF m 7 #[.val (.ref a), .val (.ref cc), .val (.ref r_4), .unset, .unset, .unset] []))
  refine own_on (fun t_ k_ => XS.aloadN X4.here hx rfl (hb hby d17_7) rfl rfl k_) ?_
  show OwnGo p e below s _ _ _ (T4.setTop (mkF m 8 #[.val (.ref a), .val (.ref cc), .val (.ref r_4), .unset, .unset, .unset] [(.ref a)]))
  refine own_on (fun t_ k_ => XS.dup X4.here hx rfl (hb hby d17_8) rfl rfl k_) ?_
  show OwnGo p e below s _ _ _ (T4.setTop (mkF m 9 #[.val (.ref a), .val (.ref cc), .val (.ref r_4), .unset, .unset, .unset] [(.ref a), (.ref a)]))
  have f10 : Fld Z T4.heap a "java/util/AbstractList" "modCount" "I" (.int mc) := P3.keep K4q nin0
  obtain ⟨T11, X11, e11, st11⟩ := getF X4 hx hZ hown (host := "") (Or.inl (w120 hw)) (Via.of (w121 hw)) rfl f10 (g := (mkF m 9 #[.val (.ref a), .val (.ref cc), .val (.ref r_4), .unset, .unset, .unset] [(.ref a), (.ref a)])) rfl rfl (hb hby d17_9)
  refine own_on st11 ?_
  show OwnGo p e below s _ _ _ (T11.setTop (mkF m 12 #[.val (.ref a), .val (.ref cc), .val (.ref r_4), .unset, .unset, .unset] [(.int mc), (.ref a)]))
  refine own_on (fun t_ k_ => XS.iconst X11.here hx rfl (hb hby d17_12) k_) ?_
  show OwnGo p e below s _ _ _ (T11.setTop (mkF m 13 #[.val (.ref a), .val (.ref cc), .val (.ref r_4), .unset, .unset, .unset] [(.int (1 : Int32)), (.int mc), (.ref a)]))
  refine own_on (fun t_ k_ => XS.iadd X11.here hx rfl (hb hby d17_13) rfl k_) ?_
  show OwnGo p e below s _ _ _ (T11.setTop (mkF m 14 #[.val (.ref a), .val (.ref cc), .val (.ref r_4), .unset, .unset, .unset] [(.int (mc + (1 : Int32))), (.ref a)]))
  have f12 : Exa Z T4.heap a "java/util/ArrayList" := P0.keep K4q
  obtain ⟨T13, h13, X13, e13, W13, st13⟩ := putF X11 hx hZ hown (host := "") (Or.inl (w120 hw)) (Via.of (w121 hw)) e11 f10 f12 (Or.inl (w46 hw)) (w27 hw) (ty := .int) (by decide) rfl rfl (g := (mkF m 14 #[.val (.ref a), .val (.ref cc), .val (.ref r_4), .unset, .unset, .unset] [(.int (mc + (1 : Int32))), (.ref a)])) rfl rfl (hb hby d17_14)
  have F13 := f10.same W13
  have N13 := Fr.snoc X13 N4 P13
  have Z13 : n0 ≤ h13.size := Nat.le_trans Z4 (Keep.of_wr W13).1
  have K13 : Keep h0 h13 [a, wa] := K4.wr W13 (Or.inl (List.mem_of_getElem? (i := 0) rfl))
  refine own_on st13 ?_
  show OwnGo p e below s _ _ _ (T13.setTop (mkF m 17 #[.val (.ref a), .val (.ref cc), .val (.ref r_4), .unset, .unset, .unset] []))
  refine own_on (fun t_ k_ => XS.aloadN X13.here hx rfl (hb hby d17_17) rfl rfl k_) ?_
  show OwnGo p e below s _ _ _ (T13.setTop (mkF m 18 #[.val (.ref a), .val (.ref cc), .val (.ref r_4), .unset, .unset, .unset] [(.ref r_4)]))
  have f14 : OwnA Z h13 r_4 fs.length fs := c4_0.other W13 (Ne.symm ne5)
  obtain ⟨A15a, A15b, A15c, kk15, cl15, Ar15, q15, S15, M15, H15, G15⟩ := id f14
  refine own_on (X13.arraylength hx (by rw [e13]; exact Ar15.1) (State.isArrayOf_alike hZ.alike Ar15.2.1) (g := (mkF m 18 #[.val (.ref a), .val (.ref cc), .val (.ref r_4), .unset, .unset, .unset] [(.ref r_4)])) rfl rfl (hb hby d17_18)) ?_
  rw [len_of S15 M15]
  show OwnGo p e below s _ _ _ (T13.setTop (mkF m 19 #[.val (.ref a), .val (.ref cc), .val (.ref r_4), .unset, .unset, .unset] [(.int (Int32.ofNat fs.length))]))
  refine own_on (fun t_ k_ => XS.istoreN X13.here hx rfl (hb hby d17_19) rfl (l' := #[.val (.ref a), .val (.ref cc), .val (.ref r_4), .val (.int (Int32.ofNat fs.length)), .unset, .unset]) rfl k_) ?_
  show OwnGo p e below s _ _ _ (T13.setTop (mkF m 20 #[.val (.ref a), .val (.ref cc), .val (.ref r_4), .val (.int (Int32.ofNat fs.length)), .unset, .unset] []))
  refine own_on (fun t_ k_ => XS.iloadN X13.here hx rfl (hb hby d17_20) rfl k_) ?_
  show OwnGo p e below s _ _ _ (T13.setTop (mkF m 21 #[.val (.ref a), .val (.ref cc), .val (.ref r_4), .val (.int (Int32.ofNat fs.length)), .unset, .unset] [(.int (Int32.ofNat fs.length))]))
  by_cases q0 : (Int32.ofNat fs.length) = (0 : Int32)
  · refine own_on (fun t_ k_ => XS.ifNo X13.here hx rfl (hb hby d17_21) rfl ((if0 _ _).trans (teq q0).2) k_) ?_
    show OwnGo p e below s _ _ _ (T13.setTop (mkF m 24 #[.val (.ref a), .val (.ref cc), .val (.ref r_4), .val (.int (Int32.ofNat fs.length)), .unset, .unset] []))
    have hfs : fs = [] := List.length_eq_zero_iff.mp ((own_eq' (by omega) (by omega)).mp (q0 : Int32.ofNat fs.length = Int32.ofNat 0))
    have hap : es ++ fs = es := by rw [hfs, List.append_nil]
    refine own_on (fun t_ k_ => XS.iconst X13.here hx rfl (hb hby d17_24) k_) ?_
    show OwnGo p e below s _ _ _ (T13.setTop (mkF m 25 #[.val (.ref a), .val (.ref cc), .val (.ref r_4), .val (.int (Int32.ofNat fs.length)), .unset, .unset] [(.int (0 : Int32))]))
    have f16 : OwnA Z T4.heap ea cap es := P4.keep K4q nin0
    have f17 : OwnA Z h13 ea cap es := f16.other W13 (Ne.symm ne3)
    have f18 : OwnA Z h13 ea cap (es ++ fs) := by rw [hap]; exact f17
    have f19 : Fld Z T4.heap a "java/util/ArrayList" "size" "I" (.int (own_n es)) := P2.keep K4q nin0
    have f20 : Fld Z h13 a "java/util/ArrayList" "size" "I" (.int (own_n es)) := f19.other W13 (Or.inr (slot_ne (Or.inl (w89 hw)) (Or.inl (w46 hw)) (by decide) (t := .int) (t' := .int) (by decide) (by decide)))
    have f21 : Fld Z h13 a "java/util/ArrayList" "size" "I" (.int (own_n (es ++ fs))) := by rw [hap]; exact f20
    have f22 : OwnE Z T4.heap es := P5.keep K4q 
    have f23 : OwnE Z h13 es := f22.other W13 
    have f24 : OwnE Z T4.heap fs := P18.keep K4q 
    have f25 : OwnE Z h13 fs := f24.other W13 
    have f26 : OwnE Z h13 (es ++ fs) := f23.app f25
    have f27 : Exa Z h13 a "java/util/ArrayList" := f12.wr W13
    have f28 : Fld Z T4.heap a "java/util/ArrayList" "elementData" "[Ljava/lang/Object;" (.ref ea) := P1.keep K4q nin0
    have f29 : Fld Z h13 a "java/util/ArrayList" "elementData" "[Ljava/lang/Object;" (.ref ea) := f28.other W13 (Or.inr (slot_ne (Or.inl (w49 hw)) (Or.inl (w46 hw)) (by decide) (t := (.array (.object "java/lang/Object"))) (t' := .int) (by decide) (by decide)))
    have f30 : Old Z n0 T4.heap := P10.keep K4q all0
    have f31 : Old Z n0 h13 := f30.wr W13 P13
    exact own_retN X13 hx hlk (t := .boolean) Bd.returns (by simp) (hb hby d17_25) e13 ⟨ea, cap, wa, (0 : Int32), rfl, N13, K13, f27, f29, f21, F13, f18, P6, P7, P8, f31, f26⟩ (by decide) (by decide)
  · refine own_on (fun t_ k_ => XS.ifYes X13.here hx rfl (pc0 := 21) (pc' := 26) rfl (hb hby d17_21) rfl ((if0 _ _).trans (feq q0).2) (by decide) (by decide) k_) ?_
    show OwnGo p e below s _ _ _ (T13.setTop (mkF m 26 #[.val (.ref a), .val (.ref cc), .val (.ref r_4), .val (.int (Int32.ofNat fs.length)), .unset, .unset] []))
    have hfs : ¬ fs.length = 0 := fun q => q0 (show Int32.ofNat fs.length = Int32.ofNat 0 by rw [q])
    refine own_on (fun t_ k_ => XS.iloadN X13.here hx rfl (hb hby d17_26) rfl k_) ?_
    show OwnGo p e below s _ _ _ (T13.setTop (mkF m 27 #[.val (.ref a), .val (.ref cc), .val (.ref r_4), .val (.int (Int32.ofNat fs.length)), .unset, .unset] [(.int (Int32.ofNat fs.length))]))
    refine own_on (fun t_ k_ => XS.aloadN X13.here hx rfl (hb hby d17_27) rfl rfl k_) ?_
    show OwnGo p e below s _ _ _ (T13.setTop (mkF m 28 #[.val (.ref a), .val (.ref cc), .val (.ref r_4), .val (.int (Int32.ofNat fs.length)), .unset, .unset] [(.ref a), (.int (Int32.ofNat fs.length))]))
    have f32 : Fld Z T4.heap a "java/util/ArrayList" "elementData" "[Ljava/lang/Object;" (.ref ea) := P1.keep K4q nin0
    have f33 : Fld Z h13 a "java/util/ArrayList" "elementData" "[Ljava/lang/Object;" (.ref ea) := f32.other W13 (Or.inr (slot_ne (Or.inl (w49 hw)) (Or.inl (w46 hw)) (by decide) (t := (.array (.object "java/lang/Object"))) (t' := .int) (by decide) (by decide)))
    obtain ⟨T34, X34, e34, st34⟩ := getF X13 hx hZ hown (host := "") (Or.inl (w48 hw)) Via.refl e13 f33 (g := (mkF m 28 #[.val (.ref a), .val (.ref cc), .val (.ref r_4), .val (.int (Int32.ofNat fs.length)), .unset, .unset] [(.ref a), (.int (Int32.ofNat fs.length))])) rfl rfl (hb hby d17_28)
    refine own_on st34 ?_
    show OwnGo p e below s _ _ _ (T34.setTop (mkF m 31 #[.val (.ref a), .val (.ref cc), .val (.ref r_4), .val (.int (Int32.ofNat fs.length)), .unset, .unset] [(.ref ea), (.int (Int32.ofNat fs.length))]))
    refine own_on (fun t_ k_ => XS.dup X34.here hx rfl (hb hby d17_31) rfl rfl k_) ?_
    show OwnGo p e below s _ _ _ (T34.setTop (mkF m 32 #[.val (.ref a), .val (.ref cc), .val (.ref r_4), .val (.int (Int32.ofNat fs.length)), .unset, .unset] [(.ref ea), (.ref ea), (.int (Int32.ofNat fs.length))]))
    refine own_on (fun t_ k_ => XS.astore X34.here hx rfl (hb hby d17_32) rfl rfl (l' := #[.val (.ref a), .val (.ref cc), .val (.ref r_4), .val (.int (Int32.ofNat fs.length)), .val (.ref ea), .unset]) rfl k_) ?_
    show OwnGo p e below s _ _ _ (T34.setTop (mkF m 34 #[.val (.ref a), .val (.ref cc), .val (.ref r_4), .val (.int (Int32.ofNat fs.length)), .val (.ref ea), .unset] [(.ref ea), (.int (Int32.ofNat fs.length))]))
    have f35 : OwnA Z T4.heap ea cap es := P4.keep K4q nin0
    have f36 : OwnA Z h13 ea cap es := f35.other W13 (Ne.symm ne3)
    obtain ⟨A37a, A37b, A37c, kk37, cl37, Ar37, q37, S37, M37, H37, G37⟩ := id f36
    refine own_on (X34.arraylength hx (by rw [e34]; exact Ar37.1) (State.isArrayOf_alike hZ.alike Ar37.2.1) (g := (mkF m 34 #[.val (.ref a), .val (.ref cc), .val (.ref r_4), .val (.int (Int32.ofNat fs.length)), .val (.ref ea), .unset] [(.ref ea), (.int (Int32.ofNat fs.length))])) rfl rfl (hb hby d17_34)) ?_
    rw [len_of S37 M37]
    show OwnGo p e below s _ _ _ (T34.setTop (mkF m 35 #[.val (.ref a), .val (.ref cc), .val (.ref r_4), .val (.int (Int32.ofNat fs.length)), .val (.ref ea), .unset] [(.int (Int32.ofNat cap)), (.int (Int32.ofNat fs.length))]))
    refine own_on (fun t_ k_ => XS.aloadN X34.here hx rfl (hb hby d17_35) rfl rfl k_) ?_
    show OwnGo p e below s _ _ _ (T34.setTop (mkF m 36 #[.val (.ref a), .val (.ref cc), .val (.ref r_4), .val (.int (Int32.ofNat fs.length)), .val (.ref ea), .unset] [(.ref a), (.int (Int32.ofNat cap)), (.int (Int32.ofNat fs.length))]))
    have f38 : Fld Z T4.heap a "java/util/ArrayList" "size" "I" (.int (own_n es)) := P2.keep K4q nin0
    have f39 : Fld Z h13 a "java/util/ArrayList" "size" "I" (.int (own_n es)) := f38.other W13 (Or.inr (slot_ne (Or.inl (w89 hw)) (Or.inl (w46 hw)) (by decide) (t := .int) (t' := .int) (by decide) (by decide)))
    obtain ⟨T40, X40, e40, st40⟩ := getF X34 hx hZ hown (host := "") (Or.inl (w88 hw)) Via.refl e34 f39 (g := (mkF m 36 #[.val (.ref a), .val (.ref cc), .val (.ref r_4), .val (.int (Int32.ofNat fs.length)), .val (.ref ea), .unset] [(.ref a), (.int (Int32.ofNat cap)), (.int (Int32.ofNat fs.length))])) rfl rfl (hb hby d17_36)
    refine own_on st40 ?_
    show OwnGo p e below s _ _ _ (T40.setTop (mkF m 39 #[.val (.ref a), .val (.ref cc), .val (.ref r_4), .val (.int (Int32.ofNat fs.length)), .val (.ref ea), .unset] [(.int (own_n es)), (.int (Int32.ofNat cap)), (.int (Int32.ofNat fs.length))]))
    refine own_on (fun t_ k_ => XS.dup X40.here hx rfl (hb hby d17_39) rfl rfl k_) ?_
    show OwnGo p e below s _ _ _ (T40.setTop (mkF m 40 #[.val (.ref a), .val (.ref cc), .val (.ref r_4), .val (.int (Int32.ofNat fs.length)), .val (.ref ea), .unset] [(.int (own_n es)), (.int (own_n es)), (.int (Int32.ofNat cap)), (.int (Int32.ofNat fs.length))]))
    refine own_on (fun t_ k_ => XS.istore X40.here hx rfl (hb hby d17_40) rfl (l' := #[.val (.ref a), .val (.ref cc), .val (.ref r_4), .val (.int (Int32.ofNat fs.length)), .val (.ref ea), .val (.int (own_n es))]) rfl k_) ?_
    show OwnGo p e below s _ _ _ (T40.setTop (mkF m 42 #[.val (.ref a), .val (.ref cc), .val (.ref r_4), .val (.int (Int32.ofNat fs.length)), .val (.ref ea), .val (.int (own_n es))] [(.int (own_n es)), (.int (Int32.ofNat cap)), (.int (Int32.ofNat fs.length))]))
    refine own_on (fun t_ k_ => XS.isub X40.here hx rfl (hb hby d17_42) rfl k_) ?_
    show OwnGo p e below s _ _ _ (T40.setTop (mkF m 43 #[.val (.ref a), .val (.ref cc), .val (.ref r_4), .val (.int (Int32.ofNat fs.length)), .val (.ref ea), .val (.int (own_n es))] [(.int ((Int32.ofNat cap) - (own_n es))), (.int (Int32.ofNat fs.length))]))
    rw [show ((Int32.ofNat cap) - (own_n es)) = (Int32.ofNat (cap - es.length)) from own_sub' (by omega) (by omega)]
    show OwnGo p e below s _ _ _ (T40.setTop (mkF m 43 #[.val (.ref a), .val (.ref cc), .val (.ref r_4), .val (.int (Int32.ofNat fs.length)), .val (.ref ea), .val (.int (own_n es))] [(.int (Int32.ofNat (cap - es.length))), (.int (Int32.ofNat fs.length))]))
    by_cases q1 : (Int32.ofNat (cap - es.length)) < (Int32.ofNat fs.length)
    · refine own_on (fun t_ k_ => XS.icmpNo X40.here hx rfl (hb hby d17_43) rfl (tlt q1).2.2.2 k_) ?_
      show OwnGo p e below s _ _ _ (T40.setTop (mkF m 46 #[.val (.ref a), .val (.ref cc), .val (.ref r_4), .val (.int (Int32.ofNat fs.length)), .val (.ref ea), .val (.int (own_n es))] []))
      rw [own_lt' (by omega) (by omega)] at q1
      refine own_on (fun t_ k_ => XS.aloadN X40.here hx rfl (hb hby d17_46) rfl rfl k_) ?_
      show OwnGo p e below s _ _ _ (T40.setTop (mkF m 47 #[.val (.ref a), .val (.ref cc), .val (.ref r_4), .val (.int (Int32.ofNat fs.length)), .val (.ref ea), .val (.int (own_n es))] [(.ref a)]))
      refine own_on (fun t_ k_ => XS.iload X40.here hx rfl (hb hby d17_47) rfl k_) ?_
      show OwnGo p e below s _ _ _ (T40.setTop (mkF m 49 #[.val (.ref a), .val (.ref cc), .val (.ref r_4), .val (.int (Int32.ofNat fs.length)), .val (.ref ea), .val (.int (own_n es))] [(.int (own_n es)), (.ref a)]))
      refine own_on (fun t_ k_ => XS.iloadN X40.here hx rfl (hb hby d17_49) rfl k_) ?_
      show OwnGo p e below s _ _ _ (T40.setTop (mkF m 50 #[.val (.ref a), .val (.ref cc), .val (.ref r_4), .val (.int (Int32.ofNat fs.length)), .val (.ref ea), .val (.int (own_n es))] [(.int (Int32.ofNat fs.length)), (.int (own_n es)), (.ref a)]))
      refine own_on (fun t_ k_ => XS.iadd X40.here hx rfl (hb hby d17_50) rfl k_) ?_
      show OwnGo p e below s _ _ _ (T40.setTop (mkF m 51 #[.val (.ref a), .val (.ref cc), .val (.ref r_4), .val (.int (Int32.ofNat fs.length)), .val (.ref ea), .val (.int (own_n es))] [(.int ((own_n es) + (Int32.ofNat fs.length))), (.ref a)]))
      rw [show ((own_n es) + (Int32.ofNat fs.length)) = (Int32.ofNat (es.length + fs.length)) from own_add' es.length fs.length]
      show OwnGo p e below s _ _ _ (T40.setTop (mkF m 51 #[.val (.ref a), .val (.ref cc), .val (.ref r_4), .val (.int (Int32.ofNat fs.length)), .val (.ref ea), .val (.int (own_n es))] [(.int (Int32.ofNat (es.length + fs.length))), (.ref a)]))
      have f41 : Exa Z h13 a "java/util/ArrayList" := f12.wr W13
      have f42 : OwnE Z T4.heap es := P5.keep K4q 
      have f43 : OwnE Z h13 es := f42.other W13 
      have f44 : Old Z n0 T4.heap := P10.keep K4q all0
      have f45 : Old Z n0 h13 := f44.wr W13 P13
      obtain ⟨cq46, q46, q46'⟩ := f41.cell
      obtain ⟨_, _, ⟨T46, L46, k46, n46⟩, -, X46, ⟨Lc46, hQ46, l46, y46, z46⟩, st46⟩ := X40.privateBack hx (y := (⟨"java/util/ArrayList", "grow", "(I)[Ljava/lang/Object;"⟩ : MethodName)) hown (mvT hZ (w153 hw)) (mvT hZ (w154 hw)) (mvT hZ (w156 hw)) (Cond.privateMethod_at (mvP hZ (w155 hw) (args := #[]))) (mvT hZ (w157 hw)) (by decide) (backOf (W := 0) (rm23 l Z a0 hw [] a (es.length + fs.length) ea cap es (mc + (1 : Int32)) dc mr h13 n0 Z13 f41 f33 f39 F13 f36 f43 f45 P11 P12 P13 (by omega : cap < (es.length + fs.length)) (by omega : (es.length + fs.length) ≤ 6)) hZ (w157 hw) (w28 hw) (by decide) (by decide)) (g := (mkF m 51 #[.val (.ref a), .val (.ref cc), .val (.ref r_4), .val (.int (Int32.ofNat fs.length)), .val (.ref ea), .val (.int (own_n es))] [(.int (Int32.ofNat (es.length + fs.length))), (.ref a)])) rfl (by rw [hml]; rfl) (Steps.refl _) (a := a) (by rw [e40]; exact q46) q46' (argsL := [(.int (Int32.ofNat (es.length + fs.length)))]) (rest := []) (lenOf pd_5 rfl) rfl (by show 2 * 0 + _ ≤ _; exact Nat.le_of_eq rfl) (hb hby d17_51) (fun _ hWx => ⟨rfl, e40, (by decide : 1 + 1 ≤ _), (by decide : 10 + 10 ≤ _)⟩)
      have f47 : Exa Z T4.heap cc "java/util/ArrayList" := P14.keep K4q
      have f48 : Exa Z h13 cc "java/util/ArrayList" := f47.wr W13
      dsimp only [Pt.U, Pt.locs, Pt.cells, Pt.slots] at X46 l46 y46 z46 st46 hQ46
      replace X46 := own_num (c' := 2) (n' := 20) X46 l46 (y46.trans rfl) (z46.trans rfl)
      obtain ⟨r_46, cp2_46, rfl, N46q, K46q, c46_0, c46_1, c46_2, c46_3, c46_4, c46_5, c46_6, c46_7, c46_8, c46_9⟩ := hQ46
      have N46 := Fr.app N13 N46q
      have Z46 : n0 ≤ T46.heap.size := Nat.le_trans Z13 K46q.1
      have K46 : Keep h0 T46.heap [a, wa] := K13.trans K46q (allS (P := fun x => x ∈ [a, wa] ∨ h0.size ≤ x) (Or.inl (List.mem_of_getElem? (i := 0) rfl)) all0)
      have ne49 : a ≠ r_46 := Nat.ne_of_lt (Nat.lt_of_lt_of_le f41.lt c46_7)
      have ne50 : ea ≠ r_46 := Nat.ne_of_lt (Nat.lt_of_lt_of_le f36.lt c46_7)
      have ne51 : cc ≠ r_46 := Nat.ne_of_lt (Nat.lt_of_lt_of_le f48.lt c46_7)
      have ne52 : r_4 ≠ r_46 := Nat.ne_of_lt (Nat.lt_of_lt_of_le f14.lt c46_7)
      have z53 : h0.size ≤ r_46 := Nat.le_trans K13.1 c46_7
      refine own_tr st46 ?_
      show OwnGo p e below s _ _ _ (T46.setTop (mkF m 54 #[.val (.ref a), .val (.ref cc), .val (.ref r_4), .val (.int (Int32.ofNat fs.length)), .val (.ref ea), .val (.int (own_n es))] [(.ref r_46)]))
      refine own_on (fun t_ k_ => XS.astore X46.here hx rfl (hb hby d17_54) rfl rfl (l' := #[.val (.ref a), .val (.ref cc), .val (.ref r_4), .val (.int (Int32.ofNat fs.length)), .val (.ref r_46), .val (.int (own_n es))]) rfl k_) ?_
      show OwnGo p e below s _ _ _ (T46.setTop (mkF m 56 #[.val (.ref a), .val (.ref cc), .val (.ref r_4), .val (.int (Int32.ofNat fs.length)), .val (.ref r_46), .val (.int (own_n es))] []))
      have hr54 : r_46 = r_46 ∨ cp2_46 = 0 := Or.inl rfl
      have hr55 : nb ≤ r_46 := Nat.le_trans P9 z53
      refine own_on (fun t_ k_ => XS.aloadN X46.here hx rfl (hb hby d17_56) rfl rfl k_) ?_
      show OwnGo p e below s _ _ _ (T46.setTop (mkF m 57 #[.val (.ref a), .val (.ref cc), .val (.ref r_4), .val (.int (Int32.ofNat fs.length)), .val (.ref r_46), .val (.int (own_n es))] [(.ref r_4)]))
      refine own_on (fun t_ k_ => XS.iconst X46.here hx rfl (hb hby d17_57) k_) ?_
      show OwnGo p e below s _ _ _ (T46.setTop (mkF m 58 #[.val (.ref a), .val (.ref cc), .val (.ref r_4), .val (.int (Int32.ofNat fs.length)), .val (.ref r_46), .val (.int (own_n es))] [(.int (0 : Int32)), (.ref r_4)]))
      refine own_on (fun t_ k_ => XS.aload X46.here hx rfl (hb hby d17_58) rfl rfl k_) ?_
      show OwnGo p e below s _ _ _ (T46.setTop (mkF m 60 #[.val (.ref a), .val (.ref cc), .val (.ref r_4), .val (.int (Int32.ofNat fs.length)), .val (.ref r_46), .val (.int (own_n es))] [(.ref r_46), (.int (0 : Int32)), (.ref r_4)]))
      refine own_on (fun t_ k_ => XS.iload X46.here hx rfl (hb hby d17_60) rfl k_) ?_
      show OwnGo p e below s _ _ _ (T46.setTop (mkF m 62 #[.val (.ref a), .val (.ref cc), .val (.ref r_4), .val (.int (Int32.ofNat fs.length)), .val (.ref r_46), .val (.int (own_n es))] [(.int (own_n es)), (.ref r_46), (.int (0 : Int32)), (.ref r_4)]))
      refine own_on (fun t_ k_ => XS.iloadN X46.here hx rfl (hb hby d17_62) rfl k_) ?_
      show OwnGo p e below s _ _ _ (T46.setTop (mkF m 63 #[.val (.ref a), .val (.ref cc), .val (.ref r_4), .val (.int (Int32.ofNat fs.length)), .val (.ref r_46), .val (.int (own_n es))] [(.int (Int32.ofNat fs.length)), (.int (own_n es)), (.ref r_46), (.int (0 : Int32)), (.ref r_4)]))
      have f56 : OwnA Z T46.heap r_4 fs.length fs := f14.keep K46q (ninS (Ne.symm ne5) nin0)
      have f57 : OwnE Z T4.heap fs := P18.keep K4q 
      have f58 : OwnE Z h13 fs := f57.other W13 
      have f59 : OwnE Z T46.heap fs := f58.keep K46q 
      obtain ⟨T60, h60, L60, X60, e60, N60, K60, A60, st60⟩ := own_cpO (cc := fs.length) (es1 := es) X46 hx hZ hown (w202 hw) (w113 hw) (w111 hw) (w112 hw) (w105 hw) (w162 hw) rfl f56 c46_4 f59 (sp := (0 : Int32)) (dp := (own_n es)) (nn := (Int32.ofNat fs.length)) rfl rfl rfl (Nat.le_refl _) (Nat.le_refl _) (by omega) N46 c46_6 (g := (mkF m 63 #[.val (.ref a), .val (.ref cc), .val (.ref r_4), .val (.int (Int32.ofNat fs.length)), .val (.ref r_46), .val (.int (own_n es))] [(.int (Int32.ofNat fs.length)), (.int (own_n es)), (.ref r_46), (.int (0 : Int32)), (.ref r_4)])) rfl (by rw [hml]; rfl) (rest := []) rfl (hb hby d17_63) (by decide) (W := 0) (by show 2 * 0 + _ ≤ _; exact Nat.le_of_eq rfl) (by decide)
      have Z60 : n0 ≤ h60.size := Nat.le_trans Z46 K60.1
      have K60x : Keep h0 h60 [a, wa] := K46.trans K60 (allS (P := fun x => x ∈ [a, wa] ∨ h0.size ≤ x) (Or.inr z53) all0)
      refine own_on st60 ?_
      show OwnGo p e below s _ _ _ (T60.setTop (mkF m 66 #[.val (.ref a), .val (.ref cc), .val (.ref r_4), .val (.int (Int32.ofNat fs.length)), .val (.ref r_46), .val (.int (own_n es))] []))
      refine own_on (fun t_ k_ => XS.aloadN X60.here hx rfl (hb hby d17_66) rfl rfl k_) ?_
      show OwnGo p e below s _ _ _ (T60.setTop (mkF m 67 #[.val (.ref a), .val (.ref cc), .val (.ref r_4), .val (.int (Int32.ofNat fs.length)), .val (.ref r_46), .val (.int (own_n es))] [(.ref a)]))
      refine own_on (fun t_ k_ => XS.iload X60.here hx rfl (hb hby d17_67) rfl k_) ?_
      show OwnGo p e below s _ _ _ (T60.setTop (mkF m 69 #[.val (.ref a), .val (.ref cc), .val (.ref r_4), .val (.int (Int32.ofNat fs.length)), .val (.ref r_46), .val (.int (own_n es))] [(.int (own_n es)), (.ref a)]))
      refine own_on (fun t_ k_ => XS.iloadN X60.here hx rfl (hb hby d17_69) rfl k_) ?_
      show OwnGo p e below s _ _ _ (T60.setTop (mkF m 70 #[.val (.ref a), .val (.ref cc), .val (.ref r_4), .val (.int (Int32.ofNat fs.length)), .val (.ref r_46), .val (.int (own_n es))] [(.int (Int32.ofNat fs.length)), (.int (own_n es)), (.ref a)]))
      refine own_on (fun t_ k_ => XS.iadd X60.here hx rfl (hb hby d17_70) rfl k_) ?_
      show OwnGo p e below s _ _ _ (T60.setTop (mkF m 71 #[.val (.ref a), .val (.ref cc), .val (.ref r_4), .val (.int (Int32.ofNat fs.length)), .val (.ref r_46), .val (.int (own_n es))] [(.int ((own_n es) + (Int32.ofNat fs.length))), (.ref a)]))
      rw [show ((own_n es) + (Int32.ofNat fs.length)) = (own_n (es ++ fs)) from own_napp es fs]
      show OwnGo p e below s _ _ _ (T60.setTop (mkF m 71 #[.val (.ref a), .val (.ref cc), .val (.ref r_4), .val (.int (Int32.ofNat fs.length)), .val (.ref r_46), .val (.int (own_n es))] [(.int (own_n (es ++ fs))), (.ref a)]))
      have f61 : Fld Z h60 a "java/util/ArrayList" "size" "I" (.int (own_n es)) := c46_2.keep K60 (ninS ne49 nin0)
      have f62 : Exa Z h60 a "java/util/ArrayList" := c46_0.keep K60
      obtain ⟨T63, h63, X63, e63, W63, st63⟩ := putF X60 hx hZ hown (host := "") (Or.inl (w88 hw)) Via.refl e60 f61 f62 (Or.inl (w89 hw)) (w27 hw) (ty := .int) (by decide) rfl rfl (g := (mkF m 71 #[.val (.ref a), .val (.ref cc), .val (.ref r_4), .val (.int (Int32.ofNat fs.length)), .val (.ref r_46), .val (.int (own_n es))] [(.int (own_n (es ++ fs))), (.ref a)])) rfl rfl (hb hby d17_71)
      have F63 := f61.same W63
      have N63 := Fr.snoc X63 N60 P13
      have Z63 : n0 ≤ h63.size := Nat.le_trans Z60 (Keep.of_wr W63).1
      have K63 : Keep h0 h63 [a, wa] := K60x.wr W63 (Or.inl (List.mem_of_getElem? (i := 0) rfl))
      refine own_on st63 ?_
      show OwnGo p e below s _ _ _ (T63.setTop (mkF m 74 #[.val (.ref a), .val (.ref cc), .val (.ref r_4), .val (.int (Int32.ofNat fs.length)), .val (.ref r_46), .val (.int (own_n es))] []))
      refine own_on (fun t_ k_ => XS.iconst X63.here hx rfl (hb hby d17_74) k_) ?_
      show OwnGo p e below s _ _ _ (T63.setTop (mkF m 75 #[.val (.ref a), .val (.ref cc), .val (.ref r_4), .val (.int (Int32.ofNat fs.length)), .val (.ref r_46), .val (.int (own_n es))] [(.int (1 : Int32))]))
      have f64 : OwnE Z h60 es := c46_8.keep K60 
      have f65 : OwnE Z h63 es := f64.other W63 
      have f66 : OwnE Z h60 fs := f59.keep K60 
      have f67 : OwnE Z h63 fs := f66.other W63 
      have f68 : OwnE Z h63 (es ++ fs) := f65.app f67
      have f69 : Exa Z h63 a "java/util/ArrayList" := f62.wr W63
      have f70 : Fld Z h60 a "java/util/ArrayList" "elementData" "[Ljava/lang/Object;" (.ref r_46) := c46_1.keep K60 (ninS ne49 nin0)
      have f71 : Fld Z h63 a "java/util/ArrayList" "elementData" "[Ljava/lang/Object;" (.ref r_46) := f70.other W63 (Or.inr (slot_ne (Or.inl (w49 hw)) (Or.inl (w89 hw)) (by decide) (t := (.array (.object "java/lang/Object"))) (t' := .int) (by decide) (by decide)))
      have f72 : Fld Z h60 a "java/util/AbstractList" "modCount" "I" (.int (mc + (1 : Int32))) := c46_3.keep K60 (ninS ne49 nin0)
      have f73 : Fld Z h63 a "java/util/AbstractList" "modCount" "I" (.int (mc + (1 : Int32))) := f72.other W63 (Or.inr (slot_ne (Or.inl (w46 hw)) (Or.inl (w89 hw)) (by decide) (t := .int) (t' := .int) (by decide) (by decide)))
      have f74 : OwnA Z h63 r_46 cp2_46 (es ++ fs) := A60.other W63 (Ne.symm ne49)
      have f75 : Old Z n0 h60 := c46_9.keep K60 (allS c46_6 all0)
      have f76 : Old Z n0 h63 := f75.wr W63 P13
      exact own_retN X63 hx hlk (t := .boolean) Bd.returns (by simp) (hb hby d17_75) e63 ⟨r_46, cp2_46, r_46, (1 : Int32), rfl, N63, K63, f69, f71, F63, f73, f74, hr54, c46_6, hr55, f76, f68⟩ (by decide) (by decide)
    · refine own_on (fun t_ k_ => XS.icmpYes X40.here hx rfl (pc0 := 43) (pc' := 56) rfl (hb hby d17_43) rfl (flt q1).2.2.2 (by decide) (by decide) k_) ?_
      show OwnGo p e below s _ _ _ (T40.setTop (mkF m 56 #[.val (.ref a), .val (.ref cc), .val (.ref r_4), .val (.int (Int32.ofNat fs.length)), .val (.ref ea), .val (.int (own_n es))] []))
      rw [own_lt' (by omega) (by omega)] at q1
      have hwa : wa = ea := P6.resolve_right (by omega)
      have hmem : ea ∈ [a, wa] := by rw [← hwa]; exact List.mem_of_getElem? (i := 1) rfl
      have g77 : n0 ≤ ea := hwa ▸ P7
      refine own_on (fun t_ k_ => XS.aloadN X40.here hx rfl (hb hby d17_56) rfl rfl k_) ?_
      show OwnGo p e below s _ _ _ (T40.setTop (mkF m 57 #[.val (.ref a), .val (.ref cc), .val (.ref r_4), .val (.int (Int32.ofNat fs.length)), .val (.ref ea), .val (.int (own_n es))] [(.ref r_4)]))
      refine own_on (fun t_ k_ => XS.iconst X40.here hx rfl (hb hby d17_57) k_) ?_
      show OwnGo p e below s _ _ _ (T40.setTop (mkF m 58 #[.val (.ref a), .val (.ref cc), .val (.ref r_4), .val (.int (Int32.ofNat fs.length)), .val (.ref ea), .val (.int (own_n es))] [(.int (0 : Int32)), (.ref r_4)]))
      refine own_on (fun t_ k_ => XS.aload X40.here hx rfl (hb hby d17_58) rfl rfl k_) ?_
      show OwnGo p e below s _ _ _ (T40.setTop (mkF m 60 #[.val (.ref a), .val (.ref cc), .val (.ref r_4), .val (.int (Int32.ofNat fs.length)), .val (.ref ea), .val (.int (own_n es))] [(.ref ea), (.int (0 : Int32)), (.ref r_4)]))
      refine own_on (fun t_ k_ => XS.iload X40.here hx rfl (hb hby d17_60) rfl k_) ?_
      show OwnGo p e below s _ _ _ (T40.setTop (mkF m 62 #[.val (.ref a), .val (.ref cc), .val (.ref r_4), .val (.int (Int32.ofNat fs.length)), .val (.ref ea), .val (.int (own_n es))] [(.int (own_n es)), (.ref ea), (.int (0 : Int32)), (.ref r_4)]))
      refine own_on (fun t_ k_ => XS.iloadN X40.here hx rfl (hb hby d17_62) rfl k_) ?_
      show OwnGo p e below s _ _ _ (T40.setTop (mkF m 63 #[.val (.ref a), .val (.ref cc), .val (.ref r_4), .val (.int (Int32.ofNat fs.length)), .val (.ref ea), .val (.int (own_n es))] [(.int (Int32.ofNat fs.length)), (.int (own_n es)), (.ref ea), (.int (0 : Int32)), (.ref r_4)]))
      have f78 : OwnE Z T4.heap fs := P18.keep K4q 
      have f79 : OwnE Z h13 fs := f78.other W13 
      obtain ⟨T80, h80, L80, X80, e80, N80, K80, A80, st80⟩ := own_cpO (cc := fs.length) (es1 := es) X40 hx hZ hown (w202 hw) (w113 hw) (w111 hw) (w112 hw) (w105 hw) (w162 hw) e40 f14 f36 f79 (sp := (0 : Int32)) (dp := (own_n es)) (nn := (Int32.ofNat fs.length)) rfl rfl rfl (Nat.le_refl _) (Nat.le_refl _) (by omega) N13 g77 (g := (mkF m 63 #[.val (.ref a), .val (.ref cc), .val (.ref r_4), .val (.int (Int32.ofNat fs.length)), .val (.ref ea), .val (.int (own_n es))] [(.int (Int32.ofNat fs.length)), (.int (own_n es)), (.ref ea), (.int (0 : Int32)), (.ref r_4)])) rfl (by rw [hml]; rfl) (rest := []) rfl (hb hby d17_63) (by decide) (W := 0) (by show 2 * 0 + _ ≤ _; exact Nat.le_of_eq rfl) (by decide)
      have Z80 : n0 ≤ h80.size := Nat.le_trans Z13 K80.1
      have K80x : Keep h0 h80 [a, wa] := K13.trans K80 (allS (P := fun x => x ∈ [a, wa] ∨ h0.size ≤ x) (Or.inl hmem) all0)
      refine own_on st80 ?_
      show OwnGo p e below s _ _ _ (T80.setTop (mkF m 66 #[.val (.ref a), .val (.ref cc), .val (.ref r_4), .val (.int (Int32.ofNat fs.length)), .val (.ref ea), .val (.int (own_n es))] []))
      refine own_on (fun t_ k_ => XS.aloadN X80.here hx rfl (hb hby d17_66) rfl rfl k_) ?_
      show OwnGo p e below s _ _ _ (T80.setTop (mkF m 67 #[.val (.ref a), .val (.ref cc), .val (.ref r_4), .val (.int (Int32.ofNat fs.length)), .val (.ref ea), .val (.int (own_n es))] [(.ref a)]))
      refine own_on (fun t_ k_ => XS.iload X80.here hx rfl (hb hby d17_67) rfl k_) ?_
      show OwnGo p e below s _ _ _ (T80.setTop (mkF m 69 #[.val (.ref a), .val (.ref cc), .val (.ref r_4), .val (.int (Int32.ofNat fs.length)), .val (.ref ea), .val (.int (own_n es))] [(.int (own_n es)), (.ref a)]))
      refine own_on (fun t_ k_ => XS.iloadN X80.here hx rfl (hb hby d17_69) rfl k_) ?_
      show OwnGo p e below s _ _ _ (T80.setTop (mkF m 70 #[.val (.ref a), .val (.ref cc), .val (.ref r_4), .val (.int (Int32.ofNat fs.length)), .val (.ref ea), .val (.int (own_n es))] [(.int (Int32.ofNat fs.length)), (.int (own_n es)), (.ref a)]))
      refine own_on (fun t_ k_ => XS.iadd X80.here hx rfl (hb hby d17_70) rfl k_) ?_
      show OwnGo p e below s _ _ _ (T80.setTop (mkF m 71 #[.val (.ref a), .val (.ref cc), .val (.ref r_4), .val (.int (Int32.ofNat fs.length)), .val (.ref ea), .val (.int (own_n es))] [(.int ((own_n es) + (Int32.ofNat fs.length))), (.ref a)]))
      rw [show ((own_n es) + (Int32.ofNat fs.length)) = (own_n (es ++ fs)) from own_napp es fs]
      show OwnGo p e below s _ _ _ (T80.setTop (mkF m 71 #[.val (.ref a), .val (.ref cc), .val (.ref r_4), .val (.int (Int32.ofNat fs.length)), .val (.ref ea), .val (.int (own_n es))] [(.int (own_n (es ++ fs))), (.ref a)]))
      have f81 : Fld Z h80 a "java/util/ArrayList" "size" "I" (.int (own_n es)) := f39.keep K80 (ninS ne3 nin0)
      have f82 : Exa Z h13 a "java/util/ArrayList" := f12.wr W13
      have f83 : Exa Z h80 a "java/util/ArrayList" := f82.keep K80
      obtain ⟨T84, h84, X84, e84, W84, st84⟩ := putF X80 hx hZ hown (host := "") (Or.inl (w88 hw)) Via.refl e80 f81 f83 (Or.inl (w89 hw)) (w27 hw) (ty := .int) (by decide) rfl rfl (g := (mkF m 71 #[.val (.ref a), .val (.ref cc), .val (.ref r_4), .val (.int (Int32.ofNat fs.length)), .val (.ref ea), .val (.int (own_n es))] [(.int (own_n (es ++ fs))), (.ref a)])) rfl rfl (hb hby d17_71)
      have F84 := f81.same W84
      have N84 := Fr.snoc X84 N80 P13
      have Z84 : n0 ≤ h84.size := Nat.le_trans Z80 (Keep.of_wr W84).1
      have K84 : Keep h0 h84 [a, wa] := K80x.wr W84 (Or.inl (List.mem_of_getElem? (i := 0) rfl))
      refine own_on st84 ?_
      show OwnGo p e below s _ _ _ (T84.setTop (mkF m 74 #[.val (.ref a), .val (.ref cc), .val (.ref r_4), .val (.int (Int32.ofNat fs.length)), .val (.ref ea), .val (.int (own_n es))] []))
      refine own_on (fun t_ k_ => XS.iconst X84.here hx rfl (hb hby d17_74) k_) ?_
      show OwnGo p e below s _ _ _ (T84.setTop (mkF m 75 #[.val (.ref a), .val (.ref cc), .val (.ref r_4), .val (.int (Int32.ofNat fs.length)), .val (.ref ea), .val (.int (own_n es))] [(.int (1 : Int32))]))
      have f85 : OwnE Z T4.heap es := P5.keep K4q 
      have f86 : OwnE Z h13 es := f85.other W13 
      have f87 : OwnE Z h80 es := f86.keep K80 
      have f88 : OwnE Z h84 es := f87.other W84 
      have f89 : OwnE Z h80 fs := f79.keep K80 
      have f90 : OwnE Z h84 fs := f89.other W84 
      have f91 : OwnE Z h84 (es ++ fs) := f88.app f90
      have f92 : Exa Z h84 a "java/util/ArrayList" := f83.wr W84
      have f93 : Fld Z h80 a "java/util/ArrayList" "elementData" "[Ljava/lang/Object;" (.ref ea) := f33.keep K80 (ninS ne3 nin0)
      have f94 : Fld Z h84 a "java/util/ArrayList" "elementData" "[Ljava/lang/Object;" (.ref ea) := f93.other W84 (Or.inr (slot_ne (Or.inl (w49 hw)) (Or.inl (w89 hw)) (by decide) (t := (.array (.object "java/lang/Object"))) (t' := .int) (by decide) (by decide)))
      have f95 : Fld Z h80 a "java/util/AbstractList" "modCount" "I" (.int (mc + (1 : Int32))) := F13.keep K80 (ninS ne3 nin0)
      have f96 : Fld Z h84 a "java/util/AbstractList" "modCount" "I" (.int (mc + (1 : Int32))) := f95.other W84 (Or.inr (slot_ne (Or.inl (w46 hw)) (Or.inl (w89 hw)) (by decide) (t := .int) (t' := .int) (by decide) (by decide)))
      have f97 : OwnA Z h84 ea cap (es ++ fs) := A80.other W84 (Ne.symm ne3)
      have f98 : Old Z n0 T4.heap := P10.keep K4q all0
      have f99 : Old Z n0 h13 := f98.wr W13 P13
      have f100 : Old Z n0 h80 := f99.keep K80 (allS g77 all0)
      have f101 : Old Z n0 h84 := f100.wr W84 P13
      exact own_retN X84 hx hlk (t := .boolean) Bd.returns (by simp) (hb hby d17_75) e84 ⟨ea, cap, wa, (1 : Int32), rfl, N84, K84, f92, f94, F84, f96, f97, P6, P7, P8, f101, f91⟩ (by decide) (by decide)
theorem ef_27 (m : MethodId) (jj : Int32) (zz : Int32)  : entryFrame m #[(.int jj), (.int zz), .null] 3 = mkF m 0 #[.val (.int jj), .val (.int zz), .val .null] [] := by first | (simp [entryFrame, mkF, argsToLocals, Value.category]; done) | rfl
def Q27 (Z : State) (jj : Int32) (zz : Int32) (h0 : Heap) (n0 : Nat) (v_ : Option Value) (h_ : Heap) (L_ : List Loc) : Prop := v_ = some (.int jj) ∧ Fr n0 L_ ∧ h_ = h0
set_option maxRecDepth 65536 in
set_option maxHeartbeats 40000000 in
theorem rm27 (l : Launch) (Z : State) (a0 : Array Value) (hw : ∀ d ∈ tables_1, d.before a0 Z = true) (ws : List Jvm.Cond) (jj : Int32) (zz : Int32) (h0 : Heap) (n0 : Nat) (Z0 : n0 ≤ h0.size) (P0 : ¬ jj < 0) (P1 : jj < zz) :
    MetFree l (⟨"jdk/internal/util/Preconditions", "checkIndex", "(IILjava/util/function/BiFunction;)I"⟩ : MethodName) (head1 (Jvm.Cond.code (⟨"jdk/internal/util/Preconditions", "checkIndex", "(IILjava/util/function/BiFunction;)I"⟩ : MethodName) jdk_41_method_11_code 3 (some .int) :: ws) ({ frames := 0, cells := 0, slots := 0, locals := 0 } : Room)) (fun A_ U => A_ = #[(.int jj), (.int zz), .null] ∧ Z.Warmed39 U.vm ∧ U.heap = h0) (fun _ _ _ _ _ => True) (fun _ U_ o_ U'_ => ∃ v_ L_, o_ = .returned v_ ∧ Q27 Z jj zz h0 n0 v_ U'_.heap L_ ∧ FrameEnd U_ o_ U'_ L_ ({ frames := 0, cells := 0, slots := 0, locals := 0 } : Room).cells ({ frames := 0, cells := 0, slots := 0, locals := 0 } : Room).slots) := by
  refine MetFree.of_bodySF (plainFor_of_name pn_5) hisR ?_
  intro p e s m args below meth c s₁ Bd hml0 hP hK
  obtain ⟨rfl, hZ, hh⟩ := hP
  have hx := Bd.exec
  have hby := Bd.bytes
  have hml : c.maxLocals = 3 := hml0
  have hown : s.vm.findClass "jdk/internal/util/Preconditions" = some m.cls := findClass_of_methodNamed Bd.named
  have hnm := (name_of_methodNamed Bd.named Bd.method).1
  have hlk : meth.locks = false := Bd.notSynchronized
  have X0 : Stand p l e ({ frames := 0, cells := 0, slots := 0, locals := 0 } : Room) s m #[(.int jj), (.int zz), .null] below meth c s₁ [] 0 0 := Stand.of_body Bd
  have e0 : s₁.heap = h0 := by rw [← hh, Bd.state]; rfl
  have N0 := Fr.nil n0
  have K0 : Keep h0 h0 [] := Keep.refl _ _
  refine own_cast (ef_27 m jj zz) ?_
  show OwnGo p e below s (Q27 Z jj zz h0 n0) ({ frames := 0, cells := 0, slots := 0, locals := 0 } : Room).cells ({ frames := 0, cells := 0, slots := 0, locals := 0 } : Room).slots (s₁.setTop (mkF m 0 #[.val (.int jj), .val (.int zz), .val .null] []))
  refine own_on (fun t_ k_ => XS.iloadN X0.here hx rfl (hb hby d27_0) rfl k_) ?_
  show OwnGo p e below s _ _ _ (s₁.setTop (mkF m 1 #[.val (.int jj), .val (.int zz), .val .null] [(.int jj)]))
  refine own_on (fun t_ k_ => XS.ifNo X0.here hx rfl (hb hby d27_1) rfl ((if0 _ _).trans (flt P0).1) k_) ?_
  show OwnGo p e below s _ _ _ (s₁.setTop (mkF m 4 #[.val (.int jj), .val (.int zz), .val .null] []))
  refine own_on (fun t_ k_ => XS.iloadN X0.here hx rfl (hb hby d27_4) rfl k_) ?_
  show OwnGo p e below s _ _ _ (s₁.setTop (mkF m 5 #[.val (.int jj), .val (.int zz), .val .null] [(.int jj)]))
  refine own_on (fun t_ k_ => XS.iloadN X0.here hx rfl (hb hby d27_5) rfl k_) ?_
  show OwnGo p e below s _ _ _ (s₁.setTop (mkF m 6 #[.val (.int jj), .val (.int zz), .val .null] [(.int zz), (.int jj)]))
  refine own_on (fun t_ k_ => XS.icmpYes X0.here hx rfl (pc0 := 6) (pc' := 16) rfl (hb hby d27_6) rfl (tlt P1).1 (by decide) (by decide) k_) ?_
  show OwnGo p e below s _ _ _ (s₁.setTop (mkF m 16 #[.val (.int jj), .val (.int zz), .val .null] []))
  refine own_on (fun t_ k_ => XS.iloadN X0.here hx rfl (hb hby d27_16) rfl k_) ?_
  show OwnGo p e below s _ _ _ (s₁.setTop (mkF m 17 #[.val (.int jj), .val (.int zz), .val .null] [(.int jj)]))
  exact own_retI X0 hx hlk Bd.returns (hb hby d27_17) e0 ⟨rfl, N0, rfl⟩ (by decide) (by decide)
theorem ef_26 (m : MethodId) (jj : Int32) (zz : Int32)  : entryFrame m #[(.int jj), (.int zz)] 2 = mkF m 0 #[.val (.int jj), .val (.int zz)] [] := by first | (simp [entryFrame, mkF, argsToLocals, Value.category]; done) | rfl
def Q26 (Z : State) (jj : Int32) (zz : Int32) (h0 : Heap) (n0 : Nat) (v_ : Option Value) (h_ : Heap) (L_ : List Loc) : Prop := v_ = some (.int jj) ∧ Fr n0 L_ ∧ h_ = h0
set_option maxRecDepth 65536 in
set_option maxHeartbeats 40000000 in
theorem rm26 (l : Launch) (Z : State) (a0 : Array Value) (hw : ∀ d ∈ tables_1, d.before a0 Z = true) (ws : List Jvm.Cond) (jj : Int32) (zz : Int32) (h0 : Heap) (n0 : Nat) (Z0 : n0 ≤ h0.size) (P0 : ¬ jj < 0) (P1 : jj < zz) :
    MetFree l (⟨"java/util/Objects", "checkIndex", "(II)I"⟩ : MethodName) (head1 (Jvm.Cond.code (⟨"java/util/Objects", "checkIndex", "(II)I"⟩ : MethodName) jdk_31_method_17_code 2 (some .int) :: ws) ({ frames := 1, cells := 0, slots := 0, locals := 14 } : Room)) (fun A_ U => A_ = #[(.int jj), (.int zz)] ∧ Z.Warmed39 U.vm ∧ U.heap = h0) (fun _ _ _ _ _ => True) (fun _ U_ o_ U'_ => ∃ v_ L_, o_ = .returned v_ ∧ Q26 Z jj zz h0 n0 v_ U'_.heap L_ ∧ FrameEnd U_ o_ U'_ L_ ({ frames := 1, cells := 0, slots := 0, locals := 14 } : Room).cells ({ frames := 1, cells := 0, slots := 0, locals := 14 } : Room).slots) := by
  refine MetFree.of_bodySF (plainFor_of_name pn_6) hisR ?_
  intro p e s m args below meth c s₁ Bd hml0 hP hK
  obtain ⟨rfl, hZ, hh⟩ := hP
  have hx := Bd.exec
  have hby := Bd.bytes
  have hml : c.maxLocals = 2 := hml0
  have hown : s.vm.findClass "java/util/Objects" = some m.cls := findClass_of_methodNamed Bd.named
  have hnm := (name_of_methodNamed Bd.named Bd.method).1
  have hlk : meth.locks = false := Bd.notSynchronized
  have X0 : Stand p l e ({ frames := 1, cells := 0, slots := 0, locals := 14 } : Room) s m #[(.int jj), (.int zz)] below meth c s₁ [] 0 0 := Stand.of_body Bd
  have e0 : s₁.heap = h0 := by rw [← hh, Bd.state]; rfl
  have N0 := Fr.nil n0
  have K0 : Keep h0 h0 [] := Keep.refl _ _
  refine own_cast (ef_26 m jj zz) ?_
  show OwnGo p e below s (Q26 Z jj zz h0 n0) ({ frames := 1, cells := 0, slots := 0, locals := 14 } : Room).cells ({ frames := 1, cells := 0, slots := 0, locals := 14 } : Room).slots (s₁.setTop (mkF m 0 #[.val (.int jj), .val (.int zz)] []))
  refine own_on (fun t_ k_ => XS.iloadN X0.here hx rfl (hb hby d26_0) rfl k_) ?_
  show OwnGo p e below s _ _ _ (s₁.setTop (mkF m 1 #[.val (.int jj), .val (.int zz)] [(.int jj)]))
  refine own_on (fun t_ k_ => XS.iloadN X0.here hx rfl (hb hby d26_1) rfl k_) ?_
  show OwnGo p e below s _ _ _ (s₁.setTop (mkF m 2 #[.val (.int jj), .val (.int zz)] [(.int zz), (.int jj)]))
  refine own_on (fun t_ k_ => XS.aconstNull X0.here hx rfl (hb hby d26_2) k_) ?_
  show OwnGo p e below s _ _ _ (s₁.setTop (mkF m 3 #[.val (.int jj), .val (.int zz)] [.null, (.int zz), (.int jj)]))
  obtain ⟨_, _, ⟨T1, L1, k1, n1⟩, -, X1, ⟨Lc1, hQ1, l1, y1, z1⟩, st1⟩ := Jvm.LawKit.callS X0 hx (y := (⟨"jdk/internal/util/Preconditions", "checkIndex", "(IILjava/util/function/BiFunction;)I"⟩ : MethodName)) hown (mvT hZ (w182 hw)) (mvT hZ (w183 hw)) (mvT hZ (w184 hw)) (mvT hZ (w185 hw)) (by decide) (backOf (W := 0) (rm27 l Z a0 hw [] jj zz h0 n0 Z0 P0 P1) hZ (w185 hw) (w184 hw) (by decide) (by decide)) (g := (mkF m 3 #[.val (.int jj), .val (.int zz)] [.null, (.int zz), (.int jj)])) rfl (by rw [hml]; rfl) (argsL := [(.int jj), (.int zz), .null]) (rest := []) (lenOf pd_8 rfl) rfl (by show 2 * 0 + _ ≤ _; exact Nat.le_of_eq rfl) (hb hby d26_3) (fun _ hWx => ⟨rfl, e0, (by decide : 0 + 0 ≤ _), (by decide : 0 + 0 ≤ _)⟩)
  dsimp only [Pt.U, Pt.locs, Pt.cells, Pt.slots] at X1 l1 y1 z1 st1 hQ1
  replace X1 := own_num (c' := 0) (n' := 0) X1 l1 (y1.trans rfl) (z1.trans rfl)
  obtain ⟨rfl, N1q, e1⟩ := hQ1
  have N1 := Fr.app N0 N1q
  refine own_on st1 ?_
  show OwnGo p e below s _ _ _ (T1.setTop (mkF m 6 #[.val (.int jj), .val (.int zz)] [(.int jj)]))
  exact own_retI X1 hx hlk Bd.returns (hb hby d26_6) e1 ⟨rfl, N1, rfl⟩ (by decide) (by decide)
theorem ef_28 (m : MethodId) (a : Addr) (jj : Int32)  : entryFrame m #[(.ref a), (.int jj)] 2 = mkF m 0 #[.val (.ref a), .val (.int jj)] [] := by first | (simp [entryFrame, mkF, argsToLocals, Value.category]; done) | rfl
def Q28 (Z : State) (a : Addr) (jj : Int32) (ea : Addr) (cap : Nat) (es : List Addr) (xx : Addr) (h0 : Heap) (n0 : Nat) (v_ : Option Value) (h_ : Heap) (L_ : List Loc) : Prop := v_ = some (.ref xx) ∧ Fr n0 L_ ∧ h_ = h0
set_option maxRecDepth 65536 in
set_option maxHeartbeats 40000000 in
theorem rm28 (l : Launch) (Z : State) (a0 : Array Value) (hw : ∀ d ∈ tables_1, d.before a0 Z = true) (ws : List Jvm.Cond) (a : Addr) (jj : Int32) (ea : Addr) (cap : Nat) (es : List Addr) (xx : Addr) (h0 : Heap) (n0 : Nat) (Z0 : n0 ≤ h0.size) (P0 : Fld Z h0 a "java/util/ArrayList" "elementData" "[Ljava/lang/Object;" (.ref ea)) (P1 : OwnA Z h0 ea cap es) (P2 : ¬ jj < 0) (P3 : jj < (own_n es)) (P4 : (es.map Value.ref).getD (jj).toNatClampNeg .null = .ref xx) (P5 : jj < Int32.ofNat cap) :
    MetFree l (⟨"java/util/ArrayList", "elementData", "(I)Ljava/lang/Object;"⟩ : MethodName) (head1 (Jvm.Cond.code (⟨"java/util/ArrayList", "elementData", "(I)Ljava/lang/Object;"⟩ : MethodName) jdk_38_method_18_code 2 (some (.object "java/lang/Object")) :: ws) ({ frames := 0, cells := 0, slots := 0, locals := 0 } : Room)) (fun A_ U => A_ = #[(.ref a), (.int jj)] ∧ Z.Warmed39 U.vm ∧ U.heap = h0) (fun _ _ _ _ _ => True) (fun _ U_ o_ U'_ => ∃ v_ L_, o_ = .returned v_ ∧ Q28 Z a jj ea cap es xx h0 n0 v_ U'_.heap L_ ∧ FrameEnd U_ o_ U'_ L_ ({ frames := 0, cells := 0, slots := 0, locals := 0 } : Room).cells ({ frames := 0, cells := 0, slots := 0, locals := 0 } : Room).slots) := by
  refine MetFree.of_bodySF (plainFor_of_name pn_2) hisR ?_
  intro p e s m args below meth c s₁ Bd hml0 hP hK
  obtain ⟨rfl, hZ, hh⟩ := hP
  have hx := Bd.exec
  have hby := Bd.bytes
  have hml : c.maxLocals = 2 := hml0
  have hown : s.vm.findClass "java/util/ArrayList" = some m.cls := findClass_of_methodNamed Bd.named
  have hnm := (name_of_methodNamed Bd.named Bd.method).1
  have hlk : meth.locks = false := Bd.notSynchronized
  have X0 : Stand p l e ({ frames := 0, cells := 0, slots := 0, locals := 0 } : Room) s m #[(.ref a), (.int jj)] below meth c s₁ [] 0 0 := Stand.of_body Bd
  have e0 : s₁.heap = h0 := by rw [← hh, Bd.state]; rfl
  have N0 := Fr.nil n0
  have K0 : Keep h0 h0 [] := Keep.refl _ _
  refine own_cast (ef_28 m a jj) ?_
  show OwnGo p e below s (Q28 Z a jj ea cap es xx h0 n0) ({ frames := 0, cells := 0, slots := 0, locals := 0 } : Room).cells ({ frames := 0, cells := 0, slots := 0, locals := 0 } : Room).slots (s₁.setTop (mkF m 0 #[.val (.ref a), .val (.int jj)] []))
  refine own_on (fun t_ k_ => XS.aloadN X0.here hx rfl (hb hby d28_0) rfl rfl k_) ?_
  show OwnGo p e below s _ _ _ (s₁.setTop (mkF m 1 #[.val (.ref a), .val (.int jj)] [(.ref a)]))
  obtain ⟨T1, X1, e1, st1⟩ := getF X0 hx hZ hown (host := "") (Or.inl (w48 hw)) Via.refl e0 P0 (g := (mkF m 1 #[.val (.ref a), .val (.int jj)] [(.ref a)])) rfl rfl (hb hby d28_1)
  refine own_on st1 ?_
  show OwnGo p e below s _ _ _ (T1.setTop (mkF m 4 #[.val (.ref a), .val (.int jj)] [(.ref ea)]))
  refine own_on (fun t_ k_ => XS.iloadN X1.here hx rfl (hb hby d28_4) rfl k_) ?_
  show OwnGo p e below s _ _ _ (T1.setTop (mkF m 5 #[.val (.ref a), .val (.int jj)] [(.int jj), (.ref ea)]))
  obtain ⟨A2a, A2b, A2c, kk2, cl2, Ar2, q2, S2, M2, H2, G2⟩ := id P1
  have hin2 : ¬ (jj < 0 ∨ cl2.slots.size ≤ (jj).toNatClampNeg) := inb_of S2 ⟨P2, P5⟩
  have hat2 : cl2.slots[(jj).toNatClampNeg]? = some (.ref xx) := Has.at H2 hin2 P4
  refine own_on (X1.aaload hx (j := jj) (v := (.ref xx)) (by rw [e1]; exact Ar2.1) (State.isArrayOf_alike hZ.alike Ar2.2.1) rfl Ar2.2.2 hin2 hat2 (g := (mkF m 5 #[.val (.ref a), .val (.int jj)] [(.int jj), (.ref ea)])) rfl rfl (hb hby d28_5)) ?_
  show OwnGo p e below s _ _ _ (T1.setTop (mkF m 6 #[.val (.ref a), .val (.int jj)] [(.ref xx)]))
  exact own_retA X1 hx hlk Bd.returns rfl rfl (hb hby d28_6) e1 ⟨rfl, N0, rfl⟩ (by decide) (by decide)
theorem ef_25 (m : MethodId) (a : Addr) (jj : Int32)  : entryFrame m #[(.ref a), (.int jj)] 2 = mkF m 0 #[.val (.ref a), .val (.int jj)] [] := by first | (simp [entryFrame, mkF, argsToLocals, Value.category]; done) | rfl
def Q25 (Z : State) (a : Addr) (jj : Int32) (ea : Addr) (cap : Nat) (es : List Addr) (xx : Addr) (h0 : Heap) (n0 : Nat) (v_ : Option Value) (h_ : Heap) (L_ : List Loc) : Prop := v_ = some (.ref xx) ∧ Fr n0 L_ ∧ h_ = h0
set_option maxRecDepth 65536 in
set_option maxHeartbeats 40000000 in
theorem rm25 (l : Launch) (Z : State) (a0 : Array Value) (hw : ∀ d ∈ tables_1, d.before a0 Z = true) (ws : List Jvm.Cond) (a : Addr) (jj : Int32) (ea : Addr) (cap : Nat) (es : List Addr) (xx : Addr) (h0 : Heap) (n0 : Nat) (Z0 : n0 ≤ h0.size) (P0 : Exa Z h0 a "java/util/ArrayList") (P1 : Fld Z h0 a "java/util/ArrayList" "elementData" "[Ljava/lang/Object;" (.ref ea)) (P2 : Fld Z h0 a "java/util/ArrayList" "size" "I" (.int (own_n es))) (P3 : OwnA Z h0 ea cap es) (P4 : ¬ jj < 0) (P5 : jj < (own_n es)) (P6 : (es.map Value.ref).getD (jj).toNatClampNeg .null = .ref xx) (P7 : jj < Int32.ofNat cap) :
    MetFree l (⟨"java/util/ArrayList", "get", "(I)Ljava/lang/Object;"⟩ : MethodName) (head1 (Jvm.Cond.code (⟨"java/util/ArrayList", "get", "(I)Ljava/lang/Object;"⟩ : MethodName) jdk_38_method_20_code 2 (some (.object "java/lang/Object")) :: ws) ({ frames := 2, cells := 0, slots := 0, locals := 27 } : Room)) (fun A_ U => A_ = #[(.ref a), (.int jj)] ∧ Z.Warmed39 U.vm ∧ U.heap = h0) (fun _ _ _ _ _ => True) (fun _ U_ o_ U'_ => ∃ v_ L_, o_ = .returned v_ ∧ Q25 Z a jj ea cap es xx h0 n0 v_ U'_.heap L_ ∧ FrameEnd U_ o_ U'_ L_ ({ frames := 2, cells := 0, slots := 0, locals := 27 } : Room).cells ({ frames := 2, cells := 0, slots := 0, locals := 27 } : Room).slots) := by
  refine MetFree.of_bodySF (plainFor_of_name pn_2) hisR ?_
  intro p e s m args below meth c s₁ Bd hml0 hP hK
  obtain ⟨rfl, hZ, hh⟩ := hP
  have hx := Bd.exec
  have hby := Bd.bytes
  have hml : c.maxLocals = 2 := hml0
  have hown : s.vm.findClass "java/util/ArrayList" = some m.cls := findClass_of_methodNamed Bd.named
  have hnm := (name_of_methodNamed Bd.named Bd.method).1
  have hlk : meth.locks = false := Bd.notSynchronized
  have X0 : Stand p l e ({ frames := 2, cells := 0, slots := 0, locals := 27 } : Room) s m #[(.ref a), (.int jj)] below meth c s₁ [] 0 0 := Stand.of_body Bd
  have e0 : s₁.heap = h0 := by rw [← hh, Bd.state]; rfl
  have N0 := Fr.nil n0
  have K0 : Keep h0 h0 [] := Keep.refl _ _
  refine own_cast (ef_25 m a jj) ?_
  show OwnGo p e below s (Q25 Z a jj ea cap es xx h0 n0) ({ frames := 2, cells := 0, slots := 0, locals := 27 } : Room).cells ({ frames := 2, cells := 0, slots := 0, locals := 27 } : Room).slots (s₁.setTop (mkF m 0 #[.val (.ref a), .val (.int jj)] []))
  refine own_on (fun t_ k_ => XS.iloadN X0.here hx rfl (hb hby d25_0) rfl k_) ?_
  show OwnGo p e below s _ _ _ (s₁.setTop (mkF m 1 #[.val (.ref a), .val (.int jj)] [(.int jj)]))
  refine own_on (fun t_ k_ => XS.aloadN X0.here hx rfl (hb hby d25_1) rfl rfl k_) ?_
  show OwnGo p e below s _ _ _ (s₁.setTop (mkF m 2 #[.val (.ref a), .val (.int jj)] [(.ref a), (.int jj)]))
  obtain ⟨T1, X1, e1, st1⟩ := getF X0 hx hZ hown (host := "") (Or.inl (w88 hw)) Via.refl e0 P2 (g := (mkF m 2 #[.val (.ref a), .val (.int jj)] [(.ref a), (.int jj)])) rfl rfl (hb hby d25_2)
  refine own_on st1 ?_
  show OwnGo p e below s _ _ _ (T1.setTop (mkF m 5 #[.val (.ref a), .val (.int jj)] [(.int (own_n es)), (.int jj)]))
  obtain ⟨_, _, ⟨T2, L2, k2, n2⟩, -, X2, ⟨Lc2, hQ2, l2, y2, z2⟩, st2⟩ := Jvm.LawKit.callS X1 hx (y := (⟨"java/util/Objects", "checkIndex", "(II)I"⟩ : MethodName)) hown (mvT hZ (w178 hw)) (mvT hZ (w179 hw)) (mvT hZ (w180 hw)) (mvT hZ (w181 hw)) (by decide) (backOf (W := 0) (rm26 l Z a0 hw [] jj (own_n es) h0 n0 Z0 P4 P5) hZ (w181 hw) (w180 hw) (by decide) (by decide)) (g := (mkF m 5 #[.val (.ref a), .val (.int jj)] [(.int (own_n es)), (.int jj)])) rfl (by rw [hml]; rfl) (argsL := [(.int jj), (.int (own_n es))]) (rest := []) (lenOf pd_1 rfl) rfl (by show 2 * 0 + _ ≤ _; exact Nat.le_of_eq rfl) (hb hby d25_5) (fun _ hWx => ⟨rfl, e1, (by decide : 0 + 0 ≤ _), (by decide : 0 + 0 ≤ _)⟩)
  dsimp only [Pt.U, Pt.locs, Pt.cells, Pt.slots] at X2 l2 y2 z2 st2 hQ2
  replace X2 := own_num (c' := 0) (n' := 0) X2 l2 (y2.trans rfl) (z2.trans rfl)
  obtain ⟨rfl, N2q, e2⟩ := hQ2
  have N2 := Fr.app N0 N2q
  refine own_on st2 ?_
  show OwnGo p e below s _ _ _ (T2.setTop (mkF m 8 #[.val (.ref a), .val (.int jj)] [(.int jj)]))
  refine own_on (fun t_ k_ => XS.pop X2.here hx rfl (hb hby d25_8) rfl rfl k_) ?_
  show OwnGo p e below s _ _ _ (T2.setTop (mkF m 9 #[.val (.ref a), .val (.int jj)] []))
  refine own_on (fun t_ k_ => XS.aloadN X2.here hx rfl (hb hby d25_9) rfl rfl k_) ?_
  show OwnGo p e below s _ _ _ (T2.setTop (mkF m 10 #[.val (.ref a), .val (.int jj)] [(.ref a)]))
  refine own_on (fun t_ k_ => XS.iloadN X2.here hx rfl (hb hby d25_10) rfl k_) ?_
  show OwnGo p e below s _ _ _ (T2.setTop (mkF m 11 #[.val (.ref a), .val (.int jj)] [(.int jj), (.ref a)]))
  obtain ⟨cq3, kq3, q3a, q3b, q3c⟩ := isOf hZ e2 P0
  obtain ⟨_, _, ⟨T3, L3, k3, n3⟩, -, X3, ⟨Lc3, hQ3, l3, y3, z3⟩, st3⟩ := X2.virtualBack hx (y := (⟨"java/util/ArrayList", "elementData", "(I)Ljava/lang/Object;"⟩ : MethodName)) (z := (⟨"java/util/ArrayList", "elementData", "(I)Ljava/lang/Object;"⟩ : MethodName)) hown (mvT hZ (w186 hw)) (mvT hZ (w187 hw)) (notFace_of_selects (args := #[]) (mvT hZ (w189 hw))) (mvT hZ (w189 hw)) (mvT hZ (w188 hw)) (by decide) (backOf (W := 0) (rm28 l Z a0 hw [] a jj ea cap es xx h0 n0 Z0 P1 P3 P4 P5 P6 P7) hZ (w190 hw) (w28 hw) (by decide) (by decide)) q3a q3c (g := (mkF m 11 #[.val (.ref a), .val (.int jj)] [(.int jj), (.ref a)])) rfl (by rw [hml]; rfl) (Steps.refl _) (argsL := [(.int jj)]) (rest := []) (lenOf pd_9 rfl) rfl (by show 2 * 0 + _ ≤ _; exact Nat.le_of_eq rfl) (hb hby d25_11) (fun _ hWx => ⟨rfl, e2, (by decide : 0 + 0 ≤ _), (by decide : 0 + 0 ≤ _)⟩)
  dsimp only [Pt.U, Pt.locs, Pt.cells, Pt.slots] at X3 l3 y3 z3 st3 hQ3
  replace X3 := own_num (c' := 0) (n' := 0) X3 l3 (y3.trans rfl) (z3.trans rfl)
  obtain ⟨rfl, N3q, e3⟩ := hQ3
  have N3 := Fr.app N2 N3q
  refine own_tr st3 ?_
  show OwnGo p e below s _ _ _ (T3.setTop (mkF m 14 #[.val (.ref a), .val (.int jj)] [(.ref xx)]))
  exact own_retA X3 hx hlk Bd.returns rfl rfl (hb hby d25_14) e3 ⟨rfl, N3, rfl⟩ (by decide) (by decide)
theorem ef_29 (m : MethodId) (a : Addr) (a : Addr)  : entryFrame m #[(.ref a), (.ref a)] 3 = mkF m 0 #[.val (.ref a), .val (.ref a), .unset] [] := by first | (simp [entryFrame, mkF, argsToLocals, Value.category]; done) | rfl
def Q29 (Z : State) (a : Addr) (h0 : Heap) (n0 : Nat) (v_ : Option Value) (h_ : Heap) (L_ : List Loc) : Prop := v_ = some (.int (1 : Int32)) ∧ Fr n0 L_ ∧ h_ = h0
set_option maxRecDepth 65536 in
set_option maxHeartbeats 40000000 in
theorem rm29 (l : Launch) (Z : State) (a0 : Array Value) (hw : ∀ d ∈ tables_1, d.before a0 Z = true) (ws : List Jvm.Cond) (a : Addr) (h0 : Heap) (n0 : Nat) (Z0 : n0 ≤ h0.size)  :
    MetFree l (⟨"java/lang/String", "equals", "(Ljava/lang/Object;)Z"⟩ : MethodName) (head1 (Jvm.Cond.code (⟨"java/lang/String", "equals", "(Ljava/lang/Object;)Z"⟩ : MethodName) jdk_42_method_66_code 3 (some .boolean) :: ws) ({ frames := 0, cells := 0, slots := 0, locals := 0 } : Room)) (fun A_ U => A_ = #[(.ref a), (.ref a)] ∧ Z.Warmed39 U.vm ∧ U.heap = h0) (fun _ _ _ _ _ => True) (fun _ U_ o_ U'_ => ∃ v_ L_, o_ = .returned v_ ∧ Q29 Z a h0 n0 v_ U'_.heap L_ ∧ FrameEnd U_ o_ U'_ L_ ({ frames := 0, cells := 0, slots := 0, locals := 0 } : Room).cells ({ frames := 0, cells := 0, slots := 0, locals := 0 } : Room).slots) := by
  refine MetFree.of_bodySF (plainFor_of_name pn_7) hisR ?_
  intro p e s m args below meth c s₁ Bd hml0 hP hK
  obtain ⟨rfl, hZ, hh⟩ := hP
  have hx := Bd.exec
  have hby := Bd.bytes
  have hml : c.maxLocals = 3 := hml0
  have hown : s.vm.findClass "java/lang/String" = some m.cls := findClass_of_methodNamed Bd.named
  have hnm := (name_of_methodNamed Bd.named Bd.method).1
  have hlk : meth.locks = false := Bd.notSynchronized
  have X0 : Stand p l e ({ frames := 0, cells := 0, slots := 0, locals := 0 } : Room) s m #[(.ref a), (.ref a)] below meth c s₁ [] 0 0 := Stand.of_body Bd
  have e0 : s₁.heap = h0 := by rw [← hh, Bd.state]; rfl
  have N0 := Fr.nil n0
  have K0 : Keep h0 h0 [] := Keep.refl _ _
  refine own_cast (ef_29 m a a) ?_
  show OwnGo p e below s (Q29 Z a h0 n0) ({ frames := 0, cells := 0, slots := 0, locals := 0 } : Room).cells ({ frames := 0, cells := 0, slots := 0, locals := 0 } : Room).slots (s₁.setTop (mkF m 0 #[.val (.ref a), .val (.ref a), .unset] []))
  refine own_on (fun t_ k_ => XS.aloadN X0.here hx rfl (hb hby d29_0) rfl rfl k_) ?_
  show OwnGo p e below s _ _ _ (s₁.setTop (mkF m 1 #[.val (.ref a), .val (.ref a), .unset] [(.ref a)]))
  refine own_on (fun t_ k_ => XS.aloadN X0.here hx rfl (hb hby d29_1) rfl rfl k_) ?_
  show OwnGo p e below s _ _ _ (s₁.setTop (mkF m 2 #[.val (.ref a), .val (.ref a), .unset] [(.ref a), (.ref a)]))
  refine own_on (fun t_ k_ => Jvm.RoadKit.acmp (g := (mkF m 2 #[.val (.ref a), .val (.ref a), .unset] [(.ref a), (.ref a)])) X0 hx rfl rfl rfl (pc0 := 2) (pc' := 5) (same := true) rfl (hb hby d29_2) rfl (decide_eq_true rfl) (by decide) (by decide) k_) ?_
  show OwnGo p e below s _ _ _ (s₁.setTop (mkF m 5 #[.val (.ref a), .val (.ref a), .unset] []))
  refine own_on (fun t_ k_ => XS.iconst X0.here hx rfl (hb hby d29_5) k_) ?_
  show OwnGo p e below s _ _ _ (s₁.setTop (mkF m 6 #[.val (.ref a), .val (.ref a), .unset] [(.int (1 : Int32))]))
  exact own_retN X0 hx hlk (t := .boolean) Bd.returns (by simp) (hb hby d29_6) e0 ⟨rfl, N0, rfl⟩ (by decide) (by decide)
theorem ef_2 (m : MethodId) (k : Int32)  : entryFrame m #[(.int k)] 1 = mkF m 0 #[.val (.int k)] [] := by first | (simp [entryFrame, mkF, argsToLocals, Value.category]; done) | rfl
def Q2 (Z : State) (k : Int32) (h0 : Heap) (n0 : Nat) (v_ : Option Value) (h_ : Heap) (L_ : List Loc) : Prop := v_ = some (.int (1 : Int32)) ∧ Fr n0 L_ ∧ h_ = h0
set_option maxRecDepth 65536 in
set_option maxHeartbeats 40000000 in
theorem rm2 (l : Launch) (Z : State) (a0 : Array Value) (hw : ∀ d ∈ tables_1, d.before a0 Z = true) (ws : List Jvm.Cond) (k : Int32) (h0 : Heap) (n0 : Nat) (Z0 : n0 ≤ h0.size) (P0 : ¬ (255 : Int32) < k) :
    MetFree l (⟨"java/lang/StringLatin1", "canEncode", "(C)Z"⟩ : MethodName) (head1 (Jvm.Cond.code (⟨"java/lang/StringLatin1", "canEncode", "(C)Z"⟩ : MethodName) jdk_43_method_3_code 1 (some .boolean) :: ws) ({ frames := 0, cells := 0, slots := 0, locals := 0 } : Room)) (fun A_ U => A_ = #[(.int k)] ∧ Z.Warmed39 U.vm ∧ U.heap = h0) (fun _ _ _ _ _ => True) (fun _ U_ o_ U'_ => ∃ v_ L_, o_ = .returned v_ ∧ Q2 Z k h0 n0 v_ U'_.heap L_ ∧ FrameEnd U_ o_ U'_ L_ ({ frames := 0, cells := 0, slots := 0, locals := 0 } : Room).cells ({ frames := 0, cells := 0, slots := 0, locals := 0 } : Room).slots) := by
  refine MetFree.of_bodySF (plainFor_of_name pn_8) hisR ?_
  intro p e s m args below meth c s₁ Bd hml0 hP hK
  obtain ⟨rfl, hZ, hh⟩ := hP
  have hx := Bd.exec
  have hby := Bd.bytes
  have hml : c.maxLocals = 1 := hml0
  have hown : s.vm.findClass "java/lang/StringLatin1" = some m.cls := findClass_of_methodNamed Bd.named
  have hnm := (name_of_methodNamed Bd.named Bd.method).1
  have hlk : meth.locks = false := Bd.notSynchronized
  have X0 : Stand p l e ({ frames := 0, cells := 0, slots := 0, locals := 0 } : Room) s m #[(.int k)] below meth c s₁ [] 0 0 := Stand.of_body Bd
  have e0 : s₁.heap = h0 := by rw [← hh, Bd.state]; rfl
  have N0 := Fr.nil n0
  have K0 : Keep h0 h0 [] := Keep.refl _ _
  refine own_cast (ef_2 m k) ?_
  show OwnGo p e below s (Q2 Z k h0 n0) ({ frames := 0, cells := 0, slots := 0, locals := 0 } : Room).cells ({ frames := 0, cells := 0, slots := 0, locals := 0 } : Room).slots (s₁.setTop (mkF m 0 #[.val (.int k)] []))
  refine own_on (fun t_ k_ => XS.iloadN X0.here hx rfl (hb hby d2_0) rfl k_) ?_
  show OwnGo p e below s _ _ _ (s₁.setTop (mkF m 1 #[.val (.int k)] [(.int k)]))
  refine own_on (fun t_ k_ => XS.sipush X0.here hx rfl (hb hby d2_1) k_) ?_
  show OwnGo p e below s _ _ _ (s₁.setTop (mkF m 4 #[.val (.int k)] [(.int (255 : Int32)), (.int k)]))
  refine own_on (fun t_ k_ => XS.icmpNo X0.here hx rfl (hb hby d2_4) rfl (flt P0).2.2.1 k_) ?_
  show OwnGo p e below s _ _ _ (s₁.setTop (mkF m 7 #[.val (.int k)] []))
  refine own_on (fun t_ k_ => XS.iconst X0.here hx rfl (hb hby d2_7) k_) ?_
  show OwnGo p e below s _ _ _ (s₁.setTop (mkF m 8 #[.val (.int k)] [(.int (1 : Int32))]))
  refine own_on (fun t_ k_ => XS.goto X0.here hx rfl (pc0 := 8) (pc' := 12) rfl (hb hby d2_8) (by decide) (by decide) k_) ?_
  show OwnGo p e below s _ _ _ (s₁.setTop (mkF m 12 #[.val (.int k)] [(.int (1 : Int32))]))
  exact own_retN X0 hx hlk (t := .boolean) Bd.returns (by simp) (hb hby d2_12) e0 ⟨rfl, N0, rfl⟩ (by decide) (by decide)
theorem ef_3 (m : MethodId) (k : Int32)  : entryFrame m #[(.int k)] 1 = mkF m 0 #[.val (.int k)] [] := by first | (simp [entryFrame, mkF, argsToLocals, Value.category]; done) | rfl
def Q3 (Z : State) (k : Int32) (h0 : Heap) (n0 : Nat) (v_ : Option Value) (h_ : Heap) (L_ : List Loc) : Prop := ∃ r : Addr, ∃ kr : ClassId, v_ = some (.ref r) ∧ Fr n0 L_ ∧ Keep h0 h_ [] ∧ (Arv Z h_ r kr .byte (1 : Int32) [(.int (nar .byte (k.toInt8.toInt32)))] (.int (0 : Int32))) ∧ (n0 ≤ r) ∧ (h0.size ≤ r)
set_option maxRecDepth 65536 in
set_option maxHeartbeats 40000000 in
theorem rm3 (l : Launch) (Z : State) (a0 : Array Value) (hw : ∀ d ∈ tables_1, d.before a0 Z = true) (ws : List Jvm.Cond) (k : Int32) (h0 : Heap) (n0 : Nat) (Z0 : n0 ≤ h0.size)  :
    MetFree l (⟨"java/lang/StringLatin1", "toBytes", "(C)[B"⟩ : MethodName) (head1 (Jvm.Cond.code (⟨"java/lang/StringLatin1", "toBytes", "(C)[B"⟩ : MethodName) jdk_43_method_46_code 1 (some (.array .byte)) :: ws) ({ frames := 0, cells := 1, slots := 1, locals := 0 } : Room)) (fun A_ U => A_ = #[(.int k)] ∧ Z.Warmed39 U.vm ∧ U.heap = h0) (fun _ _ _ _ _ => True) (fun _ U_ o_ U'_ => ∃ v_ L_, o_ = .returned v_ ∧ Q3 Z k h0 n0 v_ U'_.heap L_ ∧ FrameEnd U_ o_ U'_ L_ ({ frames := 0, cells := 1, slots := 1, locals := 0 } : Room).cells ({ frames := 0, cells := 1, slots := 1, locals := 0 } : Room).slots) := by
  refine MetFree.of_bodySF (plainFor_of_name pn_8) hisR ?_
  intro p e s m args below meth c s₁ Bd hml0 hP hK
  obtain ⟨rfl, hZ, hh⟩ := hP
  have hx := Bd.exec
  have hby := Bd.bytes
  have hml : c.maxLocals = 1 := hml0
  have hown : s.vm.findClass "java/lang/StringLatin1" = some m.cls := findClass_of_methodNamed Bd.named
  have hnm := (name_of_methodNamed Bd.named Bd.method).1
  have hlk : meth.locks = false := Bd.notSynchronized
  have X0 : Stand p l e ({ frames := 0, cells := 1, slots := 1, locals := 0 } : Room) s m #[(.int k)] below meth c s₁ [] 0 0 := Stand.of_body Bd
  have e0 : s₁.heap = h0 := by rw [← hh, Bd.state]; rfl
  have N0 := Fr.nil n0
  have K0 : Keep h0 h0 [] := Keep.refl _ _
  refine own_cast (ef_3 m k) ?_
  show OwnGo p e below s (Q3 Z k h0 n0) ({ frames := 0, cells := 1, slots := 1, locals := 0 } : Room).cells ({ frames := 0, cells := 1, slots := 1, locals := 0 } : Room).slots (s₁.setTop (mkF m 0 #[.val (.int k)] []))
  refine own_on (fun t_ k_ => XS.iconst X0.here hx rfl (hb hby d3_0) k_) ?_
  show OwnGo p e below s _ _ _ (s₁.setTop (mkF m 1 #[.val (.int k)] [(.int (1 : Int32))]))
  obtain ⟨T1, h1, k1, X1, e1, E1, A1, st1⟩ := newP (aty := .byte) X0 hx hZ (w14 hw) e0 (g := (mkF m 1 #[.val (.int k)] [(.int (1 : Int32))])) rfl (hb hby d3_1) rfl (by decide) (cap := 1) (by decide) (by decide) (by decide) (by decide)
  obtain ⟨b1, g1⟩ : ∃ z, z = h0.size := ⟨_, rfl⟩
  rw [← g1] at A1 st1
  have g2 : n0 ≤ b1 := Nat.le_trans Z0 (Nat.le_of_eq g1.symm)
  have z3 : h0.size ≤ b1 := Nat.le_trans K0.1 (Nat.le_of_eq g1.symm)
  have V1 : Arv Z h1 b1 k1 .byte (1 : Int32) [(.int (0 : Int32))] (.int (0 : Int32)) := (Arv.new A1 (by decide)).pad (pad_rep [] (.int (0 : Int32)) 1)
  have Z1 : n0 ≤ h1.size := Nat.le_trans Z0 E1.1
  have K1 : Keep h0 h1 [] := K0.ext E1
  refine own_on st1 ?_
  show OwnGo p e below s _ _ _ (T1.setTop (mkF m 3 #[.val (.int k)] [(.ref b1)]))
  refine own_on (fun t_ k_ => XS.dup X1.here hx rfl (hb hby d3_3) rfl rfl k_) ?_
  show OwnGo p e below s _ _ _ (T1.setTop (mkF m 4 #[.val (.int k)] [(.ref b1), (.ref b1)]))
  refine own_on (fun t_ k_ => XS.iconst X1.here hx rfl (hb hby d3_4) k_) ?_
  show OwnGo p e below s _ _ _ (T1.setTop (mkF m 5 #[.val (.int k)] [(.int (0 : Int32)), (.ref b1), (.ref b1)]))
  refine own_on (fun t_ k_ => XS.iloadN X1.here hx rfl (hb hby d3_5) rfl k_) ?_
  show OwnGo p e below s _ _ _ (T1.setTop (mkF m 6 #[.val (.int k)] [(.int k), (.int (0 : Int32)), (.ref b1), (.ref b1)]))
  refine own_on (fun t_ k_ => XS.i2b X1.here hx rfl (hb hby d3_6) rfl k_) ?_
  show OwnGo p e below s _ _ _ (T1.setTop (mkF m 7 #[.val (.int k)] [(.int (k.toInt8.toInt32)), (.int (0 : Int32)), (.ref b1), (.ref b1)]))
  obtain ⟨cl4, Ar4, q4, S4, M4, H4, G4⟩ := id V1
  have hin4 : ¬ ((0 : Int32) < 0 ∨ cl4.slots.size ≤ ((0 : Int32)).toNatClampNeg) := inb_of S4 ⟨by decide, by decide⟩
  obtain ⟨T5, h5, X5, e5, W5, st5⟩ := stB X1 hx hZ e1 Ar4 (j := (0 : Int32)) hin4 (g := (mkF m 7 #[.val (.int k)] [(.int (k.toInt8.toInt32)), (.int (0 : Int32)), (.ref b1), (.ref b1)])) rfl rfl (hb hby d3_7)
  have V5 : Arv Z h5 b1 k1 .byte (1 : Int32) [(.int (nar .byte (k.toInt8.toInt32)))] (.int (0 : Int32)) :=  Arv.set Ar4 q4 S4 M4 H4 G4 (fits_nar_byte _) W5 0 rfl (Nat.le_of_ble_eq_true rfl)
  have N5 := Fr.snoc X5 N0 g2
  have Z5 : n0 ≤ h5.size := Nat.le_trans Z1 (Keep.of_wr W5).1
  have K5 : Keep h0 h5 [] := K1.wr W5 (Or.inr z3)
  refine own_on st5 ?_
  show OwnGo p e below s _ _ _ (T5.setTop (mkF m 8 #[.val (.int k)] [(.ref b1)]))
  exact own_retA X5 hx hlk Bd.returns rfl rfl (hb hby d3_8) e5 ⟨b1, k1, rfl, N5, K5, V5, g2, z3⟩ (by decide) (by decide)
theorem ef_4 (m : MethodId) (a : Addr) (bt : Addr)  : entryFrame m #[(.ref a), (.ref bt), (.int (0 : Int32))] 3 = mkF m 0 #[.val (.ref a), .val (.ref bt), .val (.int (0 : Int32))] [] := by first | (simp [entryFrame, mkF, argsToLocals, Value.category]; done) | rfl
def Q4 (Z : State) (a : Addr) (bt : Addr) (u : Value) (u' : Value) (h0 : Heap) (n0 : Nat) (v_ : Option Value) (h_ : Heap) (L_ : List Loc) : Prop := v_ = none ∧ Fr n0 L_ ∧ Keep h0 h_ [a] ∧ (Exa Z h_ a "java/lang/String") ∧ (Fld Z h_ a "java/lang/String" "value" "[B" (.ref bt)) ∧ (Fld Z h_ a "java/lang/String" "coder" "B" (.int (0 : Int32)))
set_option maxRecDepth 65536 in
set_option maxHeartbeats 40000000 in
theorem rm4 (l : Launch) (Z : State) (a0 : Array Value) (hw : ∀ d ∈ tables_1, d.before a0 Z = true) (ws : List Jvm.Cond) (a : Addr) (bt : Addr) (u : Value) (u' : Value) (h0 : Heap) (n0 : Nat) (Z0 : n0 ≤ h0.size) (P0 : Exa Z h0 a "java/lang/String") (P1 : Fld Z h0 a "java/lang/String" "value" "[B" u) (P2 : Fld Z h0 a "java/lang/String" "coder" "B" u') (P3 : n0 ≤ a) :
    MetFree l (⟨"java/lang/String", "<init>", "([BB)V"⟩ : MethodName) (head1 (Jvm.Cond.code (⟨"java/lang/String", "<init>", "([BB)V"⟩ : MethodName) jdk_42_method_151_code 3 none :: ws) ({ frames := 1, cells := 0, slots := 0, locals := 12 } : Room)) (fun A_ U => A_ = #[(.ref a), (.ref bt), (.int (0 : Int32))] ∧ Z.Warmed39 U.vm ∧ U.heap = h0) (fun _ _ _ _ _ => True) (fun _ U_ o_ U'_ => ∃ v_ L_, o_ = .returned v_ ∧ Q4 Z a bt u u' h0 n0 v_ U'_.heap L_ ∧ FrameEnd U_ o_ U'_ L_ ({ frames := 1, cells := 0, slots := 0, locals := 12 } : Room).cells ({ frames := 1, cells := 0, slots := 0, locals := 12 } : Room).slots) := by
  refine MetFree.of_bodySF (plainFor_of_name pn_7) hisR ?_
  intro p e s m args below meth c s₁ Bd hml0 hP hK
  obtain ⟨rfl, hZ, hh⟩ := hP
  have hx := Bd.exec
  have hby := Bd.bytes
  have hml : c.maxLocals = 3 := hml0
  have hown : s.vm.findClass "java/lang/String" = some m.cls := findClass_of_methodNamed Bd.named
  have hnm := (name_of_methodNamed Bd.named Bd.method).1
  have hlk : meth.locks = false := Bd.notSynchronized
  have X0 : Stand p l e ({ frames := 1, cells := 0, slots := 0, locals := 12 } : Room) s m #[(.ref a), (.ref bt), (.int (0 : Int32))] below meth c s₁ [] 0 0 := Stand.of_body Bd
  have e0 : s₁.heap = h0 := by rw [← hh, Bd.state]; rfl
  have N0 := Fr.nil n0
  have K0 : Keep h0 h0 [a] := Keep.refl _ _
  refine own_cast (ef_4 m a bt) ?_
  show OwnGo p e below s (Q4 Z a bt u u' h0 n0) ({ frames := 1, cells := 0, slots := 0, locals := 12 } : Room).cells ({ frames := 1, cells := 0, slots := 0, locals := 12 } : Room).slots (s₁.setTop (mkF m 0 #[.val (.ref a), .val (.ref bt), .val (.int (0 : Int32))] []))
  refine own_on (fun t_ k_ => XS.aloadN X0.here hx rfl (hb hby d4_0) rfl rfl k_) ?_
  show OwnGo p e below s _ _ _ (s₁.setTop (mkF m 1 #[.val (.ref a), .val (.ref bt), .val (.int (0 : Int32))] [(.ref a)]))
  obtain ⟨T1, X1, e1, st1⟩ := initO X0 hx hZ hown (w19 hw) (w20 hw) (w21 hw) e0 (g := (mkF m 1 #[.val (.ref a), .val (.ref bt), .val (.int (0 : Int32))] [(.ref a)])) rfl (by rw [hml]; rfl) rfl (hb hby d4_1) (by decide) (W := 0) (by show 2 * 0 + _ ≤ _; exact Nat.le_of_eq rfl) (by decide)
  refine own_on st1 ?_
  show OwnGo p e below s _ _ _ (T1.setTop (mkF m 4 #[.val (.ref a), .val (.ref bt), .val (.int (0 : Int32))] []))
  refine own_on (fun t_ k_ => XS.aloadN X1.here hx rfl (hb hby d4_4) rfl rfl k_) ?_
  show OwnGo p e below s _ _ _ (T1.setTop (mkF m 5 #[.val (.ref a), .val (.ref bt), .val (.int (0 : Int32))] [(.ref a)]))
  refine own_on (fun t_ k_ => XS.aloadN X1.here hx rfl (hb hby d4_5) rfl rfl k_) ?_
  show OwnGo p e below s _ _ _ (T1.setTop (mkF m 6 #[.val (.ref a), .val (.ref bt), .val (.int (0 : Int32))] [(.ref bt), (.ref a)]))
  obtain ⟨T2, h2, X2, e2, W2, st2⟩ := putF X1 hx hZ hown (host := "") (Or.inl (w22 hw)) Via.refl e1 P1 P0 (Or.inr ⟨(w23 hw), rfl, hnm⟩) (w10 hw) (ty := (.array .byte)) (by decide) rfl rfl (g := (mkF m 6 #[.val (.ref a), .val (.ref bt), .val (.int (0 : Int32))] [(.ref bt), (.ref a)])) rfl rfl (hb hby d4_6)
  have F2 := P1.same W2
  have N2 := Fr.snoc X2 N0 P3
  have Z2 : n0 ≤ h2.size := Nat.le_trans Z0 (Keep.of_wr W2).1
  have K2 : Keep h0 h2 [a] := K0.wr W2 (Or.inl (List.mem_of_getElem? (i := 0) rfl))
  refine own_on st2 ?_
  show OwnGo p e below s _ _ _ (T2.setTop (mkF m 9 #[.val (.ref a), .val (.ref bt), .val (.int (0 : Int32))] []))
  refine own_on (fun t_ k_ => XS.aloadN X2.here hx rfl (hb hby d4_9) rfl rfl k_) ?_
  show OwnGo p e below s _ _ _ (T2.setTop (mkF m 10 #[.val (.ref a), .val (.ref bt), .val (.int (0 : Int32))] [(.ref a)]))
  refine own_on (fun t_ k_ => XS.iloadN X2.here hx rfl (hb hby d4_10) rfl k_) ?_
  show OwnGo p e below s _ _ _ (T2.setTop (mkF m 11 #[.val (.ref a), .val (.ref bt), .val (.int (0 : Int32))] [(.int (0 : Int32)), (.ref a)]))
  have f3 : Fld Z h2 a "java/lang/String" "coder" "B" u' := P2.other W2 (Or.inr (slot_ne (Or.inr (w25 hw)) (Or.inr (w23 hw)) (by decide) (t := .byte) (t' := (.array .byte)) (by decide) (by decide)))
  have f4 : Exa Z h2 a "java/lang/String" := P0.wr W2
  obtain ⟨T5, h5, X5, e5, W5, st5⟩ := putFN X2 hx hZ hown (w24 hw) Via.refl e2 f3 f4 (Or.inr ⟨(w25 hw), rfl, hnm⟩) (w10 hw) (ty := .byte) (v' := .int (0 : Int32)) (by decide) rfl rfl (g := (mkF m 11 #[.val (.ref a), .val (.ref bt), .val (.int (0 : Int32))] [(.int (0 : Int32)), (.ref a)])) rfl rfl (hb hby d4_11)
  have F5 := f3.same W5
  have N5 := Fr.snoc X5 N2 P3
  have Z5 : n0 ≤ h5.size := Nat.le_trans Z2 (Keep.of_wr W5).1
  have K5 : Keep h0 h5 [a] := K2.wr W5 (Or.inl (List.mem_of_getElem? (i := 0) rfl))
  refine own_on st5 ?_
  show OwnGo p e below s _ _ _ (T5.setTop (mkF m 14 #[.val (.ref a), .val (.ref bt), .val (.int (0 : Int32))] []))
  have f6 : Exa Z h5 a "java/lang/String" := f4.wr W5
  have f7 : Fld Z h5 a "java/lang/String" "value" "[B" (.ref bt) := F2.other W5 (Or.inr (slot_ne (Or.inr (w23 hw)) (Or.inr (w25 hw)) (by decide) (t := (.array .byte)) (t' := .byte) (by decide) (by decide)))
  exact own_retV X5 hx hlk Bd.returns (hb hby d4_14) e5 ⟨rfl, N5, K5, f6, f7, F5⟩ (by decide) (by decide)
theorem ef_1 (m : MethodId) (k : Int32)  : entryFrame m #[(.int k)] 1 = mkF m 0 #[.val (.int k)] [] := by first | (simp [entryFrame, mkF, argsToLocals, Value.category]; done) | rfl
def Q1 (Z : State) (k : Int32) (cs : Int32) (h0 : Heap) (n0 : Nat) (v_ : Option Value) (h_ : Heap) (L_ : List Loc) : Prop := ∃ r : Addr, ∃ rb : Addr, ∃ kr : ClassId, v_ = some (.ref r) ∧ Fr n0 L_ ∧ Keep h0 h_ [] ∧ (Exa Z h_ r "java/lang/String") ∧ (Fld Z h_ r "java/lang/String" "coder" "B" (.int (0 : Int32))) ∧ (Fld Z h_ r "java/lang/String" "value" "[B" (.ref rb)) ∧ (Arv Z h_ rb kr .byte (1 : Int32) [(.int (nar .byte (k.toInt8.toInt32)))] (.int (0 : Int32))) ∧ (n0 ≤ r) ∧ (n0 ≤ rb) ∧ (h0.size ≤ r) ∧ (h0.size ≤ rb) ∧ (Old Z n0 h_)
set_option maxRecDepth 65536 in
set_option maxHeartbeats 40000000 in
theorem rm1 (l : Launch) (Z : State) (a0 : Array Value) (hw : ∀ d ∈ tables_1, d.before a0 Z = true) (ws : List Jvm.Cond) (k : Int32) (cs : Int32) (h0 : Heap) (n0 : Nat) (Z0 : n0 ≤ h0.size) (P0 : Old Z n0 h0) (P1 : Sta Z Z.heap "java/lang/String" "COMPACT_STRINGS" "Z" (.int cs)) (P2 : ¬ (cs = (0 : Int32))) (P3 : ¬ (255 : Int32) < k) :
    MetFree l (⟨"java/lang/String", "valueOf", "(C)Ljava/lang/String;"⟩ : MethodName) (head1 (Jvm.Cond.code (⟨"java/lang/String", "valueOf", "(C)Ljava/lang/String;"⟩ : MethodName) jdk_42_method_139_code 1 (some (.object "java/lang/String")) :: ws) ({ frames := 2, cells := 2, slots := 5, locals := 27 } : Room)) (fun A_ U => A_ = #[(.int k)] ∧ Z.Warmed39 U.vm ∧ U.heap = h0) (fun _ _ _ _ _ => True) (fun _ U_ o_ U'_ => ∃ v_ L_, o_ = .returned v_ ∧ Q1 Z k cs h0 n0 v_ U'_.heap L_ ∧ FrameEnd U_ o_ U'_ L_ ({ frames := 2, cells := 2, slots := 5, locals := 27 } : Room).cells ({ frames := 2, cells := 2, slots := 5, locals := 27 } : Room).slots) := by
  refine MetFree.of_bodySF (plainFor_of_name pn_7) hisR ?_
  intro p e s m args below meth c s₁ Bd hml0 hP hK
  obtain ⟨rfl, hZ, hh⟩ := hP
  have hx := Bd.exec
  have hby := Bd.bytes
  have hml : c.maxLocals = 1 := hml0
  have hown : s.vm.findClass "java/lang/String" = some m.cls := findClass_of_methodNamed Bd.named
  have hnm := (name_of_methodNamed Bd.named Bd.method).1
  have hlk : meth.locks = false := Bd.notSynchronized
  have X0 : Stand p l e ({ frames := 2, cells := 2, slots := 5, locals := 27 } : Room) s m #[(.int k)] below meth c s₁ [] 0 0 := Stand.of_body Bd
  have e0 : s₁.heap = h0 := by rw [← hh, Bd.state]; rfl
  have N0 := Fr.nil n0
  have K0 : Keep h0 h0 [] := Keep.refl _ _
  refine own_cast (ef_1 m k) ?_
  show OwnGo p e below s (Q1 Z k cs h0 n0) ({ frames := 2, cells := 2, slots := 5, locals := 27 } : Room).cells ({ frames := 2, cells := 2, slots := 5, locals := 27 } : Room).slots (s₁.setTop (mkF m 0 #[.val (.int k)] []))
  obtain ⟨T1, X1, e1, st1⟩ := getS2 X0 hx hZ hown (host := "") (Or.inl (w4 hw)) Via.refl e0 (P1.ext P0.2) (g := (mkF m 0 #[.val (.int k)] [])) rfl (hb hby d1_0)
  refine own_on st1 ?_
  show OwnGo p e below s _ _ _ (T1.setTop (mkF m 3 #[.val (.int k)] [(.int cs)]))
  refine own_on (fun t_ k_ => XS.ifNo X1.here hx rfl (hb hby d1_3) rfl ((if0 _ _).trans (feq P2).1) k_) ?_
  show OwnGo p e below s _ _ _ (T1.setTop (mkF m 6 #[.val (.int k)] []))
  refine own_on (fun t_ k_ => XS.iloadN X1.here hx rfl (hb hby d1_6) rfl k_) ?_
  show OwnGo p e below s _ _ _ (T1.setTop (mkF m 7 #[.val (.int k)] [(.int k)]))
  obtain ⟨_, _, ⟨T2, L2, k2, n2⟩, -, X2, ⟨Lc2, hQ2, l2, y2, z2⟩, st2⟩ := Jvm.LawKit.callS X1 hx (y := (⟨"java/lang/StringLatin1", "canEncode", "(C)Z"⟩ : MethodName)) hown (mvT hZ (w5 hw)) (mvT hZ (w6 hw)) (mvT hZ (w7 hw)) (mvT hZ (w8 hw)) (by decide) (backOf (W := 0) (rm2 l Z a0 hw [] k h0 n0 Z0 P3) hZ (w8 hw) (w7 hw) (by decide) (by decide)) (g := (mkF m 7 #[.val (.int k)] [(.int k)])) rfl (by rw [hml]; rfl) (argsL := [(.int k)]) (rest := []) (lenOf pd_10 rfl) rfl (by show 2 * 0 + _ ≤ _; exact Nat.le_of_eq rfl) (hb hby d1_7) (fun _ hWx => ⟨rfl, e1, (by decide : 0 + 0 ≤ _), (by decide : 0 + 0 ≤ _)⟩)
  dsimp only [Pt.U, Pt.locs, Pt.cells, Pt.slots] at X2 l2 y2 z2 st2 hQ2
  replace X2 := own_num (c' := 0) (n' := 0) X2 l2 (y2.trans rfl) (z2.trans rfl)
  obtain ⟨rfl, N2q, e2⟩ := hQ2
  have N2 := Fr.app N0 N2q
  refine own_on st2 ?_
  show OwnGo p e below s _ _ _ (T2.setTop (mkF m 10 #[.val (.int k)] [(.int (1 : Int32))]))
  refine own_on (fun t_ k_ => XS.ifNo X2.here hx rfl (hb hby d1_10) rfl ((if0 _ _).trans (feq (by decide : ¬ ((1 : Int32) = (0 : Int32)))).1) k_) ?_
  show OwnGo p e below s _ _ _ (T2.setTop (mkF m 13 #[.val (.int k)] []))
  obtain ⟨T3, h3, X3, e3, E3, A3, D3, u3, st3⟩ := newO X2 hx hZ hown (w9 hw) (w10 hw) (w2 hw) e2 (g := (mkF m 13 #[.val (.int k)] [])) rfl (hb hby d1_13) (by decide) (by decide)
  obtain ⟨b3, g3⟩ : ∃ z, z = h0.size := ⟨_, rfl⟩
  rw [← g3] at A3 D3 st3
  have g4 : n0 ≤ b3 := Nat.le_trans Z0 (Nat.le_of_eq g3.symm)
  have z5 : h0.size ≤ b3 := Nat.le_trans K0.1 (Nat.le_of_eq g3.symm)
  have Z3 : n0 ≤ h3.size := Nat.le_trans Z0 E3.1
  have K3 : Keep h0 h3 [] := K0.ext E3
  have F3_value : Fld Z h3 b3 "java/lang/String" "value" "[B" .null := D3 (Or.inr (w23 hw)) (ty := (.array .byte)) (by decide)
  have F3_coder : Fld Z h3 b3 "java/lang/String" "coder" "B" (.int (0 : Int32)) := D3 (Or.inr (w25 hw)) (ty := .byte) (by decide)
  refine own_on st3 ?_
  show OwnGo p e below s _ _ _ (T3.setTop (mkF m 16 #[.val (.int k)] [(.ref b3)]))
  refine own_on (fun t_ k_ => XS.dup X3.here hx rfl (hb hby d1_16) rfl rfl k_) ?_
  show OwnGo p e below s _ _ _ (T3.setTop (mkF m 17 #[.val (.int k)] [(.ref b3), (.ref b3)]))
  refine own_on (fun t_ k_ => XS.iloadN X3.here hx rfl (hb hby d1_17) rfl k_) ?_
  show OwnGo p e below s _ _ _ (T3.setTop (mkF m 18 #[.val (.int k)] [(.int k), (.ref b3), (.ref b3)]))
  obtain ⟨_, _, ⟨T6, L6, k6, n6⟩, -, X6, ⟨Lc6, hQ6, l6, y6, z6⟩, st6⟩ := Jvm.LawKit.callS X3 hx (y := (⟨"java/lang/StringLatin1", "toBytes", "(C)[B"⟩ : MethodName)) hown (mvT hZ (w11 hw)) (mvT hZ (w12 hw)) (mvT hZ (w7 hw)) (mvT hZ (w13 hw)) (by decide) (backOf (W := 2) (rm3 l Z a0 hw [] k h3 n0 Z3 ) hZ (w13 hw) (w7 hw) (by decide) (by decide)) (g := (mkF m 18 #[.val (.int k)] [(.int k), (.ref b3), (.ref b3)])) rfl (by rw [hml]; rfl) (argsL := [(.int k)]) (rest := [(.ref b3), (.ref b3)]) (lenOf pd_11 rfl) rfl (by show 2 * 0 + _ ≤ _; exact Nat.le_of_eq rfl) (hb hby d1_18) (fun _ hWx => ⟨rfl, e3, (by decide : 1 + 1 ≤ _), (by decide : 4 + 1 ≤ _)⟩)
  dsimp only [Pt.U, Pt.locs, Pt.cells, Pt.slots] at X6 l6 y6 z6 st6 hQ6
  replace X6 := own_num (c' := 2) (n' := 5) X6 l6 (y6.trans rfl) (z6.trans rfl)
  obtain ⟨r_6, kr_6, rfl, N6q, K6q, c6_0, c6_1, c6_2⟩ := hQ6
  have N6 := Fr.app N2 N6q
  have Z6 : n0 ≤ T6.heap.size := Nat.le_trans Z3 K6q.1
  have K6 : Keep h0 T6.heap [] := K3.trans K6q all0
  have ne7 : b3 ≠ r_6 := Nat.ne_of_lt (Nat.lt_of_lt_of_le A3.lt c6_2)
  have z8 : h0.size ≤ r_6 := Nat.le_trans K3.1 c6_2
  refine own_on st6 ?_
  show OwnGo p e below s _ _ _ (T6.setTop (mkF m 21 #[.val (.int k)] [(.ref r_6), (.ref b3), (.ref b3)]))
  refine own_on (fun t_ k_ => XS.iconst X6.here hx rfl (hb hby d1_21) k_) ?_
  show OwnGo p e below s _ _ _ (T6.setTop (mkF m 22 #[.val (.int k)] [(.int (0 : Int32)), (.ref r_6), (.ref b3), (.ref b3)]))
  have f9 : Exa Z T6.heap b3 "java/lang/String" := A3.keep K6q
  have f10 : Fld Z T6.heap b3 "java/lang/String" "value" "[B" .null := F3_value.keep K6q nin0
  have f11 : Fld Z T6.heap b3 "java/lang/String" "coder" "B" (.int (0 : Int32)) := F3_coder.keep K6q nin0
  obtain ⟨_, _, ⟨T12, L12, k12, n12⟩, -, X12, ⟨Lc12, hQ12, l12, y12, z12⟩, st12⟩ := X6.specialBack hx (y := (⟨"java/lang/String", "<init>", "([BB)V"⟩ : MethodName)) rfl hown (mvT hZ (w15 hw)) (mvT hZ (w16 hw)) (mvT hZ (w18 hw)) (by decide) (backOf (W := 1) (rm4 l Z a0 hw [] b3 r_6 .null (.int (0 : Int32)) T6.heap n0 Z6 f9 f10 f11 g4) hZ (w18 hw) (w2 hw) (by decide) (by decide)) (g := (mkF m 22 #[.val (.int k)] [(.int (0 : Int32)), (.ref r_6), (.ref b3), (.ref b3)])) rfl (by rw [hml]; rfl) (Steps.refl _) (a := b3) (argsL := [(.ref r_6), (.int (0 : Int32))]) (rest := [(.ref b3)]) (lenOf pd_12 rfl) rfl (by show 2 * 0 + _ ≤ _; exact Nat.le_of_eq rfl) (hb hby d1_22) (fun _ hWx => ⟨rfl, rfl, (by decide : 2 + 0 ≤ _), (by decide : 5 + 0 ≤ _)⟩)
  dsimp only [Pt.U, Pt.locs, Pt.cells, Pt.slots] at X12 l12 y12 z12 st12 hQ12
  replace X12 := own_num (c' := 2) (n' := 5) X12 l12 (y12.trans rfl) (z12.trans rfl)
  obtain ⟨rfl, N12q, K12q, c12_0, c12_1, c12_2⟩ := hQ12
  have N12 := Fr.app N6 N12q
  have Z12 : n0 ≤ T12.heap.size := Nat.le_trans Z6 K12q.1
  have K12 : Keep h0 T12.heap [] := K6.trans K12q (allS (P := fun x => x ∈ [] ∨ h0.size ≤ x) (Or.inr z5) all0)
  refine own_tr st12 ?_
  show OwnGo p e below s _ _ _ (T12.setTop (mkF m 25 #[.val (.int k)] [(.ref b3)]))
  have f13 : Arv Z T12.heap r_6 kr_6 .byte (1 : Int32) [(.int (nar .byte (k.toInt8.toInt32)))] (.int (0 : Int32)) := c6_0.keep K12q (ninS (Ne.symm ne7) nin0)
  have f14 : Old Z n0 h3 := P0.ext E3
  have f15 : Old Z n0 T6.heap := f14.keep K6q all0
  have f16 : Old Z n0 T12.heap := f15.keep K12q (allS g4 all0)
  exact own_retA X12 hx hlk Bd.returns rfl rfl (hb hby d1_25) rfl ⟨b3, r_6, kr_6, rfl, N12, K12, c12_0, c12_2, c12_1, f13, g4, c6_1, z5, z8, f16⟩ (by decide) (by decide)
theorem ef_19 (m : MethodId) (rl : Addr) (ev : Addr) (es : List Addr) (jj : Int32)  : entryFrame m #[(.ref rl), (.ref ev), (.int (own_n es)), (.int jj)] 4 = mkF m 0 #[.val (.ref rl), .val (.ref ev), .val (.int (own_n es)), .val (.int jj)] [] := by first | (simp [entryFrame, mkF, argsToLocals, Value.category]; done) | rfl
def Q19 (Z : State) (rl : Addr) (ev : Addr) (es : List Addr) (jj : Int32) (ea : Addr) (cap : Nat) (ke : ClassId) (h0 : Heap) (n0 : Nat) (v_ : Option Value) (h_ : Heap) (L_ : List Loc) : Prop := v_ = some (.int (1 : Int32)) ∧ Fr n0 L_ ∧ h_ = h0
set_option maxRecDepth 65536 in
set_option maxHeartbeats 40000000 in
theorem rm19 (l : Launch) (Z : State) (a0 : Array Value) (hw : ∀ d ∈ tables_1, d.before a0 Z = true) (ws : List Jvm.Cond) (rl : Addr) (ev : Addr) (es : List Addr) (jj : Int32) (ea : Addr) (cap : Nat) (ke : ClassId) (h0 : Heap) (n0 : Nat) (Z0 : n0 ≤ h0.size) (P0 : Exa Z h0 rl "java/util/ArrayList") (P1 : Fld Z h0 rl "java/util/ArrayList" "elementData" "[Ljava/lang/Object;" (.ref ea)) (P2 : Fld Z h0 rl "java/util/ArrayList" "size" "I" (.int (own_n es))) (P3 : OwnA Z h0 ea cap es) (P4 : OwnE Z h0 es) (P5 : Arv Z h0 ev ke (.object "java/lang/String") (6 : Int32) (es.map Value.ref) .null) (P6 : ¬ jj < 0) (P7 : jj < (6 : Int32)) :
    MetFree l (⟨"com/example/fachwissen/fachwissen/mail/MessageAssociationTextsPinLaw", "at", "(Ljava/util/List;[Ljava/lang/String;II)Z"⟩ : MethodName) (head1 (Jvm.Cond.code (⟨"com/example/fachwissen/fachwissen/mail/MessageAssociationTextsPinLaw", "at", "(Ljava/util/List;[Ljava/lang/String;II)Z"⟩ : MethodName) method_2_code 4 (some .boolean) :: ws) ({ frames := 3, cells := 0, slots := 0, locals := 40 } : Room)) (fun A_ U => A_ = #[(.ref rl), (.ref ev), (.int (own_n es)), (.int jj)] ∧ Z.Warmed39 U.vm ∧ U.heap = h0) (fun _ _ _ _ _ => True) (fun _ U_ o_ U'_ => ∃ v_ L_, o_ = .returned v_ ∧ Q19 Z rl ev es jj ea cap ke h0 n0 v_ U'_.heap L_ ∧ FrameEnd U_ o_ U'_ L_ ({ frames := 3, cells := 0, slots := 0, locals := 40 } : Room).cells ({ frames := 3, cells := 0, slots := 0, locals := 40 } : Room).slots) := by
  refine MetFree.of_bodySF (plainFor_of_name pn_9) hisR ?_
  intro p e s m args below meth c s₁ Bd hml0 hP hK
  obtain ⟨rfl, hZ, hh⟩ := hP
  have hx := Bd.exec
  have hby := Bd.bytes
  have hml : c.maxLocals = 4 := hml0
  have hown : s.vm.findClass "com/example/fachwissen/fachwissen/mail/MessageAssociationTextsPinLaw" = some m.cls := findClass_of_methodNamed Bd.named
  have hnm := (name_of_methodNamed Bd.named Bd.method).1
  have hlk : meth.locks = false := Bd.notSynchronized
  have X0 : Stand p l e ({ frames := 3, cells := 0, slots := 0, locals := 40 } : Room) s m #[(.ref rl), (.ref ev), (.int (own_n es)), (.int jj)] below meth c s₁ [] 0 0 := Stand.of_body Bd
  have e0 : s₁.heap = h0 := by rw [← hh, Bd.state]; rfl
  have N0 := Fr.nil n0
  have K0 : Keep h0 h0 [] := Keep.refl _ _
  refine own_cast (ef_19 m rl ev es jj) ?_
  show OwnGo p e below s (Q19 Z rl ev es jj ea cap ke h0 n0) ({ frames := 3, cells := 0, slots := 0, locals := 40 } : Room).cells ({ frames := 3, cells := 0, slots := 0, locals := 40 } : Room).slots (s₁.setTop (mkF m 0 #[.val (.ref rl), .val (.ref ev), .val (.int (own_n es)), .val (.int jj)] []))
  refine own_on (fun t_ k_ => XS.iloadN X0.here hx rfl (hb hby d19_0) rfl k_) ?_
  show OwnGo p e below s _ _ _ (s₁.setTop (mkF m 1 #[.val (.ref rl), .val (.ref ev), .val (.int (own_n es)), .val (.int jj)] [(.int jj)]))
  refine own_on (fun t_ k_ => XS.iloadN X0.here hx rfl (hb hby d19_1) rfl k_) ?_
  show OwnGo p e below s _ _ _ (s₁.setTop (mkF m 2 #[.val (.ref rl), .val (.ref ev), .val (.int (own_n es)), .val (.int jj)] [(.int (own_n es)), (.int jj)]))
  by_cases q0 : jj < (own_n es)
  · refine own_on (fun t_ k_ => XS.icmpYes X0.here hx rfl (pc0 := 2) (pc' := 7) rfl (hb hby d19_2) rfl (tlt q0).1 (by decide) (by decide) k_) ?_
    show OwnGo p e below s _ _ _ (s₁.setTop (mkF m 7 #[.val (.ref rl), .val (.ref ev), .val (.int (own_n es)), .val (.int jj)] []))
    obtain ⟨xx1, xm1, xa1, xb1⟩ := own_at P3 P6 q0
    have f2 : Exa Z h0 xx1 "java/lang/String" := P4 _ xm1
    refine own_on (fun t_ k_ => XS.aloadN X0.here hx rfl (hb hby d19_7) rfl rfl k_) ?_
    show OwnGo p e below s _ _ _ (s₁.setTop (mkF m 8 #[.val (.ref rl), .val (.ref ev), .val (.int (own_n es)), .val (.int jj)] [(.ref rl)]))
    refine own_on (fun t_ k_ => XS.iloadN X0.here hx rfl (hb hby d19_8) rfl k_) ?_
    show OwnGo p e below s _ _ _ (s₁.setTop (mkF m 9 #[.val (.ref rl), .val (.ref ev), .val (.int (own_n es)), .val (.int jj)] [(.int jj), (.ref rl)]))
    obtain ⟨cq3, kq3, q3a, q3b, q3c⟩ := isOf hZ e0 P0
    obtain ⟨_, _, ⟨T3, L3, k3, n3⟩, -, X3, ⟨Lc3, hQ3, l3, y3, z3⟩, st3⟩ := X0.interfaceBack hx (xi := (⟨"java/util/List", "get", "(I)Ljava/lang/Object;"⟩ : MethodName)) (y := (⟨"java/util/ArrayList", "get", "(I)Ljava/lang/Object;"⟩ : MethodName)) hown (mvT hZ (w170 hw)) (mvT hZ (w171 hw)) (mvT hZ (w172 hw)) (mvT hZ (w173 hw)) (mvT hZ (w174 hw)) (mvT hZ (w175 hw)) (mvT hZ (w176 hw)) (mvT hZ (w129 hw)) (by decide) (backOf (W := 0) (rm25 l Z a0 hw [] rl jj ea cap es xx1 h0 n0 Z0 P0 P1 P2 P3 P6 q0 xa1 xb1) hZ (w177 hw) (w28 hw) (by decide) (by decide)) q3a q3b q3c (g := (mkF m 9 #[.val (.ref rl), .val (.ref ev), .val (.int (own_n es)), .val (.int jj)] [(.int jj), (.ref rl)])) rfl (by rw [hml]; rfl) (Steps.refl _) (argsL := [(.int jj)]) (rest := []) (lenOf pd_9 rfl) rfl (by show 2 * 0 + _ ≤ _; exact Nat.le_of_eq rfl) (hb hby d19_9) (fun _ hWx => ⟨rfl, e0, (by decide : 0 + 0 ≤ _), (by decide : 0 + 0 ≤ _)⟩)
    dsimp only [Pt.U, Pt.locs, Pt.cells, Pt.slots] at X3 l3 y3 z3 st3 hQ3
    replace X3 := own_num (c' := 0) (n' := 0) X3 l3 (y3.trans rfl) (z3.trans rfl)
    obtain ⟨rfl, N3q, e3⟩ := hQ3
    have N3 := Fr.app N0 N3q
    refine own_tr st3 ?_
    show OwnGo p e below s _ _ _ (T3.setTop (mkF m 14 #[.val (.ref rl), .val (.ref ev), .val (.int (own_n es)), .val (.int jj)] [(.ref xx1)]))
    obtain ⟨T4, X4, e4, st4⟩ := castY X3 hx hZ hown (w50 hw) e3 (Ins.self f2) (g := (mkF m 14 #[.val (.ref rl), .val (.ref ev), .val (.int (own_n es)), .val (.int jj)] [(.ref xx1)])) rfl rfl (hb hby d19_14)
    refine own_on st4 ?_
    show OwnGo p e below s _ _ _ (T4.setTop (mkF m 17 #[.val (.ref rl), .val (.ref ev), .val (.int (own_n es)), .val (.int jj)] [(.ref xx1)]))
    refine own_on (fun t_ k_ => XS.aloadN X4.here hx rfl (hb hby d19_17) rfl rfl k_) ?_
    show OwnGo p e below s _ _ _ (T4.setTop (mkF m 18 #[.val (.ref rl), .val (.ref ev), .val (.int (own_n es)), .val (.int jj)] [(.ref ev), (.ref xx1)]))
    refine own_on (fun t_ k_ => XS.iloadN X4.here hx rfl (hb hby d19_18) rfl k_) ?_
    show OwnGo p e below s _ _ _ (T4.setTop (mkF m 19 #[.val (.ref rl), .val (.ref ev), .val (.int (own_n es)), .val (.int jj)] [(.int jj), (.ref ev), (.ref xx1)]))
    obtain ⟨cl5, Ar5, q5, S5, M5, H5, G5⟩ := id P5
    have hin5 : ¬ (jj < 0 ∨ cl5.slots.size ≤ (jj).toNatClampNeg) := inb_of S5 ⟨P6, P7⟩
    have hat5 : cl5.slots[(jj).toNatClampNeg]? = some (.ref xx1) := Has.at H5 hin5 xa1
    refine own_on (X4.aaload hx (j := jj) (v := (.ref xx1)) (by rw [e4]; exact Ar5.1) (State.isArrayOf_alike hZ.alike Ar5.2.1) rfl Ar5.2.2 hin5 hat5 (g := (mkF m 19 #[.val (.ref rl), .val (.ref ev), .val (.int (own_n es)), .val (.int jj)] [(.int jj), (.ref ev), (.ref xx1)])) rfl rfl (hb hby d19_19)) ?_
    show OwnGo p e below s _ _ _ (T4.setTop (mkF m 20 #[.val (.ref rl), .val (.ref ev), .val (.int (own_n es)), .val (.int jj)] [(.ref xx1), (.ref xx1)]))
    obtain ⟨cq6, kq6, q6a, q6b, q6c⟩ := isOf hZ e4 f2
    obtain ⟨_, _, ⟨T6, L6, k6, n6⟩, -, X6, ⟨Lc6, hQ6, l6, y6, z6⟩, st6⟩ := X4.virtualBack hx (y := (⟨"java/lang/String", "equals", "(Ljava/lang/Object;)Z"⟩ : MethodName)) (z := (⟨"java/lang/String", "equals", "(Ljava/lang/Object;)Z"⟩ : MethodName)) hown (mvT hZ (w191 hw)) (mvT hZ (w192 hw)) (notFace_of_selects (args := #[]) (mvT hZ (w194 hw))) (mvT hZ (w194 hw)) (mvT hZ (w193 hw)) (by decide) (backOf (W := 0) (rm29 l Z a0 hw [] xx1 h0 n0 Z0 ) hZ (w195 hw) (w2 hw) (by decide) (by decide)) q6a q6c (g := (mkF m 20 #[.val (.ref rl), .val (.ref ev), .val (.int (own_n es)), .val (.int jj)] [(.ref xx1), (.ref xx1)])) rfl (by rw [hml]; rfl) (Steps.refl _) (argsL := [(.ref xx1)]) (rest := []) (lenOf pd_13 rfl) rfl (by show 2 * 0 + _ ≤ _; exact Nat.le_of_eq rfl) (hb hby d19_20) (fun _ hWx => ⟨rfl, e4, (by decide : 0 + 0 ≤ _), (by decide : 0 + 0 ≤ _)⟩)
    dsimp only [Pt.U, Pt.locs, Pt.cells, Pt.slots] at X6 l6 y6 z6 st6 hQ6
    replace X6 := own_num (c' := 0) (n' := 0) X6 l6 (y6.trans rfl) (z6.trans rfl)
    obtain ⟨rfl, N6q, e6⟩ := hQ6
    have N6 := Fr.app N3 N6q
    refine own_tr st6 ?_
    show OwnGo p e below s _ _ _ (T6.setTop (mkF m 23 #[.val (.ref rl), .val (.ref ev), .val (.int (own_n es)), .val (.int jj)] [(.int (1 : Int32))]))
    exact own_retN X6 hx hlk (t := .boolean) Bd.returns (by simp) (hb hby d19_23) e6 ⟨rfl, N6, rfl⟩ (by decide) (by decide)
  · refine own_on (fun t_ k_ => XS.icmpNo X0.here hx rfl (hb hby d19_2) rfl (flt q0).1 k_) ?_
    show OwnGo p e below s _ _ _ (s₁.setTop (mkF m 5 #[.val (.ref rl), .val (.ref ev), .val (.int (own_n es)), .val (.int jj)] []))
    refine own_on (fun t_ k_ => XS.iconst X0.here hx rfl (hb hby d19_5) k_) ?_
    show OwnGo p e below s _ _ _ (s₁.setTop (mkF m 6 #[.val (.ref rl), .val (.ref ev), .val (.int (own_n es)), .val (.int jj)] [(.int (1 : Int32))]))
    exact own_retN X0 hx hlk (t := .boolean) Bd.returns (by simp) (hb hby d19_6) e0 ⟨rfl, N0, rfl⟩ (by decide) (by decide)
theorem ef_10 (m : MethodId) (a : Addr)  : entryFrame m #[(.ref a)] 1 = mkF m 0 #[.val (.ref a)] [] := by first | (simp [entryFrame, mkF, argsToLocals, Value.category]; done) | rfl
def Q10 (Z : State) (a : Addr) (h0 : Heap) (n0 : Nat) (v_ : Option Value) (h_ : Heap) (L_ : List Loc) : Prop := v_ = none ∧ Fr n0 L_ ∧ h_ = h0
set_option maxRecDepth 65536 in
set_option maxHeartbeats 40000000 in
theorem rm10 (l : Launch) (Z : State) (a0 : Array Value) (hw : ∀ d ∈ tables_1, d.before a0 Z = true) (ws : List Jvm.Cond) (a : Addr) (h0 : Heap) (n0 : Nat) (Z0 : n0 ≤ h0.size)  :
    MetFree l (⟨"java/lang/Record", "<init>", "()V"⟩ : MethodName) (head1 (Jvm.Cond.code (⟨"java/lang/Record", "<init>", "()V"⟩ : MethodName) jdk_30_method_1_code 1 none :: ws) ({ frames := 1, cells := 0, slots := 0, locals := 12 } : Room)) (fun A_ U => A_ = #[(.ref a)] ∧ Z.Warmed39 U.vm ∧ U.heap = h0) (fun _ _ _ _ _ => True) (fun _ U_ o_ U'_ => ∃ v_ L_, o_ = .returned v_ ∧ Q10 Z a h0 n0 v_ U'_.heap L_ ∧ FrameEnd U_ o_ U'_ L_ ({ frames := 1, cells := 0, slots := 0, locals := 12 } : Room).cells ({ frames := 1, cells := 0, slots := 0, locals := 12 } : Room).slots) := by
  refine MetFree.of_bodySF (plainFor_of_name pn_10) hisR ?_
  intro p e s m args below meth c s₁ Bd hml0 hP hK
  obtain ⟨rfl, hZ, hh⟩ := hP
  have hx := Bd.exec
  have hby := Bd.bytes
  have hml : c.maxLocals = 1 := hml0
  have hown : s.vm.findClass "java/lang/Record" = some m.cls := findClass_of_methodNamed Bd.named
  have hnm := (name_of_methodNamed Bd.named Bd.method).1
  have hlk : meth.locks = false := Bd.notSynchronized
  have X0 : Stand p l e ({ frames := 1, cells := 0, slots := 0, locals := 12 } : Room) s m #[(.ref a)] below meth c s₁ [] 0 0 := Stand.of_body Bd
  have e0 : s₁.heap = h0 := by rw [← hh, Bd.state]; rfl
  have N0 := Fr.nil n0
  have K0 : Keep h0 h0 [] := Keep.refl _ _
  refine own_cast (ef_10 m a) ?_
  show OwnGo p e below s (Q10 Z a h0 n0) ({ frames := 1, cells := 0, slots := 0, locals := 12 } : Room).cells ({ frames := 1, cells := 0, slots := 0, locals := 12 } : Room).slots (s₁.setTop (mkF m 0 #[.val (.ref a)] []))
  refine own_on (fun t_ k_ => XS.aloadN X0.here hx rfl (hb hby d10_0) rfl rfl k_) ?_
  show OwnGo p e below s _ _ _ (s₁.setTop (mkF m 1 #[.val (.ref a)] [(.ref a)]))
  obtain ⟨T1, X1, e1, st1⟩ := initO X0 hx hZ hown (w63 hw) (w20 hw) (w21 hw) e0 (g := (mkF m 1 #[.val (.ref a)] [(.ref a)])) rfl (by rw [hml]; rfl) rfl (hb hby d10_1) (by decide) (W := 0) (by show 2 * 0 + _ ≤ _; exact Nat.le_of_eq rfl) (by decide)
  refine own_on st1 ?_
  show OwnGo p e below s _ _ _ (T1.setTop (mkF m 4 #[.val (.ref a)] []))
  exact own_retV X1 hx hlk Bd.returns (hb hby d10_4) e1 ⟨rfl, N0, rfl⟩ (by decide) (by decide)
theorem ef_9 (m : MethodId) (a : Addr) (oS : Addr) (oH : Addr) (oT : Addr)  : entryFrame m #[(.ref a), (.ref oS), (.ref oH), (.ref oT)] 4 = mkF m 0 #[.val (.ref a), .val (.ref oS), .val (.ref oH), .val (.ref oT)] [] := by first | (simp [entryFrame, mkF, argsToLocals, Value.category]; done) | rfl
def Q9 (Z : State) (a : Addr) (oS : Addr) (oH : Addr) (oT : Addr) (u : Value) (u' : Value) (u'' : Value) (h0 : Heap) (n0 : Nat) (v_ : Option Value) (h_ : Heap) (L_ : List Loc) : Prop := v_ = none ∧ Fr n0 L_ ∧ Keep h0 h_ [a] ∧ (Exa Z h_ a "com/example/fachwissen/fachwissen/mail/Message") ∧ (Fld Z h_ a "com/example/fachwissen/fachwissen/mail/Message" "subjects" "Ljava/util/List;" (.ref oS)) ∧ (Fld Z h_ a "com/example/fachwissen/fachwissen/mail/Message" "addressHeaders" "Ljava/util/List;" (.ref oH)) ∧ (Fld Z h_ a "com/example/fachwissen/fachwissen/mail/Message" "textParts" "Ljava/util/List;" (.ref oT))
set_option maxRecDepth 65536 in
set_option maxHeartbeats 40000000 in
theorem rm9 (l : Launch) (Z : State) (a0 : Array Value) (hw : ∀ d ∈ tables_1, d.before a0 Z = true) (ws : List Jvm.Cond) (a : Addr) (oS : Addr) (oH : Addr) (oT : Addr) (u : Value) (u' : Value) (u'' : Value) (h0 : Heap) (n0 : Nat) (Z0 : n0 ≤ h0.size) (P0 : Exa Z h0 a "com/example/fachwissen/fachwissen/mail/Message") (P1 : Fld Z h0 a "com/example/fachwissen/fachwissen/mail/Message" "subjects" "Ljava/util/List;" u) (P2 : Fld Z h0 a "com/example/fachwissen/fachwissen/mail/Message" "addressHeaders" "Ljava/util/List;" u') (P3 : Fld Z h0 a "com/example/fachwissen/fachwissen/mail/Message" "textParts" "Ljava/util/List;" u'') (P4 : n0 ≤ a) :
    MetFree l (⟨"com/example/fachwissen/fachwissen/mail/Message", "<init>", "(Ljava/util/List;Ljava/util/List;Ljava/util/List;)V"⟩ : MethodName) (head1 (Jvm.Cond.code (⟨"com/example/fachwissen/fachwissen/mail/Message", "<init>", "(Ljava/util/List;Ljava/util/List;Ljava/util/List;)V"⟩ : MethodName) prog_12_method_1_code 4 none :: ws) ({ frames := 2, cells := 0, slots := 0, locals := 24 } : Room)) (fun A_ U => A_ = #[(.ref a), (.ref oS), (.ref oH), (.ref oT)] ∧ Z.Warmed39 U.vm ∧ U.heap = h0) (fun _ _ _ _ _ => True) (fun _ U_ o_ U'_ => ∃ v_ L_, o_ = .returned v_ ∧ Q9 Z a oS oH oT u u' u'' h0 n0 v_ U'_.heap L_ ∧ FrameEnd U_ o_ U'_ L_ ({ frames := 2, cells := 0, slots := 0, locals := 24 } : Room).cells ({ frames := 2, cells := 0, slots := 0, locals := 24 } : Room).slots) := by
  refine MetFree.of_bodySF (plainFor_of_name pn_11) hisR ?_
  intro p e s m args below meth c s₁ Bd hml0 hP hK
  obtain ⟨rfl, hZ, hh⟩ := hP
  have hx := Bd.exec
  have hby := Bd.bytes
  have hml : c.maxLocals = 4 := hml0
  have hown : s.vm.findClass "com/example/fachwissen/fachwissen/mail/Message" = some m.cls := findClass_of_methodNamed Bd.named
  have hnm := (name_of_methodNamed Bd.named Bd.method).1
  have hlk : meth.locks = false := Bd.notSynchronized
  have X0 : Stand p l e ({ frames := 2, cells := 0, slots := 0, locals := 24 } : Room) s m #[(.ref a), (.ref oS), (.ref oH), (.ref oT)] below meth c s₁ [] 0 0 := Stand.of_body Bd
  have e0 : s₁.heap = h0 := by rw [← hh, Bd.state]; rfl
  have N0 := Fr.nil n0
  have K0 : Keep h0 h0 [a] := Keep.refl _ _
  refine own_cast (ef_9 m a oS oH oT) ?_
  show OwnGo p e below s (Q9 Z a oS oH oT u u' u'' h0 n0) ({ frames := 2, cells := 0, slots := 0, locals := 24 } : Room).cells ({ frames := 2, cells := 0, slots := 0, locals := 24 } : Room).slots (s₁.setTop (mkF m 0 #[.val (.ref a), .val (.ref oS), .val (.ref oH), .val (.ref oT)] []))
  refine own_on (fun t_ k_ => XS.aloadN X0.here hx rfl (hb hby d9_0) rfl rfl k_) ?_
  show OwnGo p e below s _ _ _ (s₁.setTop (mkF m 1 #[.val (.ref a), .val (.ref oS), .val (.ref oH), .val (.ref oT)] [(.ref a)]))
  obtain ⟨_, _, ⟨T1, L1, k1, n1⟩, -, X1, ⟨Lc1, hQ1, l1, y1, z1⟩, st1⟩ := X0.specialBack hx (y := (⟨"java/lang/Record", "<init>", "()V"⟩ : MethodName)) rfl hown (mvT hZ (w58 hw)) (mvT hZ (w59 hw)) (mvT hZ (w62 hw)) (by decide) (backOf (W := 0) (rm10 l Z a0 hw [] a h0 n0 Z0 ) hZ (w62 hw) (w61 hw) (by decide) (by decide)) (g := (mkF m 1 #[.val (.ref a), .val (.ref oS), .val (.ref oH), .val (.ref oT)] [(.ref a)])) rfl (by rw [hml]; rfl) (Steps.refl _) (a := a) (argsL := []) (rest := []) (lenOf pd_0 rfl) rfl (by show 2 * 0 + _ ≤ _; exact Nat.le_of_eq rfl) (hb hby d9_1) (fun _ hWx => ⟨rfl, e0, (by decide : 0 + 0 ≤ _), (by decide : 0 + 0 ≤ _)⟩)
  dsimp only [Pt.U, Pt.locs, Pt.cells, Pt.slots] at X1 l1 y1 z1 st1 hQ1
  replace X1 := own_num (c' := 0) (n' := 0) X1 l1 (y1.trans rfl) (z1.trans rfl)
  obtain ⟨rfl, N1q, e1⟩ := hQ1
  have N1 := Fr.app N0 N1q
  refine own_tr st1 ?_
  show OwnGo p e below s _ _ _ (T1.setTop (mkF m 4 #[.val (.ref a), .val (.ref oS), .val (.ref oH), .val (.ref oT)] []))
  refine own_on (fun t_ k_ => XS.aloadN X1.here hx rfl (hb hby d9_4) rfl rfl k_) ?_
  show OwnGo p e below s _ _ _ (T1.setTop (mkF m 5 #[.val (.ref a), .val (.ref oS), .val (.ref oH), .val (.ref oT)] [(.ref a)]))
  refine own_on (fun t_ k_ => XS.aloadN X1.here hx rfl (hb hby d9_5) rfl rfl k_) ?_
  show OwnGo p e below s _ _ _ (T1.setTop (mkF m 6 #[.val (.ref a), .val (.ref oS), .val (.ref oH), .val (.ref oT)] [(.ref oS), (.ref a)]))
  obtain ⟨T2, h2, X2, e2, W2, st2⟩ := putF X1 hx hZ hown (host := "") (Or.inl (w64 hw)) Via.refl e1 P1 P0 (Or.inr ⟨(w65 hw), rfl, hnm⟩) (w53 hw) (ty := (.object "java/util/List")) (by decide) rfl rfl (g := (mkF m 6 #[.val (.ref a), .val (.ref oS), .val (.ref oH), .val (.ref oT)] [(.ref oS), (.ref a)])) rfl rfl (hb hby d9_6)
  have F2 := P1.same W2
  have N2 := Fr.snoc X2 N1 P4
  have Z2 : n0 ≤ h2.size := Nat.le_trans Z0 (Keep.of_wr W2).1
  have K2 : Keep h0 h2 [a] := K0.wr W2 (Or.inl (List.mem_of_getElem? (i := 0) rfl))
  refine own_on st2 ?_
  show OwnGo p e below s _ _ _ (T2.setTop (mkF m 9 #[.val (.ref a), .val (.ref oS), .val (.ref oH), .val (.ref oT)] []))
  refine own_on (fun t_ k_ => XS.aloadN X2.here hx rfl (hb hby d9_9) rfl rfl k_) ?_
  show OwnGo p e below s _ _ _ (T2.setTop (mkF m 10 #[.val (.ref a), .val (.ref oS), .val (.ref oH), .val (.ref oT)] [(.ref a)]))
  refine own_on (fun t_ k_ => XS.aloadN X2.here hx rfl (hb hby d9_10) rfl rfl k_) ?_
  show OwnGo p e below s _ _ _ (T2.setTop (mkF m 11 #[.val (.ref a), .val (.ref oS), .val (.ref oH), .val (.ref oT)] [(.ref oH), (.ref a)]))
  have f3 : Fld Z h2 a "com/example/fachwissen/fachwissen/mail/Message" "addressHeaders" "Ljava/util/List;" u' := P2.other W2 (Or.inr (slot_ne (Or.inr (w67 hw)) (Or.inr (w65 hw)) (by decide) (t := (.object "java/util/List")) (t' := (.object "java/util/List")) (by decide) (by decide)))
  have f4 : Exa Z h2 a "com/example/fachwissen/fachwissen/mail/Message" := P0.wr W2
  obtain ⟨T5, h5, X5, e5, W5, st5⟩ := putF X2 hx hZ hown (host := "") (Or.inl (w66 hw)) Via.refl e2 f3 f4 (Or.inr ⟨(w67 hw), rfl, hnm⟩) (w53 hw) (ty := (.object "java/util/List")) (by decide) rfl rfl (g := (mkF m 11 #[.val (.ref a), .val (.ref oS), .val (.ref oH), .val (.ref oT)] [(.ref oH), (.ref a)])) rfl rfl (hb hby d9_11)
  have F5 := f3.same W5
  have N5 := Fr.snoc X5 N2 P4
  have Z5 : n0 ≤ h5.size := Nat.le_trans Z2 (Keep.of_wr W5).1
  have K5 : Keep h0 h5 [a] := K2.wr W5 (Or.inl (List.mem_of_getElem? (i := 0) rfl))
  refine own_on st5 ?_
  show OwnGo p e below s _ _ _ (T5.setTop (mkF m 14 #[.val (.ref a), .val (.ref oS), .val (.ref oH), .val (.ref oT)] []))
  refine own_on (fun t_ k_ => XS.aloadN X5.here hx rfl (hb hby d9_14) rfl rfl k_) ?_
  show OwnGo p e below s _ _ _ (T5.setTop (mkF m 15 #[.val (.ref a), .val (.ref oS), .val (.ref oH), .val (.ref oT)] [(.ref a)]))
  refine own_on (fun t_ k_ => XS.aloadN X5.here hx rfl (hb hby d9_15) rfl rfl k_) ?_
  show OwnGo p e below s _ _ _ (T5.setTop (mkF m 16 #[.val (.ref a), .val (.ref oS), .val (.ref oH), .val (.ref oT)] [(.ref oT), (.ref a)]))
  have f6 : Fld Z h2 a "com/example/fachwissen/fachwissen/mail/Message" "textParts" "Ljava/util/List;" u'' := P3.other W2 (Or.inr (slot_ne (Or.inr (w69 hw)) (Or.inr (w65 hw)) (by decide) (t := (.object "java/util/List")) (t' := (.object "java/util/List")) (by decide) (by decide)))
  have f7 : Fld Z h5 a "com/example/fachwissen/fachwissen/mail/Message" "textParts" "Ljava/util/List;" u'' := f6.other W5 (Or.inr (slot_ne (Or.inr (w69 hw)) (Or.inr (w67 hw)) (by decide) (t := (.object "java/util/List")) (t' := (.object "java/util/List")) (by decide) (by decide)))
  have f8 : Exa Z h5 a "com/example/fachwissen/fachwissen/mail/Message" := f4.wr W5
  obtain ⟨T9, h9, X9, e9, W9, st9⟩ := putF X5 hx hZ hown (host := "") (Or.inl (w68 hw)) Via.refl e5 f7 f8 (Or.inr ⟨(w69 hw), rfl, hnm⟩) (w53 hw) (ty := (.object "java/util/List")) (by decide) rfl rfl (g := (mkF m 16 #[.val (.ref a), .val (.ref oS), .val (.ref oH), .val (.ref oT)] [(.ref oT), (.ref a)])) rfl rfl (hb hby d9_16)
  have F9 := f7.same W9
  have N9 := Fr.snoc X9 N5 P4
  have Z9 : n0 ≤ h9.size := Nat.le_trans Z5 (Keep.of_wr W9).1
  have K9 : Keep h0 h9 [a] := K5.wr W9 (Or.inl (List.mem_of_getElem? (i := 0) rfl))
  refine own_on st9 ?_
  show OwnGo p e below s _ _ _ (T9.setTop (mkF m 19 #[.val (.ref a), .val (.ref oS), .val (.ref oH), .val (.ref oT)] []))
  have f10 : Exa Z h9 a "com/example/fachwissen/fachwissen/mail/Message" := f8.wr W9
  have f11 : Fld Z h5 a "com/example/fachwissen/fachwissen/mail/Message" "subjects" "Ljava/util/List;" (.ref oS) := F2.other W5 (Or.inr (slot_ne (Or.inr (w65 hw)) (Or.inr (w67 hw)) (by decide) (t := (.object "java/util/List")) (t' := (.object "java/util/List")) (by decide) (by decide)))
  have f12 : Fld Z h9 a "com/example/fachwissen/fachwissen/mail/Message" "subjects" "Ljava/util/List;" (.ref oS) := f11.other W9 (Or.inr (slot_ne (Or.inr (w65 hw)) (Or.inr (w69 hw)) (by decide) (t := (.object "java/util/List")) (t' := (.object "java/util/List")) (by decide) (by decide)))
  have f13 : Fld Z h9 a "com/example/fachwissen/fachwissen/mail/Message" "addressHeaders" "Ljava/util/List;" (.ref oH) := F5.other W9 (Or.inr (slot_ne (Or.inr (w67 hw)) (Or.inr (w69 hw)) (by decide) (t := (.object "java/util/List")) (t' := (.object "java/util/List")) (by decide) (by decide)))
  exact own_retV X9 hx hlk Bd.returns (hb hby d9_19) e9 ⟨rfl, N9, K9, f10, f12, f13, F9⟩ (by decide) (by decide)
theorem ef_11 (m : MethodId) (a : Addr)  : entryFrame m #[(.ref a)] 2 = mkF m 0 #[.val (.ref a), .unset] [] := by first | (simp [entryFrame, mkF, argsToLocals, Value.category]; done) | rfl
def Q11 (Z : State) (a : Addr) (oH : Addr) (eaH : Addr) (cpH : Nat) (lH : List Addr) (oS : Addr) (eaS : Addr) (cpS : Nat) (lS : List Addr) (oT : Addr) (eaT : Addr) (cpT : Nat) (lT : List Addr) (dc : Addr) (em : Addr) (mr : Addr) (ml : Addr) (h0 : Heap) (n0 : Nat) (v_ : Option Value) (h_ : Heap) (L_ : List Loc) : Prop := ∃ r : Addr, ∃ ea2 : Addr, ∃ cp2 : Nat, v_ = some (.ref r) ∧ Fr n0 L_ ∧ Keep h0 h_ [] ∧ (Exa Z h_ r "java/util/ArrayList") ∧ (Fld Z h_ r "java/util/ArrayList" "elementData" "[Ljava/lang/Object;" (.ref ea2)) ∧ (Fld Z h_ r "java/util/ArrayList" "size" "I" (.int (own_n ((lH ++ lS) ++ lT)))) ∧ (OwnA Z h_ ea2 cp2 ((lH ++ lS) ++ lT)) ∧ (OwnE Z h_ ((lH ++ lS) ++ lT)) ∧ (Old Z n0 h_)
set_option maxRecDepth 65536 in
set_option maxHeartbeats 40000000 in
theorem rm11 (l : Launch) (Z : State) (a0 : Array Value) (hw : ∀ d ∈ tables_1, d.before a0 Z = true) (ws : List Jvm.Cond) (a : Addr) (oH : Addr) (eaH : Addr) (cpH : Nat) (lH : List Addr) (oS : Addr) (eaS : Addr) (cpS : Nat) (lS : List Addr) (oT : Addr) (eaT : Addr) (cpT : Nat) (lT : List Addr) (dc : Addr) (em : Addr) (mr : Addr) (ml : Addr) (h0 : Heap) (n0 : Nat) (Z0 : n0 ≤ h0.size) (P0 : Fld Z h0 a "com/example/fachwissen/fachwissen/mail/Message" "subjects" "Ljava/util/List;" (.ref oS)) (P1 : Fld Z h0 a "com/example/fachwissen/fachwissen/mail/Message" "addressHeaders" "Ljava/util/List;" (.ref oH)) (P2 : Fld Z h0 a "com/example/fachwissen/fachwissen/mail/Message" "textParts" "Ljava/util/List;" (.ref oT)) (P3 : Exa Z h0 oH "java/util/ArrayList") (P4 : Fld Z h0 oH "java/util/ArrayList" "elementData" "[Ljava/lang/Object;" (.ref eaH)) (P5 : Fld Z h0 oH "java/util/ArrayList" "size" "I" (.int (own_n lH))) (P6 : OwnA Z h0 eaH cpH lH) (P7 : OwnE Z h0 lH) (P8 : Exa Z h0 oS "java/util/ArrayList") (P9 : Fld Z h0 oS "java/util/ArrayList" "elementData" "[Ljava/lang/Object;" (.ref eaS)) (P10 : Fld Z h0 oS "java/util/ArrayList" "size" "I" (.int (own_n lS))) (P11 : OwnA Z h0 eaS cpS lS) (P12 : OwnE Z h0 lS) (P13 : Exa Z h0 oT "java/util/ArrayList") (P14 : Fld Z h0 oT "java/util/ArrayList" "elementData" "[Ljava/lang/Object;" (.ref eaT)) (P15 : Fld Z h0 oT "java/util/ArrayList" "size" "I" (.int (own_n lT))) (P16 : OwnA Z h0 eaT cpT lT) (P17 : OwnE Z h0 lT) (P18 : Old Z n0 h0) (P19 : Sta Z Z.heap "java/util/ArrayList" "DEFAULTCAPACITY_EMPTY_ELEMENTDATA" "[Ljava/lang/Object;" (.ref dc)) (P20 : Sta Z Z.heap "java/util/ArrayList" "EMPTY_ELEMENTDATA" "[Ljava/lang/Object;" (.ref em)) (P21 : OwnA Z Z.heap em 0 own_nil) (P22 : OwnM Z "[Ljava/lang/Object;" mr) (P23 : OwnM Z "java/util/ArrayList" ml) (P24 : lH.length ≤ 2) (P25 : lS.length ≤ 2) (P26 : lT.length ≤ 2) :
    MetFree l (⟨"com/example/fachwissen/fachwissen/mail/Message", "associationTexts", "()Ljava/util/List;"⟩ : MethodName) (head1 (Jvm.Cond.code (⟨"com/example/fachwissen/fachwissen/mail/Message", "associationTexts", "()Ljava/util/List;"⟩ : MethodName) prog_12_method_2_code 2 (some (.object "java/util/List")) :: ws) ({ frames := 5, cells := 6, slots := 53, locals := 79 } : Room)) (fun A_ U => A_ = #[(.ref a)] ∧ Z.Warmed39 U.vm ∧ U.heap = h0) (fun _ _ _ _ _ => True) (fun _ U_ o_ U'_ => ∃ v_ L_, o_ = .returned v_ ∧ Q11 Z a oH eaH cpH lH oS eaS cpS lS oT eaT cpT lT dc em mr ml h0 n0 v_ U'_.heap L_ ∧ FrameEnd U_ o_ U'_ L_ ({ frames := 5, cells := 6, slots := 53, locals := 79 } : Room).cells ({ frames := 5, cells := 6, slots := 53, locals := 79 } : Room).slots) := by
  refine MetFree.of_bodySF (plainFor_of_name pn_11) hisR ?_
  intro p e s m args below meth c s₁ Bd hml0 hP hK
  obtain ⟨rfl, hZ, hh⟩ := hP
  have hx := Bd.exec
  have hby := Bd.bytes
  have hml : c.maxLocals = 2 := hml0
  have hown : s.vm.findClass "com/example/fachwissen/fachwissen/mail/Message" = some m.cls := findClass_of_methodNamed Bd.named
  have hnm := (name_of_methodNamed Bd.named Bd.method).1
  have hlk : meth.locks = false := Bd.notSynchronized
  have X0 : Stand p l e ({ frames := 5, cells := 6, slots := 53, locals := 79 } : Room) s m #[(.ref a)] below meth c s₁ [] 0 0 := Stand.of_body Bd
  have e0 : s₁.heap = h0 := by rw [← hh, Bd.state]; rfl
  have N0 := Fr.nil n0
  have K0 : Keep h0 h0 [] := Keep.refl _ _
  refine own_cast (ef_11 m a) ?_
  show OwnGo p e below s (Q11 Z a oH eaH cpH lH oS eaS cpS lS oT eaT cpT lT dc em mr ml h0 n0) ({ frames := 5, cells := 6, slots := 53, locals := 79 } : Room).cells ({ frames := 5, cells := 6, slots := 53, locals := 79 } : Room).slots (s₁.setTop (mkF m 0 #[.val (.ref a), .unset] []))
  obtain ⟨T1, h1, X1, e1, E1, A1, D1, u1, st1⟩ := newO X0 hx hZ hown (w75 hw) (w27 hw) (w28 hw) e0 (g := (mkF m 0 #[.val (.ref a), .unset] [])) rfl (hb hby d11_0) (by decide) (by decide)
  obtain ⟨b1, g1⟩ : ∃ z, z = h0.size := ⟨_, rfl⟩
  rw [← g1] at A1 D1 st1
  have ne2' : a < b1 := Nat.lt_of_lt_of_le P0.lt (Nat.le_of_eq g1.symm)
  have ne2 : a ≠ b1 := Nat.ne_of_lt ne2'
  have ne3' : oH < b1 := Nat.lt_of_lt_of_le P3.lt (Nat.le_of_eq g1.symm)
  have ne3 : oH ≠ b1 := Nat.ne_of_lt ne3'
  have ne4' : eaH < b1 := Nat.lt_of_lt_of_le P6.lt (Nat.le_of_eq g1.symm)
  have ne4 : eaH ≠ b1 := Nat.ne_of_lt ne4'
  have ne5' : oS < b1 := Nat.lt_of_lt_of_le P8.lt (Nat.le_of_eq g1.symm)
  have ne5 : oS ≠ b1 := Nat.ne_of_lt ne5'
  have ne6' : eaS < b1 := Nat.lt_of_lt_of_le P11.lt (Nat.le_of_eq g1.symm)
  have ne6 : eaS ≠ b1 := Nat.ne_of_lt ne6'
  have ne7' : oT < b1 := Nat.lt_of_lt_of_le P13.lt (Nat.le_of_eq g1.symm)
  have ne7 : oT ≠ b1 := Nat.ne_of_lt ne7'
  have ne8' : eaT < b1 := Nat.lt_of_lt_of_le P16.lt (Nat.le_of_eq g1.symm)
  have ne8 : eaT ≠ b1 := Nat.ne_of_lt ne8'
  have g9 : n0 ≤ b1 := Nat.le_trans Z0 (Nat.le_of_eq g1.symm)
  have z10 : h0.size ≤ b1 := Nat.le_trans K0.1 (Nat.le_of_eq g1.symm)
  have Z1 : n0 ≤ h1.size := Nat.le_trans Z0 E1.1
  have K1 : Keep h0 h1 [] := K0.ext E1
  have F1_modCount : Fld Z h1 b1 "java/util/AbstractList" "modCount" "I" (.int (0 : Int32)) := D1 (Or.inl (w46 hw)) (ty := .int) (by decide)
  have F1_elementData : Fld Z h1 b1 "java/util/ArrayList" "elementData" "[Ljava/lang/Object;" .null := D1 (Or.inl (w49 hw)) (ty := (.array (.object "java/lang/Object"))) (by decide)
  have F1_size : Fld Z h1 b1 "java/util/ArrayList" "size" "I" (.int (0 : Int32)) := D1 (Or.inl (w89 hw)) (ty := .int) (by decide)
  refine own_on st1 ?_
  show OwnGo p e below s _ _ _ (T1.setTop (mkF m 3 #[.val (.ref a), .unset] [(.ref b1)]))
  refine own_on (fun t_ k_ => XS.dup X1.here hx rfl (hb hby d11_3) rfl rfl k_) ?_
  show OwnGo p e below s _ _ _ (T1.setTop (mkF m 4 #[.val (.ref a), .unset] [(.ref b1), (.ref b1)]))
  refine own_on (fun t_ k_ => XS.aloadN X1.here hx rfl (hb hby d11_4) rfl rfl k_) ?_
  show OwnGo p e below s _ _ _ (T1.setTop (mkF m 5 #[.val (.ref a), .unset] [(.ref a), (.ref b1), (.ref b1)]))
  have f11 : Fld Z h1 a "com/example/fachwissen/fachwissen/mail/Message" "addressHeaders" "Ljava/util/List;" (.ref oH) := P1.ext E1
  obtain ⟨T12, X12, e12, st12⟩ := getF X1 hx hZ hown (host := "") (Or.inl (w66 hw)) Via.refl e1 f11 (g := (mkF m 5 #[.val (.ref a), .unset] [(.ref a), (.ref b1), (.ref b1)])) rfl rfl (hb hby d11_5)
  refine own_on st12 ?_
  show OwnGo p e below s _ _ _ (T12.setTop (mkF m 8 #[.val (.ref a), .unset] [(.ref oH), (.ref b1), (.ref b1)]))
  have f13 : Old Z n0 h1 := P18.ext E1
  have f14 : Exa Z h1 oH "java/util/ArrayList" := P3.ext E1
  have f15 : Fld Z h1 oH "java/util/ArrayList" "elementData" "[Ljava/lang/Object;" (.ref eaH) := P4.ext E1
  have f16 : Fld Z h1 oH "java/util/ArrayList" "size" "I" (.int (own_n lH)) := P5.ext E1
  have f17 : OwnA Z h1 eaH cpH lH := P6.ext E1
  have f18 : OwnE Z h1 lH := P7.ext E1
  obtain ⟨_, _, ⟨T19, L19, k19, n19⟩, -, X19, ⟨Lc19, hQ19, l19, y19, z19⟩, st19⟩ := X12.specialBack hx (y := (⟨"java/util/ArrayList", "<init>", "(Ljava/util/Collection;)V"⟩ : MethodName)) rfl hown (mvT hZ (w76 hw)) (mvT hZ (w77 hw)) (mvT hZ (w78 hw)) (by decide) (backOf (W := 1) (rm12 l Z a0 hw [] b1 oH .null (.int (0 : Int32)) (.int (0 : Int32)) eaH cpH lH em mr ml h1 n0 Z1 A1 F1_elementData F1_size F1_modCount g9 f13 f14 f15 f16 f17 f18 P20 P21 P22 P23 ne3) hZ (w78 hw) (w28 hw) (by decide) (by decide)) (g := (mkF m 8 #[.val (.ref a), .unset] [(.ref oH), (.ref b1), (.ref b1)])) rfl (by rw [hml]; rfl) (Steps.refl _) (a := b1) (argsL := [(.ref oH)]) (rest := [(.ref b1)]) (lenOf pd_14 rfl) rfl (by show 2 * 0 + _ ≤ _; exact Nat.le_of_eq rfl) (hb hby d11_8) (fun _ hWx => ⟨rfl, e12, (by decide : 1 + 1 ≤ _), (by decide : 3 + 10 ≤ _)⟩)
  have f20 : Fld Z h1 a "com/example/fachwissen/fachwissen/mail/Message" "subjects" "Ljava/util/List;" (.ref oS) := P0.ext E1
  have f21 : Exa Z h1 oS "java/util/ArrayList" := P8.ext E1
  have f22 : OwnA Z h1 eaS cpS lS := P11.ext E1
  have f23 : Exa Z h1 oT "java/util/ArrayList" := P13.ext E1
  have f24 : OwnA Z h1 eaT cpT lT := P16.ext E1
  dsimp only [Pt.U, Pt.locs, Pt.cells, Pt.slots] at X19 l19 y19 z19 st19 hQ19
  replace X19 := own_num (c' := 2) (n' := 13) X19 l19 (y19.trans rfl) (z19.trans rfl)
  obtain ⟨ea2_19, cp2_19, wa2_19, rfl, N19q, K19q, c19_0, c19_1, c19_2, c19_3, c19_4, c19_5, c19_6, c19_7, c19_8, c19_9⟩ := hQ19
  have N19 := Fr.app N0 N19q
  have Z19 : n0 ≤ T19.heap.size := Nat.le_trans Z1 K19q.1
  have K19 : Keep h0 T19.heap [] := K1.trans K19q (allS (P := fun x => x ∈ [] ∨ h0.size ≤ x) (Or.inr z10) all0)
  have ne25 : a ≠ wa2_19 := Nat.ne_of_lt (Nat.lt_of_lt_of_le f20.lt c19_7)
  have ne26 : oH ≠ wa2_19 := Nat.ne_of_lt (Nat.lt_of_lt_of_le f14.lt c19_7)
  have ne27 : eaH ≠ wa2_19 := Nat.ne_of_lt (Nat.lt_of_lt_of_le f17.lt c19_7)
  have ne28 : oS ≠ wa2_19 := Nat.ne_of_lt (Nat.lt_of_lt_of_le f21.lt c19_7)
  have ne29 : eaS ≠ wa2_19 := Nat.ne_of_lt (Nat.lt_of_lt_of_le f22.lt c19_7)
  have ne30 : oT ≠ wa2_19 := Nat.ne_of_lt (Nat.lt_of_lt_of_le f23.lt c19_7)
  have ne31 : eaT ≠ wa2_19 := Nat.ne_of_lt (Nat.lt_of_lt_of_le f24.lt c19_7)
  have ne32 : b1 ≠ wa2_19 := Nat.ne_of_lt (Nat.lt_of_lt_of_le A1.lt c19_7)
  have z33 : h0.size ≤ wa2_19 := Nat.le_trans K1.1 c19_7
  refine own_tr st19 ?_
  show OwnGo p e below s _ _ _ (T19.setTop (mkF m 11 #[.val (.ref a), .unset] [(.ref b1)]))
  refine own_on (fun t_ k_ => XS.astoreN X19.here hx rfl (hb hby d11_11) rfl rfl (l' := #[.val (.ref a), .val (.ref b1)]) rfl k_) ?_
  show OwnGo p e below s _ _ _ (T19.setTop (mkF m 12 #[.val (.ref a), .val (.ref b1)] []))
  refine own_on (fun t_ k_ => XS.aloadN X19.here hx rfl (hb hby d11_12) rfl rfl k_) ?_
  show OwnGo p e below s _ _ _ (T19.setTop (mkF m 13 #[.val (.ref a), .val (.ref b1)] [(.ref b1)]))
  refine own_on (fun t_ k_ => XS.aloadN X19.here hx rfl (hb hby d11_13) rfl rfl k_) ?_
  show OwnGo p e below s _ _ _ (T19.setTop (mkF m 14 #[.val (.ref a), .val (.ref b1)] [(.ref a), (.ref b1)]))
  have f34 : Fld Z T19.heap a "com/example/fachwissen/fachwissen/mail/Message" "subjects" "Ljava/util/List;" (.ref oS) := f20.keep K19q (ninS ne2 nin0)
  obtain ⟨T35, X35, e35, st35⟩ := getF X19 hx hZ hown (host := "") (Or.inl (w64 hw)) Via.refl rfl f34 (g := (mkF m 14 #[.val (.ref a), .val (.ref b1)] [(.ref a), (.ref b1)])) rfl rfl (hb hby d11_14)
  refine own_on st35 ?_
  show OwnGo p e below s _ _ _ (T35.setTop (mkF m 17 #[.val (.ref a), .val (.ref b1)] [(.ref oS), (.ref b1)]))
  have f36 : h0.size ≤ T19.heap.size := K19.1
  have f37 : Exa Z T19.heap oS "java/util/ArrayList" := f21.keep K19q
  have f38 : Fld Z h1 oS "java/util/ArrayList" "elementData" "[Ljava/lang/Object;" (.ref eaS) := P9.ext E1
  have f39 : Fld Z T19.heap oS "java/util/ArrayList" "elementData" "[Ljava/lang/Object;" (.ref eaS) := f38.keep K19q (ninS ne5 nin0)
  have f40 : Fld Z h1 oS "java/util/ArrayList" "size" "I" (.int (own_n lS)) := P10.ext E1
  have f41 : Fld Z T19.heap oS "java/util/ArrayList" "size" "I" (.int (own_n lS)) := f40.keep K19q (ninS ne5 nin0)
  have f42 : OwnA Z T19.heap eaS cpS lS := f22.keep K19q (ninS ne6 nin0)
  have f43 : OwnE Z h1 lS := P12.ext E1
  have f44 : OwnE Z T19.heap lS := f43.keep K19q 
  obtain ⟨cq45, kq45, q45a, q45b, q45c⟩ := isOf hZ e35 c19_0
  obtain ⟨_, _, ⟨T45, L45, k45, n45⟩, -, X45, ⟨Lc45, hQ45, l45, y45, z45⟩, st45⟩ := X35.virtualBack hx (y := (⟨"java/util/ArrayList", "addAll", "(Ljava/util/Collection;)Z"⟩ : MethodName)) (z := (⟨"java/util/ArrayList", "addAll", "(Ljava/util/Collection;)Z"⟩ : MethodName)) hown (mvT hZ (w115 hw)) (mvT hZ (w116 hw)) (notFace_of_selects (args := #[]) (mvT hZ (w118 hw))) (mvT hZ (w118 hw)) (mvT hZ (w117 hw)) (by decide) (backOf (W := 0) (rm17 l Z a0 hw [] b1 oS ea2_19 cp2_19 lH (0 : Int32) wa2_19 h0.size dc mr eaS cpS lS T19.heap n0 Z19 c19_0 c19_1 c19_2 c19_3 c19_4 c19_9 c19_5 c19_6 z33 f36 c19_8 P19 P22 g9 f37 f39 f41 f42 f44 (by (first | omega | exact Nat.le_of_ble_eq_true rfl | (simp only [List.length_append]; omega)) : lH.length + lS.length ≤ 6)) hZ (w119 hw) (w28 hw) (by decide) (by decide)) q45a q45c (g := (mkF m 17 #[.val (.ref a), .val (.ref b1)] [(.ref oS), (.ref b1)])) rfl (by rw [hml]; rfl) (Steps.refl _) (argsL := [(.ref oS)]) (rest := []) (lenOf pd_15 rfl) rfl (by show 2 * 0 + _ ≤ _; exact Nat.le_of_eq rfl) (hb hby d11_17) (fun _ hWx => ⟨rfl, e35, (by decide : 2 + 2 ≤ _), (by decide : 13 + 20 ≤ _)⟩)
  dsimp only [Pt.U, Pt.locs, Pt.cells, Pt.slots] at X45 l45 y45 z45 st45 hQ45
  replace X45 := own_num (c' := 4) (n' := 33) X45 l45 (y45.trans rfl) (z45.trans rfl)
  obtain ⟨ea2_45, cp2_45, wa2_45, rr_45, rfl, N45q, K45q, c45_0, c45_1, c45_2, c45_3, c45_4, c45_5, c45_6, c45_7, c45_8, c45_9⟩ := hQ45
  have N45 := Fr.app N19 N45q
  have Z45 : n0 ≤ T45.heap.size := Nat.le_trans Z19 K45q.1
  have K45 : Keep h0 T45.heap [] := K19.trans K45q (allS (P := fun x => x ∈ [] ∨ h0.size ≤ x) (Or.inr z10) (allS (P := fun x => x ∈ [] ∨ h0.size ≤ x) (Or.inr z33) all0))
  refine own_tr st45 ?_
  show OwnGo p e below s _ _ _ (T45.setTop (mkF m 20 #[.val (.ref a), .val (.ref b1)] [(.int rr_45)]))
  refine own_on (fun t_ k_ => XS.pop X45.here hx rfl (hb hby d11_20) rfl rfl k_) ?_
  show OwnGo p e below s _ _ _ (T45.setTop (mkF m 21 #[.val (.ref a), .val (.ref b1)] []))
  refine own_on (fun t_ k_ => XS.aloadN X45.here hx rfl (hb hby d11_21) rfl rfl k_) ?_
  show OwnGo p e below s _ _ _ (T45.setTop (mkF m 22 #[.val (.ref a), .val (.ref b1)] [(.ref b1)]))
  refine own_on (fun t_ k_ => XS.aloadN X45.here hx rfl (hb hby d11_22) rfl rfl k_) ?_
  show OwnGo p e below s _ _ _ (T45.setTop (mkF m 23 #[.val (.ref a), .val (.ref b1)] [(.ref a), (.ref b1)]))
  have f46 : Fld Z h1 a "com/example/fachwissen/fachwissen/mail/Message" "textParts" "Ljava/util/List;" (.ref oT) := P2.ext E1
  have f47 : Fld Z T19.heap a "com/example/fachwissen/fachwissen/mail/Message" "textParts" "Ljava/util/List;" (.ref oT) := f46.keep K19q (ninS ne2 nin0)
  have f48 : Fld Z T45.heap a "com/example/fachwissen/fachwissen/mail/Message" "textParts" "Ljava/util/List;" (.ref oT) := f47.keep K45q (ninS ne2 (ninS ne25 nin0))
  obtain ⟨T49, X49, e49, st49⟩ := getF X45 hx hZ hown (host := "") (Or.inl (w68 hw)) Via.refl rfl f48 (g := (mkF m 23 #[.val (.ref a), .val (.ref b1)] [(.ref a), (.ref b1)])) rfl rfl (hb hby d11_23)
  refine own_on st49 ?_
  show OwnGo p e below s _ _ _ (T49.setTop (mkF m 26 #[.val (.ref a), .val (.ref b1)] [(.ref oT), (.ref b1)]))
  have f50 : h0.size ≤ T45.heap.size := K45.1
  have f51 : Exa Z T19.heap oT "java/util/ArrayList" := f23.keep K19q
  have f52 : Exa Z T45.heap oT "java/util/ArrayList" := f51.keep K45q
  have f53 : Fld Z h1 oT "java/util/ArrayList" "elementData" "[Ljava/lang/Object;" (.ref eaT) := P14.ext E1
  have f54 : Fld Z T19.heap oT "java/util/ArrayList" "elementData" "[Ljava/lang/Object;" (.ref eaT) := f53.keep K19q (ninS ne7 nin0)
  have f55 : Fld Z T45.heap oT "java/util/ArrayList" "elementData" "[Ljava/lang/Object;" (.ref eaT) := f54.keep K45q (ninS ne7 (ninS ne30 nin0))
  have f56 : Fld Z h1 oT "java/util/ArrayList" "size" "I" (.int (own_n lT)) := P15.ext E1
  have f57 : Fld Z T19.heap oT "java/util/ArrayList" "size" "I" (.int (own_n lT)) := f56.keep K19q (ninS ne7 nin0)
  have f58 : Fld Z T45.heap oT "java/util/ArrayList" "size" "I" (.int (own_n lT)) := f57.keep K45q (ninS ne7 (ninS ne30 nin0))
  have f59 : OwnA Z T19.heap eaT cpT lT := f24.keep K19q (ninS ne8 nin0)
  have f60 : OwnA Z T45.heap eaT cpT lT := f59.keep K45q (ninS ne8 (ninS ne31 nin0))
  have f61 : OwnE Z h1 lT := P17.ext E1
  have f62 : OwnE Z T19.heap lT := f61.keep K19q 
  have f63 : OwnE Z T45.heap lT := f62.keep K45q 
  obtain ⟨cq64, kq64, q64a, q64b, q64c⟩ := isOf hZ e49 c45_0
  obtain ⟨_, _, ⟨T64, L64, k64, n64⟩, -, X64, ⟨Lc64, hQ64, l64, y64, z64⟩, st64⟩ := X49.virtualBack hx (y := (⟨"java/util/ArrayList", "addAll", "(Ljava/util/Collection;)Z"⟩ : MethodName)) (z := (⟨"java/util/ArrayList", "addAll", "(Ljava/util/Collection;)Z"⟩ : MethodName)) hown (mvT hZ (w115 hw)) (mvT hZ (w116 hw)) (notFace_of_selects (args := #[]) (mvT hZ (w118 hw))) (mvT hZ (w118 hw)) (mvT hZ (w117 hw)) (by decide) (backOf (W := 0) (rm17 l Z a0 hw [] b1 oT ea2_45 cp2_45 (lH ++ lS) ((0 : Int32) + (1 : Int32)) wa2_45 h0.size dc mr eaT cpT lT T45.heap n0 Z45 c45_0 c45_1 c45_2 c45_3 c45_4 c45_9 c45_5 c45_6 c45_7 f50 c45_8 P19 P22 g9 f52 f55 f58 f60 f63 (by (first | omega | exact Nat.le_of_ble_eq_true rfl | (simp only [List.length_append]; omega)) : (lH ++ lS).length + lT.length ≤ 6)) hZ (w119 hw) (w28 hw) (by decide) (by decide)) q64a q64c (g := (mkF m 26 #[.val (.ref a), .val (.ref b1)] [(.ref oT), (.ref b1)])) rfl (by rw [hml]; rfl) (Steps.refl _) (argsL := [(.ref oT)]) (rest := []) (lenOf pd_15 rfl) rfl (by show 2 * 0 + _ ≤ _; exact Nat.le_of_eq rfl) (hb hby d11_26) (fun _ hWx => ⟨rfl, e49, (by decide : 4 + 2 ≤ _), (by decide : 33 + 20 ≤ _)⟩)
  dsimp only [Pt.U, Pt.locs, Pt.cells, Pt.slots] at X64 l64 y64 z64 st64 hQ64
  replace X64 := own_num (c' := 6) (n' := 53) X64 l64 (y64.trans rfl) (z64.trans rfl)
  obtain ⟨ea2_64, cp2_64, wa2_64, rr_64, rfl, N64q, K64q, c64_0, c64_1, c64_2, c64_3, c64_4, c64_5, c64_6, c64_7, c64_8, c64_9⟩ := hQ64
  have N64 := Fr.app N45 N64q
  have Z64 : n0 ≤ T64.heap.size := Nat.le_trans Z45 K64q.1
  have K64 : Keep h0 T64.heap [] := K45.trans K64q (allS (P := fun x => x ∈ [] ∨ h0.size ≤ x) (Or.inr z10) (allS (P := fun x => x ∈ [] ∨ h0.size ≤ x) (Or.inr c45_7) all0))
  refine own_tr st64 ?_
  show OwnGo p e below s _ _ _ (T64.setTop (mkF m 29 #[.val (.ref a), .val (.ref b1)] [(.int rr_64)]))
  refine own_on (fun t_ k_ => XS.pop X64.here hx rfl (hb hby d11_29) rfl rfl k_) ?_
  show OwnGo p e below s _ _ _ (T64.setTop (mkF m 30 #[.val (.ref a), .val (.ref b1)] []))
  refine own_on (fun t_ k_ => XS.aloadN X64.here hx rfl (hb hby d11_30) rfl rfl k_) ?_
  show OwnGo p e below s _ _ _ (T64.setTop (mkF m 31 #[.val (.ref a), .val (.ref b1)] [(.ref b1)]))
  exact own_retA X64 hx hlk Bd.returns rfl rfl (hb hby d11_31) rfl ⟨b1, ea2_64, cp2_64, rfl, N64, K64, c64_0, c64_1, c64_2, c64_4, c64_9, c64_8⟩ (by decide) (by decide)
theorem ef_0 (m : MethodId) (xa : Int32) (xb : Int32) (xc : Int32)  : entryFrame m #[(.int xa), (.int xb), (.int xc)] maxLocals = mkF m 0 #[.val (.int xa), .val (.int xb), .val (.int xc), .unset, .unset, .unset, .unset, .unset, .unset, .unset, .unset, .unset, .unset, .unset, .unset, .unset, .unset, .unset, .unset] [] := by first | (simp [entryFrame, mkF, argsToLocals, Value.category, maxLocals]; done) | rfl
def Q0 (Z : State) (xa : Int32) (xb : Int32) (xc : Int32) (cs : Int32) (dc : Addr) (em : Addr) (mr : Addr) (ml : Addr) (h0 : Heap) (n0 : Nat) (v_ : Option Value) (h_ : Heap) (L_ : List Loc) : Prop := v_ = some (.int (1 : Int32)) ∧ Fr n0 L_ ∧ Keep h0 h_ []
set_option maxRecDepth 65536 in
set_option maxHeartbeats 40000000 in
theorem rm0 (l : Launch) (Z : State) (a0 : Array Value) (hw : ∀ d ∈ tables_1, d.before a0 Z = true) (ws : List Jvm.Cond) (xa : Int32) (xb : Int32) (xc : Int32) (cs : Int32) (dc : Addr) (em : Addr) (mr : Addr) (ml : Addr) (h0 : Heap) (n0 : Nat) (Z0 : n0 ≤ h0.size) (P0 : Old Z n0 h0) (P1 : Sta Z Z.heap "java/lang/String" "COMPACT_STRINGS" "Z" (.int cs)) (P2 : ¬ (cs = (0 : Int32))) (P3 : Sta Z Z.heap "java/util/ArrayList" "DEFAULTCAPACITY_EMPTY_ELEMENTDATA" "[Ljava/lang/Object;" (.ref dc)) (P4 : OwnA Z Z.heap dc 0 own_nil) (P5 : Sta Z Z.heap "java/util/ArrayList" "EMPTY_ELEMENTDATA" "[Ljava/lang/Object;" (.ref em)) (P6 : OwnA Z Z.heap em 0 own_nil) (P7 : OwnM Z "[Ljava/lang/Object;" mr) (P8 : OwnM Z "java/util/ArrayList" ml) :
    MetFree l x (head1 (Jvm.Cond.code x code maxLocals ret :: ws) room_1) (fun A_ U => A_ = #[(.int xa), (.int xb), (.int xc)] ∧ Z.Warmed39 U.vm ∧ U.heap = h0) (fun _ _ _ _ _ => True) (fun _ U_ o_ U'_ => ∃ v_ L_, o_ = .returned v_ ∧ Q0 Z xa xb xc cs dc em mr ml h0 n0 v_ U'_.heap L_ ∧ FrameEnd U_ o_ U'_ L_ room_1.cells room_1.slots) := by
  refine MetFree.of_bodySF (plainFor_of_name pn_9) hisR ?_
  intro p e s m args below meth c s₁ Bd hml0 hP hK
  obtain ⟨rfl, hZ, hh⟩ := hP
  have hx := Bd.exec
  have hby := Bd.bytes
  have hml : c.maxLocals = 19 := hml0
  have hown : s.vm.findClass "com/example/fachwissen/fachwissen/mail/MessageAssociationTextsPinLaw" = some m.cls := findClass_of_methodNamed Bd.named
  have hnm := (name_of_methodNamed Bd.named Bd.method).1
  have hlk : meth.locks = false := Bd.notSynchronized
  have X0 : Stand p l e room_1 s m #[(.int xa), (.int xb), (.int xc)] below meth c s₁ [] 0 0 := Stand.of_body Bd
  have e0 : s₁.heap = h0 := by rw [← hh, Bd.state]; rfl
  have N0 := Fr.nil n0
  have K0 : Keep h0 h0 [] := Keep.refl _ _
  refine own_cast (ef_0 m xa xb xc) ?_
  show OwnGo p e below s (Q0 Z xa xb xc cs dc em mr ml h0 n0) room_1.cells room_1.slots (s₁.setTop (mkF m 0 #[.val (.int xa), .val (.int xb), .val (.int xc), .unset, .unset, .unset, .unset, .unset, .unset, .unset, .unset, .unset, .unset, .unset, .unset, .unset, .unset, .unset, .unset] []))
  have J321 : ∀ (Tq : State) (hq : Heap) (lq : List Loc) (Xq : Stand p l e room_1 s m #[(.int xa), (.int xb), (.int xc)] below meth c Tq lq 26 130) (eq : Tq.heap = hq) (Nq : Fr n0 lq) (Zq : n0 ≤ hq.size) (Kq : Keep h0 hq []) (vH : Int32) (vS : Int32) (vT : Int32) (wA : Addr) (wB : Addr) (wC : Addr) (wD : Addr) (wE : Addr) (wF : Addr) (oH : Addr) (eaH : Addr) (cpH : Nat) (lH : List Addr) (oS : Addr) (eaS : Addr) (cpS : Nat) (lS : List Addr) (oT : Addr) (eaT : Addr) (cpT : Nat) (lT : List Addr) (ev : Addr) (ke : ClassId) (fq0 : Exa Z hq oH "java/util/ArrayList") (fq1 : Fld Z hq oH "java/util/ArrayList" "elementData" "[Ljava/lang/Object;" (.ref eaH)) (fq2 : Fld Z hq oH "java/util/ArrayList" "size" "I" (.int (own_n lH))) (fq3 : OwnA Z hq eaH cpH lH) (fq4 : OwnE Z hq lH) (fq5 : Exa Z hq oS "java/util/ArrayList") (fq6 : Fld Z hq oS "java/util/ArrayList" "elementData" "[Ljava/lang/Object;" (.ref eaS)) (fq7 : Fld Z hq oS "java/util/ArrayList" "size" "I" (.int (own_n lS))) (fq8 : OwnA Z hq eaS cpS lS) (fq9 : OwnE Z hq lS) (fq10 : Exa Z hq oT "java/util/ArrayList") (fq11 : Fld Z hq oT "java/util/ArrayList" "elementData" "[Ljava/lang/Object;" (.ref eaT)) (fq12 : Fld Z hq oT "java/util/ArrayList" "size" "I" (.int (own_n lT))) (fq13 : OwnA Z hq eaT cpT lT) (fq14 : OwnE Z hq lT) (fq15 : Old Z n0 hq) (fq16 : own_case vH lH wA wB) (fq17 : own_case vS lS wC wD) (fq18 : own_case vT lT wE wF) (fq19 : Arv Z hq ev ke (.object "java/lang/String") (6 : Int32) (((lH ++ lS) ++ lT).map Value.ref) .null), OwnGo p e below s (Q0 Z xa xb xc cs dc em mr ml h0 n0) room_1.cells room_1.slots (Tq.setTop (mkF m 321 #[.val (.int xa), .val (.int xb), .val (.int xc), .val (.int vH), .val (.int vS), .val (.int vT), .val (.ref wA), .val (.ref wB), .val (.ref wC), .val (.ref wD), .val (.ref wE), .val (.ref wF), .val (.ref oH), .val (.ref oS), .val (.ref oT), .val (.ref ev), .val (.int (own_n ((lH ++ lS) ++ lT))), .unset, .unset] [])) := by
    intro Tq hq lq Xq eq Nq Zq Kq vH vS vT wA wB wC wD wE wF oH eaH cpH lH oS eaS cpS lS oT eaT cpT lT ev ke fq0 fq1 fq2 fq3 fq4 fq5 fq6 fq7 fq8 fq9 fq10 fq11 fq12 fq13 fq14 fq15 fq16 fq17 fq18 fq19
    have hnH := fq16.len
    obtain rfl := fq16.val
    have hnS := fq17.len
    obtain rfl := fq17.val
    have hnT := fq18.len
    obtain rfl := fq18.val
    show OwnGo p e below s _ _ _ (Tq.setTop (mkF m 321 #[.val (.int xa), .val (.int xb), .val (.int xc), .val (.int (own_n lH)), .val (.int (own_n lS)), .val (.int (own_n lT)), .val (.ref wA), .val (.ref wB), .val (.ref wC), .val (.ref wD), .val (.ref wE), .val (.ref wF), .val (.ref oH), .val (.ref oS), .val (.ref oT), .val (.ref ev), .val (.int (own_n ((lH ++ lS) ++ lT))), .unset, .unset] []))
    obtain ⟨T1, h1, X1, e1, E1, A1, D1, u1, st1⟩ := newO Xq hx hZ hown (w52 hw) (w53 hw) (w54 hw) eq (g := (mkF m 321 #[.val (.int xa), .val (.int xb), .val (.int xc), .val (.int (own_n lH)), .val (.int (own_n lS)), .val (.int (own_n lT)), .val (.ref wA), .val (.ref wB), .val (.ref wC), .val (.ref wD), .val (.ref wE), .val (.ref wF), .val (.ref oH), .val (.ref oS), .val (.ref oT), .val (.ref ev), .val (.int (own_n ((lH ++ lS) ++ lT))), .unset, .unset] [])) rfl (hb hby at_321) (by decide) (by decide)
    obtain ⟨b1, g1⟩ : ∃ z, z = hq.size := ⟨_, rfl⟩
    rw [← g1] at A1 D1 st1
    have ne2' : oH < b1 := Nat.lt_of_lt_of_le fq0.lt (Nat.le_of_eq g1.symm)
    have ne2 : oH ≠ b1 := Nat.ne_of_lt ne2'
    have ne3' : eaH < b1 := Nat.lt_of_lt_of_le fq3.lt (Nat.le_of_eq g1.symm)
    have ne3 : eaH ≠ b1 := Nat.ne_of_lt ne3'
    have ne4' : oS < b1 := Nat.lt_of_lt_of_le fq5.lt (Nat.le_of_eq g1.symm)
    have ne4 : oS ≠ b1 := Nat.ne_of_lt ne4'
    have ne5' : eaS < b1 := Nat.lt_of_lt_of_le fq8.lt (Nat.le_of_eq g1.symm)
    have ne5 : eaS ≠ b1 := Nat.ne_of_lt ne5'
    have ne6' : oT < b1 := Nat.lt_of_lt_of_le fq10.lt (Nat.le_of_eq g1.symm)
    have ne6 : oT ≠ b1 := Nat.ne_of_lt ne6'
    have ne7' : eaT < b1 := Nat.lt_of_lt_of_le fq13.lt (Nat.le_of_eq g1.symm)
    have ne7 : eaT ≠ b1 := Nat.ne_of_lt ne7'
    have ne8' : ev < b1 := Nat.lt_of_lt_of_le fq19.lt (Nat.le_of_eq g1.symm)
    have ne8 : ev ≠ b1 := Nat.ne_of_lt ne8'
    have g9 : n0 ≤ b1 := Nat.le_trans Zq (Nat.le_of_eq g1.symm)
    have z10 : h0.size ≤ b1 := Nat.le_trans Kq.1 (Nat.le_of_eq g1.symm)
    have Z1 : n0 ≤ h1.size := Nat.le_trans Zq E1.1
    have K1 : Keep h0 h1 [] := Kq.ext E1
    have F1_subjects : Fld Z h1 b1 "com/example/fachwissen/fachwissen/mail/Message" "subjects" "Ljava/util/List;" .null := D1 (Or.inr (w65 hw)) (ty := (.object "java/util/List")) (by decide)
    have F1_addressHeaders : Fld Z h1 b1 "com/example/fachwissen/fachwissen/mail/Message" "addressHeaders" "Ljava/util/List;" .null := D1 (Or.inr (w67 hw)) (ty := (.object "java/util/List")) (by decide)
    have F1_textParts : Fld Z h1 b1 "com/example/fachwissen/fachwissen/mail/Message" "textParts" "Ljava/util/List;" .null := D1 (Or.inr (w69 hw)) (ty := (.object "java/util/List")) (by decide)
    refine own_on st1 ?_
    show OwnGo p e below s _ _ _ (T1.setTop (mkF m 324 #[.val (.int xa), .val (.int xb), .val (.int xc), .val (.int (own_n lH)), .val (.int (own_n lS)), .val (.int (own_n lT)), .val (.ref wA), .val (.ref wB), .val (.ref wC), .val (.ref wD), .val (.ref wE), .val (.ref wF), .val (.ref oH), .val (.ref oS), .val (.ref oT), .val (.ref ev), .val (.int (own_n ((lH ++ lS) ++ lT))), .unset, .unset] [(.ref b1)]))
    refine own_on (fun t_ k_ => XS.dup X1.here hx rfl (hb hby at_324) rfl rfl k_) ?_
    show OwnGo p e below s _ _ _ (T1.setTop (mkF m 325 #[.val (.int xa), .val (.int xb), .val (.int xc), .val (.int (own_n lH)), .val (.int (own_n lS)), .val (.int (own_n lT)), .val (.ref wA), .val (.ref wB), .val (.ref wC), .val (.ref wD), .val (.ref wE), .val (.ref wF), .val (.ref oH), .val (.ref oS), .val (.ref oT), .val (.ref ev), .val (.int (own_n ((lH ++ lS) ++ lT))), .unset, .unset] [(.ref b1), (.ref b1)]))
    refine own_on (fun t_ k_ => XS.aload X1.here hx rfl (hb hby at_325) rfl rfl k_) ?_
    show OwnGo p e below s _ _ _ (T1.setTop (mkF m 327 #[.val (.int xa), .val (.int xb), .val (.int xc), .val (.int (own_n lH)), .val (.int (own_n lS)), .val (.int (own_n lT)), .val (.ref wA), .val (.ref wB), .val (.ref wC), .val (.ref wD), .val (.ref wE), .val (.ref wF), .val (.ref oH), .val (.ref oS), .val (.ref oT), .val (.ref ev), .val (.int (own_n ((lH ++ lS) ++ lT))), .unset, .unset] [(.ref oS), (.ref b1), (.ref b1)]))
    refine own_on (fun t_ k_ => XS.aload X1.here hx rfl (hb hby at_327) rfl rfl k_) ?_
    show OwnGo p e below s _ _ _ (T1.setTop (mkF m 329 #[.val (.int xa), .val (.int xb), .val (.int xc), .val (.int (own_n lH)), .val (.int (own_n lS)), .val (.int (own_n lT)), .val (.ref wA), .val (.ref wB), .val (.ref wC), .val (.ref wD), .val (.ref wE), .val (.ref wF), .val (.ref oH), .val (.ref oS), .val (.ref oT), .val (.ref ev), .val (.int (own_n ((lH ++ lS) ++ lT))), .unset, .unset] [(.ref oH), (.ref oS), (.ref b1), (.ref b1)]))
    refine own_on (fun t_ k_ => XS.aload X1.here hx rfl (hb hby at_329) rfl rfl k_) ?_
    show OwnGo p e below s _ _ _ (T1.setTop (mkF m 331 #[.val (.int xa), .val (.int xb), .val (.int xc), .val (.int (own_n lH)), .val (.int (own_n lS)), .val (.int (own_n lT)), .val (.ref wA), .val (.ref wB), .val (.ref wC), .val (.ref wD), .val (.ref wE), .val (.ref wF), .val (.ref oH), .val (.ref oS), .val (.ref oT), .val (.ref ev), .val (.int (own_n ((lH ++ lS) ++ lT))), .unset, .unset] [(.ref oT), (.ref oH), (.ref oS), (.ref b1), (.ref b1)]))
    obtain ⟨_, _, ⟨T11, L11, k11, n11⟩, -, X11, ⟨Lc11, hQ11, l11, y11, z11⟩, st11⟩ := X1.specialBack hx (y := (⟨"com/example/fachwissen/fachwissen/mail/Message", "<init>", "(Ljava/util/List;Ljava/util/List;Ljava/util/List;)V"⟩ : MethodName)) rfl hown (mvT hZ (w55 hw)) (mvT hZ (w56 hw)) (mvT hZ (w57 hw)) (by decide) (backOf (W := 1) (rm9 l Z a0 hw [] b1 oS oH oT .null .null .null h1 n0 Z1 A1 F1_subjects F1_addressHeaders F1_textParts g9) hZ (w57 hw) (w54 hw) (by decide) (by decide)) (g := (mkF m 331 #[.val (.int xa), .val (.int xb), .val (.int xc), .val (.int (own_n lH)), .val (.int (own_n lS)), .val (.int (own_n lT)), .val (.ref wA), .val (.ref wB), .val (.ref wC), .val (.ref wD), .val (.ref wE), .val (.ref wF), .val (.ref oH), .val (.ref oS), .val (.ref oT), .val (.ref ev), .val (.int (own_n ((lH ++ lS) ++ lT))), .unset, .unset] [(.ref oT), (.ref oH), (.ref oS), (.ref b1), (.ref b1)])) rfl (by rw [hml]; rfl) (Steps.refl _) (a := b1) (argsL := [(.ref oS), (.ref oH), (.ref oT)]) (rest := [(.ref b1)]) (lenOf pd_16 rfl) rfl (by show 2 * 0 + _ ≤ _; exact Nat.le_of_eq rfl) (hb hby at_331) (fun _ hWx => ⟨rfl, e1, (by decide : 27 + 0 ≤ _), (by decide : 133 + 0 ≤ _)⟩)
    dsimp only [Pt.U, Pt.locs, Pt.cells, Pt.slots] at X11 l11 y11 z11 st11 hQ11
    replace X11 := own_num (c' := 27) (n' := 133) X11 l11 (y11.trans rfl) (z11.trans rfl)
    obtain ⟨rfl, N11q, K11q, c11_0, c11_1, c11_2, c11_3⟩ := hQ11
    have N11 := Fr.app Nq N11q
    have Z11 : n0 ≤ T11.heap.size := Nat.le_trans Z1 K11q.1
    have K11 : Keep h0 T11.heap [] := K1.trans K11q (allS (P := fun x => x ∈ [] ∨ h0.size ≤ x) (Or.inr z10) all0)
    refine own_tr st11 ?_
    show OwnGo p e below s _ _ _ (T11.setTop (mkF m 334 #[.val (.int xa), .val (.int xb), .val (.int xc), .val (.int (own_n lH)), .val (.int (own_n lS)), .val (.int (own_n lT)), .val (.ref wA), .val (.ref wB), .val (.ref wC), .val (.ref wD), .val (.ref wE), .val (.ref wF), .val (.ref oH), .val (.ref oS), .val (.ref oT), .val (.ref ev), .val (.int (own_n ((lH ++ lS) ++ lT))), .unset, .unset] [(.ref b1)]))
    refine own_on (fun t_ k_ => XS.astore X11.here hx rfl (hb hby at_334) rfl rfl (l' := #[.val (.int xa), .val (.int xb), .val (.int xc), .val (.int (own_n lH)), .val (.int (own_n lS)), .val (.int (own_n lT)), .val (.ref wA), .val (.ref wB), .val (.ref wC), .val (.ref wD), .val (.ref wE), .val (.ref wF), .val (.ref oH), .val (.ref oS), .val (.ref oT), .val (.ref ev), .val (.int (own_n ((lH ++ lS) ++ lT))), .val (.ref b1), .unset]) rfl k_) ?_
    show OwnGo p e below s _ _ _ (T11.setTop (mkF m 336 #[.val (.int xa), .val (.int xb), .val (.int xc), .val (.int (own_n lH)), .val (.int (own_n lS)), .val (.int (own_n lT)), .val (.ref wA), .val (.ref wB), .val (.ref wC), .val (.ref wD), .val (.ref wE), .val (.ref wF), .val (.ref oH), .val (.ref oS), .val (.ref oT), .val (.ref ev), .val (.int (own_n ((lH ++ lS) ++ lT))), .val (.ref b1), .unset] []))
    refine own_on (fun t_ k_ => XS.aload X11.here hx rfl (hb hby at_336) rfl rfl k_) ?_
    show OwnGo p e below s _ _ _ (T11.setTop (mkF m 338 #[.val (.int xa), .val (.int xb), .val (.int xc), .val (.int (own_n lH)), .val (.int (own_n lS)), .val (.int (own_n lT)), .val (.ref wA), .val (.ref wB), .val (.ref wC), .val (.ref wD), .val (.ref wE), .val (.ref wF), .val (.ref oH), .val (.ref oS), .val (.ref oT), .val (.ref ev), .val (.int (own_n ((lH ++ lS) ++ lT))), .val (.ref b1), .unset] [(.ref b1)]))
    have f12 : Exa Z h1 oH "java/util/ArrayList" := fq0.ext E1
    have f13 : Exa Z T11.heap oH "java/util/ArrayList" := f12.keep K11q
    have f14 : Fld Z h1 oH "java/util/ArrayList" "elementData" "[Ljava/lang/Object;" (.ref eaH) := fq1.ext E1
    have f15 : Fld Z T11.heap oH "java/util/ArrayList" "elementData" "[Ljava/lang/Object;" (.ref eaH) := f14.keep K11q (ninS ne2 nin0)
    have f16 : Fld Z h1 oH "java/util/ArrayList" "size" "I" (.int (own_n lH)) := fq2.ext E1
    have f17 : Fld Z T11.heap oH "java/util/ArrayList" "size" "I" (.int (own_n lH)) := f16.keep K11q (ninS ne2 nin0)
    have f18 : OwnA Z h1 eaH cpH lH := fq3.ext E1
    have f19 : OwnA Z T11.heap eaH cpH lH := f18.keep K11q (ninS ne3 nin0)
    have f20 : OwnE Z h1 lH := fq4.ext E1
    have f21 : OwnE Z T11.heap lH := f20.keep K11q 
    have f22 : Exa Z h1 oS "java/util/ArrayList" := fq5.ext E1
    have f23 : Exa Z T11.heap oS "java/util/ArrayList" := f22.keep K11q
    have f24 : Fld Z h1 oS "java/util/ArrayList" "elementData" "[Ljava/lang/Object;" (.ref eaS) := fq6.ext E1
    have f25 : Fld Z T11.heap oS "java/util/ArrayList" "elementData" "[Ljava/lang/Object;" (.ref eaS) := f24.keep K11q (ninS ne4 nin0)
    have f26 : Fld Z h1 oS "java/util/ArrayList" "size" "I" (.int (own_n lS)) := fq7.ext E1
    have f27 : Fld Z T11.heap oS "java/util/ArrayList" "size" "I" (.int (own_n lS)) := f26.keep K11q (ninS ne4 nin0)
    have f28 : OwnA Z h1 eaS cpS lS := fq8.ext E1
    have f29 : OwnA Z T11.heap eaS cpS lS := f28.keep K11q (ninS ne5 nin0)
    have f30 : OwnE Z h1 lS := fq9.ext E1
    have f31 : OwnE Z T11.heap lS := f30.keep K11q 
    have f32 : Exa Z h1 oT "java/util/ArrayList" := fq10.ext E1
    have f33 : Exa Z T11.heap oT "java/util/ArrayList" := f32.keep K11q
    have f34 : Fld Z h1 oT "java/util/ArrayList" "elementData" "[Ljava/lang/Object;" (.ref eaT) := fq11.ext E1
    have f35 : Fld Z T11.heap oT "java/util/ArrayList" "elementData" "[Ljava/lang/Object;" (.ref eaT) := f34.keep K11q (ninS ne6 nin0)
    have f36 : Fld Z h1 oT "java/util/ArrayList" "size" "I" (.int (own_n lT)) := fq12.ext E1
    have f37 : Fld Z T11.heap oT "java/util/ArrayList" "size" "I" (.int (own_n lT)) := f36.keep K11q (ninS ne6 nin0)
    have f38 : OwnA Z h1 eaT cpT lT := fq13.ext E1
    have f39 : OwnA Z T11.heap eaT cpT lT := f38.keep K11q (ninS ne7 nin0)
    have f40 : OwnE Z h1 lT := fq14.ext E1
    have f41 : OwnE Z T11.heap lT := f40.keep K11q 
    have f42 : Old Z n0 h1 := fq15.ext E1
    have f43 : Old Z n0 T11.heap := f42.keep K11q (allS g9 all0)
    obtain ⟨cq44, kq44, q44a, q44b, q44c⟩ := isOf hZ rfl c11_0
    obtain ⟨_, _, ⟨T44, L44, k44, n44⟩, -, X44, ⟨Lc44, hQ44, l44, y44, z44⟩, st44⟩ := X11.virtualBack hx (y := (⟨"com/example/fachwissen/fachwissen/mail/Message", "associationTexts", "()Ljava/util/List;"⟩ : MethodName)) (z := (⟨"com/example/fachwissen/fachwissen/mail/Message", "associationTexts", "()Ljava/util/List;"⟩ : MethodName)) hown (mvT hZ (w70 hw)) (mvT hZ (w71 hw)) (notFace_of_selects (args := #[]) (mvT hZ (w73 hw))) (mvT hZ (w73 hw)) (mvT hZ (w72 hw)) (by decide) (backOf (W := 0) (rm11 l Z a0 hw [] b1 oH eaH cpH lH oS eaS cpS lS oT eaT cpT lT dc em mr ml T11.heap n0 Z11 c11_1 c11_2 c11_3 f13 f15 f17 f19 f21 f23 f25 f27 f29 f31 f33 f35 f37 f39 f41 f43 P3 P5 P6 P7 P8 hnH hnS hnT) hZ (w74 hw) (w54 hw) (by decide) (by decide)) q44a q44c (g := (mkF m 338 #[.val (.int xa), .val (.int xb), .val (.int xc), .val (.int (own_n lH)), .val (.int (own_n lS)), .val (.int (own_n lT)), .val (.ref wA), .val (.ref wB), .val (.ref wC), .val (.ref wD), .val (.ref wE), .val (.ref wF), .val (.ref oH), .val (.ref oS), .val (.ref oT), .val (.ref ev), .val (.int (own_n ((lH ++ lS) ++ lT))), .val (.ref b1), .unset] [(.ref b1)])) rfl (by rw [hml]; rfl) (Steps.refl _) (argsL := []) (rest := []) (lenOf pd_17 rfl) rfl (by show 2 * 0 + _ ≤ _; exact Nat.le_of_eq rfl) (hb hby at_338) (fun _ hWx => ⟨rfl, rfl, (by decide : 27 + 6 ≤ _), (by decide : 133 + 53 ≤ _)⟩)
    dsimp only [Pt.U, Pt.locs, Pt.cells, Pt.slots] at X44 l44 y44 z44 st44 hQ44
    replace X44 := own_num (c' := 33) (n' := 186) X44 l44 (y44.trans rfl) (z44.trans rfl)
    obtain ⟨r_44, ea2_44, cp2_44, rfl, N44q, K44q, c44_0, c44_1, c44_2, c44_3, c44_4, c44_5⟩ := hQ44
    have N44 := Fr.app N11 N44q
    have Z44 : n0 ≤ T44.heap.size := Nat.le_trans Z11 K44q.1
    have K44 : Keep h0 T44.heap [] := K11.trans K44q all0
    refine own_tr st44 ?_
    show OwnGo p e below s _ _ _ (T44.setTop (mkF m 341 #[.val (.int xa), .val (.int xb), .val (.int xc), .val (.int (own_n lH)), .val (.int (own_n lS)), .val (.int (own_n lT)), .val (.ref wA), .val (.ref wB), .val (.ref wC), .val (.ref wD), .val (.ref wE), .val (.ref wF), .val (.ref oH), .val (.ref oS), .val (.ref oT), .val (.ref ev), .val (.int (own_n ((lH ++ lS) ++ lT))), .val (.ref b1), .unset] [(.ref r_44)]))
    refine own_on (fun t_ k_ => XS.astore X44.here hx rfl (hb hby at_341) rfl rfl (l' := #[.val (.int xa), .val (.int xb), .val (.int xc), .val (.int (own_n lH)), .val (.int (own_n lS)), .val (.int (own_n lT)), .val (.ref wA), .val (.ref wB), .val (.ref wC), .val (.ref wD), .val (.ref wE), .val (.ref wF), .val (.ref oH), .val (.ref oS), .val (.ref oT), .val (.ref ev), .val (.int (own_n ((lH ++ lS) ++ lT))), .val (.ref b1), .val (.ref r_44)]) rfl k_) ?_
    show OwnGo p e below s _ _ _ (T44.setTop (mkF m 343 #[.val (.int xa), .val (.int xb), .val (.int xc), .val (.int (own_n lH)), .val (.int (own_n lS)), .val (.int (own_n lT)), .val (.ref wA), .val (.ref wB), .val (.ref wC), .val (.ref wD), .val (.ref wE), .val (.ref wF), .val (.ref oH), .val (.ref oS), .val (.ref oT), .val (.ref ev), .val (.int (own_n ((lH ++ lS) ++ lT))), .val (.ref b1), .val (.ref r_44)] []))
    refine own_on (fun t_ k_ => XS.aload X44.here hx rfl (hb hby at_343) rfl rfl k_) ?_
    show OwnGo p e below s _ _ _ (T44.setTop (mkF m 345 #[.val (.int xa), .val (.int xb), .val (.int xc), .val (.int (own_n lH)), .val (.int (own_n lS)), .val (.int (own_n lT)), .val (.ref wA), .val (.ref wB), .val (.ref wC), .val (.ref wD), .val (.ref wE), .val (.ref wF), .val (.ref oH), .val (.ref oS), .val (.ref oT), .val (.ref ev), .val (.int (own_n ((lH ++ lS) ++ lT))), .val (.ref b1), .val (.ref r_44)] [(.ref r_44)]))
    obtain ⟨cq45, kq45, q45a, q45b, q45c⟩ := isOf hZ rfl c44_0
    obtain ⟨_, _, ⟨T45, L45, k45, n45⟩, -, X45, ⟨Lc45, hQ45, l45, y45, z45⟩, st45⟩ := X44.interfaceBack hx (xi := (⟨"java/util/List", "size", "()I"⟩ : MethodName)) (y := (⟨"java/util/ArrayList", "size", "()I"⟩ : MethodName)) hown (mvT hZ (w122 hw)) (mvT hZ (w123 hw)) (mvT hZ (w124 hw)) (mvT hZ (w125 hw)) (mvT hZ (w126 hw)) (mvT hZ (w127 hw)) (mvT hZ (w128 hw)) (mvT hZ (w129 hw)) (by decide) (backOf (W := 0) (rm18 l Z a0 hw [] r_44 ((lH ++ lS) ++ lT) T44.heap n0 Z44 c44_2) hZ (w130 hw) (w28 hw) (by decide) (by decide)) q45a q45b q45c (g := (mkF m 345 #[.val (.int xa), .val (.int xb), .val (.int xc), .val (.int (own_n lH)), .val (.int (own_n lS)), .val (.int (own_n lT)), .val (.ref wA), .val (.ref wB), .val (.ref wC), .val (.ref wD), .val (.ref wE), .val (.ref wF), .val (.ref oH), .val (.ref oS), .val (.ref oT), .val (.ref ev), .val (.int (own_n ((lH ++ lS) ++ lT))), .val (.ref b1), .val (.ref r_44)] [(.ref r_44)])) rfl (by rw [hml]; rfl) (Steps.refl _) (argsL := []) (rest := []) (lenOf pd_18 rfl) rfl (by show 2 * 0 + _ ≤ _; exact Nat.le_of_eq rfl) (hb hby at_345) (fun _ hWx => ⟨rfl, rfl, (by decide : 33 + 0 ≤ _), (by decide : 186 + 0 ≤ _)⟩)
    dsimp only [Pt.U, Pt.locs, Pt.cells, Pt.slots] at X45 l45 y45 z45 st45 hQ45
    replace X45 := own_num (c' := 33) (n' := 186) X45 l45 (y45.trans rfl) (z45.trans rfl)
    obtain ⟨rfl, N45q, e45⟩ := hQ45
    have N45 := Fr.app N44 N45q
    refine own_tr st45 ?_
    show OwnGo p e below s _ _ _ (T45.setTop (mkF m 350 #[.val (.int xa), .val (.int xb), .val (.int xc), .val (.int (own_n lH)), .val (.int (own_n lS)), .val (.int (own_n lT)), .val (.ref wA), .val (.ref wB), .val (.ref wC), .val (.ref wD), .val (.ref wE), .val (.ref wF), .val (.ref oH), .val (.ref oS), .val (.ref oT), .val (.ref ev), .val (.int (own_n ((lH ++ lS) ++ lT))), .val (.ref b1), .val (.ref r_44)] [(.int (own_n ((lH ++ lS) ++ lT)))]))
    refine own_on (fun t_ k_ => XS.iload X45.here hx rfl (hb hby at_350) rfl k_) ?_
    show OwnGo p e below s _ _ _ (T45.setTop (mkF m 352 #[.val (.int xa), .val (.int xb), .val (.int xc), .val (.int (own_n lH)), .val (.int (own_n lS)), .val (.int (own_n lT)), .val (.ref wA), .val (.ref wB), .val (.ref wC), .val (.ref wD), .val (.ref wE), .val (.ref wF), .val (.ref oH), .val (.ref oS), .val (.ref oT), .val (.ref ev), .val (.int (own_n ((lH ++ lS) ++ lT))), .val (.ref b1), .val (.ref r_44)] [(.int (own_n ((lH ++ lS) ++ lT))), (.int (own_n ((lH ++ lS) ++ lT)))]))
    refine own_on (fun t_ k_ => XS.icmpYes X45.here hx rfl (pc0 := 352) (pc' := 357) rfl (hb hby at_352) rfl (teq rfl).1 (by decide) (by decide) k_) ?_
    show OwnGo p e below s _ _ _ (T45.setTop (mkF m 357 #[.val (.int xa), .val (.int xb), .val (.int xc), .val (.int (own_n lH)), .val (.int (own_n lS)), .val (.int (own_n lT)), .val (.ref wA), .val (.ref wB), .val (.ref wC), .val (.ref wD), .val (.ref wE), .val (.ref wF), .val (.ref oH), .val (.ref oS), .val (.ref oT), .val (.ref ev), .val (.int (own_n ((lH ++ lS) ++ lT))), .val (.ref b1), .val (.ref r_44)] []))
    refine own_on (fun t_ k_ => XS.aload X45.here hx rfl (hb hby at_357) rfl rfl k_) ?_
    show OwnGo p e below s _ _ _ (T45.setTop (mkF m 359 #[.val (.int xa), .val (.int xb), .val (.int xc), .val (.int (own_n lH)), .val (.int (own_n lS)), .val (.int (own_n lT)), .val (.ref wA), .val (.ref wB), .val (.ref wC), .val (.ref wD), .val (.ref wE), .val (.ref wF), .val (.ref oH), .val (.ref oS), .val (.ref oT), .val (.ref ev), .val (.int (own_n ((lH ++ lS) ++ lT))), .val (.ref b1), .val (.ref r_44)] [(.ref r_44)]))
    refine own_on (fun t_ k_ => XS.aload X45.here hx rfl (hb hby at_359) rfl rfl k_) ?_
    show OwnGo p e below s _ _ _ (T45.setTop (mkF m 361 #[.val (.int xa), .val (.int xb), .val (.int xc), .val (.int (own_n lH)), .val (.int (own_n lS)), .val (.int (own_n lT)), .val (.ref wA), .val (.ref wB), .val (.ref wC), .val (.ref wD), .val (.ref wE), .val (.ref wF), .val (.ref oH), .val (.ref oS), .val (.ref oT), .val (.ref ev), .val (.int (own_n ((lH ++ lS) ++ lT))), .val (.ref b1), .val (.ref r_44)] [(.ref ev), (.ref r_44)]))
    refine own_on (fun t_ k_ => XS.iload X45.here hx rfl (hb hby at_361) rfl k_) ?_
    show OwnGo p e below s _ _ _ (T45.setTop (mkF m 363 #[.val (.int xa), .val (.int xb), .val (.int xc), .val (.int (own_n lH)), .val (.int (own_n lS)), .val (.int (own_n lT)), .val (.ref wA), .val (.ref wB), .val (.ref wC), .val (.ref wD), .val (.ref wE), .val (.ref wF), .val (.ref oH), .val (.ref oS), .val (.ref oT), .val (.ref ev), .val (.int (own_n ((lH ++ lS) ++ lT))), .val (.ref b1), .val (.ref r_44)] [(.int (own_n ((lH ++ lS) ++ lT))), (.ref ev), (.ref r_44)]))
    refine own_on (fun t_ k_ => XS.iconst X45.here hx rfl (hb hby at_363) k_) ?_
    show OwnGo p e below s _ _ _ (T45.setTop (mkF m 364 #[.val (.int xa), .val (.int xb), .val (.int xc), .val (.int (own_n lH)), .val (.int (own_n lS)), .val (.int (own_n lT)), .val (.ref wA), .val (.ref wB), .val (.ref wC), .val (.ref wD), .val (.ref wE), .val (.ref wF), .val (.ref oH), .val (.ref oS), .val (.ref oT), .val (.ref ev), .val (.int (own_n ((lH ++ lS) ++ lT))), .val (.ref b1), .val (.ref r_44)] [(.int (0 : Int32)), (.int (own_n ((lH ++ lS) ++ lT))), (.ref ev), (.ref r_44)]))
    have f46 : Arv Z h1 ev ke (.object "java/lang/String") (6 : Int32) (((lH ++ lS) ++ lT).map Value.ref) .null := fq19.ext E1
    have f47 : Arv Z T11.heap ev ke (.object "java/lang/String") (6 : Int32) (((lH ++ lS) ++ lT).map Value.ref) .null := f46.keep K11q (ninS ne8 nin0)
    have f48 : Arv Z T44.heap ev ke (.object "java/lang/String") (6 : Int32) (((lH ++ lS) ++ lT).map Value.ref) .null := f47.keep K44q nin0
    obtain ⟨_, _, ⟨T49, L49, k49, n49⟩, -, X49, ⟨Lc49, hQ49, l49, y49, z49⟩, st49⟩ := Jvm.LawKit.callS X45 hx (y := (⟨"com/example/fachwissen/fachwissen/mail/MessageAssociationTextsPinLaw", "at", "(Ljava/util/List;[Ljava/lang/String;II)Z"⟩ : MethodName)) hown (mvT hZ (w131 hw)) (mvT hZ (w132 hw)) (mvT hZ (w133 hw)) (mvT hZ (w134 hw)) (by decide) (backOf (W := 0) (rm19 l Z a0 hw [] r_44 ev ((lH ++ lS) ++ lT) (0 : Int32) ea2_44 cp2_44 ke T44.heap n0 Z44 c44_0 c44_1 c44_2 c44_3 c44_4 f48 (by decide : ¬ (0 : Int32) < 0) (by decide : (0 : Int32) < (6 : Int32))) hZ (w134 hw) (w133 hw) (by decide) (by decide)) (g := (mkF m 364 #[.val (.int xa), .val (.int xb), .val (.int xc), .val (.int (own_n lH)), .val (.int (own_n lS)), .val (.int (own_n lT)), .val (.ref wA), .val (.ref wB), .val (.ref wC), .val (.ref wD), .val (.ref wE), .val (.ref wF), .val (.ref oH), .val (.ref oS), .val (.ref oT), .val (.ref ev), .val (.int (own_n ((lH ++ lS) ++ lT))), .val (.ref b1), .val (.ref r_44)] [(.int (0 : Int32)), (.int (own_n ((lH ++ lS) ++ lT))), (.ref ev), (.ref r_44)])) rfl (by rw [hml]; rfl) (argsL := [(.ref r_44), (.ref ev), (.int (own_n ((lH ++ lS) ++ lT))), (.int (0 : Int32))]) (rest := []) (lenOf pd_19 rfl) rfl (by show 2 * 0 + _ ≤ _; exact Nat.le_of_eq rfl) (hb hby at_364) (fun _ hWx => ⟨rfl, e45, (by decide : 33 + 0 ≤ _), (by decide : 186 + 0 ≤ _)⟩)
    dsimp only [Pt.U, Pt.locs, Pt.cells, Pt.slots] at X49 l49 y49 z49 st49 hQ49
    replace X49 := own_num (c' := 33) (n' := 186) X49 l49 (y49.trans rfl) (z49.trans rfl)
    obtain ⟨rfl, N49q, e49⟩ := hQ49
    have N49 := Fr.app N45 N49q
    refine own_on st49 ?_
    show OwnGo p e below s _ _ _ (T49.setTop (mkF m 367 #[.val (.int xa), .val (.int xb), .val (.int xc), .val (.int (own_n lH)), .val (.int (own_n lS)), .val (.int (own_n lT)), .val (.ref wA), .val (.ref wB), .val (.ref wC), .val (.ref wD), .val (.ref wE), .val (.ref wF), .val (.ref oH), .val (.ref oS), .val (.ref oT), .val (.ref ev), .val (.int (own_n ((lH ++ lS) ++ lT))), .val (.ref b1), .val (.ref r_44)] [(.int (1 : Int32))]))
    refine own_on (fun t_ k_ => XS.ifNo X49.here hx rfl (hb hby at_367) rfl ((if0 _ _).trans (feq (by decide : ¬ ((1 : Int32) = (0 : Int32)))).1) k_) ?_
    show OwnGo p e below s _ _ _ (T49.setTop (mkF m 370 #[.val (.int xa), .val (.int xb), .val (.int xc), .val (.int (own_n lH)), .val (.int (own_n lS)), .val (.int (own_n lT)), .val (.ref wA), .val (.ref wB), .val (.ref wC), .val (.ref wD), .val (.ref wE), .val (.ref wF), .val (.ref oH), .val (.ref oS), .val (.ref oT), .val (.ref ev), .val (.int (own_n ((lH ++ lS) ++ lT))), .val (.ref b1), .val (.ref r_44)] []))
    refine own_on (fun t_ k_ => XS.aload X49.here hx rfl (hb hby at_370) rfl rfl k_) ?_
    show OwnGo p e below s _ _ _ (T49.setTop (mkF m 372 #[.val (.int xa), .val (.int xb), .val (.int xc), .val (.int (own_n lH)), .val (.int (own_n lS)), .val (.int (own_n lT)), .val (.ref wA), .val (.ref wB), .val (.ref wC), .val (.ref wD), .val (.ref wE), .val (.ref wF), .val (.ref oH), .val (.ref oS), .val (.ref oT), .val (.ref ev), .val (.int (own_n ((lH ++ lS) ++ lT))), .val (.ref b1), .val (.ref r_44)] [(.ref r_44)]))
    refine own_on (fun t_ k_ => XS.aload X49.here hx rfl (hb hby at_372) rfl rfl k_) ?_
    show OwnGo p e below s _ _ _ (T49.setTop (mkF m 374 #[.val (.int xa), .val (.int xb), .val (.int xc), .val (.int (own_n lH)), .val (.int (own_n lS)), .val (.int (own_n lT)), .val (.ref wA), .val (.ref wB), .val (.ref wC), .val (.ref wD), .val (.ref wE), .val (.ref wF), .val (.ref oH), .val (.ref oS), .val (.ref oT), .val (.ref ev), .val (.int (own_n ((lH ++ lS) ++ lT))), .val (.ref b1), .val (.ref r_44)] [(.ref ev), (.ref r_44)]))
    refine own_on (fun t_ k_ => XS.iload X49.here hx rfl (hb hby at_374) rfl k_) ?_
    show OwnGo p e below s _ _ _ (T49.setTop (mkF m 376 #[.val (.int xa), .val (.int xb), .val (.int xc), .val (.int (own_n lH)), .val (.int (own_n lS)), .val (.int (own_n lT)), .val (.ref wA), .val (.ref wB), .val (.ref wC), .val (.ref wD), .val (.ref wE), .val (.ref wF), .val (.ref oH), .val (.ref oS), .val (.ref oT), .val (.ref ev), .val (.int (own_n ((lH ++ lS) ++ lT))), .val (.ref b1), .val (.ref r_44)] [(.int (own_n ((lH ++ lS) ++ lT))), (.ref ev), (.ref r_44)]))
    refine own_on (fun t_ k_ => XS.iconst X49.here hx rfl (hb hby at_376) k_) ?_
    show OwnGo p e below s _ _ _ (T49.setTop (mkF m 377 #[.val (.int xa), .val (.int xb), .val (.int xc), .val (.int (own_n lH)), .val (.int (own_n lS)), .val (.int (own_n lT)), .val (.ref wA), .val (.ref wB), .val (.ref wC), .val (.ref wD), .val (.ref wE), .val (.ref wF), .val (.ref oH), .val (.ref oS), .val (.ref oT), .val (.ref ev), .val (.int (own_n ((lH ++ lS) ++ lT))), .val (.ref b1), .val (.ref r_44)] [(.int (1 : Int32)), (.int (own_n ((lH ++ lS) ++ lT))), (.ref ev), (.ref r_44)]))
    obtain ⟨_, _, ⟨T50, L50, k50, n50⟩, -, X50, ⟨Lc50, hQ50, l50, y50, z50⟩, st50⟩ := Jvm.LawKit.callS X49 hx (y := (⟨"com/example/fachwissen/fachwissen/mail/MessageAssociationTextsPinLaw", "at", "(Ljava/util/List;[Ljava/lang/String;II)Z"⟩ : MethodName)) hown (mvT hZ (w131 hw)) (mvT hZ (w132 hw)) (mvT hZ (w133 hw)) (mvT hZ (w134 hw)) (by decide) (backOf (W := 0) (rm19 l Z a0 hw [] r_44 ev ((lH ++ lS) ++ lT) (1 : Int32) ea2_44 cp2_44 ke T44.heap n0 Z44 c44_0 c44_1 c44_2 c44_3 c44_4 f48 (by decide : ¬ (1 : Int32) < 0) (by decide : (1 : Int32) < (6 : Int32))) hZ (w134 hw) (w133 hw) (by decide) (by decide)) (g := (mkF m 377 #[.val (.int xa), .val (.int xb), .val (.int xc), .val (.int (own_n lH)), .val (.int (own_n lS)), .val (.int (own_n lT)), .val (.ref wA), .val (.ref wB), .val (.ref wC), .val (.ref wD), .val (.ref wE), .val (.ref wF), .val (.ref oH), .val (.ref oS), .val (.ref oT), .val (.ref ev), .val (.int (own_n ((lH ++ lS) ++ lT))), .val (.ref b1), .val (.ref r_44)] [(.int (1 : Int32)), (.int (own_n ((lH ++ lS) ++ lT))), (.ref ev), (.ref r_44)])) rfl (by rw [hml]; rfl) (argsL := [(.ref r_44), (.ref ev), (.int (own_n ((lH ++ lS) ++ lT))), (.int (1 : Int32))]) (rest := []) (lenOf pd_19 rfl) rfl (by show 2 * 0 + _ ≤ _; exact Nat.le_of_eq rfl) (hb hby at_377) (fun _ hWx => ⟨rfl, e49, (by decide : 33 + 0 ≤ _), (by decide : 186 + 0 ≤ _)⟩)
    dsimp only [Pt.U, Pt.locs, Pt.cells, Pt.slots] at X50 l50 y50 z50 st50 hQ50
    replace X50 := own_num (c' := 33) (n' := 186) X50 l50 (y50.trans rfl) (z50.trans rfl)
    obtain ⟨rfl, N50q, e50⟩ := hQ50
    have N50 := Fr.app N49 N50q
    refine own_on st50 ?_
    show OwnGo p e below s _ _ _ (T50.setTop (mkF m 380 #[.val (.int xa), .val (.int xb), .val (.int xc), .val (.int (own_n lH)), .val (.int (own_n lS)), .val (.int (own_n lT)), .val (.ref wA), .val (.ref wB), .val (.ref wC), .val (.ref wD), .val (.ref wE), .val (.ref wF), .val (.ref oH), .val (.ref oS), .val (.ref oT), .val (.ref ev), .val (.int (own_n ((lH ++ lS) ++ lT))), .val (.ref b1), .val (.ref r_44)] [(.int (1 : Int32))]))
    refine own_on (fun t_ k_ => XS.ifNo X50.here hx rfl (hb hby at_380) rfl ((if0 _ _).trans (feq (by decide : ¬ ((1 : Int32) = (0 : Int32)))).1) k_) ?_
    show OwnGo p e below s _ _ _ (T50.setTop (mkF m 383 #[.val (.int xa), .val (.int xb), .val (.int xc), .val (.int (own_n lH)), .val (.int (own_n lS)), .val (.int (own_n lT)), .val (.ref wA), .val (.ref wB), .val (.ref wC), .val (.ref wD), .val (.ref wE), .val (.ref wF), .val (.ref oH), .val (.ref oS), .val (.ref oT), .val (.ref ev), .val (.int (own_n ((lH ++ lS) ++ lT))), .val (.ref b1), .val (.ref r_44)] []))
    refine own_on (fun t_ k_ => XS.aload X50.here hx rfl (hb hby at_383) rfl rfl k_) ?_
    show OwnGo p e below s _ _ _ (T50.setTop (mkF m 385 #[.val (.int xa), .val (.int xb), .val (.int xc), .val (.int (own_n lH)), .val (.int (own_n lS)), .val (.int (own_n lT)), .val (.ref wA), .val (.ref wB), .val (.ref wC), .val (.ref wD), .val (.ref wE), .val (.ref wF), .val (.ref oH), .val (.ref oS), .val (.ref oT), .val (.ref ev), .val (.int (own_n ((lH ++ lS) ++ lT))), .val (.ref b1), .val (.ref r_44)] [(.ref r_44)]))
    refine own_on (fun t_ k_ => XS.aload X50.here hx rfl (hb hby at_385) rfl rfl k_) ?_
    show OwnGo p e below s _ _ _ (T50.setTop (mkF m 387 #[.val (.int xa), .val (.int xb), .val (.int xc), .val (.int (own_n lH)), .val (.int (own_n lS)), .val (.int (own_n lT)), .val (.ref wA), .val (.ref wB), .val (.ref wC), .val (.ref wD), .val (.ref wE), .val (.ref wF), .val (.ref oH), .val (.ref oS), .val (.ref oT), .val (.ref ev), .val (.int (own_n ((lH ++ lS) ++ lT))), .val (.ref b1), .val (.ref r_44)] [(.ref ev), (.ref r_44)]))
    refine own_on (fun t_ k_ => XS.iload X50.here hx rfl (hb hby at_387) rfl k_) ?_
    show OwnGo p e below s _ _ _ (T50.setTop (mkF m 389 #[.val (.int xa), .val (.int xb), .val (.int xc), .val (.int (own_n lH)), .val (.int (own_n lS)), .val (.int (own_n lT)), .val (.ref wA), .val (.ref wB), .val (.ref wC), .val (.ref wD), .val (.ref wE), .val (.ref wF), .val (.ref oH), .val (.ref oS), .val (.ref oT), .val (.ref ev), .val (.int (own_n ((lH ++ lS) ++ lT))), .val (.ref b1), .val (.ref r_44)] [(.int (own_n ((lH ++ lS) ++ lT))), (.ref ev), (.ref r_44)]))
    refine own_on (fun t_ k_ => XS.iconst X50.here hx rfl (hb hby at_389) k_) ?_
    show OwnGo p e below s _ _ _ (T50.setTop (mkF m 390 #[.val (.int xa), .val (.int xb), .val (.int xc), .val (.int (own_n lH)), .val (.int (own_n lS)), .val (.int (own_n lT)), .val (.ref wA), .val (.ref wB), .val (.ref wC), .val (.ref wD), .val (.ref wE), .val (.ref wF), .val (.ref oH), .val (.ref oS), .val (.ref oT), .val (.ref ev), .val (.int (own_n ((lH ++ lS) ++ lT))), .val (.ref b1), .val (.ref r_44)] [(.int (2 : Int32)), (.int (own_n ((lH ++ lS) ++ lT))), (.ref ev), (.ref r_44)]))
    obtain ⟨_, _, ⟨T51, L51, k51, n51⟩, -, X51, ⟨Lc51, hQ51, l51, y51, z51⟩, st51⟩ := Jvm.LawKit.callS X50 hx (y := (⟨"com/example/fachwissen/fachwissen/mail/MessageAssociationTextsPinLaw", "at", "(Ljava/util/List;[Ljava/lang/String;II)Z"⟩ : MethodName)) hown (mvT hZ (w131 hw)) (mvT hZ (w132 hw)) (mvT hZ (w133 hw)) (mvT hZ (w134 hw)) (by decide) (backOf (W := 0) (rm19 l Z a0 hw [] r_44 ev ((lH ++ lS) ++ lT) (2 : Int32) ea2_44 cp2_44 ke T44.heap n0 Z44 c44_0 c44_1 c44_2 c44_3 c44_4 f48 (by decide : ¬ (2 : Int32) < 0) (by decide : (2 : Int32) < (6 : Int32))) hZ (w134 hw) (w133 hw) (by decide) (by decide)) (g := (mkF m 390 #[.val (.int xa), .val (.int xb), .val (.int xc), .val (.int (own_n lH)), .val (.int (own_n lS)), .val (.int (own_n lT)), .val (.ref wA), .val (.ref wB), .val (.ref wC), .val (.ref wD), .val (.ref wE), .val (.ref wF), .val (.ref oH), .val (.ref oS), .val (.ref oT), .val (.ref ev), .val (.int (own_n ((lH ++ lS) ++ lT))), .val (.ref b1), .val (.ref r_44)] [(.int (2 : Int32)), (.int (own_n ((lH ++ lS) ++ lT))), (.ref ev), (.ref r_44)])) rfl (by rw [hml]; rfl) (argsL := [(.ref r_44), (.ref ev), (.int (own_n ((lH ++ lS) ++ lT))), (.int (2 : Int32))]) (rest := []) (lenOf pd_19 rfl) rfl (by show 2 * 0 + _ ≤ _; exact Nat.le_of_eq rfl) (hb hby at_390) (fun _ hWx => ⟨rfl, e50, (by decide : 33 + 0 ≤ _), (by decide : 186 + 0 ≤ _)⟩)
    dsimp only [Pt.U, Pt.locs, Pt.cells, Pt.slots] at X51 l51 y51 z51 st51 hQ51
    replace X51 := own_num (c' := 33) (n' := 186) X51 l51 (y51.trans rfl) (z51.trans rfl)
    obtain ⟨rfl, N51q, e51⟩ := hQ51
    have N51 := Fr.app N50 N51q
    refine own_on st51 ?_
    show OwnGo p e below s _ _ _ (T51.setTop (mkF m 393 #[.val (.int xa), .val (.int xb), .val (.int xc), .val (.int (own_n lH)), .val (.int (own_n lS)), .val (.int (own_n lT)), .val (.ref wA), .val (.ref wB), .val (.ref wC), .val (.ref wD), .val (.ref wE), .val (.ref wF), .val (.ref oH), .val (.ref oS), .val (.ref oT), .val (.ref ev), .val (.int (own_n ((lH ++ lS) ++ lT))), .val (.ref b1), .val (.ref r_44)] [(.int (1 : Int32))]))
    refine own_on (fun t_ k_ => XS.ifNo X51.here hx rfl (hb hby at_393) rfl ((if0 _ _).trans (feq (by decide : ¬ ((1 : Int32) = (0 : Int32)))).1) k_) ?_
    show OwnGo p e below s _ _ _ (T51.setTop (mkF m 396 #[.val (.int xa), .val (.int xb), .val (.int xc), .val (.int (own_n lH)), .val (.int (own_n lS)), .val (.int (own_n lT)), .val (.ref wA), .val (.ref wB), .val (.ref wC), .val (.ref wD), .val (.ref wE), .val (.ref wF), .val (.ref oH), .val (.ref oS), .val (.ref oT), .val (.ref ev), .val (.int (own_n ((lH ++ lS) ++ lT))), .val (.ref b1), .val (.ref r_44)] []))
    refine own_on (fun t_ k_ => XS.aload X51.here hx rfl (hb hby at_396) rfl rfl k_) ?_
    show OwnGo p e below s _ _ _ (T51.setTop (mkF m 398 #[.val (.int xa), .val (.int xb), .val (.int xc), .val (.int (own_n lH)), .val (.int (own_n lS)), .val (.int (own_n lT)), .val (.ref wA), .val (.ref wB), .val (.ref wC), .val (.ref wD), .val (.ref wE), .val (.ref wF), .val (.ref oH), .val (.ref oS), .val (.ref oT), .val (.ref ev), .val (.int (own_n ((lH ++ lS) ++ lT))), .val (.ref b1), .val (.ref r_44)] [(.ref r_44)]))
    refine own_on (fun t_ k_ => XS.aload X51.here hx rfl (hb hby at_398) rfl rfl k_) ?_
    show OwnGo p e below s _ _ _ (T51.setTop (mkF m 400 #[.val (.int xa), .val (.int xb), .val (.int xc), .val (.int (own_n lH)), .val (.int (own_n lS)), .val (.int (own_n lT)), .val (.ref wA), .val (.ref wB), .val (.ref wC), .val (.ref wD), .val (.ref wE), .val (.ref wF), .val (.ref oH), .val (.ref oS), .val (.ref oT), .val (.ref ev), .val (.int (own_n ((lH ++ lS) ++ lT))), .val (.ref b1), .val (.ref r_44)] [(.ref ev), (.ref r_44)]))
    refine own_on (fun t_ k_ => XS.iload X51.here hx rfl (hb hby at_400) rfl k_) ?_
    show OwnGo p e below s _ _ _ (T51.setTop (mkF m 402 #[.val (.int xa), .val (.int xb), .val (.int xc), .val (.int (own_n lH)), .val (.int (own_n lS)), .val (.int (own_n lT)), .val (.ref wA), .val (.ref wB), .val (.ref wC), .val (.ref wD), .val (.ref wE), .val (.ref wF), .val (.ref oH), .val (.ref oS), .val (.ref oT), .val (.ref ev), .val (.int (own_n ((lH ++ lS) ++ lT))), .val (.ref b1), .val (.ref r_44)] [(.int (own_n ((lH ++ lS) ++ lT))), (.ref ev), (.ref r_44)]))
    refine own_on (fun t_ k_ => XS.iconst X51.here hx rfl (hb hby at_402) k_) ?_
    show OwnGo p e below s _ _ _ (T51.setTop (mkF m 403 #[.val (.int xa), .val (.int xb), .val (.int xc), .val (.int (own_n lH)), .val (.int (own_n lS)), .val (.int (own_n lT)), .val (.ref wA), .val (.ref wB), .val (.ref wC), .val (.ref wD), .val (.ref wE), .val (.ref wF), .val (.ref oH), .val (.ref oS), .val (.ref oT), .val (.ref ev), .val (.int (own_n ((lH ++ lS) ++ lT))), .val (.ref b1), .val (.ref r_44)] [(.int (3 : Int32)), (.int (own_n ((lH ++ lS) ++ lT))), (.ref ev), (.ref r_44)]))
    obtain ⟨_, _, ⟨T52, L52, k52, n52⟩, -, X52, ⟨Lc52, hQ52, l52, y52, z52⟩, st52⟩ := Jvm.LawKit.callS X51 hx (y := (⟨"com/example/fachwissen/fachwissen/mail/MessageAssociationTextsPinLaw", "at", "(Ljava/util/List;[Ljava/lang/String;II)Z"⟩ : MethodName)) hown (mvT hZ (w131 hw)) (mvT hZ (w132 hw)) (mvT hZ (w133 hw)) (mvT hZ (w134 hw)) (by decide) (backOf (W := 0) (rm19 l Z a0 hw [] r_44 ev ((lH ++ lS) ++ lT) (3 : Int32) ea2_44 cp2_44 ke T44.heap n0 Z44 c44_0 c44_1 c44_2 c44_3 c44_4 f48 (by decide : ¬ (3 : Int32) < 0) (by decide : (3 : Int32) < (6 : Int32))) hZ (w134 hw) (w133 hw) (by decide) (by decide)) (g := (mkF m 403 #[.val (.int xa), .val (.int xb), .val (.int xc), .val (.int (own_n lH)), .val (.int (own_n lS)), .val (.int (own_n lT)), .val (.ref wA), .val (.ref wB), .val (.ref wC), .val (.ref wD), .val (.ref wE), .val (.ref wF), .val (.ref oH), .val (.ref oS), .val (.ref oT), .val (.ref ev), .val (.int (own_n ((lH ++ lS) ++ lT))), .val (.ref b1), .val (.ref r_44)] [(.int (3 : Int32)), (.int (own_n ((lH ++ lS) ++ lT))), (.ref ev), (.ref r_44)])) rfl (by rw [hml]; rfl) (argsL := [(.ref r_44), (.ref ev), (.int (own_n ((lH ++ lS) ++ lT))), (.int (3 : Int32))]) (rest := []) (lenOf pd_19 rfl) rfl (by show 2 * 0 + _ ≤ _; exact Nat.le_of_eq rfl) (hb hby at_403) (fun _ hWx => ⟨rfl, e51, (by decide : 33 + 0 ≤ _), (by decide : 186 + 0 ≤ _)⟩)
    dsimp only [Pt.U, Pt.locs, Pt.cells, Pt.slots] at X52 l52 y52 z52 st52 hQ52
    replace X52 := own_num (c' := 33) (n' := 186) X52 l52 (y52.trans rfl) (z52.trans rfl)
    obtain ⟨rfl, N52q, e52⟩ := hQ52
    have N52 := Fr.app N51 N52q
    refine own_on st52 ?_
    show OwnGo p e below s _ _ _ (T52.setTop (mkF m 406 #[.val (.int xa), .val (.int xb), .val (.int xc), .val (.int (own_n lH)), .val (.int (own_n lS)), .val (.int (own_n lT)), .val (.ref wA), .val (.ref wB), .val (.ref wC), .val (.ref wD), .val (.ref wE), .val (.ref wF), .val (.ref oH), .val (.ref oS), .val (.ref oT), .val (.ref ev), .val (.int (own_n ((lH ++ lS) ++ lT))), .val (.ref b1), .val (.ref r_44)] [(.int (1 : Int32))]))
    refine own_on (fun t_ k_ => XS.ifNo X52.here hx rfl (hb hby at_406) rfl ((if0 _ _).trans (feq (by decide : ¬ ((1 : Int32) = (0 : Int32)))).1) k_) ?_
    show OwnGo p e below s _ _ _ (T52.setTop (mkF m 409 #[.val (.int xa), .val (.int xb), .val (.int xc), .val (.int (own_n lH)), .val (.int (own_n lS)), .val (.int (own_n lT)), .val (.ref wA), .val (.ref wB), .val (.ref wC), .val (.ref wD), .val (.ref wE), .val (.ref wF), .val (.ref oH), .val (.ref oS), .val (.ref oT), .val (.ref ev), .val (.int (own_n ((lH ++ lS) ++ lT))), .val (.ref b1), .val (.ref r_44)] []))
    refine own_on (fun t_ k_ => XS.aload X52.here hx rfl (hb hby at_409) rfl rfl k_) ?_
    show OwnGo p e below s _ _ _ (T52.setTop (mkF m 411 #[.val (.int xa), .val (.int xb), .val (.int xc), .val (.int (own_n lH)), .val (.int (own_n lS)), .val (.int (own_n lT)), .val (.ref wA), .val (.ref wB), .val (.ref wC), .val (.ref wD), .val (.ref wE), .val (.ref wF), .val (.ref oH), .val (.ref oS), .val (.ref oT), .val (.ref ev), .val (.int (own_n ((lH ++ lS) ++ lT))), .val (.ref b1), .val (.ref r_44)] [(.ref r_44)]))
    refine own_on (fun t_ k_ => XS.aload X52.here hx rfl (hb hby at_411) rfl rfl k_) ?_
    show OwnGo p e below s _ _ _ (T52.setTop (mkF m 413 #[.val (.int xa), .val (.int xb), .val (.int xc), .val (.int (own_n lH)), .val (.int (own_n lS)), .val (.int (own_n lT)), .val (.ref wA), .val (.ref wB), .val (.ref wC), .val (.ref wD), .val (.ref wE), .val (.ref wF), .val (.ref oH), .val (.ref oS), .val (.ref oT), .val (.ref ev), .val (.int (own_n ((lH ++ lS) ++ lT))), .val (.ref b1), .val (.ref r_44)] [(.ref ev), (.ref r_44)]))
    refine own_on (fun t_ k_ => XS.iload X52.here hx rfl (hb hby at_413) rfl k_) ?_
    show OwnGo p e below s _ _ _ (T52.setTop (mkF m 415 #[.val (.int xa), .val (.int xb), .val (.int xc), .val (.int (own_n lH)), .val (.int (own_n lS)), .val (.int (own_n lT)), .val (.ref wA), .val (.ref wB), .val (.ref wC), .val (.ref wD), .val (.ref wE), .val (.ref wF), .val (.ref oH), .val (.ref oS), .val (.ref oT), .val (.ref ev), .val (.int (own_n ((lH ++ lS) ++ lT))), .val (.ref b1), .val (.ref r_44)] [(.int (own_n ((lH ++ lS) ++ lT))), (.ref ev), (.ref r_44)]))
    refine own_on (fun t_ k_ => XS.iconst X52.here hx rfl (hb hby at_415) k_) ?_
    show OwnGo p e below s _ _ _ (T52.setTop (mkF m 416 #[.val (.int xa), .val (.int xb), .val (.int xc), .val (.int (own_n lH)), .val (.int (own_n lS)), .val (.int (own_n lT)), .val (.ref wA), .val (.ref wB), .val (.ref wC), .val (.ref wD), .val (.ref wE), .val (.ref wF), .val (.ref oH), .val (.ref oS), .val (.ref oT), .val (.ref ev), .val (.int (own_n ((lH ++ lS) ++ lT))), .val (.ref b1), .val (.ref r_44)] [(.int (4 : Int32)), (.int (own_n ((lH ++ lS) ++ lT))), (.ref ev), (.ref r_44)]))
    obtain ⟨_, _, ⟨T53, L53, k53, n53⟩, -, X53, ⟨Lc53, hQ53, l53, y53, z53⟩, st53⟩ := Jvm.LawKit.callS X52 hx (y := (⟨"com/example/fachwissen/fachwissen/mail/MessageAssociationTextsPinLaw", "at", "(Ljava/util/List;[Ljava/lang/String;II)Z"⟩ : MethodName)) hown (mvT hZ (w131 hw)) (mvT hZ (w132 hw)) (mvT hZ (w133 hw)) (mvT hZ (w134 hw)) (by decide) (backOf (W := 0) (rm19 l Z a0 hw [] r_44 ev ((lH ++ lS) ++ lT) (4 : Int32) ea2_44 cp2_44 ke T44.heap n0 Z44 c44_0 c44_1 c44_2 c44_3 c44_4 f48 (by decide : ¬ (4 : Int32) < 0) (by decide : (4 : Int32) < (6 : Int32))) hZ (w134 hw) (w133 hw) (by decide) (by decide)) (g := (mkF m 416 #[.val (.int xa), .val (.int xb), .val (.int xc), .val (.int (own_n lH)), .val (.int (own_n lS)), .val (.int (own_n lT)), .val (.ref wA), .val (.ref wB), .val (.ref wC), .val (.ref wD), .val (.ref wE), .val (.ref wF), .val (.ref oH), .val (.ref oS), .val (.ref oT), .val (.ref ev), .val (.int (own_n ((lH ++ lS) ++ lT))), .val (.ref b1), .val (.ref r_44)] [(.int (4 : Int32)), (.int (own_n ((lH ++ lS) ++ lT))), (.ref ev), (.ref r_44)])) rfl (by rw [hml]; rfl) (argsL := [(.ref r_44), (.ref ev), (.int (own_n ((lH ++ lS) ++ lT))), (.int (4 : Int32))]) (rest := []) (lenOf pd_19 rfl) rfl (by show 2 * 0 + _ ≤ _; exact Nat.le_of_eq rfl) (hb hby at_416) (fun _ hWx => ⟨rfl, e52, (by decide : 33 + 0 ≤ _), (by decide : 186 + 0 ≤ _)⟩)
    dsimp only [Pt.U, Pt.locs, Pt.cells, Pt.slots] at X53 l53 y53 z53 st53 hQ53
    replace X53 := own_num (c' := 33) (n' := 186) X53 l53 (y53.trans rfl) (z53.trans rfl)
    obtain ⟨rfl, N53q, e53⟩ := hQ53
    have N53 := Fr.app N52 N53q
    refine own_on st53 ?_
    show OwnGo p e below s _ _ _ (T53.setTop (mkF m 419 #[.val (.int xa), .val (.int xb), .val (.int xc), .val (.int (own_n lH)), .val (.int (own_n lS)), .val (.int (own_n lT)), .val (.ref wA), .val (.ref wB), .val (.ref wC), .val (.ref wD), .val (.ref wE), .val (.ref wF), .val (.ref oH), .val (.ref oS), .val (.ref oT), .val (.ref ev), .val (.int (own_n ((lH ++ lS) ++ lT))), .val (.ref b1), .val (.ref r_44)] [(.int (1 : Int32))]))
    refine own_on (fun t_ k_ => XS.ifNo X53.here hx rfl (hb hby at_419) rfl ((if0 _ _).trans (feq (by decide : ¬ ((1 : Int32) = (0 : Int32)))).1) k_) ?_
    show OwnGo p e below s _ _ _ (T53.setTop (mkF m 422 #[.val (.int xa), .val (.int xb), .val (.int xc), .val (.int (own_n lH)), .val (.int (own_n lS)), .val (.int (own_n lT)), .val (.ref wA), .val (.ref wB), .val (.ref wC), .val (.ref wD), .val (.ref wE), .val (.ref wF), .val (.ref oH), .val (.ref oS), .val (.ref oT), .val (.ref ev), .val (.int (own_n ((lH ++ lS) ++ lT))), .val (.ref b1), .val (.ref r_44)] []))
    refine own_on (fun t_ k_ => XS.aload X53.here hx rfl (hb hby at_422) rfl rfl k_) ?_
    show OwnGo p e below s _ _ _ (T53.setTop (mkF m 424 #[.val (.int xa), .val (.int xb), .val (.int xc), .val (.int (own_n lH)), .val (.int (own_n lS)), .val (.int (own_n lT)), .val (.ref wA), .val (.ref wB), .val (.ref wC), .val (.ref wD), .val (.ref wE), .val (.ref wF), .val (.ref oH), .val (.ref oS), .val (.ref oT), .val (.ref ev), .val (.int (own_n ((lH ++ lS) ++ lT))), .val (.ref b1), .val (.ref r_44)] [(.ref r_44)]))
    refine own_on (fun t_ k_ => XS.aload X53.here hx rfl (hb hby at_424) rfl rfl k_) ?_
    show OwnGo p e below s _ _ _ (T53.setTop (mkF m 426 #[.val (.int xa), .val (.int xb), .val (.int xc), .val (.int (own_n lH)), .val (.int (own_n lS)), .val (.int (own_n lT)), .val (.ref wA), .val (.ref wB), .val (.ref wC), .val (.ref wD), .val (.ref wE), .val (.ref wF), .val (.ref oH), .val (.ref oS), .val (.ref oT), .val (.ref ev), .val (.int (own_n ((lH ++ lS) ++ lT))), .val (.ref b1), .val (.ref r_44)] [(.ref ev), (.ref r_44)]))
    refine own_on (fun t_ k_ => XS.iload X53.here hx rfl (hb hby at_426) rfl k_) ?_
    show OwnGo p e below s _ _ _ (T53.setTop (mkF m 428 #[.val (.int xa), .val (.int xb), .val (.int xc), .val (.int (own_n lH)), .val (.int (own_n lS)), .val (.int (own_n lT)), .val (.ref wA), .val (.ref wB), .val (.ref wC), .val (.ref wD), .val (.ref wE), .val (.ref wF), .val (.ref oH), .val (.ref oS), .val (.ref oT), .val (.ref ev), .val (.int (own_n ((lH ++ lS) ++ lT))), .val (.ref b1), .val (.ref r_44)] [(.int (own_n ((lH ++ lS) ++ lT))), (.ref ev), (.ref r_44)]))
    refine own_on (fun t_ k_ => XS.iconst X53.here hx rfl (hb hby at_428) k_) ?_
    show OwnGo p e below s _ _ _ (T53.setTop (mkF m 429 #[.val (.int xa), .val (.int xb), .val (.int xc), .val (.int (own_n lH)), .val (.int (own_n lS)), .val (.int (own_n lT)), .val (.ref wA), .val (.ref wB), .val (.ref wC), .val (.ref wD), .val (.ref wE), .val (.ref wF), .val (.ref oH), .val (.ref oS), .val (.ref oT), .val (.ref ev), .val (.int (own_n ((lH ++ lS) ++ lT))), .val (.ref b1), .val (.ref r_44)] [(.int (5 : Int32)), (.int (own_n ((lH ++ lS) ++ lT))), (.ref ev), (.ref r_44)]))
    obtain ⟨_, _, ⟨T54, L54, k54, n54⟩, -, X54, ⟨Lc54, hQ54, l54, y54, z54⟩, st54⟩ := Jvm.LawKit.callS X53 hx (y := (⟨"com/example/fachwissen/fachwissen/mail/MessageAssociationTextsPinLaw", "at", "(Ljava/util/List;[Ljava/lang/String;II)Z"⟩ : MethodName)) hown (mvT hZ (w131 hw)) (mvT hZ (w132 hw)) (mvT hZ (w133 hw)) (mvT hZ (w134 hw)) (by decide) (backOf (W := 0) (rm19 l Z a0 hw [] r_44 ev ((lH ++ lS) ++ lT) (5 : Int32) ea2_44 cp2_44 ke T44.heap n0 Z44 c44_0 c44_1 c44_2 c44_3 c44_4 f48 (by decide : ¬ (5 : Int32) < 0) (by decide : (5 : Int32) < (6 : Int32))) hZ (w134 hw) (w133 hw) (by decide) (by decide)) (g := (mkF m 429 #[.val (.int xa), .val (.int xb), .val (.int xc), .val (.int (own_n lH)), .val (.int (own_n lS)), .val (.int (own_n lT)), .val (.ref wA), .val (.ref wB), .val (.ref wC), .val (.ref wD), .val (.ref wE), .val (.ref wF), .val (.ref oH), .val (.ref oS), .val (.ref oT), .val (.ref ev), .val (.int (own_n ((lH ++ lS) ++ lT))), .val (.ref b1), .val (.ref r_44)] [(.int (5 : Int32)), (.int (own_n ((lH ++ lS) ++ lT))), (.ref ev), (.ref r_44)])) rfl (by rw [hml]; rfl) (argsL := [(.ref r_44), (.ref ev), (.int (own_n ((lH ++ lS) ++ lT))), (.int (5 : Int32))]) (rest := []) (lenOf pd_19 rfl) rfl (by show 2 * 0 + _ ≤ _; exact Nat.le_of_eq rfl) (hb hby at_429) (fun _ hWx => ⟨rfl, e53, (by decide : 33 + 0 ≤ _), (by decide : 186 + 0 ≤ _)⟩)
    dsimp only [Pt.U, Pt.locs, Pt.cells, Pt.slots] at X54 l54 y54 z54 st54 hQ54
    replace X54 := own_num (c' := 33) (n' := 186) X54 l54 (y54.trans rfl) (z54.trans rfl)
    obtain ⟨rfl, N54q, e54⟩ := hQ54
    have N54 := Fr.app N53 N54q
    refine own_on st54 ?_
    show OwnGo p e below s _ _ _ (T54.setTop (mkF m 432 #[.val (.int xa), .val (.int xb), .val (.int xc), .val (.int (own_n lH)), .val (.int (own_n lS)), .val (.int (own_n lT)), .val (.ref wA), .val (.ref wB), .val (.ref wC), .val (.ref wD), .val (.ref wE), .val (.ref wF), .val (.ref oH), .val (.ref oS), .val (.ref oT), .val (.ref ev), .val (.int (own_n ((lH ++ lS) ++ lT))), .val (.ref b1), .val (.ref r_44)] [(.int (1 : Int32))]))
    refine own_on (fun t_ k_ => XS.ifNo X54.here hx rfl (hb hby at_432) rfl ((if0 _ _).trans (feq (by decide : ¬ ((1 : Int32) = (0 : Int32)))).1) k_) ?_
    show OwnGo p e below s _ _ _ (T54.setTop (mkF m 435 #[.val (.int xa), .val (.int xb), .val (.int xc), .val (.int (own_n lH)), .val (.int (own_n lS)), .val (.int (own_n lT)), .val (.ref wA), .val (.ref wB), .val (.ref wC), .val (.ref wD), .val (.ref wE), .val (.ref wF), .val (.ref oH), .val (.ref oS), .val (.ref oT), .val (.ref ev), .val (.int (own_n ((lH ++ lS) ++ lT))), .val (.ref b1), .val (.ref r_44)] []))
    refine own_on (fun t_ k_ => XS.aload X54.here hx rfl (hb hby at_435) rfl rfl k_) ?_
    show OwnGo p e below s _ _ _ (T54.setTop (mkF m 437 #[.val (.int xa), .val (.int xb), .val (.int xc), .val (.int (own_n lH)), .val (.int (own_n lS)), .val (.int (own_n lT)), .val (.ref wA), .val (.ref wB), .val (.ref wC), .val (.ref wD), .val (.ref wE), .val (.ref wF), .val (.ref oH), .val (.ref oS), .val (.ref oT), .val (.ref ev), .val (.int (own_n ((lH ++ lS) ++ lT))), .val (.ref b1), .val (.ref r_44)] [(.ref oH)]))
    have f55 : Fld Z T44.heap oH "java/util/ArrayList" "size" "I" (.int (own_n lH)) := f17.keep K44q nin0
    have f56 : Exa Z T44.heap oH "java/util/ArrayList" := f13.keep K44q
    obtain ⟨cq57, kq57, q57a, q57b, q57c⟩ := isOf hZ e54 f56
    obtain ⟨_, _, ⟨T57, L57, k57, n57⟩, -, X57, ⟨Lc57, hQ57, l57, y57, z57⟩, st57⟩ := X54.interfaceBack hx (xi := (⟨"java/util/List", "size", "()I"⟩ : MethodName)) (y := (⟨"java/util/ArrayList", "size", "()I"⟩ : MethodName)) hown (mvT hZ (w122 hw)) (mvT hZ (w123 hw)) (mvT hZ (w124 hw)) (mvT hZ (w125 hw)) (mvT hZ (w126 hw)) (mvT hZ (w127 hw)) (mvT hZ (w128 hw)) (mvT hZ (w129 hw)) (by decide) (backOf (W := 0) (rm18 l Z a0 hw [] oH lH T44.heap n0 Z44 f55) hZ (w130 hw) (w28 hw) (by decide) (by decide)) q57a q57b q57c (g := (mkF m 437 #[.val (.int xa), .val (.int xb), .val (.int xc), .val (.int (own_n lH)), .val (.int (own_n lS)), .val (.int (own_n lT)), .val (.ref wA), .val (.ref wB), .val (.ref wC), .val (.ref wD), .val (.ref wE), .val (.ref wF), .val (.ref oH), .val (.ref oS), .val (.ref oT), .val (.ref ev), .val (.int (own_n ((lH ++ lS) ++ lT))), .val (.ref b1), .val (.ref r_44)] [(.ref oH)])) rfl (by rw [hml]; rfl) (Steps.refl _) (argsL := []) (rest := []) (lenOf pd_18 rfl) rfl (by show 2 * 0 + _ ≤ _; exact Nat.le_of_eq rfl) (hb hby at_437) (fun _ hWx => ⟨rfl, e54, (by decide : 33 + 0 ≤ _), (by decide : 186 + 0 ≤ _)⟩)
    dsimp only [Pt.U, Pt.locs, Pt.cells, Pt.slots] at X57 l57 y57 z57 st57 hQ57
    replace X57 := own_num (c' := 33) (n' := 186) X57 l57 (y57.trans rfl) (z57.trans rfl)
    obtain ⟨rfl, N57q, e57⟩ := hQ57
    have N57 := Fr.app N54 N57q
    refine own_tr st57 ?_
    show OwnGo p e below s _ _ _ (T57.setTop (mkF m 442 #[.val (.int xa), .val (.int xb), .val (.int xc), .val (.int (own_n lH)), .val (.int (own_n lS)), .val (.int (own_n lT)), .val (.ref wA), .val (.ref wB), .val (.ref wC), .val (.ref wD), .val (.ref wE), .val (.ref wF), .val (.ref oH), .val (.ref oS), .val (.ref oT), .val (.ref ev), .val (.int (own_n ((lH ++ lS) ++ lT))), .val (.ref b1), .val (.ref r_44)] [(.int (own_n lH))]))
    refine own_on (fun t_ k_ => XS.iloadN X57.here hx rfl (hb hby at_442) rfl k_) ?_
    show OwnGo p e below s _ _ _ (T57.setTop (mkF m 443 #[.val (.int xa), .val (.int xb), .val (.int xc), .val (.int (own_n lH)), .val (.int (own_n lS)), .val (.int (own_n lT)), .val (.ref wA), .val (.ref wB), .val (.ref wC), .val (.ref wD), .val (.ref wE), .val (.ref wF), .val (.ref oH), .val (.ref oS), .val (.ref oT), .val (.ref ev), .val (.int (own_n ((lH ++ lS) ++ lT))), .val (.ref b1), .val (.ref r_44)] [(.int (own_n lH)), (.int (own_n lH))]))
    refine own_on (fun t_ k_ => XS.icmpNo X57.here hx rfl (hb hby at_443) rfl (teq rfl).2 k_) ?_
    show OwnGo p e below s _ _ _ (T57.setTop (mkF m 446 #[.val (.int xa), .val (.int xb), .val (.int xc), .val (.int (own_n lH)), .val (.int (own_n lS)), .val (.int (own_n lT)), .val (.ref wA), .val (.ref wB), .val (.ref wC), .val (.ref wD), .val (.ref wE), .val (.ref wF), .val (.ref oH), .val (.ref oS), .val (.ref oT), .val (.ref ev), .val (.int (own_n ((lH ++ lS) ++ lT))), .val (.ref b1), .val (.ref r_44)] []))
    refine own_on (fun t_ k_ => XS.aload X57.here hx rfl (hb hby at_446) rfl rfl k_) ?_
    show OwnGo p e below s _ _ _ (T57.setTop (mkF m 448 #[.val (.int xa), .val (.int xb), .val (.int xc), .val (.int (own_n lH)), .val (.int (own_n lS)), .val (.int (own_n lT)), .val (.ref wA), .val (.ref wB), .val (.ref wC), .val (.ref wD), .val (.ref wE), .val (.ref wF), .val (.ref oH), .val (.ref oS), .val (.ref oT), .val (.ref ev), .val (.int (own_n ((lH ++ lS) ++ lT))), .val (.ref b1), .val (.ref r_44)] [(.ref oS)]))
    have f58 : Fld Z T44.heap oS "java/util/ArrayList" "size" "I" (.int (own_n lS)) := f27.keep K44q nin0
    have f59 : Exa Z T44.heap oS "java/util/ArrayList" := f23.keep K44q
    obtain ⟨cq60, kq60, q60a, q60b, q60c⟩ := isOf hZ e57 f59
    obtain ⟨_, _, ⟨T60, L60, k60, n60⟩, -, X60, ⟨Lc60, hQ60, l60, y60, z60⟩, st60⟩ := X57.interfaceBack hx (xi := (⟨"java/util/List", "size", "()I"⟩ : MethodName)) (y := (⟨"java/util/ArrayList", "size", "()I"⟩ : MethodName)) hown (mvT hZ (w122 hw)) (mvT hZ (w123 hw)) (mvT hZ (w124 hw)) (mvT hZ (w125 hw)) (mvT hZ (w126 hw)) (mvT hZ (w127 hw)) (mvT hZ (w128 hw)) (mvT hZ (w129 hw)) (by decide) (backOf (W := 0) (rm18 l Z a0 hw [] oS lS T44.heap n0 Z44 f58) hZ (w130 hw) (w28 hw) (by decide) (by decide)) q60a q60b q60c (g := (mkF m 448 #[.val (.int xa), .val (.int xb), .val (.int xc), .val (.int (own_n lH)), .val (.int (own_n lS)), .val (.int (own_n lT)), .val (.ref wA), .val (.ref wB), .val (.ref wC), .val (.ref wD), .val (.ref wE), .val (.ref wF), .val (.ref oH), .val (.ref oS), .val (.ref oT), .val (.ref ev), .val (.int (own_n ((lH ++ lS) ++ lT))), .val (.ref b1), .val (.ref r_44)] [(.ref oS)])) rfl (by rw [hml]; rfl) (Steps.refl _) (argsL := []) (rest := []) (lenOf pd_18 rfl) rfl (by show 2 * 0 + _ ≤ _; exact Nat.le_of_eq rfl) (hb hby at_448) (fun _ hWx => ⟨rfl, e57, (by decide : 33 + 0 ≤ _), (by decide : 186 + 0 ≤ _)⟩)
    dsimp only [Pt.U, Pt.locs, Pt.cells, Pt.slots] at X60 l60 y60 z60 st60 hQ60
    replace X60 := own_num (c' := 33) (n' := 186) X60 l60 (y60.trans rfl) (z60.trans rfl)
    obtain ⟨rfl, N60q, e60⟩ := hQ60
    have N60 := Fr.app N57 N60q
    refine own_tr st60 ?_
    show OwnGo p e below s _ _ _ (T60.setTop (mkF m 453 #[.val (.int xa), .val (.int xb), .val (.int xc), .val (.int (own_n lH)), .val (.int (own_n lS)), .val (.int (own_n lT)), .val (.ref wA), .val (.ref wB), .val (.ref wC), .val (.ref wD), .val (.ref wE), .val (.ref wF), .val (.ref oH), .val (.ref oS), .val (.ref oT), .val (.ref ev), .val (.int (own_n ((lH ++ lS) ++ lT))), .val (.ref b1), .val (.ref r_44)] [(.int (own_n lS))]))
    refine own_on (fun t_ k_ => XS.iload X60.here hx rfl (hb hby at_453) rfl k_) ?_
    show OwnGo p e below s _ _ _ (T60.setTop (mkF m 455 #[.val (.int xa), .val (.int xb), .val (.int xc), .val (.int (own_n lH)), .val (.int (own_n lS)), .val (.int (own_n lT)), .val (.ref wA), .val (.ref wB), .val (.ref wC), .val (.ref wD), .val (.ref wE), .val (.ref wF), .val (.ref oH), .val (.ref oS), .val (.ref oT), .val (.ref ev), .val (.int (own_n ((lH ++ lS) ++ lT))), .val (.ref b1), .val (.ref r_44)] [(.int (own_n lS)), (.int (own_n lS))]))
    refine own_on (fun t_ k_ => XS.icmpNo X60.here hx rfl (hb hby at_455) rfl (teq rfl).2 k_) ?_
    show OwnGo p e below s _ _ _ (T60.setTop (mkF m 458 #[.val (.int xa), .val (.int xb), .val (.int xc), .val (.int (own_n lH)), .val (.int (own_n lS)), .val (.int (own_n lT)), .val (.ref wA), .val (.ref wB), .val (.ref wC), .val (.ref wD), .val (.ref wE), .val (.ref wF), .val (.ref oH), .val (.ref oS), .val (.ref oT), .val (.ref ev), .val (.int (own_n ((lH ++ lS) ++ lT))), .val (.ref b1), .val (.ref r_44)] []))
    refine own_on (fun t_ k_ => XS.aload X60.here hx rfl (hb hby at_458) rfl rfl k_) ?_
    show OwnGo p e below s _ _ _ (T60.setTop (mkF m 460 #[.val (.int xa), .val (.int xb), .val (.int xc), .val (.int (own_n lH)), .val (.int (own_n lS)), .val (.int (own_n lT)), .val (.ref wA), .val (.ref wB), .val (.ref wC), .val (.ref wD), .val (.ref wE), .val (.ref wF), .val (.ref oH), .val (.ref oS), .val (.ref oT), .val (.ref ev), .val (.int (own_n ((lH ++ lS) ++ lT))), .val (.ref b1), .val (.ref r_44)] [(.ref oT)]))
    have f61 : Fld Z T44.heap oT "java/util/ArrayList" "size" "I" (.int (own_n lT)) := f37.keep K44q nin0
    have f62 : Exa Z T44.heap oT "java/util/ArrayList" := f33.keep K44q
    obtain ⟨cq63, kq63, q63a, q63b, q63c⟩ := isOf hZ e60 f62
    obtain ⟨_, _, ⟨T63, L63, k63, n63⟩, -, X63, ⟨Lc63, hQ63, l63, y63, z63⟩, st63⟩ := X60.interfaceBack hx (xi := (⟨"java/util/List", "size", "()I"⟩ : MethodName)) (y := (⟨"java/util/ArrayList", "size", "()I"⟩ : MethodName)) hown (mvT hZ (w122 hw)) (mvT hZ (w123 hw)) (mvT hZ (w124 hw)) (mvT hZ (w125 hw)) (mvT hZ (w126 hw)) (mvT hZ (w127 hw)) (mvT hZ (w128 hw)) (mvT hZ (w129 hw)) (by decide) (backOf (W := 0) (rm18 l Z a0 hw [] oT lT T44.heap n0 Z44 f61) hZ (w130 hw) (w28 hw) (by decide) (by decide)) q63a q63b q63c (g := (mkF m 460 #[.val (.int xa), .val (.int xb), .val (.int xc), .val (.int (own_n lH)), .val (.int (own_n lS)), .val (.int (own_n lT)), .val (.ref wA), .val (.ref wB), .val (.ref wC), .val (.ref wD), .val (.ref wE), .val (.ref wF), .val (.ref oH), .val (.ref oS), .val (.ref oT), .val (.ref ev), .val (.int (own_n ((lH ++ lS) ++ lT))), .val (.ref b1), .val (.ref r_44)] [(.ref oT)])) rfl (by rw [hml]; rfl) (Steps.refl _) (argsL := []) (rest := []) (lenOf pd_18 rfl) rfl (by show 2 * 0 + _ ≤ _; exact Nat.le_of_eq rfl) (hb hby at_460) (fun _ hWx => ⟨rfl, e60, (by decide : 33 + 0 ≤ _), (by decide : 186 + 0 ≤ _)⟩)
    dsimp only [Pt.U, Pt.locs, Pt.cells, Pt.slots] at X63 l63 y63 z63 st63 hQ63
    replace X63 := own_num (c' := 33) (n' := 186) X63 l63 (y63.trans rfl) (z63.trans rfl)
    obtain ⟨rfl, N63q, e63⟩ := hQ63
    have N63 := Fr.app N60 N63q
    refine own_tr st63 ?_
    show OwnGo p e below s _ _ _ (T63.setTop (mkF m 465 #[.val (.int xa), .val (.int xb), .val (.int xc), .val (.int (own_n lH)), .val (.int (own_n lS)), .val (.int (own_n lT)), .val (.ref wA), .val (.ref wB), .val (.ref wC), .val (.ref wD), .val (.ref wE), .val (.ref wF), .val (.ref oH), .val (.ref oS), .val (.ref oT), .val (.ref ev), .val (.int (own_n ((lH ++ lS) ++ lT))), .val (.ref b1), .val (.ref r_44)] [(.int (own_n lT))]))
    refine own_on (fun t_ k_ => XS.iload X63.here hx rfl (hb hby at_465) rfl k_) ?_
    show OwnGo p e below s _ _ _ (T63.setTop (mkF m 467 #[.val (.int xa), .val (.int xb), .val (.int xc), .val (.int (own_n lH)), .val (.int (own_n lS)), .val (.int (own_n lT)), .val (.ref wA), .val (.ref wB), .val (.ref wC), .val (.ref wD), .val (.ref wE), .val (.ref wF), .val (.ref oH), .val (.ref oS), .val (.ref oT), .val (.ref ev), .val (.int (own_n ((lH ++ lS) ++ lT))), .val (.ref b1), .val (.ref r_44)] [(.int (own_n lT)), (.int (own_n lT))]))
    refine own_on (fun t_ k_ => XS.icmpNo X63.here hx rfl (hb hby at_467) rfl (teq rfl).2 k_) ?_
    show OwnGo p e below s _ _ _ (T63.setTop (mkF m 470 #[.val (.int xa), .val (.int xb), .val (.int xc), .val (.int (own_n lH)), .val (.int (own_n lS)), .val (.int (own_n lT)), .val (.ref wA), .val (.ref wB), .val (.ref wC), .val (.ref wD), .val (.ref wE), .val (.ref wF), .val (.ref oH), .val (.ref oS), .val (.ref oT), .val (.ref ev), .val (.int (own_n ((lH ++ lS) ++ lT))), .val (.ref b1), .val (.ref r_44)] []))
    refine own_on (fun t_ k_ => XS.iconst X63.here hx rfl (hb hby at_470) k_) ?_
    show OwnGo p e below s _ _ _ (T63.setTop (mkF m 471 #[.val (.int xa), .val (.int xb), .val (.int xc), .val (.int (own_n lH)), .val (.int (own_n lS)), .val (.int (own_n lT)), .val (.ref wA), .val (.ref wB), .val (.ref wC), .val (.ref wD), .val (.ref wE), .val (.ref wF), .val (.ref oH), .val (.ref oS), .val (.ref oT), .val (.ref ev), .val (.int (own_n ((lH ++ lS) ++ lT))), .val (.ref b1), .val (.ref r_44)] [(.int (1 : Int32))]))
    refine own_on (fun t_ k_ => XS.goto X63.here hx rfl (pc0 := 471) (pc' := 475) rfl (hb hby at_471) (by decide) (by decide) k_) ?_
    show OwnGo p e below s _ _ _ (T63.setTop (mkF m 475 #[.val (.int xa), .val (.int xb), .val (.int xc), .val (.int (own_n lH)), .val (.int (own_n lS)), .val (.int (own_n lT)), .val (.ref wA), .val (.ref wB), .val (.ref wC), .val (.ref wD), .val (.ref wE), .val (.ref wF), .val (.ref oH), .val (.ref oS), .val (.ref oT), .val (.ref ev), .val (.int (own_n ((lH ++ lS) ++ lT))), .val (.ref b1), .val (.ref r_44)] [(.int (1 : Int32))]))
    exact own_retN X63 hx hlk (t := .boolean) Bd.returns (by simp) (hb hby at_475) e63 ⟨rfl, N63, K44⟩ (by decide) (by decide)
  have J290 : ∀ (Tq : State) (hq : Heap) (lq : List Loc) (Xq : Stand p l e room_1 s m #[(.int xa), (.int xb), (.int xc)] below meth c Tq lq 26 130) (eq : Tq.heap = hq) (Nq : Fr n0 lq) (Zq : n0 ≤ hq.size) (Kq : Keep h0 hq []) (vH : Int32) (vS : Int32) (vT : Int32) (wA : Addr) (wB : Addr) (wC : Addr) (wD : Addr) (wE : Addr) (wF : Addr) (oH : Addr) (eaH : Addr) (cpH : Nat) (lH : List Addr) (oS : Addr) (eaS : Addr) (cpS : Nat) (lS : List Addr) (oT : Addr) (eaT : Addr) (cpT : Nat) (lT : List Addr) (ev : Addr) (ke : ClassId) (fq0 : Exa Z hq oH "java/util/ArrayList") (fq1 : Fld Z hq oH "java/util/ArrayList" "elementData" "[Ljava/lang/Object;" (.ref eaH)) (fq2 : Fld Z hq oH "java/util/ArrayList" "size" "I" (.int (own_n lH))) (fq3 : OwnA Z hq eaH cpH lH) (fq4 : OwnE Z hq lH) (fq5 : Exa Z hq oS "java/util/ArrayList") (fq6 : Fld Z hq oS "java/util/ArrayList" "elementData" "[Ljava/lang/Object;" (.ref eaS)) (fq7 : Fld Z hq oS "java/util/ArrayList" "size" "I" (.int (own_n lS))) (fq8 : OwnA Z hq eaS cpS lS) (fq9 : OwnE Z hq lS) (fq10 : Exa Z hq oT "java/util/ArrayList") (fq11 : Fld Z hq oT "java/util/ArrayList" "elementData" "[Ljava/lang/Object;" (.ref eaT)) (fq12 : Fld Z hq oT "java/util/ArrayList" "size" "I" (.int (own_n lT))) (fq13 : OwnA Z hq eaT cpT lT) (fq14 : OwnE Z hq lT) (fq15 : Old Z n0 hq) (fq16 : Exa Z hq wA "java/lang/String") (fq17 : Exa Z hq wB "java/lang/String") (fq18 : Exa Z hq wC "java/lang/String") (fq19 : Exa Z hq wD "java/lang/String") (fq20 : Exa Z hq wE "java/lang/String") (fq21 : Exa Z hq wF "java/lang/String") (fq22 : own_case vH lH wA wB) (fq23 : own_case vS lS wC wD) (fq24 : own_case vT lT wE wF) (fq25 : Arv Z hq ev ke (.object "java/lang/String") (6 : Int32) ((lH ++ lS).map Value.ref) .null) (fq26 : n0 ≤ ev) (fq27 : h0.size ≤ ev) (fq28 : Ovr Z ke "java/lang/String") (fq29 : oH ≠ ev) (fq30 : eaH ≠ ev) (fq31 : oS ≠ ev) (fq32 : eaS ≠ ev) (fq33 : oT ≠ ev) (fq34 : eaT ≠ ev), OwnGo p e below s (Q0 Z xa xb xc cs dc em mr ml h0 n0) room_1.cells room_1.slots (Tq.setTop (mkF m 290 #[.val (.int xa), .val (.int xb), .val (.int xc), .val (.int vH), .val (.int vS), .val (.int vT), .val (.ref wA), .val (.ref wB), .val (.ref wC), .val (.ref wD), .val (.ref wE), .val (.ref wF), .val (.ref oH), .val (.ref oS), .val (.ref oT), .val (.ref ev), .val (.int (own_n (lH ++ lS))), .unset, .unset] [])) := by
    intro Tq hq lq Xq eq Nq Zq Kq vH vS vT wA wB wC wD wE wF oH eaH cpH lH oS eaS cpS lS oT eaT cpT lT ev ke fq0 fq1 fq2 fq3 fq4 fq5 fq6 fq7 fq8 fq9 fq10 fq11 fq12 fq13 fq14 fq15 fq16 fq17 fq18 fq19 fq20 fq21 fq22 fq23 fq24 fq25 fq26 fq27 fq28 fq29 fq30 fq31 fq32 fq33 fq34
    have hnH := fq22.len
    have hnS := fq23.len
    have hnT := fq24.len
    have hcase := fq24
    rcases fq24 with ⟨hv, hl⟩ | ⟨hv, hl⟩ | ⟨hv, hl⟩
    · have hlen : lT.length = 0 := by rw [hl]; rfl
      rw [show vT = (0 : Int32) from hv]
      show OwnGo p e below s _ _ _ (Tq.setTop (mkF m 290 #[.val (.int xa), .val (.int xb), .val (.int xc), .val (.int vH), .val (.int vS), .val (.int (0 : Int32)), .val (.ref wA), .val (.ref wB), .val (.ref wC), .val (.ref wD), .val (.ref wE), .val (.ref wF), .val (.ref oH), .val (.ref oS), .val (.ref oT), .val (.ref ev), .val (.int (own_n (lH ++ lS))), .unset, .unset] []))
      refine own_on (fun t_ k_ => XS.iload Xq.here hx rfl (hb hby at_290) rfl k_) ?_
      show OwnGo p e below s _ _ _ (Tq.setTop (mkF m 292 #[.val (.int xa), .val (.int xb), .val (.int xc), .val (.int vH), .val (.int vS), .val (.int (0 : Int32)), .val (.ref wA), .val (.ref wB), .val (.ref wC), .val (.ref wD), .val (.ref wE), .val (.ref wF), .val (.ref oH), .val (.ref oS), .val (.ref oT), .val (.ref ev), .val (.int (own_n (lH ++ lS))), .unset, .unset] [(.int (0 : Int32))]))
      refine own_on (fun t_ k_ => XS.ifYes Xq.here hx rfl (pc0 := 292) (pc' := 305) rfl (hb hby at_292) rfl ((if0 _ _).trans (flt (by decide : ¬ ((0 : Int32) < (0 : Int32)))).2.2.2) (by decide) (by decide) k_) ?_
      show OwnGo p e below s _ _ _ (Tq.setTop (mkF m 305 #[.val (.int xa), .val (.int xb), .val (.int xc), .val (.int vH), .val (.int vS), .val (.int (0 : Int32)), .val (.ref wA), .val (.ref wB), .val (.ref wC), .val (.ref wD), .val (.ref wE), .val (.ref wF), .val (.ref oH), .val (.ref oS), .val (.ref oT), .val (.ref ev), .val (.int (own_n (lH ++ lS))), .unset, .unset] []))
      refine own_on (fun t_ k_ => XS.iload Xq.here hx rfl (hb hby at_305) rfl k_) ?_
      show OwnGo p e below s _ _ _ (Tq.setTop (mkF m 307 #[.val (.int xa), .val (.int xb), .val (.int xc), .val (.int vH), .val (.int vS), .val (.int (0 : Int32)), .val (.ref wA), .val (.ref wB), .val (.ref wC), .val (.ref wD), .val (.ref wE), .val (.ref wF), .val (.ref oH), .val (.ref oS), .val (.ref oT), .val (.ref ev), .val (.int (own_n (lH ++ lS))), .unset, .unset] [(.int (0 : Int32))]))
      refine own_on (fun t_ k_ => XS.iconst Xq.here hx rfl (hb hby at_307) k_) ?_
      show OwnGo p e below s _ _ _ (Tq.setTop (mkF m 308 #[.val (.int xa), .val (.int xb), .val (.int xc), .val (.int vH), .val (.int vS), .val (.int (0 : Int32)), .val (.ref wA), .val (.ref wB), .val (.ref wC), .val (.ref wD), .val (.ref wE), .val (.ref wF), .val (.ref oH), .val (.ref oS), .val (.ref oT), .val (.ref ev), .val (.int (own_n (lH ++ lS))), .unset, .unset] [(.int (1 : Int32)), (.int (0 : Int32))]))
      refine own_on (fun t_ k_ => XS.icmpYes Xq.here hx rfl (pc0 := 308) (pc' := 321) rfl (hb hby at_308) rfl (flt (by decide : ¬ ((1 : Int32) < (0 : Int32)))).2.2.2 (by decide) (by decide) k_) ?_
      show OwnGo p e below s _ _ _ (Tq.setTop (mkF m 321 #[.val (.int xa), .val (.int xb), .val (.int xc), .val (.int vH), .val (.int vS), .val (.int (0 : Int32)), .val (.ref wA), .val (.ref wB), .val (.ref wC), .val (.ref wD), .val (.ref wE), .val (.ref wF), .val (.ref oH), .val (.ref oS), .val (.ref oT), .val (.ref ev), .val (.int (own_n (lH ++ lS))), .unset, .unset] []))
      have hes : (lH ++ lS) = ((lH ++ lS) ++ lT) := by rw [hl]; simp [own_nil]
      rw [show (own_n (lH ++ lS)) = (own_n ((lH ++ lS) ++ lT)) from congrArg own_n hes]
      show OwnGo p e below s _ _ _ (Tq.setTop (mkF m 321 #[.val (.int xa), .val (.int xb), .val (.int xc), .val (.int vH), .val (.int vS), .val (.int (0 : Int32)), .val (.ref wA), .val (.ref wB), .val (.ref wC), .val (.ref wD), .val (.ref wE), .val (.ref wF), .val (.ref oH), .val (.ref oS), .val (.ref oT), .val (.ref ev), .val (.int (own_n ((lH ++ lS) ++ lT))), .unset, .unset] []))
      have f64 : Arv Z hq ev ke (.object "java/lang/String") (6 : Int32) (((lH ++ lS) ++ lT).map Value.ref) .null := by rw [← hes]; exact fq25
      have hc65 : own_case (0 : Int32) lT wE wF := hv ▸ hcase
      exact J321 _ _ _ (Xq.more (by decide) (by decide)) eq Nq Zq Kq vH vS (0 : Int32) wA wB wC wD wE wF oH eaH cpH lH oS eaS cpS lS oT eaT cpT lT ev ke fq0 fq1 fq2 fq3 fq4 fq5 fq6 fq7 fq8 fq9 fq10 fq11 fq12 fq13 fq14 fq15 fq22 fq23 hc65 f64
    · have hlen : lT.length = 1 := by rw [hl]; rfl
      rw [show vT = (1 : Int32) from hv]
      show OwnGo p e below s _ _ _ (Tq.setTop (mkF m 290 #[.val (.int xa), .val (.int xb), .val (.int xc), .val (.int vH), .val (.int vS), .val (.int (1 : Int32)), .val (.ref wA), .val (.ref wB), .val (.ref wC), .val (.ref wD), .val (.ref wE), .val (.ref wF), .val (.ref oH), .val (.ref oS), .val (.ref oT), .val (.ref ev), .val (.int (own_n (lH ++ lS))), .unset, .unset] []))
      refine own_on (fun t_ k_ => XS.iload Xq.here hx rfl (hb hby at_290) rfl k_) ?_
      show OwnGo p e below s _ _ _ (Tq.setTop (mkF m 292 #[.val (.int xa), .val (.int xb), .val (.int xc), .val (.int vH), .val (.int vS), .val (.int (1 : Int32)), .val (.ref wA), .val (.ref wB), .val (.ref wC), .val (.ref wD), .val (.ref wE), .val (.ref wF), .val (.ref oH), .val (.ref oS), .val (.ref oT), .val (.ref ev), .val (.int (own_n (lH ++ lS))), .unset, .unset] [(.int (1 : Int32))]))
      refine own_on (fun t_ k_ => XS.ifNo Xq.here hx rfl (hb hby at_292) rfl ((if0 _ _).trans (tlt (by decide : (0 : Int32) < (1 : Int32))).2.2.2) k_) ?_
      show OwnGo p e below s _ _ _ (Tq.setTop (mkF m 295 #[.val (.int xa), .val (.int xb), .val (.int xc), .val (.int vH), .val (.int vS), .val (.int (1 : Int32)), .val (.ref wA), .val (.ref wB), .val (.ref wC), .val (.ref wD), .val (.ref wE), .val (.ref wF), .val (.ref oH), .val (.ref oS), .val (.ref oT), .val (.ref ev), .val (.int (own_n (lH ++ lS))), .unset, .unset] []))
      refine own_on (fun t_ k_ => XS.aload Xq.here hx rfl (hb hby at_295) rfl rfl k_) ?_
      show OwnGo p e below s _ _ _ (Tq.setTop (mkF m 297 #[.val (.int xa), .val (.int xb), .val (.int xc), .val (.int vH), .val (.int vS), .val (.int (1 : Int32)), .val (.ref wA), .val (.ref wB), .val (.ref wC), .val (.ref wD), .val (.ref wE), .val (.ref wF), .val (.ref oH), .val (.ref oS), .val (.ref oT), .val (.ref ev), .val (.int (own_n (lH ++ lS))), .unset, .unset] [(.ref ev)]))
      refine own_on (fun t_ k_ => XS.iload Xq.here hx rfl (hb hby at_297) rfl k_) ?_
      show OwnGo p e below s _ _ _ (Tq.setTop (mkF m 299 #[.val (.int xa), .val (.int xb), .val (.int xc), .val (.int vH), .val (.int vS), .val (.int (1 : Int32)), .val (.ref wA), .val (.ref wB), .val (.ref wC), .val (.ref wD), .val (.ref wE), .val (.ref wF), .val (.ref oH), .val (.ref oS), .val (.ref oT), .val (.ref ev), .val (.int (own_n (lH ++ lS))), .unset, .unset] [(.int (own_n (lH ++ lS))), (.ref ev)]))
      refine own_on (fun t_ k_ => XS.aload Xq.here hx rfl (hb hby at_299) rfl rfl k_) ?_
      show OwnGo p e below s _ _ _ (Tq.setTop (mkF m 301 #[.val (.int xa), .val (.int xb), .val (.int xc), .val (.int vH), .val (.int vS), .val (.int (1 : Int32)), .val (.ref wA), .val (.ref wB), .val (.ref wC), .val (.ref wD), .val (.ref wE), .val (.ref wF), .val (.ref oH), .val (.ref oS), .val (.ref oT), .val (.ref ev), .val (.int (own_n (lH ++ lS))), .unset, .unset] [(.ref wE), (.int (own_n (lH ++ lS))), (.ref ev)]))
      obtain ⟨cl66, Ar66, q66, S66, M66, H66, G66⟩ := id fq25
      have hlt67 : (lH ++ lS).length < 6 := by (first | omega | (simp [own_nil]; omega) | (simp [own_nil]))
      have hin66 : ¬ ((own_n (lH ++ lS)) < 0 ∨ cl66.slots.size ≤ ((own_n (lH ++ lS))).toNatClampNeg) := inb_of S66 ⟨own_onN (by omega), (own_lt' (y := 6) (by omega) (by omega)).mpr hlt67⟩
      obtain ⟨T68, h68, X68, e68, W68, st68⟩ := stR Xq hx hZ eq Ar66 (j := (own_n (lH ++ lS))) hin66 rfl (Sto.of Ar66 (by rw [q66]; exact fq28) (Ins.self fq20)) (g := (mkF m 301 #[.val (.int xa), .val (.int xb), .val (.int xc), .val (.int vH), .val (.int vS), .val (.int (1 : Int32)), .val (.ref wA), .val (.ref wB), .val (.ref wC), .val (.ref wD), .val (.ref wE), .val (.ref wF), .val (.ref oH), .val (.ref oS), .val (.ref oT), .val (.ref ev), .val (.int (own_n (lH ++ lS))), .unset, .unset] [(.ref wE), (.int (own_n (lH ++ lS))), (.ref ev)])) rfl rfl (hb hby at_301)
      have V68 : Arv Z h68 ev ke (.object "java/lang/String") (6 : Int32) (((lH ++ lS) ++ [wE]).map Value.ref) .null := own_setS hlt67 rfl Ar66 q66 S66 M66 H66 G66 rfl rfl W68
      have N68 := Fr.snoc X68 Nq fq26
      have Z68 : n0 ≤ h68.size := Nat.le_trans Zq (Keep.of_wr W68).1
      have K68 : Keep h0 h68 [] := Kq.wr W68 (Or.inr fq27)
      refine own_on st68 ?_
      show OwnGo p e below s _ _ _ (T68.setTop (mkF m 302 #[.val (.int xa), .val (.int xb), .val (.int xc), .val (.int vH), .val (.int vS), .val (.int (1 : Int32)), .val (.ref wA), .val (.ref wB), .val (.ref wC), .val (.ref wD), .val (.ref wE), .val (.ref wF), .val (.ref oH), .val (.ref oS), .val (.ref oT), .val (.ref ev), .val (.int (own_n (lH ++ lS))), .unset, .unset] []))
      refine own_on (fun t_ k_ => XS.iinc X68.here hx rfl (hb hby at_302) rfl (l' := #[.val (.int xa), .val (.int xb), .val (.int xc), .val (.int vH), .val (.int vS), .val (.int (1 : Int32)), .val (.ref wA), .val (.ref wB), .val (.ref wC), .val (.ref wD), .val (.ref wE), .val (.ref wF), .val (.ref oH), .val (.ref oS), .val (.ref oT), .val (.ref ev), .val (.int ((own_n (lH ++ lS)) + (1 : Int32))), .unset, .unset]) rfl k_) ?_
      show OwnGo p e below s _ _ _ (T68.setTop (mkF m 305 #[.val (.int xa), .val (.int xb), .val (.int xc), .val (.int vH), .val (.int vS), .val (.int (1 : Int32)), .val (.ref wA), .val (.ref wB), .val (.ref wC), .val (.ref wD), .val (.ref wE), .val (.ref wF), .val (.ref oH), .val (.ref oS), .val (.ref oT), .val (.ref ev), .val (.int ((own_n (lH ++ lS)) + (1 : Int32))), .unset, .unset] []))
      rw [show ((own_n (lH ++ lS)) + (1 : Int32)) = (own_n ((lH ++ lS) ++ [wE])) from own_napp1 _ _]
      show OwnGo p e below s _ _ _ (T68.setTop (mkF m 305 #[.val (.int xa), .val (.int xb), .val (.int xc), .val (.int vH), .val (.int vS), .val (.int (1 : Int32)), .val (.ref wA), .val (.ref wB), .val (.ref wC), .val (.ref wD), .val (.ref wE), .val (.ref wF), .val (.ref oH), .val (.ref oS), .val (.ref oT), .val (.ref ev), .val (.int (own_n ((lH ++ lS) ++ [wE]))), .unset, .unset] []))
      refine own_on (fun t_ k_ => XS.iload X68.here hx rfl (hb hby at_305) rfl k_) ?_
      show OwnGo p e below s _ _ _ (T68.setTop (mkF m 307 #[.val (.int xa), .val (.int xb), .val (.int xc), .val (.int vH), .val (.int vS), .val (.int (1 : Int32)), .val (.ref wA), .val (.ref wB), .val (.ref wC), .val (.ref wD), .val (.ref wE), .val (.ref wF), .val (.ref oH), .val (.ref oS), .val (.ref oT), .val (.ref ev), .val (.int (own_n ((lH ++ lS) ++ [wE]))), .unset, .unset] [(.int (1 : Int32))]))
      refine own_on (fun t_ k_ => XS.iconst X68.here hx rfl (hb hby at_307) k_) ?_
      show OwnGo p e below s _ _ _ (T68.setTop (mkF m 308 #[.val (.int xa), .val (.int xb), .val (.int xc), .val (.int vH), .val (.int vS), .val (.int (1 : Int32)), .val (.ref wA), .val (.ref wB), .val (.ref wC), .val (.ref wD), .val (.ref wE), .val (.ref wF), .val (.ref oH), .val (.ref oS), .val (.ref oT), .val (.ref ev), .val (.int (own_n ((lH ++ lS) ++ [wE]))), .unset, .unset] [(.int (1 : Int32)), (.int (1 : Int32))]))
      refine own_on (fun t_ k_ => XS.icmpYes X68.here hx rfl (pc0 := 308) (pc' := 321) rfl (hb hby at_308) rfl (flt (by decide : ¬ ((1 : Int32) < (1 : Int32)))).2.2.2 (by decide) (by decide) k_) ?_
      show OwnGo p e below s _ _ _ (T68.setTop (mkF m 321 #[.val (.int xa), .val (.int xb), .val (.int xc), .val (.int vH), .val (.int vS), .val (.int (1 : Int32)), .val (.ref wA), .val (.ref wB), .val (.ref wC), .val (.ref wD), .val (.ref wE), .val (.ref wF), .val (.ref oH), .val (.ref oS), .val (.ref oT), .val (.ref ev), .val (.int (own_n ((lH ++ lS) ++ [wE]))), .unset, .unset] []))
      have hes : ((lH ++ lS) ++ [wE]) = ((lH ++ lS) ++ lT) := by rw [hl]; simp [own_nil]
      rw [show (own_n ((lH ++ lS) ++ [wE])) = (own_n ((lH ++ lS) ++ lT)) from congrArg own_n hes]
      show OwnGo p e below s _ _ _ (T68.setTop (mkF m 321 #[.val (.int xa), .val (.int xb), .val (.int xc), .val (.int vH), .val (.int vS), .val (.int (1 : Int32)), .val (.ref wA), .val (.ref wB), .val (.ref wC), .val (.ref wD), .val (.ref wE), .val (.ref wF), .val (.ref oH), .val (.ref oS), .val (.ref oT), .val (.ref ev), .val (.int (own_n ((lH ++ lS) ++ lT))), .unset, .unset] []))
      have f69 : Arv Z h68 ev ke (.object "java/lang/String") (6 : Int32) (((lH ++ lS) ++ lT).map Value.ref) .null := by rw [← hes]; exact V68
      have hc70 : own_case (1 : Int32) lT wE wF := hv ▸ hcase
      have f71 : Exa Z h68 oH "java/util/ArrayList" := fq0.wr W68
      have f72 : Fld Z h68 oH "java/util/ArrayList" "elementData" "[Ljava/lang/Object;" (.ref eaH) := fq1.other W68 (Or.inl fq29)
      have f73 : Fld Z h68 oH "java/util/ArrayList" "size" "I" (.int (own_n lH)) := fq2.other W68 (Or.inl fq29)
      have f74 : OwnA Z h68 eaH cpH lH := fq3.other W68 fq30
      have f75 : OwnE Z h68 lH := fq4.other W68 
      have f76 : Exa Z h68 oS "java/util/ArrayList" := fq5.wr W68
      have f77 : Fld Z h68 oS "java/util/ArrayList" "elementData" "[Ljava/lang/Object;" (.ref eaS) := fq6.other W68 (Or.inl fq31)
      have f78 : Fld Z h68 oS "java/util/ArrayList" "size" "I" (.int (own_n lS)) := fq7.other W68 (Or.inl fq31)
      have f79 : OwnA Z h68 eaS cpS lS := fq8.other W68 fq32
      have f80 : OwnE Z h68 lS := fq9.other W68 
      have f81 : Exa Z h68 oT "java/util/ArrayList" := fq10.wr W68
      have f82 : Fld Z h68 oT "java/util/ArrayList" "elementData" "[Ljava/lang/Object;" (.ref eaT) := fq11.other W68 (Or.inl fq33)
      have f83 : Fld Z h68 oT "java/util/ArrayList" "size" "I" (.int (own_n lT)) := fq12.other W68 (Or.inl fq33)
      have f84 : OwnA Z h68 eaT cpT lT := fq13.other W68 fq34
      have f85 : OwnE Z h68 lT := fq14.other W68 
      have f86 : Old Z n0 h68 := fq15.wr W68 fq26
      exact J321 _ _ _ (X68.more (by decide) (by decide)) e68 N68 Z68 K68 vH vS (1 : Int32) wA wB wC wD wE wF oH eaH cpH lH oS eaS cpS lS oT eaT cpT lT ev ke f71 f72 f73 f74 f75 f76 f77 f78 f79 f80 f81 f82 f83 f84 f85 f86 fq22 fq23 hc70 f69
    · have hlen : lT.length = 2 := by rw [hl]; rfl
      rw [show vT = (2 : Int32) from hv]
      show OwnGo p e below s _ _ _ (Tq.setTop (mkF m 290 #[.val (.int xa), .val (.int xb), .val (.int xc), .val (.int vH), .val (.int vS), .val (.int (2 : Int32)), .val (.ref wA), .val (.ref wB), .val (.ref wC), .val (.ref wD), .val (.ref wE), .val (.ref wF), .val (.ref oH), .val (.ref oS), .val (.ref oT), .val (.ref ev), .val (.int (own_n (lH ++ lS))), .unset, .unset] []))
      refine own_on (fun t_ k_ => XS.iload Xq.here hx rfl (hb hby at_290) rfl k_) ?_
      show OwnGo p e below s _ _ _ (Tq.setTop (mkF m 292 #[.val (.int xa), .val (.int xb), .val (.int xc), .val (.int vH), .val (.int vS), .val (.int (2 : Int32)), .val (.ref wA), .val (.ref wB), .val (.ref wC), .val (.ref wD), .val (.ref wE), .val (.ref wF), .val (.ref oH), .val (.ref oS), .val (.ref oT), .val (.ref ev), .val (.int (own_n (lH ++ lS))), .unset, .unset] [(.int (2 : Int32))]))
      refine own_on (fun t_ k_ => XS.ifNo Xq.here hx rfl (hb hby at_292) rfl ((if0 _ _).trans (tlt (by decide : (0 : Int32) < (2 : Int32))).2.2.2) k_) ?_
      show OwnGo p e below s _ _ _ (Tq.setTop (mkF m 295 #[.val (.int xa), .val (.int xb), .val (.int xc), .val (.int vH), .val (.int vS), .val (.int (2 : Int32)), .val (.ref wA), .val (.ref wB), .val (.ref wC), .val (.ref wD), .val (.ref wE), .val (.ref wF), .val (.ref oH), .val (.ref oS), .val (.ref oT), .val (.ref ev), .val (.int (own_n (lH ++ lS))), .unset, .unset] []))
      refine own_on (fun t_ k_ => XS.aload Xq.here hx rfl (hb hby at_295) rfl rfl k_) ?_
      show OwnGo p e below s _ _ _ (Tq.setTop (mkF m 297 #[.val (.int xa), .val (.int xb), .val (.int xc), .val (.int vH), .val (.int vS), .val (.int (2 : Int32)), .val (.ref wA), .val (.ref wB), .val (.ref wC), .val (.ref wD), .val (.ref wE), .val (.ref wF), .val (.ref oH), .val (.ref oS), .val (.ref oT), .val (.ref ev), .val (.int (own_n (lH ++ lS))), .unset, .unset] [(.ref ev)]))
      refine own_on (fun t_ k_ => XS.iload Xq.here hx rfl (hb hby at_297) rfl k_) ?_
      show OwnGo p e below s _ _ _ (Tq.setTop (mkF m 299 #[.val (.int xa), .val (.int xb), .val (.int xc), .val (.int vH), .val (.int vS), .val (.int (2 : Int32)), .val (.ref wA), .val (.ref wB), .val (.ref wC), .val (.ref wD), .val (.ref wE), .val (.ref wF), .val (.ref oH), .val (.ref oS), .val (.ref oT), .val (.ref ev), .val (.int (own_n (lH ++ lS))), .unset, .unset] [(.int (own_n (lH ++ lS))), (.ref ev)]))
      refine own_on (fun t_ k_ => XS.aload Xq.here hx rfl (hb hby at_299) rfl rfl k_) ?_
      show OwnGo p e below s _ _ _ (Tq.setTop (mkF m 301 #[.val (.int xa), .val (.int xb), .val (.int xc), .val (.int vH), .val (.int vS), .val (.int (2 : Int32)), .val (.ref wA), .val (.ref wB), .val (.ref wC), .val (.ref wD), .val (.ref wE), .val (.ref wF), .val (.ref oH), .val (.ref oS), .val (.ref oT), .val (.ref ev), .val (.int (own_n (lH ++ lS))), .unset, .unset] [(.ref wE), (.int (own_n (lH ++ lS))), (.ref ev)]))
      obtain ⟨cl87, Ar87, q87, S87, M87, H87, G87⟩ := id fq25
      have hlt88 : (lH ++ lS).length < 6 := by (first | omega | (simp [own_nil]; omega) | (simp [own_nil]))
      have hin87 : ¬ ((own_n (lH ++ lS)) < 0 ∨ cl87.slots.size ≤ ((own_n (lH ++ lS))).toNatClampNeg) := inb_of S87 ⟨own_onN (by omega), (own_lt' (y := 6) (by omega) (by omega)).mpr hlt88⟩
      obtain ⟨T89, h89, X89, e89, W89, st89⟩ := stR Xq hx hZ eq Ar87 (j := (own_n (lH ++ lS))) hin87 rfl (Sto.of Ar87 (by rw [q87]; exact fq28) (Ins.self fq20)) (g := (mkF m 301 #[.val (.int xa), .val (.int xb), .val (.int xc), .val (.int vH), .val (.int vS), .val (.int (2 : Int32)), .val (.ref wA), .val (.ref wB), .val (.ref wC), .val (.ref wD), .val (.ref wE), .val (.ref wF), .val (.ref oH), .val (.ref oS), .val (.ref oT), .val (.ref ev), .val (.int (own_n (lH ++ lS))), .unset, .unset] [(.ref wE), (.int (own_n (lH ++ lS))), (.ref ev)])) rfl rfl (hb hby at_301)
      have V89 : Arv Z h89 ev ke (.object "java/lang/String") (6 : Int32) (((lH ++ lS) ++ [wE]).map Value.ref) .null := own_setS hlt88 rfl Ar87 q87 S87 M87 H87 G87 rfl rfl W89
      have N89 := Fr.snoc X89 Nq fq26
      have Z89 : n0 ≤ h89.size := Nat.le_trans Zq (Keep.of_wr W89).1
      have K89 : Keep h0 h89 [] := Kq.wr W89 (Or.inr fq27)
      refine own_on st89 ?_
      show OwnGo p e below s _ _ _ (T89.setTop (mkF m 302 #[.val (.int xa), .val (.int xb), .val (.int xc), .val (.int vH), .val (.int vS), .val (.int (2 : Int32)), .val (.ref wA), .val (.ref wB), .val (.ref wC), .val (.ref wD), .val (.ref wE), .val (.ref wF), .val (.ref oH), .val (.ref oS), .val (.ref oT), .val (.ref ev), .val (.int (own_n (lH ++ lS))), .unset, .unset] []))
      refine own_on (fun t_ k_ => XS.iinc X89.here hx rfl (hb hby at_302) rfl (l' := #[.val (.int xa), .val (.int xb), .val (.int xc), .val (.int vH), .val (.int vS), .val (.int (2 : Int32)), .val (.ref wA), .val (.ref wB), .val (.ref wC), .val (.ref wD), .val (.ref wE), .val (.ref wF), .val (.ref oH), .val (.ref oS), .val (.ref oT), .val (.ref ev), .val (.int ((own_n (lH ++ lS)) + (1 : Int32))), .unset, .unset]) rfl k_) ?_
      show OwnGo p e below s _ _ _ (T89.setTop (mkF m 305 #[.val (.int xa), .val (.int xb), .val (.int xc), .val (.int vH), .val (.int vS), .val (.int (2 : Int32)), .val (.ref wA), .val (.ref wB), .val (.ref wC), .val (.ref wD), .val (.ref wE), .val (.ref wF), .val (.ref oH), .val (.ref oS), .val (.ref oT), .val (.ref ev), .val (.int ((own_n (lH ++ lS)) + (1 : Int32))), .unset, .unset] []))
      rw [show ((own_n (lH ++ lS)) + (1 : Int32)) = (own_n ((lH ++ lS) ++ [wE])) from own_napp1 _ _]
      show OwnGo p e below s _ _ _ (T89.setTop (mkF m 305 #[.val (.int xa), .val (.int xb), .val (.int xc), .val (.int vH), .val (.int vS), .val (.int (2 : Int32)), .val (.ref wA), .val (.ref wB), .val (.ref wC), .val (.ref wD), .val (.ref wE), .val (.ref wF), .val (.ref oH), .val (.ref oS), .val (.ref oT), .val (.ref ev), .val (.int (own_n ((lH ++ lS) ++ [wE]))), .unset, .unset] []))
      refine own_on (fun t_ k_ => XS.iload X89.here hx rfl (hb hby at_305) rfl k_) ?_
      show OwnGo p e below s _ _ _ (T89.setTop (mkF m 307 #[.val (.int xa), .val (.int xb), .val (.int xc), .val (.int vH), .val (.int vS), .val (.int (2 : Int32)), .val (.ref wA), .val (.ref wB), .val (.ref wC), .val (.ref wD), .val (.ref wE), .val (.ref wF), .val (.ref oH), .val (.ref oS), .val (.ref oT), .val (.ref ev), .val (.int (own_n ((lH ++ lS) ++ [wE]))), .unset, .unset] [(.int (2 : Int32))]))
      refine own_on (fun t_ k_ => XS.iconst X89.here hx rfl (hb hby at_307) k_) ?_
      show OwnGo p e below s _ _ _ (T89.setTop (mkF m 308 #[.val (.int xa), .val (.int xb), .val (.int xc), .val (.int vH), .val (.int vS), .val (.int (2 : Int32)), .val (.ref wA), .val (.ref wB), .val (.ref wC), .val (.ref wD), .val (.ref wE), .val (.ref wF), .val (.ref oH), .val (.ref oS), .val (.ref oT), .val (.ref ev), .val (.int (own_n ((lH ++ lS) ++ [wE]))), .unset, .unset] [(.int (1 : Int32)), (.int (2 : Int32))]))
      refine own_on (fun t_ k_ => XS.icmpNo X89.here hx rfl (hb hby at_308) rfl (tlt (by decide : (1 : Int32) < (2 : Int32))).2.2.2 k_) ?_
      show OwnGo p e below s _ _ _ (T89.setTop (mkF m 311 #[.val (.int xa), .val (.int xb), .val (.int xc), .val (.int vH), .val (.int vS), .val (.int (2 : Int32)), .val (.ref wA), .val (.ref wB), .val (.ref wC), .val (.ref wD), .val (.ref wE), .val (.ref wF), .val (.ref oH), .val (.ref oS), .val (.ref oT), .val (.ref ev), .val (.int (own_n ((lH ++ lS) ++ [wE]))), .unset, .unset] []))
      refine own_on (fun t_ k_ => XS.aload X89.here hx rfl (hb hby at_311) rfl rfl k_) ?_
      show OwnGo p e below s _ _ _ (T89.setTop (mkF m 313 #[.val (.int xa), .val (.int xb), .val (.int xc), .val (.int vH), .val (.int vS), .val (.int (2 : Int32)), .val (.ref wA), .val (.ref wB), .val (.ref wC), .val (.ref wD), .val (.ref wE), .val (.ref wF), .val (.ref oH), .val (.ref oS), .val (.ref oT), .val (.ref ev), .val (.int (own_n ((lH ++ lS) ++ [wE]))), .unset, .unset] [(.ref ev)]))
      refine own_on (fun t_ k_ => XS.iload X89.here hx rfl (hb hby at_313) rfl k_) ?_
      show OwnGo p e below s _ _ _ (T89.setTop (mkF m 315 #[.val (.int xa), .val (.int xb), .val (.int xc), .val (.int vH), .val (.int vS), .val (.int (2 : Int32)), .val (.ref wA), .val (.ref wB), .val (.ref wC), .val (.ref wD), .val (.ref wE), .val (.ref wF), .val (.ref oH), .val (.ref oS), .val (.ref oT), .val (.ref ev), .val (.int (own_n ((lH ++ lS) ++ [wE]))), .unset, .unset] [(.int (own_n ((lH ++ lS) ++ [wE]))), (.ref ev)]))
      refine own_on (fun t_ k_ => XS.aload X89.here hx rfl (hb hby at_315) rfl rfl k_) ?_
      show OwnGo p e below s _ _ _ (T89.setTop (mkF m 317 #[.val (.int xa), .val (.int xb), .val (.int xc), .val (.int vH), .val (.int vS), .val (.int (2 : Int32)), .val (.ref wA), .val (.ref wB), .val (.ref wC), .val (.ref wD), .val (.ref wE), .val (.ref wF), .val (.ref oH), .val (.ref oS), .val (.ref oT), .val (.ref ev), .val (.int (own_n ((lH ++ lS) ++ [wE]))), .unset, .unset] [(.ref wF), (.int (own_n ((lH ++ lS) ++ [wE]))), (.ref ev)]))
      obtain ⟨cl90, Ar90, q90, S90, M90, H90, G90⟩ := id V89
      have f91 : Exa Z h89 wF "java/lang/String" := fq21.wr W89
      have hlt92 : ((lH ++ lS) ++ [wE]).length < 6 := by (first | omega | (simp [own_nil]; omega) | (simp [own_nil]))
      have hin90 : ¬ ((own_n ((lH ++ lS) ++ [wE])) < 0 ∨ cl90.slots.size ≤ ((own_n ((lH ++ lS) ++ [wE]))).toNatClampNeg) := inb_of S90 ⟨own_onN (by omega), (own_lt' (y := 6) (by omega) (by omega)).mpr hlt92⟩
      obtain ⟨T93, h93, X93, e93, W93, st93⟩ := stR X89 hx hZ e89 Ar90 (j := (own_n ((lH ++ lS) ++ [wE]))) hin90 rfl (Sto.of Ar90 (by rw [q90]; exact fq28) (Ins.self f91)) (g := (mkF m 317 #[.val (.int xa), .val (.int xb), .val (.int xc), .val (.int vH), .val (.int vS), .val (.int (2 : Int32)), .val (.ref wA), .val (.ref wB), .val (.ref wC), .val (.ref wD), .val (.ref wE), .val (.ref wF), .val (.ref oH), .val (.ref oS), .val (.ref oT), .val (.ref ev), .val (.int (own_n ((lH ++ lS) ++ [wE]))), .unset, .unset] [(.ref wF), (.int (own_n ((lH ++ lS) ++ [wE]))), (.ref ev)])) rfl rfl (hb hby at_317)
      have V93 : Arv Z h93 ev ke (.object "java/lang/String") (6 : Int32) ((((lH ++ lS) ++ [wE]) ++ [wF]).map Value.ref) .null := own_setS hlt92 rfl Ar90 q90 S90 M90 H90 G90 rfl rfl W93
      have N93 := Fr.snoc X93 N89 fq26
      have Z93 : n0 ≤ h93.size := Nat.le_trans Z89 (Keep.of_wr W93).1
      have K93 : Keep h0 h93 [] := K89.wr W93 (Or.inr fq27)
      refine own_on st93 ?_
      show OwnGo p e below s _ _ _ (T93.setTop (mkF m 318 #[.val (.int xa), .val (.int xb), .val (.int xc), .val (.int vH), .val (.int vS), .val (.int (2 : Int32)), .val (.ref wA), .val (.ref wB), .val (.ref wC), .val (.ref wD), .val (.ref wE), .val (.ref wF), .val (.ref oH), .val (.ref oS), .val (.ref oT), .val (.ref ev), .val (.int (own_n ((lH ++ lS) ++ [wE]))), .unset, .unset] []))
      refine own_on (fun t_ k_ => XS.iinc X93.here hx rfl (hb hby at_318) rfl (l' := #[.val (.int xa), .val (.int xb), .val (.int xc), .val (.int vH), .val (.int vS), .val (.int (2 : Int32)), .val (.ref wA), .val (.ref wB), .val (.ref wC), .val (.ref wD), .val (.ref wE), .val (.ref wF), .val (.ref oH), .val (.ref oS), .val (.ref oT), .val (.ref ev), .val (.int ((own_n ((lH ++ lS) ++ [wE])) + (1 : Int32))), .unset, .unset]) rfl k_) ?_
      show OwnGo p e below s _ _ _ (T93.setTop (mkF m 321 #[.val (.int xa), .val (.int xb), .val (.int xc), .val (.int vH), .val (.int vS), .val (.int (2 : Int32)), .val (.ref wA), .val (.ref wB), .val (.ref wC), .val (.ref wD), .val (.ref wE), .val (.ref wF), .val (.ref oH), .val (.ref oS), .val (.ref oT), .val (.ref ev), .val (.int ((own_n ((lH ++ lS) ++ [wE])) + (1 : Int32))), .unset, .unset] []))
      rw [show ((own_n ((lH ++ lS) ++ [wE])) + (1 : Int32)) = (own_n (((lH ++ lS) ++ [wE]) ++ [wF])) from own_napp1 _ _]
      show OwnGo p e below s _ _ _ (T93.setTop (mkF m 321 #[.val (.int xa), .val (.int xb), .val (.int xc), .val (.int vH), .val (.int vS), .val (.int (2 : Int32)), .val (.ref wA), .val (.ref wB), .val (.ref wC), .val (.ref wD), .val (.ref wE), .val (.ref wF), .val (.ref oH), .val (.ref oS), .val (.ref oT), .val (.ref ev), .val (.int (own_n (((lH ++ lS) ++ [wE]) ++ [wF]))), .unset, .unset] []))
      have hes : (((lH ++ lS) ++ [wE]) ++ [wF]) = ((lH ++ lS) ++ lT) := by rw [hl]; simp [own_nil]
      rw [show (own_n (((lH ++ lS) ++ [wE]) ++ [wF])) = (own_n ((lH ++ lS) ++ lT)) from congrArg own_n hes]
      show OwnGo p e below s _ _ _ (T93.setTop (mkF m 321 #[.val (.int xa), .val (.int xb), .val (.int xc), .val (.int vH), .val (.int vS), .val (.int (2 : Int32)), .val (.ref wA), .val (.ref wB), .val (.ref wC), .val (.ref wD), .val (.ref wE), .val (.ref wF), .val (.ref oH), .val (.ref oS), .val (.ref oT), .val (.ref ev), .val (.int (own_n ((lH ++ lS) ++ lT))), .unset, .unset] []))
      have f94 : Arv Z h93 ev ke (.object "java/lang/String") (6 : Int32) (((lH ++ lS) ++ lT).map Value.ref) .null := by rw [← hes]; exact V93
      have hc95 : own_case (2 : Int32) lT wE wF := hv ▸ hcase
      have f96 : Exa Z h89 oH "java/util/ArrayList" := fq0.wr W89
      have f97 : Exa Z h93 oH "java/util/ArrayList" := f96.wr W93
      have f98 : Fld Z h89 oH "java/util/ArrayList" "elementData" "[Ljava/lang/Object;" (.ref eaH) := fq1.other W89 (Or.inl fq29)
      have f99 : Fld Z h93 oH "java/util/ArrayList" "elementData" "[Ljava/lang/Object;" (.ref eaH) := f98.other W93 (Or.inl fq29)
      have f100 : Fld Z h89 oH "java/util/ArrayList" "size" "I" (.int (own_n lH)) := fq2.other W89 (Or.inl fq29)
      have f101 : Fld Z h93 oH "java/util/ArrayList" "size" "I" (.int (own_n lH)) := f100.other W93 (Or.inl fq29)
      have f102 : OwnA Z h89 eaH cpH lH := fq3.other W89 fq30
      have f103 : OwnA Z h93 eaH cpH lH := f102.other W93 fq30
      have f104 : OwnE Z h89 lH := fq4.other W89 
      have f105 : OwnE Z h93 lH := f104.other W93 
      have f106 : Exa Z h89 oS "java/util/ArrayList" := fq5.wr W89
      have f107 : Exa Z h93 oS "java/util/ArrayList" := f106.wr W93
      have f108 : Fld Z h89 oS "java/util/ArrayList" "elementData" "[Ljava/lang/Object;" (.ref eaS) := fq6.other W89 (Or.inl fq31)
      have f109 : Fld Z h93 oS "java/util/ArrayList" "elementData" "[Ljava/lang/Object;" (.ref eaS) := f108.other W93 (Or.inl fq31)
      have f110 : Fld Z h89 oS "java/util/ArrayList" "size" "I" (.int (own_n lS)) := fq7.other W89 (Or.inl fq31)
      have f111 : Fld Z h93 oS "java/util/ArrayList" "size" "I" (.int (own_n lS)) := f110.other W93 (Or.inl fq31)
      have f112 : OwnA Z h89 eaS cpS lS := fq8.other W89 fq32
      have f113 : OwnA Z h93 eaS cpS lS := f112.other W93 fq32
      have f114 : OwnE Z h89 lS := fq9.other W89 
      have f115 : OwnE Z h93 lS := f114.other W93 
      have f116 : Exa Z h89 oT "java/util/ArrayList" := fq10.wr W89
      have f117 : Exa Z h93 oT "java/util/ArrayList" := f116.wr W93
      have f118 : Fld Z h89 oT "java/util/ArrayList" "elementData" "[Ljava/lang/Object;" (.ref eaT) := fq11.other W89 (Or.inl fq33)
      have f119 : Fld Z h93 oT "java/util/ArrayList" "elementData" "[Ljava/lang/Object;" (.ref eaT) := f118.other W93 (Or.inl fq33)
      have f120 : Fld Z h89 oT "java/util/ArrayList" "size" "I" (.int (own_n lT)) := fq12.other W89 (Or.inl fq33)
      have f121 : Fld Z h93 oT "java/util/ArrayList" "size" "I" (.int (own_n lT)) := f120.other W93 (Or.inl fq33)
      have f122 : OwnA Z h89 eaT cpT lT := fq13.other W89 fq34
      have f123 : OwnA Z h93 eaT cpT lT := f122.other W93 fq34
      have f124 : OwnE Z h89 lT := fq14.other W89 
      have f125 : OwnE Z h93 lT := f124.other W93 
      have f126 : Old Z n0 h89 := fq15.wr W89 fq26
      have f127 : Old Z n0 h93 := f126.wr W93 fq26
      exact J321 _ _ _ (X93.more (by decide) (by decide)) e93 N93 Z93 K93 vH vS (2 : Int32) wA wB wC wD wE wF oH eaH cpH lH oS eaS cpS lS oT eaT cpT lT ev ke f97 f99 f101 f103 f105 f107 f109 f111 f113 f115 f117 f119 f121 f123 f125 f127 fq22 fq23 hc95 f94
  have J259 : ∀ (Tq : State) (hq : Heap) (lq : List Loc) (Xq : Stand p l e room_1 s m #[(.int xa), (.int xb), (.int xc)] below meth c Tq lq 26 130) (eq : Tq.heap = hq) (Nq : Fr n0 lq) (Zq : n0 ≤ hq.size) (Kq : Keep h0 hq []) (vH : Int32) (vS : Int32) (vT : Int32) (wA : Addr) (wB : Addr) (wC : Addr) (wD : Addr) (wE : Addr) (wF : Addr) (oH : Addr) (eaH : Addr) (cpH : Nat) (lH : List Addr) (oS : Addr) (eaS : Addr) (cpS : Nat) (lS : List Addr) (oT : Addr) (eaT : Addr) (cpT : Nat) (lT : List Addr) (ev : Addr) (ke : ClassId) (fq0 : Exa Z hq oH "java/util/ArrayList") (fq1 : Fld Z hq oH "java/util/ArrayList" "elementData" "[Ljava/lang/Object;" (.ref eaH)) (fq2 : Fld Z hq oH "java/util/ArrayList" "size" "I" (.int (own_n lH))) (fq3 : OwnA Z hq eaH cpH lH) (fq4 : OwnE Z hq lH) (fq5 : Exa Z hq oS "java/util/ArrayList") (fq6 : Fld Z hq oS "java/util/ArrayList" "elementData" "[Ljava/lang/Object;" (.ref eaS)) (fq7 : Fld Z hq oS "java/util/ArrayList" "size" "I" (.int (own_n lS))) (fq8 : OwnA Z hq eaS cpS lS) (fq9 : OwnE Z hq lS) (fq10 : Exa Z hq oT "java/util/ArrayList") (fq11 : Fld Z hq oT "java/util/ArrayList" "elementData" "[Ljava/lang/Object;" (.ref eaT)) (fq12 : Fld Z hq oT "java/util/ArrayList" "size" "I" (.int (own_n lT))) (fq13 : OwnA Z hq eaT cpT lT) (fq14 : OwnE Z hq lT) (fq15 : Old Z n0 hq) (fq16 : Exa Z hq wA "java/lang/String") (fq17 : Exa Z hq wB "java/lang/String") (fq18 : Exa Z hq wC "java/lang/String") (fq19 : Exa Z hq wD "java/lang/String") (fq20 : Exa Z hq wE "java/lang/String") (fq21 : Exa Z hq wF "java/lang/String") (fq22 : own_case vH lH wA wB) (fq23 : own_case vS lS wC wD) (fq24 : own_case vT lT wE wF) (fq25 : Arv Z hq ev ke (.object "java/lang/String") (6 : Int32) (lH.map Value.ref) .null) (fq26 : n0 ≤ ev) (fq27 : h0.size ≤ ev) (fq28 : Ovr Z ke "java/lang/String") (fq29 : oH ≠ ev) (fq30 : eaH ≠ ev) (fq31 : oS ≠ ev) (fq32 : eaS ≠ ev) (fq33 : oT ≠ ev) (fq34 : eaT ≠ ev), OwnGo p e below s (Q0 Z xa xb xc cs dc em mr ml h0 n0) room_1.cells room_1.slots (Tq.setTop (mkF m 259 #[.val (.int xa), .val (.int xb), .val (.int xc), .val (.int vH), .val (.int vS), .val (.int vT), .val (.ref wA), .val (.ref wB), .val (.ref wC), .val (.ref wD), .val (.ref wE), .val (.ref wF), .val (.ref oH), .val (.ref oS), .val (.ref oT), .val (.ref ev), .val (.int (own_n lH)), .unset, .unset] [])) := by
    intro Tq hq lq Xq eq Nq Zq Kq vH vS vT wA wB wC wD wE wF oH eaH cpH lH oS eaS cpS lS oT eaT cpT lT ev ke fq0 fq1 fq2 fq3 fq4 fq5 fq6 fq7 fq8 fq9 fq10 fq11 fq12 fq13 fq14 fq15 fq16 fq17 fq18 fq19 fq20 fq21 fq22 fq23 fq24 fq25 fq26 fq27 fq28 fq29 fq30 fq31 fq32 fq33 fq34
    have hnH := fq22.len
    have hnS := fq23.len
    have hnT := fq24.len
    have hcase := fq23
    rcases fq23 with ⟨hv, hl⟩ | ⟨hv, hl⟩ | ⟨hv, hl⟩
    · have hlen : lS.length = 0 := by rw [hl]; rfl
      rw [show vS = (0 : Int32) from hv]
      show OwnGo p e below s _ _ _ (Tq.setTop (mkF m 259 #[.val (.int xa), .val (.int xb), .val (.int xc), .val (.int vH), .val (.int (0 : Int32)), .val (.int vT), .val (.ref wA), .val (.ref wB), .val (.ref wC), .val (.ref wD), .val (.ref wE), .val (.ref wF), .val (.ref oH), .val (.ref oS), .val (.ref oT), .val (.ref ev), .val (.int (own_n lH)), .unset, .unset] []))
      refine own_on (fun t_ k_ => XS.iload Xq.here hx rfl (hb hby at_259) rfl k_) ?_
      show OwnGo p e below s _ _ _ (Tq.setTop (mkF m 261 #[.val (.int xa), .val (.int xb), .val (.int xc), .val (.int vH), .val (.int (0 : Int32)), .val (.int vT), .val (.ref wA), .val (.ref wB), .val (.ref wC), .val (.ref wD), .val (.ref wE), .val (.ref wF), .val (.ref oH), .val (.ref oS), .val (.ref oT), .val (.ref ev), .val (.int (own_n lH)), .unset, .unset] [(.int (0 : Int32))]))
      refine own_on (fun t_ k_ => XS.ifYes Xq.here hx rfl (pc0 := 261) (pc' := 274) rfl (hb hby at_261) rfl ((if0 _ _).trans (flt (by decide : ¬ ((0 : Int32) < (0 : Int32)))).2.2.2) (by decide) (by decide) k_) ?_
      show OwnGo p e below s _ _ _ (Tq.setTop (mkF m 274 #[.val (.int xa), .val (.int xb), .val (.int xc), .val (.int vH), .val (.int (0 : Int32)), .val (.int vT), .val (.ref wA), .val (.ref wB), .val (.ref wC), .val (.ref wD), .val (.ref wE), .val (.ref wF), .val (.ref oH), .val (.ref oS), .val (.ref oT), .val (.ref ev), .val (.int (own_n lH)), .unset, .unset] []))
      refine own_on (fun t_ k_ => XS.iload Xq.here hx rfl (hb hby at_274) rfl k_) ?_
      show OwnGo p e below s _ _ _ (Tq.setTop (mkF m 276 #[.val (.int xa), .val (.int xb), .val (.int xc), .val (.int vH), .val (.int (0 : Int32)), .val (.int vT), .val (.ref wA), .val (.ref wB), .val (.ref wC), .val (.ref wD), .val (.ref wE), .val (.ref wF), .val (.ref oH), .val (.ref oS), .val (.ref oT), .val (.ref ev), .val (.int (own_n lH)), .unset, .unset] [(.int (0 : Int32))]))
      refine own_on (fun t_ k_ => XS.iconst Xq.here hx rfl (hb hby at_276) k_) ?_
      show OwnGo p e below s _ _ _ (Tq.setTop (mkF m 277 #[.val (.int xa), .val (.int xb), .val (.int xc), .val (.int vH), .val (.int (0 : Int32)), .val (.int vT), .val (.ref wA), .val (.ref wB), .val (.ref wC), .val (.ref wD), .val (.ref wE), .val (.ref wF), .val (.ref oH), .val (.ref oS), .val (.ref oT), .val (.ref ev), .val (.int (own_n lH)), .unset, .unset] [(.int (1 : Int32)), (.int (0 : Int32))]))
      refine own_on (fun t_ k_ => XS.icmpYes Xq.here hx rfl (pc0 := 277) (pc' := 290) rfl (hb hby at_277) rfl (flt (by decide : ¬ ((1 : Int32) < (0 : Int32)))).2.2.2 (by decide) (by decide) k_) ?_
      show OwnGo p e below s _ _ _ (Tq.setTop (mkF m 290 #[.val (.int xa), .val (.int xb), .val (.int xc), .val (.int vH), .val (.int (0 : Int32)), .val (.int vT), .val (.ref wA), .val (.ref wB), .val (.ref wC), .val (.ref wD), .val (.ref wE), .val (.ref wF), .val (.ref oH), .val (.ref oS), .val (.ref oT), .val (.ref ev), .val (.int (own_n lH)), .unset, .unset] []))
      have hes : lH = (lH ++ lS) := by rw [hl]; simp [own_nil]
      rw [show (own_n lH) = (own_n (lH ++ lS)) from congrArg own_n hes]
      show OwnGo p e below s _ _ _ (Tq.setTop (mkF m 290 #[.val (.int xa), .val (.int xb), .val (.int xc), .val (.int vH), .val (.int (0 : Int32)), .val (.int vT), .val (.ref wA), .val (.ref wB), .val (.ref wC), .val (.ref wD), .val (.ref wE), .val (.ref wF), .val (.ref oH), .val (.ref oS), .val (.ref oT), .val (.ref ev), .val (.int (own_n (lH ++ lS))), .unset, .unset] []))
      have f128 : Arv Z hq ev ke (.object "java/lang/String") (6 : Int32) ((lH ++ lS).map Value.ref) .null := by rw [← hes]; exact fq25
      have hc129 : own_case (0 : Int32) lS wC wD := hv ▸ hcase
      exact J290 _ _ _ (Xq.more (by decide) (by decide)) eq Nq Zq Kq vH (0 : Int32) vT wA wB wC wD wE wF oH eaH cpH lH oS eaS cpS lS oT eaT cpT lT ev ke fq0 fq1 fq2 fq3 fq4 fq5 fq6 fq7 fq8 fq9 fq10 fq11 fq12 fq13 fq14 fq15 fq16 fq17 fq18 fq19 fq20 fq21 fq22 hc129 fq24 f128 fq26 fq27 fq28 fq29 fq30 fq31 fq32 fq33 fq34
    · have hlen : lS.length = 1 := by rw [hl]; rfl
      rw [show vS = (1 : Int32) from hv]
      show OwnGo p e below s _ _ _ (Tq.setTop (mkF m 259 #[.val (.int xa), .val (.int xb), .val (.int xc), .val (.int vH), .val (.int (1 : Int32)), .val (.int vT), .val (.ref wA), .val (.ref wB), .val (.ref wC), .val (.ref wD), .val (.ref wE), .val (.ref wF), .val (.ref oH), .val (.ref oS), .val (.ref oT), .val (.ref ev), .val (.int (own_n lH)), .unset, .unset] []))
      refine own_on (fun t_ k_ => XS.iload Xq.here hx rfl (hb hby at_259) rfl k_) ?_
      show OwnGo p e below s _ _ _ (Tq.setTop (mkF m 261 #[.val (.int xa), .val (.int xb), .val (.int xc), .val (.int vH), .val (.int (1 : Int32)), .val (.int vT), .val (.ref wA), .val (.ref wB), .val (.ref wC), .val (.ref wD), .val (.ref wE), .val (.ref wF), .val (.ref oH), .val (.ref oS), .val (.ref oT), .val (.ref ev), .val (.int (own_n lH)), .unset, .unset] [(.int (1 : Int32))]))
      refine own_on (fun t_ k_ => XS.ifNo Xq.here hx rfl (hb hby at_261) rfl ((if0 _ _).trans (tlt (by decide : (0 : Int32) < (1 : Int32))).2.2.2) k_) ?_
      show OwnGo p e below s _ _ _ (Tq.setTop (mkF m 264 #[.val (.int xa), .val (.int xb), .val (.int xc), .val (.int vH), .val (.int (1 : Int32)), .val (.int vT), .val (.ref wA), .val (.ref wB), .val (.ref wC), .val (.ref wD), .val (.ref wE), .val (.ref wF), .val (.ref oH), .val (.ref oS), .val (.ref oT), .val (.ref ev), .val (.int (own_n lH)), .unset, .unset] []))
      refine own_on (fun t_ k_ => XS.aload Xq.here hx rfl (hb hby at_264) rfl rfl k_) ?_
      show OwnGo p e below s _ _ _ (Tq.setTop (mkF m 266 #[.val (.int xa), .val (.int xb), .val (.int xc), .val (.int vH), .val (.int (1 : Int32)), .val (.int vT), .val (.ref wA), .val (.ref wB), .val (.ref wC), .val (.ref wD), .val (.ref wE), .val (.ref wF), .val (.ref oH), .val (.ref oS), .val (.ref oT), .val (.ref ev), .val (.int (own_n lH)), .unset, .unset] [(.ref ev)]))
      refine own_on (fun t_ k_ => XS.iload Xq.here hx rfl (hb hby at_266) rfl k_) ?_
      show OwnGo p e below s _ _ _ (Tq.setTop (mkF m 268 #[.val (.int xa), .val (.int xb), .val (.int xc), .val (.int vH), .val (.int (1 : Int32)), .val (.int vT), .val (.ref wA), .val (.ref wB), .val (.ref wC), .val (.ref wD), .val (.ref wE), .val (.ref wF), .val (.ref oH), .val (.ref oS), .val (.ref oT), .val (.ref ev), .val (.int (own_n lH)), .unset, .unset] [(.int (own_n lH)), (.ref ev)]))
      refine own_on (fun t_ k_ => XS.aload Xq.here hx rfl (hb hby at_268) rfl rfl k_) ?_
      show OwnGo p e below s _ _ _ (Tq.setTop (mkF m 270 #[.val (.int xa), .val (.int xb), .val (.int xc), .val (.int vH), .val (.int (1 : Int32)), .val (.int vT), .val (.ref wA), .val (.ref wB), .val (.ref wC), .val (.ref wD), .val (.ref wE), .val (.ref wF), .val (.ref oH), .val (.ref oS), .val (.ref oT), .val (.ref ev), .val (.int (own_n lH)), .unset, .unset] [(.ref wC), (.int (own_n lH)), (.ref ev)]))
      obtain ⟨cl130, Ar130, q130, S130, M130, H130, G130⟩ := id fq25
      have hlt131 : lH.length < 6 := by (first | omega | (simp [own_nil]; omega) | (simp [own_nil]))
      have hin130 : ¬ ((own_n lH) < 0 ∨ cl130.slots.size ≤ ((own_n lH)).toNatClampNeg) := inb_of S130 ⟨own_onN (by omega), (own_lt' (y := 6) (by omega) (by omega)).mpr hlt131⟩
      obtain ⟨T132, h132, X132, e132, W132, st132⟩ := stR Xq hx hZ eq Ar130 (j := (own_n lH)) hin130 rfl (Sto.of Ar130 (by rw [q130]; exact fq28) (Ins.self fq18)) (g := (mkF m 270 #[.val (.int xa), .val (.int xb), .val (.int xc), .val (.int vH), .val (.int (1 : Int32)), .val (.int vT), .val (.ref wA), .val (.ref wB), .val (.ref wC), .val (.ref wD), .val (.ref wE), .val (.ref wF), .val (.ref oH), .val (.ref oS), .val (.ref oT), .val (.ref ev), .val (.int (own_n lH)), .unset, .unset] [(.ref wC), (.int (own_n lH)), (.ref ev)])) rfl rfl (hb hby at_270)
      have V132 : Arv Z h132 ev ke (.object "java/lang/String") (6 : Int32) ((lH ++ [wC]).map Value.ref) .null := own_setS hlt131 rfl Ar130 q130 S130 M130 H130 G130 rfl rfl W132
      have N132 := Fr.snoc X132 Nq fq26
      have Z132 : n0 ≤ h132.size := Nat.le_trans Zq (Keep.of_wr W132).1
      have K132 : Keep h0 h132 [] := Kq.wr W132 (Or.inr fq27)
      refine own_on st132 ?_
      show OwnGo p e below s _ _ _ (T132.setTop (mkF m 271 #[.val (.int xa), .val (.int xb), .val (.int xc), .val (.int vH), .val (.int (1 : Int32)), .val (.int vT), .val (.ref wA), .val (.ref wB), .val (.ref wC), .val (.ref wD), .val (.ref wE), .val (.ref wF), .val (.ref oH), .val (.ref oS), .val (.ref oT), .val (.ref ev), .val (.int (own_n lH)), .unset, .unset] []))
      refine own_on (fun t_ k_ => XS.iinc X132.here hx rfl (hb hby at_271) rfl (l' := #[.val (.int xa), .val (.int xb), .val (.int xc), .val (.int vH), .val (.int (1 : Int32)), .val (.int vT), .val (.ref wA), .val (.ref wB), .val (.ref wC), .val (.ref wD), .val (.ref wE), .val (.ref wF), .val (.ref oH), .val (.ref oS), .val (.ref oT), .val (.ref ev), .val (.int ((own_n lH) + (1 : Int32))), .unset, .unset]) rfl k_) ?_
      show OwnGo p e below s _ _ _ (T132.setTop (mkF m 274 #[.val (.int xa), .val (.int xb), .val (.int xc), .val (.int vH), .val (.int (1 : Int32)), .val (.int vT), .val (.ref wA), .val (.ref wB), .val (.ref wC), .val (.ref wD), .val (.ref wE), .val (.ref wF), .val (.ref oH), .val (.ref oS), .val (.ref oT), .val (.ref ev), .val (.int ((own_n lH) + (1 : Int32))), .unset, .unset] []))
      rw [show ((own_n lH) + (1 : Int32)) = (own_n (lH ++ [wC])) from own_napp1 _ _]
      show OwnGo p e below s _ _ _ (T132.setTop (mkF m 274 #[.val (.int xa), .val (.int xb), .val (.int xc), .val (.int vH), .val (.int (1 : Int32)), .val (.int vT), .val (.ref wA), .val (.ref wB), .val (.ref wC), .val (.ref wD), .val (.ref wE), .val (.ref wF), .val (.ref oH), .val (.ref oS), .val (.ref oT), .val (.ref ev), .val (.int (own_n (lH ++ [wC]))), .unset, .unset] []))
      refine own_on (fun t_ k_ => XS.iload X132.here hx rfl (hb hby at_274) rfl k_) ?_
      show OwnGo p e below s _ _ _ (T132.setTop (mkF m 276 #[.val (.int xa), .val (.int xb), .val (.int xc), .val (.int vH), .val (.int (1 : Int32)), .val (.int vT), .val (.ref wA), .val (.ref wB), .val (.ref wC), .val (.ref wD), .val (.ref wE), .val (.ref wF), .val (.ref oH), .val (.ref oS), .val (.ref oT), .val (.ref ev), .val (.int (own_n (lH ++ [wC]))), .unset, .unset] [(.int (1 : Int32))]))
      refine own_on (fun t_ k_ => XS.iconst X132.here hx rfl (hb hby at_276) k_) ?_
      show OwnGo p e below s _ _ _ (T132.setTop (mkF m 277 #[.val (.int xa), .val (.int xb), .val (.int xc), .val (.int vH), .val (.int (1 : Int32)), .val (.int vT), .val (.ref wA), .val (.ref wB), .val (.ref wC), .val (.ref wD), .val (.ref wE), .val (.ref wF), .val (.ref oH), .val (.ref oS), .val (.ref oT), .val (.ref ev), .val (.int (own_n (lH ++ [wC]))), .unset, .unset] [(.int (1 : Int32)), (.int (1 : Int32))]))
      refine own_on (fun t_ k_ => XS.icmpYes X132.here hx rfl (pc0 := 277) (pc' := 290) rfl (hb hby at_277) rfl (flt (by decide : ¬ ((1 : Int32) < (1 : Int32)))).2.2.2 (by decide) (by decide) k_) ?_
      show OwnGo p e below s _ _ _ (T132.setTop (mkF m 290 #[.val (.int xa), .val (.int xb), .val (.int xc), .val (.int vH), .val (.int (1 : Int32)), .val (.int vT), .val (.ref wA), .val (.ref wB), .val (.ref wC), .val (.ref wD), .val (.ref wE), .val (.ref wF), .val (.ref oH), .val (.ref oS), .val (.ref oT), .val (.ref ev), .val (.int (own_n (lH ++ [wC]))), .unset, .unset] []))
      have hes : (lH ++ [wC]) = (lH ++ lS) := by rw [hl]; simp [own_nil]
      rw [show (own_n (lH ++ [wC])) = (own_n (lH ++ lS)) from congrArg own_n hes]
      show OwnGo p e below s _ _ _ (T132.setTop (mkF m 290 #[.val (.int xa), .val (.int xb), .val (.int xc), .val (.int vH), .val (.int (1 : Int32)), .val (.int vT), .val (.ref wA), .val (.ref wB), .val (.ref wC), .val (.ref wD), .val (.ref wE), .val (.ref wF), .val (.ref oH), .val (.ref oS), .val (.ref oT), .val (.ref ev), .val (.int (own_n (lH ++ lS))), .unset, .unset] []))
      have f133 : Arv Z h132 ev ke (.object "java/lang/String") (6 : Int32) ((lH ++ lS).map Value.ref) .null := by rw [← hes]; exact V132
      have hc134 : own_case (1 : Int32) lS wC wD := hv ▸ hcase
      have f135 : Exa Z h132 oH "java/util/ArrayList" := fq0.wr W132
      have f136 : Fld Z h132 oH "java/util/ArrayList" "elementData" "[Ljava/lang/Object;" (.ref eaH) := fq1.other W132 (Or.inl fq29)
      have f137 : Fld Z h132 oH "java/util/ArrayList" "size" "I" (.int (own_n lH)) := fq2.other W132 (Or.inl fq29)
      have f138 : OwnA Z h132 eaH cpH lH := fq3.other W132 fq30
      have f139 : OwnE Z h132 lH := fq4.other W132 
      have f140 : Exa Z h132 oS "java/util/ArrayList" := fq5.wr W132
      have f141 : Fld Z h132 oS "java/util/ArrayList" "elementData" "[Ljava/lang/Object;" (.ref eaS) := fq6.other W132 (Or.inl fq31)
      have f142 : Fld Z h132 oS "java/util/ArrayList" "size" "I" (.int (own_n lS)) := fq7.other W132 (Or.inl fq31)
      have f143 : OwnA Z h132 eaS cpS lS := fq8.other W132 fq32
      have f144 : OwnE Z h132 lS := fq9.other W132 
      have f145 : Exa Z h132 oT "java/util/ArrayList" := fq10.wr W132
      have f146 : Fld Z h132 oT "java/util/ArrayList" "elementData" "[Ljava/lang/Object;" (.ref eaT) := fq11.other W132 (Or.inl fq33)
      have f147 : Fld Z h132 oT "java/util/ArrayList" "size" "I" (.int (own_n lT)) := fq12.other W132 (Or.inl fq33)
      have f148 : OwnA Z h132 eaT cpT lT := fq13.other W132 fq34
      have f149 : OwnE Z h132 lT := fq14.other W132 
      have f150 : Old Z n0 h132 := fq15.wr W132 fq26
      have f151 : Exa Z h132 wA "java/lang/String" := fq16.wr W132
      have f152 : Exa Z h132 wB "java/lang/String" := fq17.wr W132
      have f153 : Exa Z h132 wC "java/lang/String" := fq18.wr W132
      have f154 : Exa Z h132 wD "java/lang/String" := fq19.wr W132
      have f155 : Exa Z h132 wE "java/lang/String" := fq20.wr W132
      have f156 : Exa Z h132 wF "java/lang/String" := fq21.wr W132
      exact J290 _ _ _ (X132.more (by decide) (by decide)) e132 N132 Z132 K132 vH (1 : Int32) vT wA wB wC wD wE wF oH eaH cpH lH oS eaS cpS lS oT eaT cpT lT ev ke f135 f136 f137 f138 f139 f140 f141 f142 f143 f144 f145 f146 f147 f148 f149 f150 f151 f152 f153 f154 f155 f156 fq22 hc134 fq24 f133 fq26 fq27 fq28 fq29 fq30 fq31 fq32 fq33 fq34
    · have hlen : lS.length = 2 := by rw [hl]; rfl
      rw [show vS = (2 : Int32) from hv]
      show OwnGo p e below s _ _ _ (Tq.setTop (mkF m 259 #[.val (.int xa), .val (.int xb), .val (.int xc), .val (.int vH), .val (.int (2 : Int32)), .val (.int vT), .val (.ref wA), .val (.ref wB), .val (.ref wC), .val (.ref wD), .val (.ref wE), .val (.ref wF), .val (.ref oH), .val (.ref oS), .val (.ref oT), .val (.ref ev), .val (.int (own_n lH)), .unset, .unset] []))
      refine own_on (fun t_ k_ => XS.iload Xq.here hx rfl (hb hby at_259) rfl k_) ?_
      show OwnGo p e below s _ _ _ (Tq.setTop (mkF m 261 #[.val (.int xa), .val (.int xb), .val (.int xc), .val (.int vH), .val (.int (2 : Int32)), .val (.int vT), .val (.ref wA), .val (.ref wB), .val (.ref wC), .val (.ref wD), .val (.ref wE), .val (.ref wF), .val (.ref oH), .val (.ref oS), .val (.ref oT), .val (.ref ev), .val (.int (own_n lH)), .unset, .unset] [(.int (2 : Int32))]))
      refine own_on (fun t_ k_ => XS.ifNo Xq.here hx rfl (hb hby at_261) rfl ((if0 _ _).trans (tlt (by decide : (0 : Int32) < (2 : Int32))).2.2.2) k_) ?_
      show OwnGo p e below s _ _ _ (Tq.setTop (mkF m 264 #[.val (.int xa), .val (.int xb), .val (.int xc), .val (.int vH), .val (.int (2 : Int32)), .val (.int vT), .val (.ref wA), .val (.ref wB), .val (.ref wC), .val (.ref wD), .val (.ref wE), .val (.ref wF), .val (.ref oH), .val (.ref oS), .val (.ref oT), .val (.ref ev), .val (.int (own_n lH)), .unset, .unset] []))
      refine own_on (fun t_ k_ => XS.aload Xq.here hx rfl (hb hby at_264) rfl rfl k_) ?_
      show OwnGo p e below s _ _ _ (Tq.setTop (mkF m 266 #[.val (.int xa), .val (.int xb), .val (.int xc), .val (.int vH), .val (.int (2 : Int32)), .val (.int vT), .val (.ref wA), .val (.ref wB), .val (.ref wC), .val (.ref wD), .val (.ref wE), .val (.ref wF), .val (.ref oH), .val (.ref oS), .val (.ref oT), .val (.ref ev), .val (.int (own_n lH)), .unset, .unset] [(.ref ev)]))
      refine own_on (fun t_ k_ => XS.iload Xq.here hx rfl (hb hby at_266) rfl k_) ?_
      show OwnGo p e below s _ _ _ (Tq.setTop (mkF m 268 #[.val (.int xa), .val (.int xb), .val (.int xc), .val (.int vH), .val (.int (2 : Int32)), .val (.int vT), .val (.ref wA), .val (.ref wB), .val (.ref wC), .val (.ref wD), .val (.ref wE), .val (.ref wF), .val (.ref oH), .val (.ref oS), .val (.ref oT), .val (.ref ev), .val (.int (own_n lH)), .unset, .unset] [(.int (own_n lH)), (.ref ev)]))
      refine own_on (fun t_ k_ => XS.aload Xq.here hx rfl (hb hby at_268) rfl rfl k_) ?_
      show OwnGo p e below s _ _ _ (Tq.setTop (mkF m 270 #[.val (.int xa), .val (.int xb), .val (.int xc), .val (.int vH), .val (.int (2 : Int32)), .val (.int vT), .val (.ref wA), .val (.ref wB), .val (.ref wC), .val (.ref wD), .val (.ref wE), .val (.ref wF), .val (.ref oH), .val (.ref oS), .val (.ref oT), .val (.ref ev), .val (.int (own_n lH)), .unset, .unset] [(.ref wC), (.int (own_n lH)), (.ref ev)]))
      obtain ⟨cl157, Ar157, q157, S157, M157, H157, G157⟩ := id fq25
      have hlt158 : lH.length < 6 := by (first | omega | (simp [own_nil]; omega) | (simp [own_nil]))
      have hin157 : ¬ ((own_n lH) < 0 ∨ cl157.slots.size ≤ ((own_n lH)).toNatClampNeg) := inb_of S157 ⟨own_onN (by omega), (own_lt' (y := 6) (by omega) (by omega)).mpr hlt158⟩
      obtain ⟨T159, h159, X159, e159, W159, st159⟩ := stR Xq hx hZ eq Ar157 (j := (own_n lH)) hin157 rfl (Sto.of Ar157 (by rw [q157]; exact fq28) (Ins.self fq18)) (g := (mkF m 270 #[.val (.int xa), .val (.int xb), .val (.int xc), .val (.int vH), .val (.int (2 : Int32)), .val (.int vT), .val (.ref wA), .val (.ref wB), .val (.ref wC), .val (.ref wD), .val (.ref wE), .val (.ref wF), .val (.ref oH), .val (.ref oS), .val (.ref oT), .val (.ref ev), .val (.int (own_n lH)), .unset, .unset] [(.ref wC), (.int (own_n lH)), (.ref ev)])) rfl rfl (hb hby at_270)
      have V159 : Arv Z h159 ev ke (.object "java/lang/String") (6 : Int32) ((lH ++ [wC]).map Value.ref) .null := own_setS hlt158 rfl Ar157 q157 S157 M157 H157 G157 rfl rfl W159
      have N159 := Fr.snoc X159 Nq fq26
      have Z159 : n0 ≤ h159.size := Nat.le_trans Zq (Keep.of_wr W159).1
      have K159 : Keep h0 h159 [] := Kq.wr W159 (Or.inr fq27)
      refine own_on st159 ?_
      show OwnGo p e below s _ _ _ (T159.setTop (mkF m 271 #[.val (.int xa), .val (.int xb), .val (.int xc), .val (.int vH), .val (.int (2 : Int32)), .val (.int vT), .val (.ref wA), .val (.ref wB), .val (.ref wC), .val (.ref wD), .val (.ref wE), .val (.ref wF), .val (.ref oH), .val (.ref oS), .val (.ref oT), .val (.ref ev), .val (.int (own_n lH)), .unset, .unset] []))
      refine own_on (fun t_ k_ => XS.iinc X159.here hx rfl (hb hby at_271) rfl (l' := #[.val (.int xa), .val (.int xb), .val (.int xc), .val (.int vH), .val (.int (2 : Int32)), .val (.int vT), .val (.ref wA), .val (.ref wB), .val (.ref wC), .val (.ref wD), .val (.ref wE), .val (.ref wF), .val (.ref oH), .val (.ref oS), .val (.ref oT), .val (.ref ev), .val (.int ((own_n lH) + (1 : Int32))), .unset, .unset]) rfl k_) ?_
      show OwnGo p e below s _ _ _ (T159.setTop (mkF m 274 #[.val (.int xa), .val (.int xb), .val (.int xc), .val (.int vH), .val (.int (2 : Int32)), .val (.int vT), .val (.ref wA), .val (.ref wB), .val (.ref wC), .val (.ref wD), .val (.ref wE), .val (.ref wF), .val (.ref oH), .val (.ref oS), .val (.ref oT), .val (.ref ev), .val (.int ((own_n lH) + (1 : Int32))), .unset, .unset] []))
      rw [show ((own_n lH) + (1 : Int32)) = (own_n (lH ++ [wC])) from own_napp1 _ _]
      show OwnGo p e below s _ _ _ (T159.setTop (mkF m 274 #[.val (.int xa), .val (.int xb), .val (.int xc), .val (.int vH), .val (.int (2 : Int32)), .val (.int vT), .val (.ref wA), .val (.ref wB), .val (.ref wC), .val (.ref wD), .val (.ref wE), .val (.ref wF), .val (.ref oH), .val (.ref oS), .val (.ref oT), .val (.ref ev), .val (.int (own_n (lH ++ [wC]))), .unset, .unset] []))
      refine own_on (fun t_ k_ => XS.iload X159.here hx rfl (hb hby at_274) rfl k_) ?_
      show OwnGo p e below s _ _ _ (T159.setTop (mkF m 276 #[.val (.int xa), .val (.int xb), .val (.int xc), .val (.int vH), .val (.int (2 : Int32)), .val (.int vT), .val (.ref wA), .val (.ref wB), .val (.ref wC), .val (.ref wD), .val (.ref wE), .val (.ref wF), .val (.ref oH), .val (.ref oS), .val (.ref oT), .val (.ref ev), .val (.int (own_n (lH ++ [wC]))), .unset, .unset] [(.int (2 : Int32))]))
      refine own_on (fun t_ k_ => XS.iconst X159.here hx rfl (hb hby at_276) k_) ?_
      show OwnGo p e below s _ _ _ (T159.setTop (mkF m 277 #[.val (.int xa), .val (.int xb), .val (.int xc), .val (.int vH), .val (.int (2 : Int32)), .val (.int vT), .val (.ref wA), .val (.ref wB), .val (.ref wC), .val (.ref wD), .val (.ref wE), .val (.ref wF), .val (.ref oH), .val (.ref oS), .val (.ref oT), .val (.ref ev), .val (.int (own_n (lH ++ [wC]))), .unset, .unset] [(.int (1 : Int32)), (.int (2 : Int32))]))
      refine own_on (fun t_ k_ => XS.icmpNo X159.here hx rfl (hb hby at_277) rfl (tlt (by decide : (1 : Int32) < (2 : Int32))).2.2.2 k_) ?_
      show OwnGo p e below s _ _ _ (T159.setTop (mkF m 280 #[.val (.int xa), .val (.int xb), .val (.int xc), .val (.int vH), .val (.int (2 : Int32)), .val (.int vT), .val (.ref wA), .val (.ref wB), .val (.ref wC), .val (.ref wD), .val (.ref wE), .val (.ref wF), .val (.ref oH), .val (.ref oS), .val (.ref oT), .val (.ref ev), .val (.int (own_n (lH ++ [wC]))), .unset, .unset] []))
      refine own_on (fun t_ k_ => XS.aload X159.here hx rfl (hb hby at_280) rfl rfl k_) ?_
      show OwnGo p e below s _ _ _ (T159.setTop (mkF m 282 #[.val (.int xa), .val (.int xb), .val (.int xc), .val (.int vH), .val (.int (2 : Int32)), .val (.int vT), .val (.ref wA), .val (.ref wB), .val (.ref wC), .val (.ref wD), .val (.ref wE), .val (.ref wF), .val (.ref oH), .val (.ref oS), .val (.ref oT), .val (.ref ev), .val (.int (own_n (lH ++ [wC]))), .unset, .unset] [(.ref ev)]))
      refine own_on (fun t_ k_ => XS.iload X159.here hx rfl (hb hby at_282) rfl k_) ?_
      show OwnGo p e below s _ _ _ (T159.setTop (mkF m 284 #[.val (.int xa), .val (.int xb), .val (.int xc), .val (.int vH), .val (.int (2 : Int32)), .val (.int vT), .val (.ref wA), .val (.ref wB), .val (.ref wC), .val (.ref wD), .val (.ref wE), .val (.ref wF), .val (.ref oH), .val (.ref oS), .val (.ref oT), .val (.ref ev), .val (.int (own_n (lH ++ [wC]))), .unset, .unset] [(.int (own_n (lH ++ [wC]))), (.ref ev)]))
      refine own_on (fun t_ k_ => XS.aload X159.here hx rfl (hb hby at_284) rfl rfl k_) ?_
      show OwnGo p e below s _ _ _ (T159.setTop (mkF m 286 #[.val (.int xa), .val (.int xb), .val (.int xc), .val (.int vH), .val (.int (2 : Int32)), .val (.int vT), .val (.ref wA), .val (.ref wB), .val (.ref wC), .val (.ref wD), .val (.ref wE), .val (.ref wF), .val (.ref oH), .val (.ref oS), .val (.ref oT), .val (.ref ev), .val (.int (own_n (lH ++ [wC]))), .unset, .unset] [(.ref wD), (.int (own_n (lH ++ [wC]))), (.ref ev)]))
      obtain ⟨cl160, Ar160, q160, S160, M160, H160, G160⟩ := id V159
      have f161 : Exa Z h159 wD "java/lang/String" := fq19.wr W159
      have hlt162 : (lH ++ [wC]).length < 6 := by (first | omega | (simp [own_nil]; omega) | (simp [own_nil]))
      have hin160 : ¬ ((own_n (lH ++ [wC])) < 0 ∨ cl160.slots.size ≤ ((own_n (lH ++ [wC]))).toNatClampNeg) := inb_of S160 ⟨own_onN (by omega), (own_lt' (y := 6) (by omega) (by omega)).mpr hlt162⟩
      obtain ⟨T163, h163, X163, e163, W163, st163⟩ := stR X159 hx hZ e159 Ar160 (j := (own_n (lH ++ [wC]))) hin160 rfl (Sto.of Ar160 (by rw [q160]; exact fq28) (Ins.self f161)) (g := (mkF m 286 #[.val (.int xa), .val (.int xb), .val (.int xc), .val (.int vH), .val (.int (2 : Int32)), .val (.int vT), .val (.ref wA), .val (.ref wB), .val (.ref wC), .val (.ref wD), .val (.ref wE), .val (.ref wF), .val (.ref oH), .val (.ref oS), .val (.ref oT), .val (.ref ev), .val (.int (own_n (lH ++ [wC]))), .unset, .unset] [(.ref wD), (.int (own_n (lH ++ [wC]))), (.ref ev)])) rfl rfl (hb hby at_286)
      have V163 : Arv Z h163 ev ke (.object "java/lang/String") (6 : Int32) (((lH ++ [wC]) ++ [wD]).map Value.ref) .null := own_setS hlt162 rfl Ar160 q160 S160 M160 H160 G160 rfl rfl W163
      have N163 := Fr.snoc X163 N159 fq26
      have Z163 : n0 ≤ h163.size := Nat.le_trans Z159 (Keep.of_wr W163).1
      have K163 : Keep h0 h163 [] := K159.wr W163 (Or.inr fq27)
      refine own_on st163 ?_
      show OwnGo p e below s _ _ _ (T163.setTop (mkF m 287 #[.val (.int xa), .val (.int xb), .val (.int xc), .val (.int vH), .val (.int (2 : Int32)), .val (.int vT), .val (.ref wA), .val (.ref wB), .val (.ref wC), .val (.ref wD), .val (.ref wE), .val (.ref wF), .val (.ref oH), .val (.ref oS), .val (.ref oT), .val (.ref ev), .val (.int (own_n (lH ++ [wC]))), .unset, .unset] []))
      refine own_on (fun t_ k_ => XS.iinc X163.here hx rfl (hb hby at_287) rfl (l' := #[.val (.int xa), .val (.int xb), .val (.int xc), .val (.int vH), .val (.int (2 : Int32)), .val (.int vT), .val (.ref wA), .val (.ref wB), .val (.ref wC), .val (.ref wD), .val (.ref wE), .val (.ref wF), .val (.ref oH), .val (.ref oS), .val (.ref oT), .val (.ref ev), .val (.int ((own_n (lH ++ [wC])) + (1 : Int32))), .unset, .unset]) rfl k_) ?_
      show OwnGo p e below s _ _ _ (T163.setTop (mkF m 290 #[.val (.int xa), .val (.int xb), .val (.int xc), .val (.int vH), .val (.int (2 : Int32)), .val (.int vT), .val (.ref wA), .val (.ref wB), .val (.ref wC), .val (.ref wD), .val (.ref wE), .val (.ref wF), .val (.ref oH), .val (.ref oS), .val (.ref oT), .val (.ref ev), .val (.int ((own_n (lH ++ [wC])) + (1 : Int32))), .unset, .unset] []))
      rw [show ((own_n (lH ++ [wC])) + (1 : Int32)) = (own_n ((lH ++ [wC]) ++ [wD])) from own_napp1 _ _]
      show OwnGo p e below s _ _ _ (T163.setTop (mkF m 290 #[.val (.int xa), .val (.int xb), .val (.int xc), .val (.int vH), .val (.int (2 : Int32)), .val (.int vT), .val (.ref wA), .val (.ref wB), .val (.ref wC), .val (.ref wD), .val (.ref wE), .val (.ref wF), .val (.ref oH), .val (.ref oS), .val (.ref oT), .val (.ref ev), .val (.int (own_n ((lH ++ [wC]) ++ [wD]))), .unset, .unset] []))
      have hes : ((lH ++ [wC]) ++ [wD]) = (lH ++ lS) := by rw [hl]; simp [own_nil]
      rw [show (own_n ((lH ++ [wC]) ++ [wD])) = (own_n (lH ++ lS)) from congrArg own_n hes]
      show OwnGo p e below s _ _ _ (T163.setTop (mkF m 290 #[.val (.int xa), .val (.int xb), .val (.int xc), .val (.int vH), .val (.int (2 : Int32)), .val (.int vT), .val (.ref wA), .val (.ref wB), .val (.ref wC), .val (.ref wD), .val (.ref wE), .val (.ref wF), .val (.ref oH), .val (.ref oS), .val (.ref oT), .val (.ref ev), .val (.int (own_n (lH ++ lS))), .unset, .unset] []))
      have f164 : Arv Z h163 ev ke (.object "java/lang/String") (6 : Int32) ((lH ++ lS).map Value.ref) .null := by rw [← hes]; exact V163
      have hc165 : own_case (2 : Int32) lS wC wD := hv ▸ hcase
      have f166 : Exa Z h159 oH "java/util/ArrayList" := fq0.wr W159
      have f167 : Exa Z h163 oH "java/util/ArrayList" := f166.wr W163
      have f168 : Fld Z h159 oH "java/util/ArrayList" "elementData" "[Ljava/lang/Object;" (.ref eaH) := fq1.other W159 (Or.inl fq29)
      have f169 : Fld Z h163 oH "java/util/ArrayList" "elementData" "[Ljava/lang/Object;" (.ref eaH) := f168.other W163 (Or.inl fq29)
      have f170 : Fld Z h159 oH "java/util/ArrayList" "size" "I" (.int (own_n lH)) := fq2.other W159 (Or.inl fq29)
      have f171 : Fld Z h163 oH "java/util/ArrayList" "size" "I" (.int (own_n lH)) := f170.other W163 (Or.inl fq29)
      have f172 : OwnA Z h159 eaH cpH lH := fq3.other W159 fq30
      have f173 : OwnA Z h163 eaH cpH lH := f172.other W163 fq30
      have f174 : OwnE Z h159 lH := fq4.other W159 
      have f175 : OwnE Z h163 lH := f174.other W163 
      have f176 : Exa Z h159 oS "java/util/ArrayList" := fq5.wr W159
      have f177 : Exa Z h163 oS "java/util/ArrayList" := f176.wr W163
      have f178 : Fld Z h159 oS "java/util/ArrayList" "elementData" "[Ljava/lang/Object;" (.ref eaS) := fq6.other W159 (Or.inl fq31)
      have f179 : Fld Z h163 oS "java/util/ArrayList" "elementData" "[Ljava/lang/Object;" (.ref eaS) := f178.other W163 (Or.inl fq31)
      have f180 : Fld Z h159 oS "java/util/ArrayList" "size" "I" (.int (own_n lS)) := fq7.other W159 (Or.inl fq31)
      have f181 : Fld Z h163 oS "java/util/ArrayList" "size" "I" (.int (own_n lS)) := f180.other W163 (Or.inl fq31)
      have f182 : OwnA Z h159 eaS cpS lS := fq8.other W159 fq32
      have f183 : OwnA Z h163 eaS cpS lS := f182.other W163 fq32
      have f184 : OwnE Z h159 lS := fq9.other W159 
      have f185 : OwnE Z h163 lS := f184.other W163 
      have f186 : Exa Z h159 oT "java/util/ArrayList" := fq10.wr W159
      have f187 : Exa Z h163 oT "java/util/ArrayList" := f186.wr W163
      have f188 : Fld Z h159 oT "java/util/ArrayList" "elementData" "[Ljava/lang/Object;" (.ref eaT) := fq11.other W159 (Or.inl fq33)
      have f189 : Fld Z h163 oT "java/util/ArrayList" "elementData" "[Ljava/lang/Object;" (.ref eaT) := f188.other W163 (Or.inl fq33)
      have f190 : Fld Z h159 oT "java/util/ArrayList" "size" "I" (.int (own_n lT)) := fq12.other W159 (Or.inl fq33)
      have f191 : Fld Z h163 oT "java/util/ArrayList" "size" "I" (.int (own_n lT)) := f190.other W163 (Or.inl fq33)
      have f192 : OwnA Z h159 eaT cpT lT := fq13.other W159 fq34
      have f193 : OwnA Z h163 eaT cpT lT := f192.other W163 fq34
      have f194 : OwnE Z h159 lT := fq14.other W159 
      have f195 : OwnE Z h163 lT := f194.other W163 
      have f196 : Old Z n0 h159 := fq15.wr W159 fq26
      have f197 : Old Z n0 h163 := f196.wr W163 fq26
      have f198 : Exa Z h159 wA "java/lang/String" := fq16.wr W159
      have f199 : Exa Z h163 wA "java/lang/String" := f198.wr W163
      have f200 : Exa Z h159 wB "java/lang/String" := fq17.wr W159
      have f201 : Exa Z h163 wB "java/lang/String" := f200.wr W163
      have f202 : Exa Z h159 wC "java/lang/String" := fq18.wr W159
      have f203 : Exa Z h163 wC "java/lang/String" := f202.wr W163
      have f204 : Exa Z h163 wD "java/lang/String" := f161.wr W163
      have f205 : Exa Z h159 wE "java/lang/String" := fq20.wr W159
      have f206 : Exa Z h163 wE "java/lang/String" := f205.wr W163
      have f207 : Exa Z h159 wF "java/lang/String" := fq21.wr W159
      have f208 : Exa Z h163 wF "java/lang/String" := f207.wr W163
      exact J290 _ _ _ (X163.more (by decide) (by decide)) e163 N163 Z163 K163 vH (2 : Int32) vT wA wB wC wD wE wF oH eaH cpH lH oS eaS cpS lS oT eaT cpT lT ev ke f167 f169 f171 f173 f175 f177 f179 f181 f183 f185 f187 f189 f191 f193 f195 f197 f199 f201 f203 f204 f206 f208 fq22 hc165 fq24 f164 fq26 fq27 fq28 fq29 fq30 fq31 fq32 fq33 fq34
  have J220 : ∀ (Tq : State) (hq : Heap) (lq : List Loc) (Xq : Stand p l e room_1 s m #[(.int xa), (.int xb), (.int xc)] below meth c Tq lq 25 124) (eq : Tq.heap = hq) (Nq : Fr n0 lq) (Zq : n0 ≤ hq.size) (Kq : Keep h0 hq []) (vH : Int32) (vS : Int32) (vT : Int32) (wA : Addr) (wB : Addr) (wC : Addr) (wD : Addr) (wE : Addr) (wF : Addr) (oH : Addr) (eaH : Addr) (cpH : Nat) (lH : List Addr) (oS : Addr) (eaS : Addr) (cpS : Nat) (lS : List Addr) (oT : Addr) (eaT : Addr) (cpT : Nat) (lT : List Addr) (fq0 : Exa Z hq oH "java/util/ArrayList") (fq1 : Fld Z hq oH "java/util/ArrayList" "elementData" "[Ljava/lang/Object;" (.ref eaH)) (fq2 : Fld Z hq oH "java/util/ArrayList" "size" "I" (.int (own_n lH))) (fq3 : OwnA Z hq eaH cpH lH) (fq4 : OwnE Z hq lH) (fq5 : Exa Z hq oS "java/util/ArrayList") (fq6 : Fld Z hq oS "java/util/ArrayList" "elementData" "[Ljava/lang/Object;" (.ref eaS)) (fq7 : Fld Z hq oS "java/util/ArrayList" "size" "I" (.int (own_n lS))) (fq8 : OwnA Z hq eaS cpS lS) (fq9 : OwnE Z hq lS) (fq10 : Exa Z hq oT "java/util/ArrayList") (fq11 : Fld Z hq oT "java/util/ArrayList" "elementData" "[Ljava/lang/Object;" (.ref eaT)) (fq12 : Fld Z hq oT "java/util/ArrayList" "size" "I" (.int (own_n lT))) (fq13 : OwnA Z hq eaT cpT lT) (fq14 : OwnE Z hq lT) (fq15 : Old Z n0 hq) (fq16 : Exa Z hq wA "java/lang/String") (fq17 : Exa Z hq wB "java/lang/String") (fq18 : Exa Z hq wC "java/lang/String") (fq19 : Exa Z hq wD "java/lang/String") (fq20 : Exa Z hq wE "java/lang/String") (fq21 : Exa Z hq wF "java/lang/String") (fq22 : own_case vH lH wA wB) (fq23 : own_case vS lS wC wD) (fq24 : own_case vT lT wE wF), OwnGo p e below s (Q0 Z xa xb xc cs dc em mr ml h0 n0) room_1.cells room_1.slots (Tq.setTop (mkF m 220 #[.val (.int xa), .val (.int xb), .val (.int xc), .val (.int vH), .val (.int vS), .val (.int vT), .val (.ref wA), .val (.ref wB), .val (.ref wC), .val (.ref wD), .val (.ref wE), .val (.ref wF), .val (.ref oH), .val (.ref oS), .val (.ref oT), .unset, .unset, .unset, .unset] [])) := by
    intro Tq hq lq Xq eq Nq Zq Kq vH vS vT wA wB wC wD wE wF oH eaH cpH lH oS eaS cpS lS oT eaT cpT lT fq0 fq1 fq2 fq3 fq4 fq5 fq6 fq7 fq8 fq9 fq10 fq11 fq12 fq13 fq14 fq15 fq16 fq17 fq18 fq19 fq20 fq21 fq22 fq23 fq24
    refine own_on (fun t_ k_ => XS.bipush Xq.here hx rfl (hb hby at_220) k_) ?_
    show OwnGo p e below s _ _ _ (Tq.setTop (mkF m 222 #[.val (.int xa), .val (.int xb), .val (.int xc), .val (.int vH), .val (.int vS), .val (.int vT), .val (.ref wA), .val (.ref wB), .val (.ref wC), .val (.ref wD), .val (.ref wE), .val (.ref wF), .val (.ref oH), .val (.ref oS), .val (.ref oT), .unset, .unset, .unset, .unset] [(.int (6 : Int32))]))
    obtain ⟨T209, h209, k209, X209, e209, E209, A209, O209, st209⟩ := newR (cap := 6) Xq hx hZ hown (w50 hw) (w51 hw) eq (g := (mkF m 222 #[.val (.int xa), .val (.int xb), .val (.int xc), .val (.int vH), .val (.int vS), .val (.int vT), .val (.ref wA), .val (.ref wB), .val (.ref wC), .val (.ref wD), .val (.ref wE), .val (.ref wF), .val (.ref oH), .val (.ref oS), .val (.ref oT), .unset, .unset, .unset, .unset] [(.int (6 : Int32))])) rfl (hb hby at_222) rfl (by decide) (by decide) (by decide) (by decide) (by decide)
    obtain ⟨b209, g209⟩ : ∃ z, z = hq.size := ⟨_, rfl⟩
    rw [← g209] at A209 st209
    have ne210' : oH < b209 := Nat.lt_of_lt_of_le fq0.lt (Nat.le_of_eq g209.symm)
    have ne210 : oH ≠ b209 := Nat.ne_of_lt ne210'
    have ne211' : eaH < b209 := Nat.lt_of_lt_of_le fq3.lt (Nat.le_of_eq g209.symm)
    have ne211 : eaH ≠ b209 := Nat.ne_of_lt ne211'
    have ne212' : oS < b209 := Nat.lt_of_lt_of_le fq5.lt (Nat.le_of_eq g209.symm)
    have ne212 : oS ≠ b209 := Nat.ne_of_lt ne212'
    have ne213' : eaS < b209 := Nat.lt_of_lt_of_le fq8.lt (Nat.le_of_eq g209.symm)
    have ne213 : eaS ≠ b209 := Nat.ne_of_lt ne213'
    have ne214' : oT < b209 := Nat.lt_of_lt_of_le fq10.lt (Nat.le_of_eq g209.symm)
    have ne214 : oT ≠ b209 := Nat.ne_of_lt ne214'
    have ne215' : eaT < b209 := Nat.lt_of_lt_of_le fq13.lt (Nat.le_of_eq g209.symm)
    have ne215 : eaT ≠ b209 := Nat.ne_of_lt ne215'
    have ne216' : wA < b209 := Nat.lt_of_lt_of_le fq16.lt (Nat.le_of_eq g209.symm)
    have ne216 : wA ≠ b209 := Nat.ne_of_lt ne216'
    have ne217' : wB < b209 := Nat.lt_of_lt_of_le fq17.lt (Nat.le_of_eq g209.symm)
    have ne217 : wB ≠ b209 := Nat.ne_of_lt ne217'
    have ne218' : wC < b209 := Nat.lt_of_lt_of_le fq18.lt (Nat.le_of_eq g209.symm)
    have ne218 : wC ≠ b209 := Nat.ne_of_lt ne218'
    have ne219' : wD < b209 := Nat.lt_of_lt_of_le fq19.lt (Nat.le_of_eq g209.symm)
    have ne219 : wD ≠ b209 := Nat.ne_of_lt ne219'
    have ne220' : wE < b209 := Nat.lt_of_lt_of_le fq20.lt (Nat.le_of_eq g209.symm)
    have ne220 : wE ≠ b209 := Nat.ne_of_lt ne220'
    have ne221' : wF < b209 := Nat.lt_of_lt_of_le fq21.lt (Nat.le_of_eq g209.symm)
    have ne221 : wF ≠ b209 := Nat.ne_of_lt ne221'
    have g222 : n0 ≤ b209 := Nat.le_trans Zq (Nat.le_of_eq g209.symm)
    have z223 : h0.size ≤ b209 := Nat.le_trans Kq.1 (Nat.le_of_eq g209.symm)
    have V209 : Arv Z h209 b209 k209 (.object "java/lang/String") (6 : Int32) [.null, .null, .null, .null, .null, .null] .null := (Arv.new A209 (by decide)).pad (pad_rep [] .null 6)
    have Z209 : n0 ≤ h209.size := Nat.le_trans Zq E209.1
    have K209 : Keep h0 h209 [] := Kq.ext E209
    refine own_on st209 ?_
    show OwnGo p e below s _ _ _ (T209.setTop (mkF m 225 #[.val (.int xa), .val (.int xb), .val (.int xc), .val (.int vH), .val (.int vS), .val (.int vT), .val (.ref wA), .val (.ref wB), .val (.ref wC), .val (.ref wD), .val (.ref wE), .val (.ref wF), .val (.ref oH), .val (.ref oS), .val (.ref oT), .unset, .unset, .unset, .unset] [(.ref b209)]))
    refine own_on (fun t_ k_ => XS.astore X209.here hx rfl (hb hby at_225) rfl rfl (l' := #[.val (.int xa), .val (.int xb), .val (.int xc), .val (.int vH), .val (.int vS), .val (.int vT), .val (.ref wA), .val (.ref wB), .val (.ref wC), .val (.ref wD), .val (.ref wE), .val (.ref wF), .val (.ref oH), .val (.ref oS), .val (.ref oT), .val (.ref b209), .unset, .unset, .unset]) rfl k_) ?_
    show OwnGo p e below s _ _ _ (T209.setTop (mkF m 227 #[.val (.int xa), .val (.int xb), .val (.int xc), .val (.int vH), .val (.int vS), .val (.int vT), .val (.ref wA), .val (.ref wB), .val (.ref wC), .val (.ref wD), .val (.ref wE), .val (.ref wF), .val (.ref oH), .val (.ref oS), .val (.ref oT), .val (.ref b209), .unset, .unset, .unset] []))
    refine own_on (fun t_ k_ => XS.iconst X209.here hx rfl (hb hby at_227) k_) ?_
    show OwnGo p e below s _ _ _ (T209.setTop (mkF m 228 #[.val (.int xa), .val (.int xb), .val (.int xc), .val (.int vH), .val (.int vS), .val (.int vT), .val (.ref wA), .val (.ref wB), .val (.ref wC), .val (.ref wD), .val (.ref wE), .val (.ref wF), .val (.ref oH), .val (.ref oS), .val (.ref oT), .val (.ref b209), .unset, .unset, .unset] [(.int (0 : Int32))]))
    refine own_on (fun t_ k_ => XS.istore X209.here hx rfl (hb hby at_228) rfl (l' := #[.val (.int xa), .val (.int xb), .val (.int xc), .val (.int vH), .val (.int vS), .val (.int vT), .val (.ref wA), .val (.ref wB), .val (.ref wC), .val (.ref wD), .val (.ref wE), .val (.ref wF), .val (.ref oH), .val (.ref oS), .val (.ref oT), .val (.ref b209), .val (.int (0 : Int32)), .unset, .unset]) rfl k_) ?_
    show OwnGo p e below s _ _ _ (T209.setTop (mkF m 230 #[.val (.int xa), .val (.int xb), .val (.int xc), .val (.int vH), .val (.int vS), .val (.int vT), .val (.ref wA), .val (.ref wB), .val (.ref wC), .val (.ref wD), .val (.ref wE), .val (.ref wF), .val (.ref oH), .val (.ref oS), .val (.ref oT), .val (.ref b209), .val (.int (0 : Int32)), .unset, .unset] []))
    have f224 : Arv Z h209 b209 k209 (.object "java/lang/String") (6 : Int32) (own_nil.map Value.ref) .null := V209.pad (by intro i; rcases i with _ | _ | _ | _ | _ | _ | i <;> rfl)
    rw [show (0 : Int32) = (own_n own_nil) from rfl]
    show OwnGo p e below s _ _ _ (T209.setTop (mkF m 230 #[.val (.int xa), .val (.int xb), .val (.int xc), .val (.int vH), .val (.int vS), .val (.int vT), .val (.ref wA), .val (.ref wB), .val (.ref wC), .val (.ref wD), .val (.ref wE), .val (.ref wF), .val (.ref oH), .val (.ref oS), .val (.ref oT), .val (.ref b209), .val (.int (own_n own_nil)), .unset, .unset] []))
    have hcase := fq22
    rcases fq22 with ⟨hv, hl⟩ | ⟨hv, hl⟩ | ⟨hv, hl⟩
    · rw [show vH = (0 : Int32) from hv]
      show OwnGo p e below s _ _ _ (T209.setTop (mkF m 230 #[.val (.int xa), .val (.int xb), .val (.int xc), .val (.int (0 : Int32)), .val (.int vS), .val (.int vT), .val (.ref wA), .val (.ref wB), .val (.ref wC), .val (.ref wD), .val (.ref wE), .val (.ref wF), .val (.ref oH), .val (.ref oS), .val (.ref oT), .val (.ref b209), .val (.int (own_n own_nil)), .unset, .unset] []))
      refine own_on (fun t_ k_ => XS.iloadN X209.here hx rfl (hb hby at_230) rfl k_) ?_
      show OwnGo p e below s _ _ _ (T209.setTop (mkF m 231 #[.val (.int xa), .val (.int xb), .val (.int xc), .val (.int (0 : Int32)), .val (.int vS), .val (.int vT), .val (.ref wA), .val (.ref wB), .val (.ref wC), .val (.ref wD), .val (.ref wE), .val (.ref wF), .val (.ref oH), .val (.ref oS), .val (.ref oT), .val (.ref b209), .val (.int (own_n own_nil)), .unset, .unset] [(.int (0 : Int32))]))
      refine own_on (fun t_ k_ => XS.ifYes X209.here hx rfl (pc0 := 231) (pc' := 244) rfl (hb hby at_231) rfl ((if0 _ _).trans (flt (by decide : ¬ ((0 : Int32) < (0 : Int32)))).2.2.2) (by decide) (by decide) k_) ?_
      show OwnGo p e below s _ _ _ (T209.setTop (mkF m 244 #[.val (.int xa), .val (.int xb), .val (.int xc), .val (.int (0 : Int32)), .val (.int vS), .val (.int vT), .val (.ref wA), .val (.ref wB), .val (.ref wC), .val (.ref wD), .val (.ref wE), .val (.ref wF), .val (.ref oH), .val (.ref oS), .val (.ref oT), .val (.ref b209), .val (.int (own_n own_nil)), .unset, .unset] []))
      refine own_on (fun t_ k_ => XS.iloadN X209.here hx rfl (hb hby at_244) rfl k_) ?_
      show OwnGo p e below s _ _ _ (T209.setTop (mkF m 245 #[.val (.int xa), .val (.int xb), .val (.int xc), .val (.int (0 : Int32)), .val (.int vS), .val (.int vT), .val (.ref wA), .val (.ref wB), .val (.ref wC), .val (.ref wD), .val (.ref wE), .val (.ref wF), .val (.ref oH), .val (.ref oS), .val (.ref oT), .val (.ref b209), .val (.int (own_n own_nil)), .unset, .unset] [(.int (0 : Int32))]))
      refine own_on (fun t_ k_ => XS.iconst X209.here hx rfl (hb hby at_245) k_) ?_
      show OwnGo p e below s _ _ _ (T209.setTop (mkF m 246 #[.val (.int xa), .val (.int xb), .val (.int xc), .val (.int (0 : Int32)), .val (.int vS), .val (.int vT), .val (.ref wA), .val (.ref wB), .val (.ref wC), .val (.ref wD), .val (.ref wE), .val (.ref wF), .val (.ref oH), .val (.ref oS), .val (.ref oT), .val (.ref b209), .val (.int (own_n own_nil)), .unset, .unset] [(.int (1 : Int32)), (.int (0 : Int32))]))
      refine own_on (fun t_ k_ => XS.icmpYes X209.here hx rfl (pc0 := 246) (pc' := 259) rfl (hb hby at_246) rfl (flt (by decide : ¬ ((1 : Int32) < (0 : Int32)))).2.2.2 (by decide) (by decide) k_) ?_
      show OwnGo p e below s _ _ _ (T209.setTop (mkF m 259 #[.val (.int xa), .val (.int xb), .val (.int xc), .val (.int (0 : Int32)), .val (.int vS), .val (.int vT), .val (.ref wA), .val (.ref wB), .val (.ref wC), .val (.ref wD), .val (.ref wE), .val (.ref wF), .val (.ref oH), .val (.ref oS), .val (.ref oT), .val (.ref b209), .val (.int (own_n own_nil)), .unset, .unset] []))
      rw [show (own_n own_nil) = (own_n lH) from congrArg own_n hl.symm]
      show OwnGo p e below s _ _ _ (T209.setTop (mkF m 259 #[.val (.int xa), .val (.int xb), .val (.int xc), .val (.int (0 : Int32)), .val (.int vS), .val (.int vT), .val (.ref wA), .val (.ref wB), .val (.ref wC), .val (.ref wD), .val (.ref wE), .val (.ref wF), .val (.ref oH), .val (.ref oS), .val (.ref oT), .val (.ref b209), .val (.int (own_n lH)), .unset, .unset] []))
      have f225 : Arv Z h209 b209 k209 (.object "java/lang/String") (6 : Int32) (lH.map Value.ref) .null := by rw [hl]; exact f224
      have hc226 : own_case (0 : Int32) lH wA wB := hv ▸ hcase
      have f227 : Exa Z h209 oH "java/util/ArrayList" := fq0.ext E209
      have f228 : Fld Z h209 oH "java/util/ArrayList" "elementData" "[Ljava/lang/Object;" (.ref eaH) := fq1.ext E209
      have f229 : Fld Z h209 oH "java/util/ArrayList" "size" "I" (.int (own_n lH)) := fq2.ext E209
      have f230 : OwnA Z h209 eaH cpH lH := fq3.ext E209
      have f231 : OwnE Z h209 lH := fq4.ext E209
      have f232 : Exa Z h209 oS "java/util/ArrayList" := fq5.ext E209
      have f233 : Fld Z h209 oS "java/util/ArrayList" "elementData" "[Ljava/lang/Object;" (.ref eaS) := fq6.ext E209
      have f234 : Fld Z h209 oS "java/util/ArrayList" "size" "I" (.int (own_n lS)) := fq7.ext E209
      have f235 : OwnA Z h209 eaS cpS lS := fq8.ext E209
      have f236 : OwnE Z h209 lS := fq9.ext E209
      have f237 : Exa Z h209 oT "java/util/ArrayList" := fq10.ext E209
      have f238 : Fld Z h209 oT "java/util/ArrayList" "elementData" "[Ljava/lang/Object;" (.ref eaT) := fq11.ext E209
      have f239 : Fld Z h209 oT "java/util/ArrayList" "size" "I" (.int (own_n lT)) := fq12.ext E209
      have f240 : OwnA Z h209 eaT cpT lT := fq13.ext E209
      have f241 : OwnE Z h209 lT := fq14.ext E209
      have f242 : Old Z n0 h209 := fq15.ext E209
      have f243 : Exa Z h209 wA "java/lang/String" := fq16.ext E209
      have f244 : Exa Z h209 wB "java/lang/String" := fq17.ext E209
      have f245 : Exa Z h209 wC "java/lang/String" := fq18.ext E209
      have f246 : Exa Z h209 wD "java/lang/String" := fq19.ext E209
      have f247 : Exa Z h209 wE "java/lang/String" := fq20.ext E209
      have f248 : Exa Z h209 wF "java/lang/String" := fq21.ext E209
      exact J259 _ _ _ (X209.more (by decide) (by decide)) e209 Nq Z209 K209 (0 : Int32) vS vT wA wB wC wD wE wF oH eaH cpH lH oS eaS cpS lS oT eaT cpT lT b209 k209 f227 f228 f229 f230 f231 f232 f233 f234 f235 f236 f237 f238 f239 f240 f241 f242 f243 f244 f245 f246 f247 f248 hc226 fq23 fq24 f225 g222 z223 O209 ne210 ne211 ne212 ne213 ne214 ne215
    · rw [show vH = (1 : Int32) from hv]
      show OwnGo p e below s _ _ _ (T209.setTop (mkF m 230 #[.val (.int xa), .val (.int xb), .val (.int xc), .val (.int (1 : Int32)), .val (.int vS), .val (.int vT), .val (.ref wA), .val (.ref wB), .val (.ref wC), .val (.ref wD), .val (.ref wE), .val (.ref wF), .val (.ref oH), .val (.ref oS), .val (.ref oT), .val (.ref b209), .val (.int (own_n own_nil)), .unset, .unset] []))
      refine own_on (fun t_ k_ => XS.iloadN X209.here hx rfl (hb hby at_230) rfl k_) ?_
      show OwnGo p e below s _ _ _ (T209.setTop (mkF m 231 #[.val (.int xa), .val (.int xb), .val (.int xc), .val (.int (1 : Int32)), .val (.int vS), .val (.int vT), .val (.ref wA), .val (.ref wB), .val (.ref wC), .val (.ref wD), .val (.ref wE), .val (.ref wF), .val (.ref oH), .val (.ref oS), .val (.ref oT), .val (.ref b209), .val (.int (own_n own_nil)), .unset, .unset] [(.int (1 : Int32))]))
      refine own_on (fun t_ k_ => XS.ifNo X209.here hx rfl (hb hby at_231) rfl ((if0 _ _).trans (tlt (by decide : (0 : Int32) < (1 : Int32))).2.2.2) k_) ?_
      show OwnGo p e below s _ _ _ (T209.setTop (mkF m 234 #[.val (.int xa), .val (.int xb), .val (.int xc), .val (.int (1 : Int32)), .val (.int vS), .val (.int vT), .val (.ref wA), .val (.ref wB), .val (.ref wC), .val (.ref wD), .val (.ref wE), .val (.ref wF), .val (.ref oH), .val (.ref oS), .val (.ref oT), .val (.ref b209), .val (.int (own_n own_nil)), .unset, .unset] []))
      refine own_on (fun t_ k_ => XS.aload X209.here hx rfl (hb hby at_234) rfl rfl k_) ?_
      show OwnGo p e below s _ _ _ (T209.setTop (mkF m 236 #[.val (.int xa), .val (.int xb), .val (.int xc), .val (.int (1 : Int32)), .val (.int vS), .val (.int vT), .val (.ref wA), .val (.ref wB), .val (.ref wC), .val (.ref wD), .val (.ref wE), .val (.ref wF), .val (.ref oH), .val (.ref oS), .val (.ref oT), .val (.ref b209), .val (.int (own_n own_nil)), .unset, .unset] [(.ref b209)]))
      refine own_on (fun t_ k_ => XS.iload X209.here hx rfl (hb hby at_236) rfl k_) ?_
      show OwnGo p e below s _ _ _ (T209.setTop (mkF m 238 #[.val (.int xa), .val (.int xb), .val (.int xc), .val (.int (1 : Int32)), .val (.int vS), .val (.int vT), .val (.ref wA), .val (.ref wB), .val (.ref wC), .val (.ref wD), .val (.ref wE), .val (.ref wF), .val (.ref oH), .val (.ref oS), .val (.ref oT), .val (.ref b209), .val (.int (own_n own_nil)), .unset, .unset] [(.int (own_n own_nil)), (.ref b209)]))
      refine own_on (fun t_ k_ => XS.aload X209.here hx rfl (hb hby at_238) rfl rfl k_) ?_
      show OwnGo p e below s _ _ _ (T209.setTop (mkF m 240 #[.val (.int xa), .val (.int xb), .val (.int xc), .val (.int (1 : Int32)), .val (.int vS), .val (.int vT), .val (.ref wA), .val (.ref wB), .val (.ref wC), .val (.ref wD), .val (.ref wE), .val (.ref wF), .val (.ref oH), .val (.ref oS), .val (.ref oT), .val (.ref b209), .val (.int (own_n own_nil)), .unset, .unset] [(.ref wA), (.int (own_n own_nil)), (.ref b209)]))
      obtain ⟨cl249, Ar249, q249, S249, M249, H249, G249⟩ := id f224
      have f250 : Exa Z h209 wA "java/lang/String" := fq16.ext E209
      have hlt251 : own_nil.length < 6 := by simp [own_nil]
      have hin249 : ¬ ((own_n own_nil) < 0 ∨ cl249.slots.size ≤ ((own_n own_nil)).toNatClampNeg) := inb_of S249 ⟨own_onN (by omega), (own_lt' (y := 6) (by omega) (by omega)).mpr hlt251⟩
      obtain ⟨T252, h252, X252, e252, W252, st252⟩ := stR X209 hx hZ e209 Ar249 (j := (own_n own_nil)) hin249 rfl (Sto.of Ar249 (by rw [q249]; exact O209) (Ins.self f250)) (g := (mkF m 240 #[.val (.int xa), .val (.int xb), .val (.int xc), .val (.int (1 : Int32)), .val (.int vS), .val (.int vT), .val (.ref wA), .val (.ref wB), .val (.ref wC), .val (.ref wD), .val (.ref wE), .val (.ref wF), .val (.ref oH), .val (.ref oS), .val (.ref oT), .val (.ref b209), .val (.int (own_n own_nil)), .unset, .unset] [(.ref wA), (.int (own_n own_nil)), (.ref b209)])) rfl rfl (hb hby at_240)
      have V252 : Arv Z h252 b209 k209 (.object "java/lang/String") (6 : Int32) ((own_nil ++ [wA]).map Value.ref) .null := own_setS hlt251 rfl Ar249 q249 S249 M249 H249 G249 rfl rfl W252
      have N252 := Fr.snoc X252 Nq g222
      have Z252 : n0 ≤ h252.size := Nat.le_trans Z209 (Keep.of_wr W252).1
      have K252 : Keep h0 h252 [] := K209.wr W252 (Or.inr z223)
      refine own_on st252 ?_
      show OwnGo p e below s _ _ _ (T252.setTop (mkF m 241 #[.val (.int xa), .val (.int xb), .val (.int xc), .val (.int (1 : Int32)), .val (.int vS), .val (.int vT), .val (.ref wA), .val (.ref wB), .val (.ref wC), .val (.ref wD), .val (.ref wE), .val (.ref wF), .val (.ref oH), .val (.ref oS), .val (.ref oT), .val (.ref b209), .val (.int (own_n own_nil)), .unset, .unset] []))
      refine own_on (fun t_ k_ => XS.iinc X252.here hx rfl (hb hby at_241) rfl (l' := #[.val (.int xa), .val (.int xb), .val (.int xc), .val (.int (1 : Int32)), .val (.int vS), .val (.int vT), .val (.ref wA), .val (.ref wB), .val (.ref wC), .val (.ref wD), .val (.ref wE), .val (.ref wF), .val (.ref oH), .val (.ref oS), .val (.ref oT), .val (.ref b209), .val (.int ((own_n own_nil) + (1 : Int32))), .unset, .unset]) rfl k_) ?_
      show OwnGo p e below s _ _ _ (T252.setTop (mkF m 244 #[.val (.int xa), .val (.int xb), .val (.int xc), .val (.int (1 : Int32)), .val (.int vS), .val (.int vT), .val (.ref wA), .val (.ref wB), .val (.ref wC), .val (.ref wD), .val (.ref wE), .val (.ref wF), .val (.ref oH), .val (.ref oS), .val (.ref oT), .val (.ref b209), .val (.int ((own_n own_nil) + (1 : Int32))), .unset, .unset] []))
      rw [show ((own_n own_nil) + (1 : Int32)) = (own_n (own_nil ++ [wA])) from own_napp1 _ _]
      show OwnGo p e below s _ _ _ (T252.setTop (mkF m 244 #[.val (.int xa), .val (.int xb), .val (.int xc), .val (.int (1 : Int32)), .val (.int vS), .val (.int vT), .val (.ref wA), .val (.ref wB), .val (.ref wC), .val (.ref wD), .val (.ref wE), .val (.ref wF), .val (.ref oH), .val (.ref oS), .val (.ref oT), .val (.ref b209), .val (.int (own_n (own_nil ++ [wA]))), .unset, .unset] []))
      refine own_on (fun t_ k_ => XS.iloadN X252.here hx rfl (hb hby at_244) rfl k_) ?_
      show OwnGo p e below s _ _ _ (T252.setTop (mkF m 245 #[.val (.int xa), .val (.int xb), .val (.int xc), .val (.int (1 : Int32)), .val (.int vS), .val (.int vT), .val (.ref wA), .val (.ref wB), .val (.ref wC), .val (.ref wD), .val (.ref wE), .val (.ref wF), .val (.ref oH), .val (.ref oS), .val (.ref oT), .val (.ref b209), .val (.int (own_n (own_nil ++ [wA]))), .unset, .unset] [(.int (1 : Int32))]))
      refine own_on (fun t_ k_ => XS.iconst X252.here hx rfl (hb hby at_245) k_) ?_
      show OwnGo p e below s _ _ _ (T252.setTop (mkF m 246 #[.val (.int xa), .val (.int xb), .val (.int xc), .val (.int (1 : Int32)), .val (.int vS), .val (.int vT), .val (.ref wA), .val (.ref wB), .val (.ref wC), .val (.ref wD), .val (.ref wE), .val (.ref wF), .val (.ref oH), .val (.ref oS), .val (.ref oT), .val (.ref b209), .val (.int (own_n (own_nil ++ [wA]))), .unset, .unset] [(.int (1 : Int32)), (.int (1 : Int32))]))
      refine own_on (fun t_ k_ => XS.icmpYes X252.here hx rfl (pc0 := 246) (pc' := 259) rfl (hb hby at_246) rfl (flt (by decide : ¬ ((1 : Int32) < (1 : Int32)))).2.2.2 (by decide) (by decide) k_) ?_
      show OwnGo p e below s _ _ _ (T252.setTop (mkF m 259 #[.val (.int xa), .val (.int xb), .val (.int xc), .val (.int (1 : Int32)), .val (.int vS), .val (.int vT), .val (.ref wA), .val (.ref wB), .val (.ref wC), .val (.ref wD), .val (.ref wE), .val (.ref wF), .val (.ref oH), .val (.ref oS), .val (.ref oT), .val (.ref b209), .val (.int (own_n (own_nil ++ [wA]))), .unset, .unset] []))
      rw [show (own_n (own_nil ++ [wA])) = (own_n lH) from congrArg own_n hl.symm]
      show OwnGo p e below s _ _ _ (T252.setTop (mkF m 259 #[.val (.int xa), .val (.int xb), .val (.int xc), .val (.int (1 : Int32)), .val (.int vS), .val (.int vT), .val (.ref wA), .val (.ref wB), .val (.ref wC), .val (.ref wD), .val (.ref wE), .val (.ref wF), .val (.ref oH), .val (.ref oS), .val (.ref oT), .val (.ref b209), .val (.int (own_n lH)), .unset, .unset] []))
      have f253 : Arv Z h252 b209 k209 (.object "java/lang/String") (6 : Int32) (lH.map Value.ref) .null := by rw [hl]; exact V252
      have hc254 : own_case (1 : Int32) lH wA wB := hv ▸ hcase
      have f255 : Exa Z h209 oH "java/util/ArrayList" := fq0.ext E209
      have f256 : Exa Z h252 oH "java/util/ArrayList" := f255.wr W252
      have f257 : Fld Z h209 oH "java/util/ArrayList" "elementData" "[Ljava/lang/Object;" (.ref eaH) := fq1.ext E209
      have f258 : Fld Z h252 oH "java/util/ArrayList" "elementData" "[Ljava/lang/Object;" (.ref eaH) := f257.other W252 (Or.inl ne210)
      have f259 : Fld Z h209 oH "java/util/ArrayList" "size" "I" (.int (own_n lH)) := fq2.ext E209
      have f260 : Fld Z h252 oH "java/util/ArrayList" "size" "I" (.int (own_n lH)) := f259.other W252 (Or.inl ne210)
      have f261 : OwnA Z h209 eaH cpH lH := fq3.ext E209
      have f262 : OwnA Z h252 eaH cpH lH := f261.other W252 ne211
      have f263 : OwnE Z h209 lH := fq4.ext E209
      have f264 : OwnE Z h252 lH := f263.other W252 
      have f265 : Exa Z h209 oS "java/util/ArrayList" := fq5.ext E209
      have f266 : Exa Z h252 oS "java/util/ArrayList" := f265.wr W252
      have f267 : Fld Z h209 oS "java/util/ArrayList" "elementData" "[Ljava/lang/Object;" (.ref eaS) := fq6.ext E209
      have f268 : Fld Z h252 oS "java/util/ArrayList" "elementData" "[Ljava/lang/Object;" (.ref eaS) := f267.other W252 (Or.inl ne212)
      have f269 : Fld Z h209 oS "java/util/ArrayList" "size" "I" (.int (own_n lS)) := fq7.ext E209
      have f270 : Fld Z h252 oS "java/util/ArrayList" "size" "I" (.int (own_n lS)) := f269.other W252 (Or.inl ne212)
      have f271 : OwnA Z h209 eaS cpS lS := fq8.ext E209
      have f272 : OwnA Z h252 eaS cpS lS := f271.other W252 ne213
      have f273 : OwnE Z h209 lS := fq9.ext E209
      have f274 : OwnE Z h252 lS := f273.other W252 
      have f275 : Exa Z h209 oT "java/util/ArrayList" := fq10.ext E209
      have f276 : Exa Z h252 oT "java/util/ArrayList" := f275.wr W252
      have f277 : Fld Z h209 oT "java/util/ArrayList" "elementData" "[Ljava/lang/Object;" (.ref eaT) := fq11.ext E209
      have f278 : Fld Z h252 oT "java/util/ArrayList" "elementData" "[Ljava/lang/Object;" (.ref eaT) := f277.other W252 (Or.inl ne214)
      have f279 : Fld Z h209 oT "java/util/ArrayList" "size" "I" (.int (own_n lT)) := fq12.ext E209
      have f280 : Fld Z h252 oT "java/util/ArrayList" "size" "I" (.int (own_n lT)) := f279.other W252 (Or.inl ne214)
      have f281 : OwnA Z h209 eaT cpT lT := fq13.ext E209
      have f282 : OwnA Z h252 eaT cpT lT := f281.other W252 ne215
      have f283 : OwnE Z h209 lT := fq14.ext E209
      have f284 : OwnE Z h252 lT := f283.other W252 
      have f285 : Old Z n0 h209 := fq15.ext E209
      have f286 : Old Z n0 h252 := f285.wr W252 g222
      have f287 : Exa Z h252 wA "java/lang/String" := f250.wr W252
      have f288 : Exa Z h209 wB "java/lang/String" := fq17.ext E209
      have f289 : Exa Z h252 wB "java/lang/String" := f288.wr W252
      have f290 : Exa Z h209 wC "java/lang/String" := fq18.ext E209
      have f291 : Exa Z h252 wC "java/lang/String" := f290.wr W252
      have f292 : Exa Z h209 wD "java/lang/String" := fq19.ext E209
      have f293 : Exa Z h252 wD "java/lang/String" := f292.wr W252
      have f294 : Exa Z h209 wE "java/lang/String" := fq20.ext E209
      have f295 : Exa Z h252 wE "java/lang/String" := f294.wr W252
      have f296 : Exa Z h209 wF "java/lang/String" := fq21.ext E209
      have f297 : Exa Z h252 wF "java/lang/String" := f296.wr W252
      exact J259 _ _ _ (X252.more (by decide) (by decide)) e252 N252 Z252 K252 (1 : Int32) vS vT wA wB wC wD wE wF oH eaH cpH lH oS eaS cpS lS oT eaT cpT lT b209 k209 f256 f258 f260 f262 f264 f266 f268 f270 f272 f274 f276 f278 f280 f282 f284 f286 f287 f289 f291 f293 f295 f297 hc254 fq23 fq24 f253 g222 z223 O209 ne210 ne211 ne212 ne213 ne214 ne215
    · rw [show vH = (2 : Int32) from hv]
      show OwnGo p e below s _ _ _ (T209.setTop (mkF m 230 #[.val (.int xa), .val (.int xb), .val (.int xc), .val (.int (2 : Int32)), .val (.int vS), .val (.int vT), .val (.ref wA), .val (.ref wB), .val (.ref wC), .val (.ref wD), .val (.ref wE), .val (.ref wF), .val (.ref oH), .val (.ref oS), .val (.ref oT), .val (.ref b209), .val (.int (own_n own_nil)), .unset, .unset] []))
      refine own_on (fun t_ k_ => XS.iloadN X209.here hx rfl (hb hby at_230) rfl k_) ?_
      show OwnGo p e below s _ _ _ (T209.setTop (mkF m 231 #[.val (.int xa), .val (.int xb), .val (.int xc), .val (.int (2 : Int32)), .val (.int vS), .val (.int vT), .val (.ref wA), .val (.ref wB), .val (.ref wC), .val (.ref wD), .val (.ref wE), .val (.ref wF), .val (.ref oH), .val (.ref oS), .val (.ref oT), .val (.ref b209), .val (.int (own_n own_nil)), .unset, .unset] [(.int (2 : Int32))]))
      refine own_on (fun t_ k_ => XS.ifNo X209.here hx rfl (hb hby at_231) rfl ((if0 _ _).trans (tlt (by decide : (0 : Int32) < (2 : Int32))).2.2.2) k_) ?_
      show OwnGo p e below s _ _ _ (T209.setTop (mkF m 234 #[.val (.int xa), .val (.int xb), .val (.int xc), .val (.int (2 : Int32)), .val (.int vS), .val (.int vT), .val (.ref wA), .val (.ref wB), .val (.ref wC), .val (.ref wD), .val (.ref wE), .val (.ref wF), .val (.ref oH), .val (.ref oS), .val (.ref oT), .val (.ref b209), .val (.int (own_n own_nil)), .unset, .unset] []))
      refine own_on (fun t_ k_ => XS.aload X209.here hx rfl (hb hby at_234) rfl rfl k_) ?_
      show OwnGo p e below s _ _ _ (T209.setTop (mkF m 236 #[.val (.int xa), .val (.int xb), .val (.int xc), .val (.int (2 : Int32)), .val (.int vS), .val (.int vT), .val (.ref wA), .val (.ref wB), .val (.ref wC), .val (.ref wD), .val (.ref wE), .val (.ref wF), .val (.ref oH), .val (.ref oS), .val (.ref oT), .val (.ref b209), .val (.int (own_n own_nil)), .unset, .unset] [(.ref b209)]))
      refine own_on (fun t_ k_ => XS.iload X209.here hx rfl (hb hby at_236) rfl k_) ?_
      show OwnGo p e below s _ _ _ (T209.setTop (mkF m 238 #[.val (.int xa), .val (.int xb), .val (.int xc), .val (.int (2 : Int32)), .val (.int vS), .val (.int vT), .val (.ref wA), .val (.ref wB), .val (.ref wC), .val (.ref wD), .val (.ref wE), .val (.ref wF), .val (.ref oH), .val (.ref oS), .val (.ref oT), .val (.ref b209), .val (.int (own_n own_nil)), .unset, .unset] [(.int (own_n own_nil)), (.ref b209)]))
      refine own_on (fun t_ k_ => XS.aload X209.here hx rfl (hb hby at_238) rfl rfl k_) ?_
      show OwnGo p e below s _ _ _ (T209.setTop (mkF m 240 #[.val (.int xa), .val (.int xb), .val (.int xc), .val (.int (2 : Int32)), .val (.int vS), .val (.int vT), .val (.ref wA), .val (.ref wB), .val (.ref wC), .val (.ref wD), .val (.ref wE), .val (.ref wF), .val (.ref oH), .val (.ref oS), .val (.ref oT), .val (.ref b209), .val (.int (own_n own_nil)), .unset, .unset] [(.ref wA), (.int (own_n own_nil)), (.ref b209)]))
      obtain ⟨cl298, Ar298, q298, S298, M298, H298, G298⟩ := id f224
      have f299 : Exa Z h209 wA "java/lang/String" := fq16.ext E209
      have hlt300 : own_nil.length < 6 := by simp [own_nil]
      have hin298 : ¬ ((own_n own_nil) < 0 ∨ cl298.slots.size ≤ ((own_n own_nil)).toNatClampNeg) := inb_of S298 ⟨own_onN (by omega), (own_lt' (y := 6) (by omega) (by omega)).mpr hlt300⟩
      obtain ⟨T301, h301, X301, e301, W301, st301⟩ := stR X209 hx hZ e209 Ar298 (j := (own_n own_nil)) hin298 rfl (Sto.of Ar298 (by rw [q298]; exact O209) (Ins.self f299)) (g := (mkF m 240 #[.val (.int xa), .val (.int xb), .val (.int xc), .val (.int (2 : Int32)), .val (.int vS), .val (.int vT), .val (.ref wA), .val (.ref wB), .val (.ref wC), .val (.ref wD), .val (.ref wE), .val (.ref wF), .val (.ref oH), .val (.ref oS), .val (.ref oT), .val (.ref b209), .val (.int (own_n own_nil)), .unset, .unset] [(.ref wA), (.int (own_n own_nil)), (.ref b209)])) rfl rfl (hb hby at_240)
      have V301 : Arv Z h301 b209 k209 (.object "java/lang/String") (6 : Int32) ((own_nil ++ [wA]).map Value.ref) .null := own_setS hlt300 rfl Ar298 q298 S298 M298 H298 G298 rfl rfl W301
      have N301 := Fr.snoc X301 Nq g222
      have Z301 : n0 ≤ h301.size := Nat.le_trans Z209 (Keep.of_wr W301).1
      have K301 : Keep h0 h301 [] := K209.wr W301 (Or.inr z223)
      refine own_on st301 ?_
      show OwnGo p e below s _ _ _ (T301.setTop (mkF m 241 #[.val (.int xa), .val (.int xb), .val (.int xc), .val (.int (2 : Int32)), .val (.int vS), .val (.int vT), .val (.ref wA), .val (.ref wB), .val (.ref wC), .val (.ref wD), .val (.ref wE), .val (.ref wF), .val (.ref oH), .val (.ref oS), .val (.ref oT), .val (.ref b209), .val (.int (own_n own_nil)), .unset, .unset] []))
      refine own_on (fun t_ k_ => XS.iinc X301.here hx rfl (hb hby at_241) rfl (l' := #[.val (.int xa), .val (.int xb), .val (.int xc), .val (.int (2 : Int32)), .val (.int vS), .val (.int vT), .val (.ref wA), .val (.ref wB), .val (.ref wC), .val (.ref wD), .val (.ref wE), .val (.ref wF), .val (.ref oH), .val (.ref oS), .val (.ref oT), .val (.ref b209), .val (.int ((own_n own_nil) + (1 : Int32))), .unset, .unset]) rfl k_) ?_
      show OwnGo p e below s _ _ _ (T301.setTop (mkF m 244 #[.val (.int xa), .val (.int xb), .val (.int xc), .val (.int (2 : Int32)), .val (.int vS), .val (.int vT), .val (.ref wA), .val (.ref wB), .val (.ref wC), .val (.ref wD), .val (.ref wE), .val (.ref wF), .val (.ref oH), .val (.ref oS), .val (.ref oT), .val (.ref b209), .val (.int ((own_n own_nil) + (1 : Int32))), .unset, .unset] []))
      rw [show ((own_n own_nil) + (1 : Int32)) = (own_n (own_nil ++ [wA])) from own_napp1 _ _]
      show OwnGo p e below s _ _ _ (T301.setTop (mkF m 244 #[.val (.int xa), .val (.int xb), .val (.int xc), .val (.int (2 : Int32)), .val (.int vS), .val (.int vT), .val (.ref wA), .val (.ref wB), .val (.ref wC), .val (.ref wD), .val (.ref wE), .val (.ref wF), .val (.ref oH), .val (.ref oS), .val (.ref oT), .val (.ref b209), .val (.int (own_n (own_nil ++ [wA]))), .unset, .unset] []))
      refine own_on (fun t_ k_ => XS.iloadN X301.here hx rfl (hb hby at_244) rfl k_) ?_
      show OwnGo p e below s _ _ _ (T301.setTop (mkF m 245 #[.val (.int xa), .val (.int xb), .val (.int xc), .val (.int (2 : Int32)), .val (.int vS), .val (.int vT), .val (.ref wA), .val (.ref wB), .val (.ref wC), .val (.ref wD), .val (.ref wE), .val (.ref wF), .val (.ref oH), .val (.ref oS), .val (.ref oT), .val (.ref b209), .val (.int (own_n (own_nil ++ [wA]))), .unset, .unset] [(.int (2 : Int32))]))
      refine own_on (fun t_ k_ => XS.iconst X301.here hx rfl (hb hby at_245) k_) ?_
      show OwnGo p e below s _ _ _ (T301.setTop (mkF m 246 #[.val (.int xa), .val (.int xb), .val (.int xc), .val (.int (2 : Int32)), .val (.int vS), .val (.int vT), .val (.ref wA), .val (.ref wB), .val (.ref wC), .val (.ref wD), .val (.ref wE), .val (.ref wF), .val (.ref oH), .val (.ref oS), .val (.ref oT), .val (.ref b209), .val (.int (own_n (own_nil ++ [wA]))), .unset, .unset] [(.int (1 : Int32)), (.int (2 : Int32))]))
      refine own_on (fun t_ k_ => XS.icmpNo X301.here hx rfl (hb hby at_246) rfl (tlt (by decide : (1 : Int32) < (2 : Int32))).2.2.2 k_) ?_
      show OwnGo p e below s _ _ _ (T301.setTop (mkF m 249 #[.val (.int xa), .val (.int xb), .val (.int xc), .val (.int (2 : Int32)), .val (.int vS), .val (.int vT), .val (.ref wA), .val (.ref wB), .val (.ref wC), .val (.ref wD), .val (.ref wE), .val (.ref wF), .val (.ref oH), .val (.ref oS), .val (.ref oT), .val (.ref b209), .val (.int (own_n (own_nil ++ [wA]))), .unset, .unset] []))
      refine own_on (fun t_ k_ => XS.aload X301.here hx rfl (hb hby at_249) rfl rfl k_) ?_
      show OwnGo p e below s _ _ _ (T301.setTop (mkF m 251 #[.val (.int xa), .val (.int xb), .val (.int xc), .val (.int (2 : Int32)), .val (.int vS), .val (.int vT), .val (.ref wA), .val (.ref wB), .val (.ref wC), .val (.ref wD), .val (.ref wE), .val (.ref wF), .val (.ref oH), .val (.ref oS), .val (.ref oT), .val (.ref b209), .val (.int (own_n (own_nil ++ [wA]))), .unset, .unset] [(.ref b209)]))
      refine own_on (fun t_ k_ => XS.iload X301.here hx rfl (hb hby at_251) rfl k_) ?_
      show OwnGo p e below s _ _ _ (T301.setTop (mkF m 253 #[.val (.int xa), .val (.int xb), .val (.int xc), .val (.int (2 : Int32)), .val (.int vS), .val (.int vT), .val (.ref wA), .val (.ref wB), .val (.ref wC), .val (.ref wD), .val (.ref wE), .val (.ref wF), .val (.ref oH), .val (.ref oS), .val (.ref oT), .val (.ref b209), .val (.int (own_n (own_nil ++ [wA]))), .unset, .unset] [(.int (own_n (own_nil ++ [wA]))), (.ref b209)]))
      refine own_on (fun t_ k_ => XS.aload X301.here hx rfl (hb hby at_253) rfl rfl k_) ?_
      show OwnGo p e below s _ _ _ (T301.setTop (mkF m 255 #[.val (.int xa), .val (.int xb), .val (.int xc), .val (.int (2 : Int32)), .val (.int vS), .val (.int vT), .val (.ref wA), .val (.ref wB), .val (.ref wC), .val (.ref wD), .val (.ref wE), .val (.ref wF), .val (.ref oH), .val (.ref oS), .val (.ref oT), .val (.ref b209), .val (.int (own_n (own_nil ++ [wA]))), .unset, .unset] [(.ref wB), (.int (own_n (own_nil ++ [wA]))), (.ref b209)]))
      obtain ⟨cl302, Ar302, q302, S302, M302, H302, G302⟩ := id V301
      have f303 : Exa Z h209 wB "java/lang/String" := fq17.ext E209
      have f304 : Exa Z h301 wB "java/lang/String" := f303.wr W301
      have hlt305 : (own_nil ++ [wA]).length < 6 := by simp [own_nil]
      have hin302 : ¬ ((own_n (own_nil ++ [wA])) < 0 ∨ cl302.slots.size ≤ ((own_n (own_nil ++ [wA]))).toNatClampNeg) := inb_of S302 ⟨own_onN (by omega), (own_lt' (y := 6) (by omega) (by omega)).mpr hlt305⟩
      obtain ⟨T306, h306, X306, e306, W306, st306⟩ := stR X301 hx hZ e301 Ar302 (j := (own_n (own_nil ++ [wA]))) hin302 rfl (Sto.of Ar302 (by rw [q302]; exact O209) (Ins.self f304)) (g := (mkF m 255 #[.val (.int xa), .val (.int xb), .val (.int xc), .val (.int (2 : Int32)), .val (.int vS), .val (.int vT), .val (.ref wA), .val (.ref wB), .val (.ref wC), .val (.ref wD), .val (.ref wE), .val (.ref wF), .val (.ref oH), .val (.ref oS), .val (.ref oT), .val (.ref b209), .val (.int (own_n (own_nil ++ [wA]))), .unset, .unset] [(.ref wB), (.int (own_n (own_nil ++ [wA]))), (.ref b209)])) rfl rfl (hb hby at_255)
      have V306 : Arv Z h306 b209 k209 (.object "java/lang/String") (6 : Int32) (((own_nil ++ [wA]) ++ [wB]).map Value.ref) .null := own_setS hlt305 rfl Ar302 q302 S302 M302 H302 G302 rfl rfl W306
      have N306 := Fr.snoc X306 N301 g222
      have Z306 : n0 ≤ h306.size := Nat.le_trans Z301 (Keep.of_wr W306).1
      have K306 : Keep h0 h306 [] := K301.wr W306 (Or.inr z223)
      refine own_on st306 ?_
      show OwnGo p e below s _ _ _ (T306.setTop (mkF m 256 #[.val (.int xa), .val (.int xb), .val (.int xc), .val (.int (2 : Int32)), .val (.int vS), .val (.int vT), .val (.ref wA), .val (.ref wB), .val (.ref wC), .val (.ref wD), .val (.ref wE), .val (.ref wF), .val (.ref oH), .val (.ref oS), .val (.ref oT), .val (.ref b209), .val (.int (own_n (own_nil ++ [wA]))), .unset, .unset] []))
      refine own_on (fun t_ k_ => XS.iinc X306.here hx rfl (hb hby at_256) rfl (l' := #[.val (.int xa), .val (.int xb), .val (.int xc), .val (.int (2 : Int32)), .val (.int vS), .val (.int vT), .val (.ref wA), .val (.ref wB), .val (.ref wC), .val (.ref wD), .val (.ref wE), .val (.ref wF), .val (.ref oH), .val (.ref oS), .val (.ref oT), .val (.ref b209), .val (.int ((own_n (own_nil ++ [wA])) + (1 : Int32))), .unset, .unset]) rfl k_) ?_
      show OwnGo p e below s _ _ _ (T306.setTop (mkF m 259 #[.val (.int xa), .val (.int xb), .val (.int xc), .val (.int (2 : Int32)), .val (.int vS), .val (.int vT), .val (.ref wA), .val (.ref wB), .val (.ref wC), .val (.ref wD), .val (.ref wE), .val (.ref wF), .val (.ref oH), .val (.ref oS), .val (.ref oT), .val (.ref b209), .val (.int ((own_n (own_nil ++ [wA])) + (1 : Int32))), .unset, .unset] []))
      rw [show ((own_n (own_nil ++ [wA])) + (1 : Int32)) = (own_n ((own_nil ++ [wA]) ++ [wB])) from own_napp1 _ _]
      show OwnGo p e below s _ _ _ (T306.setTop (mkF m 259 #[.val (.int xa), .val (.int xb), .val (.int xc), .val (.int (2 : Int32)), .val (.int vS), .val (.int vT), .val (.ref wA), .val (.ref wB), .val (.ref wC), .val (.ref wD), .val (.ref wE), .val (.ref wF), .val (.ref oH), .val (.ref oS), .val (.ref oT), .val (.ref b209), .val (.int (own_n ((own_nil ++ [wA]) ++ [wB]))), .unset, .unset] []))
      rw [show (own_n ((own_nil ++ [wA]) ++ [wB])) = (own_n lH) from congrArg own_n hl.symm]
      show OwnGo p e below s _ _ _ (T306.setTop (mkF m 259 #[.val (.int xa), .val (.int xb), .val (.int xc), .val (.int (2 : Int32)), .val (.int vS), .val (.int vT), .val (.ref wA), .val (.ref wB), .val (.ref wC), .val (.ref wD), .val (.ref wE), .val (.ref wF), .val (.ref oH), .val (.ref oS), .val (.ref oT), .val (.ref b209), .val (.int (own_n lH)), .unset, .unset] []))
      have f307 : Arv Z h306 b209 k209 (.object "java/lang/String") (6 : Int32) (lH.map Value.ref) .null := by rw [hl]; exact V306
      have hc308 : own_case (2 : Int32) lH wA wB := hv ▸ hcase
      have f309 : Exa Z h209 oH "java/util/ArrayList" := fq0.ext E209
      have f310 : Exa Z h301 oH "java/util/ArrayList" := f309.wr W301
      have f311 : Exa Z h306 oH "java/util/ArrayList" := f310.wr W306
      have f312 : Fld Z h209 oH "java/util/ArrayList" "elementData" "[Ljava/lang/Object;" (.ref eaH) := fq1.ext E209
      have f313 : Fld Z h301 oH "java/util/ArrayList" "elementData" "[Ljava/lang/Object;" (.ref eaH) := f312.other W301 (Or.inl ne210)
      have f314 : Fld Z h306 oH "java/util/ArrayList" "elementData" "[Ljava/lang/Object;" (.ref eaH) := f313.other W306 (Or.inl ne210)
      have f315 : Fld Z h209 oH "java/util/ArrayList" "size" "I" (.int (own_n lH)) := fq2.ext E209
      have f316 : Fld Z h301 oH "java/util/ArrayList" "size" "I" (.int (own_n lH)) := f315.other W301 (Or.inl ne210)
      have f317 : Fld Z h306 oH "java/util/ArrayList" "size" "I" (.int (own_n lH)) := f316.other W306 (Or.inl ne210)
      have f318 : OwnA Z h209 eaH cpH lH := fq3.ext E209
      have f319 : OwnA Z h301 eaH cpH lH := f318.other W301 ne211
      have f320 : OwnA Z h306 eaH cpH lH := f319.other W306 ne211
      have f321 : OwnE Z h209 lH := fq4.ext E209
      have f322 : OwnE Z h301 lH := f321.other W301 
      have f323 : OwnE Z h306 lH := f322.other W306 
      have f324 : Exa Z h209 oS "java/util/ArrayList" := fq5.ext E209
      have f325 : Exa Z h301 oS "java/util/ArrayList" := f324.wr W301
      have f326 : Exa Z h306 oS "java/util/ArrayList" := f325.wr W306
      have f327 : Fld Z h209 oS "java/util/ArrayList" "elementData" "[Ljava/lang/Object;" (.ref eaS) := fq6.ext E209
      have f328 : Fld Z h301 oS "java/util/ArrayList" "elementData" "[Ljava/lang/Object;" (.ref eaS) := f327.other W301 (Or.inl ne212)
      have f329 : Fld Z h306 oS "java/util/ArrayList" "elementData" "[Ljava/lang/Object;" (.ref eaS) := f328.other W306 (Or.inl ne212)
      have f330 : Fld Z h209 oS "java/util/ArrayList" "size" "I" (.int (own_n lS)) := fq7.ext E209
      have f331 : Fld Z h301 oS "java/util/ArrayList" "size" "I" (.int (own_n lS)) := f330.other W301 (Or.inl ne212)
      have f332 : Fld Z h306 oS "java/util/ArrayList" "size" "I" (.int (own_n lS)) := f331.other W306 (Or.inl ne212)
      have f333 : OwnA Z h209 eaS cpS lS := fq8.ext E209
      have f334 : OwnA Z h301 eaS cpS lS := f333.other W301 ne213
      have f335 : OwnA Z h306 eaS cpS lS := f334.other W306 ne213
      have f336 : OwnE Z h209 lS := fq9.ext E209
      have f337 : OwnE Z h301 lS := f336.other W301 
      have f338 : OwnE Z h306 lS := f337.other W306 
      have f339 : Exa Z h209 oT "java/util/ArrayList" := fq10.ext E209
      have f340 : Exa Z h301 oT "java/util/ArrayList" := f339.wr W301
      have f341 : Exa Z h306 oT "java/util/ArrayList" := f340.wr W306
      have f342 : Fld Z h209 oT "java/util/ArrayList" "elementData" "[Ljava/lang/Object;" (.ref eaT) := fq11.ext E209
      have f343 : Fld Z h301 oT "java/util/ArrayList" "elementData" "[Ljava/lang/Object;" (.ref eaT) := f342.other W301 (Or.inl ne214)
      have f344 : Fld Z h306 oT "java/util/ArrayList" "elementData" "[Ljava/lang/Object;" (.ref eaT) := f343.other W306 (Or.inl ne214)
      have f345 : Fld Z h209 oT "java/util/ArrayList" "size" "I" (.int (own_n lT)) := fq12.ext E209
      have f346 : Fld Z h301 oT "java/util/ArrayList" "size" "I" (.int (own_n lT)) := f345.other W301 (Or.inl ne214)
      have f347 : Fld Z h306 oT "java/util/ArrayList" "size" "I" (.int (own_n lT)) := f346.other W306 (Or.inl ne214)
      have f348 : OwnA Z h209 eaT cpT lT := fq13.ext E209
      have f349 : OwnA Z h301 eaT cpT lT := f348.other W301 ne215
      have f350 : OwnA Z h306 eaT cpT lT := f349.other W306 ne215
      have f351 : OwnE Z h209 lT := fq14.ext E209
      have f352 : OwnE Z h301 lT := f351.other W301 
      have f353 : OwnE Z h306 lT := f352.other W306 
      have f354 : Old Z n0 h209 := fq15.ext E209
      have f355 : Old Z n0 h301 := f354.wr W301 g222
      have f356 : Old Z n0 h306 := f355.wr W306 g222
      have f357 : Exa Z h301 wA "java/lang/String" := f299.wr W301
      have f358 : Exa Z h306 wA "java/lang/String" := f357.wr W306
      have f359 : Exa Z h306 wB "java/lang/String" := f304.wr W306
      have f360 : Exa Z h209 wC "java/lang/String" := fq18.ext E209
      have f361 : Exa Z h301 wC "java/lang/String" := f360.wr W301
      have f362 : Exa Z h306 wC "java/lang/String" := f361.wr W306
      have f363 : Exa Z h209 wD "java/lang/String" := fq19.ext E209
      have f364 : Exa Z h301 wD "java/lang/String" := f363.wr W301
      have f365 : Exa Z h306 wD "java/lang/String" := f364.wr W306
      have f366 : Exa Z h209 wE "java/lang/String" := fq20.ext E209
      have f367 : Exa Z h301 wE "java/lang/String" := f366.wr W301
      have f368 : Exa Z h306 wE "java/lang/String" := f367.wr W306
      have f369 : Exa Z h209 wF "java/lang/String" := fq21.ext E209
      have f370 : Exa Z h301 wF "java/lang/String" := f369.wr W301
      have f371 : Exa Z h306 wF "java/lang/String" := f370.wr W306
      exact J259 _ _ _ (X306.more (by decide) (by decide)) e306 N306 Z306 K306 (2 : Int32) vS vT wA wB wC wD wE wF oH eaH cpH lH oS eaS cpS lS oT eaT cpT lT b209 k209 f311 f314 f317 f320 f323 f326 f329 f332 f335 f338 f341 f344 f347 f350 f353 f356 f358 f359 f362 f365 f368 f371 hc308 fq23 fq24 f307 g222 z223 O209 ne210 ne211 ne212 ne213 ne214 ne215
  have J180 : ∀ (Tq : State) (hq : Heap) (lq : List Loc) (Xq : Stand p l e room_1 s m #[(.int xa), (.int xb), (.int xc)] below meth c Tq lq 21 98) (eq : Tq.heap = hq) (Nq : Fr n0 lq) (Zq : n0 ≤ hq.size) (Kq : Keep h0 hq []) (vH : Int32) (vS : Int32) (vT : Int32) (wA : Addr) (wB : Addr) (wC : Addr) (wD : Addr) (wE : Addr) (wF : Addr) (oH : Addr) (eaH : Addr) (cpH : Nat) (lH : List Addr) (oS : Addr) (eaS : Addr) (cpS : Nat) (lS : List Addr) (fq0 : Exa Z hq oH "java/util/ArrayList") (fq1 : Fld Z hq oH "java/util/ArrayList" "elementData" "[Ljava/lang/Object;" (.ref eaH)) (fq2 : Fld Z hq oH "java/util/ArrayList" "size" "I" (.int (own_n lH))) (fq3 : OwnA Z hq eaH cpH lH) (fq4 : OwnE Z hq lH) (fq5 : Exa Z hq oS "java/util/ArrayList") (fq6 : Fld Z hq oS "java/util/ArrayList" "elementData" "[Ljava/lang/Object;" (.ref eaS)) (fq7 : Fld Z hq oS "java/util/ArrayList" "size" "I" (.int (own_n lS))) (fq8 : OwnA Z hq eaS cpS lS) (fq9 : OwnE Z hq lS) (fq10 : Old Z n0 hq) (fq11 : Exa Z hq wA "java/lang/String") (fq12 : Exa Z hq wB "java/lang/String") (fq13 : Exa Z hq wC "java/lang/String") (fq14 : Exa Z hq wD "java/lang/String") (fq15 : Exa Z hq wE "java/lang/String") (fq16 : Exa Z hq wF "java/lang/String") (fq17 : own_case vH lH wA wB) (fq18 : own_case vS lS wC wD) (fq19 : vT = 0 ∨ vT = 1 ∨ vT = 2), OwnGo p e below s (Q0 Z xa xb xc cs dc em mr ml h0 n0) room_1.cells room_1.slots (Tq.setTop (mkF m 180 #[.val (.int xa), .val (.int xb), .val (.int xc), .val (.int vH), .val (.int vS), .val (.int vT), .val (.ref wA), .val (.ref wB), .val (.ref wC), .val (.ref wD), .val (.ref wE), .val (.ref wF), .val (.ref oH), .val (.ref oS), .unset, .unset, .unset, .unset, .unset] [])) := by
    intro Tq hq lq Xq eq Nq Zq Kq vH vS vT wA wB wC wD wE wF oH eaH cpH lH oS eaS cpS lS fq0 fq1 fq2 fq3 fq4 fq5 fq6 fq7 fq8 fq9 fq10 fq11 fq12 fq13 fq14 fq15 fq16 fq17 fq18 fq19
    have f372 : OwnA Z hq dc 0 own_nil := P4.ext fq10.2
    obtain ⟨T373, h373, X373, e373, E373, A373, D373, u373, st373⟩ := newO Xq hx hZ hown (w26 hw) (w27 hw) (w28 hw) eq (g := (mkF m 180 #[.val (.int xa), .val (.int xb), .val (.int xc), .val (.int vH), .val (.int vS), .val (.int vT), .val (.ref wA), .val (.ref wB), .val (.ref wC), .val (.ref wD), .val (.ref wE), .val (.ref wF), .val (.ref oH), .val (.ref oS), .unset, .unset, .unset, .unset, .unset] [])) rfl (hb hby at_180) (by decide) (by decide)
    obtain ⟨b373, g373⟩ : ∃ z, z = hq.size := ⟨_, rfl⟩
    rw [← g373] at A373 D373 st373
    have ne374' : oH < b373 := Nat.lt_of_lt_of_le fq0.lt (Nat.le_of_eq g373.symm)
    have ne374 : oH ≠ b373 := Nat.ne_of_lt ne374'
    have ne375' : eaH < b373 := Nat.lt_of_lt_of_le fq3.lt (Nat.le_of_eq g373.symm)
    have ne375 : eaH ≠ b373 := Nat.ne_of_lt ne375'
    have ne376' : oS < b373 := Nat.lt_of_lt_of_le fq5.lt (Nat.le_of_eq g373.symm)
    have ne376 : oS ≠ b373 := Nat.ne_of_lt ne376'
    have ne377' : eaS < b373 := Nat.lt_of_lt_of_le fq8.lt (Nat.le_of_eq g373.symm)
    have ne377 : eaS ≠ b373 := Nat.ne_of_lt ne377'
    have ne378' : wA < b373 := Nat.lt_of_lt_of_le fq11.lt (Nat.le_of_eq g373.symm)
    have ne378 : wA ≠ b373 := Nat.ne_of_lt ne378'
    have ne379' : wB < b373 := Nat.lt_of_lt_of_le fq12.lt (Nat.le_of_eq g373.symm)
    have ne379 : wB ≠ b373 := Nat.ne_of_lt ne379'
    have ne380' : wC < b373 := Nat.lt_of_lt_of_le fq13.lt (Nat.le_of_eq g373.symm)
    have ne380 : wC ≠ b373 := Nat.ne_of_lt ne380'
    have ne381' : wD < b373 := Nat.lt_of_lt_of_le fq14.lt (Nat.le_of_eq g373.symm)
    have ne381 : wD ≠ b373 := Nat.ne_of_lt ne381'
    have ne382' : wE < b373 := Nat.lt_of_lt_of_le fq15.lt (Nat.le_of_eq g373.symm)
    have ne382 : wE ≠ b373 := Nat.ne_of_lt ne382'
    have ne383' : wF < b373 := Nat.lt_of_lt_of_le fq16.lt (Nat.le_of_eq g373.symm)
    have ne383 : wF ≠ b373 := Nat.ne_of_lt ne383'
    have ne384' : dc < b373 := Nat.lt_of_lt_of_le f372.lt (Nat.le_of_eq g373.symm)
    have ne384 : dc ≠ b373 := Nat.ne_of_lt ne384'
    have g385 : n0 ≤ b373 := Nat.le_trans Zq (Nat.le_of_eq g373.symm)
    have z386 : h0.size ≤ b373 := Nat.le_trans Kq.1 (Nat.le_of_eq g373.symm)
    have Z373 : n0 ≤ h373.size := Nat.le_trans Zq E373.1
    have K373 : Keep h0 h373 [] := Kq.ext E373
    have F373_modCount : Fld Z h373 b373 "java/util/AbstractList" "modCount" "I" (.int (0 : Int32)) := D373 (Or.inl (w46 hw)) (ty := .int) (by decide)
    have F373_elementData : Fld Z h373 b373 "java/util/ArrayList" "elementData" "[Ljava/lang/Object;" .null := D373 (Or.inl (w49 hw)) (ty := (.array (.object "java/lang/Object"))) (by decide)
    have F373_size : Fld Z h373 b373 "java/util/ArrayList" "size" "I" (.int (0 : Int32)) := D373 (Or.inl (w89 hw)) (ty := .int) (by decide)
    refine own_on st373 ?_
    show OwnGo p e below s _ _ _ (T373.setTop (mkF m 183 #[.val (.int xa), .val (.int xb), .val (.int xc), .val (.int vH), .val (.int vS), .val (.int vT), .val (.ref wA), .val (.ref wB), .val (.ref wC), .val (.ref wD), .val (.ref wE), .val (.ref wF), .val (.ref oH), .val (.ref oS), .unset, .unset, .unset, .unset, .unset] [(.ref b373)]))
    refine own_on (fun t_ k_ => XS.dup X373.here hx rfl (hb hby at_183) rfl rfl k_) ?_
    show OwnGo p e below s _ _ _ (T373.setTop (mkF m 184 #[.val (.int xa), .val (.int xb), .val (.int xc), .val (.int vH), .val (.int vS), .val (.int vT), .val (.ref wA), .val (.ref wB), .val (.ref wC), .val (.ref wD), .val (.ref wE), .val (.ref wF), .val (.ref oH), .val (.ref oS), .unset, .unset, .unset, .unset, .unset] [(.ref b373), (.ref b373)]))
    have f387 : Old Z n0 h373 := fq10.ext E373
    obtain ⟨_, _, ⟨T388, L388, k388, n388⟩, -, X388, ⟨Lc388, hQ388, l388, y388, z388⟩, st388⟩ := X373.specialBack hx (y := (⟨"java/util/ArrayList", "<init>", "()V"⟩ : MethodName)) rfl hown (mvT hZ (w29 hw)) (mvT hZ (w30 hw)) (mvT hZ (w31 hw)) (by decide) (backOf (W := 1) (rm6 l Z a0 hw [] b373 .null (.int (0 : Int32)) dc h373 n0 Z373 A373 F373_elementData F373_size F373_modCount g385 f387 P3 P4) hZ (w31 hw) (w28 hw) (by decide) (by decide)) (g := (mkF m 184 #[.val (.int xa), .val (.int xb), .val (.int xc), .val (.int vH), .val (.int vS), .val (.int vT), .val (.ref wA), .val (.ref wB), .val (.ref wC), .val (.ref wD), .val (.ref wE), .val (.ref wF), .val (.ref oH), .val (.ref oS), .unset, .unset, .unset, .unset, .unset] [(.ref b373), (.ref b373)])) rfl (by rw [hml]; rfl) (Steps.refl _) (a := b373) (argsL := []) (rest := [(.ref b373)]) (lenOf pd_0 rfl) rfl (by show 2 * 0 + _ ≤ _; exact Nat.le_of_eq rfl) (hb hby at_184) (fun _ hWx => ⟨rfl, e373, (by decide : 22 + 0 ≤ _), (by decide : 101 + 0 ≤ _)⟩)
    dsimp only [Pt.U, Pt.locs, Pt.cells, Pt.slots] at X388 l388 y388 z388 st388 hQ388
    replace X388 := own_num (c' := 22) (n' := 101) X388 l388 (y388.trans rfl) (z388.trans rfl)
    obtain ⟨rfl, N388q, K388q, c388_0, c388_1, c388_2, c388_3, c388_4, c388_5⟩ := hQ388
    have N388 := Fr.app Nq N388q
    have Z388 : n0 ≤ T388.heap.size := Nat.le_trans Z373 K388q.1
    have K388 : Keep h0 T388.heap [] := K373.trans K388q (allS (P := fun x => x ∈ [] ∨ h0.size ≤ x) (Or.inr z386) all0)
    refine own_tr st388 ?_
    show OwnGo p e below s _ _ _ (T388.setTop (mkF m 187 #[.val (.int xa), .val (.int xb), .val (.int xc), .val (.int vH), .val (.int vS), .val (.int vT), .val (.ref wA), .val (.ref wB), .val (.ref wC), .val (.ref wD), .val (.ref wE), .val (.ref wF), .val (.ref oH), .val (.ref oS), .unset, .unset, .unset, .unset, .unset] [(.ref b373)]))
    refine own_on (fun t_ k_ => XS.astore X388.here hx rfl (hb hby at_187) rfl rfl (l' := #[.val (.int xa), .val (.int xb), .val (.int xc), .val (.int vH), .val (.int vS), .val (.int vT), .val (.ref wA), .val (.ref wB), .val (.ref wC), .val (.ref wD), .val (.ref wE), .val (.ref wF), .val (.ref oH), .val (.ref oS), .val (.ref b373), .unset, .unset, .unset, .unset]) rfl k_) ?_
    show OwnGo p e below s _ _ _ (T388.setTop (mkF m 189 #[.val (.int xa), .val (.int xb), .val (.int xc), .val (.int vH), .val (.int vS), .val (.int vT), .val (.ref wA), .val (.ref wB), .val (.ref wC), .val (.ref wD), .val (.ref wE), .val (.ref wF), .val (.ref oH), .val (.ref oS), .val (.ref b373), .unset, .unset, .unset, .unset] []))
    have f389 : b373 ≤ T388.heap.size := Nat.le_of_lt c388_0.lt
    have hr390 : b373 = dc ∨ 0 = 0 := Or.inr rfl
    have hr391 : b373 ≤ b373 := Nat.le_refl _
    have f392 : OwnE Z T388.heap own_nil := fun _ q => nomatch q
    rcases fq19 with hv | hv | hv
    · rw [show vT = (0 : Int32) from hv]
      show OwnGo p e below s _ _ _ (T388.setTop (mkF m 189 #[.val (.int xa), .val (.int xb), .val (.int xc), .val (.int vH), .val (.int vS), .val (.int (0 : Int32)), .val (.ref wA), .val (.ref wB), .val (.ref wC), .val (.ref wD), .val (.ref wE), .val (.ref wF), .val (.ref oH), .val (.ref oS), .val (.ref b373), .unset, .unset, .unset, .unset] []))
      refine own_on (fun t_ k_ => XS.iload X388.here hx rfl (hb hby at_189) rfl k_) ?_
      show OwnGo p e below s _ _ _ (T388.setTop (mkF m 191 #[.val (.int xa), .val (.int xb), .val (.int xc), .val (.int vH), .val (.int vS), .val (.int (0 : Int32)), .val (.ref wA), .val (.ref wB), .val (.ref wC), .val (.ref wD), .val (.ref wE), .val (.ref wF), .val (.ref oH), .val (.ref oS), .val (.ref b373), .unset, .unset, .unset, .unset] [(.int (0 : Int32))]))
      refine own_on (fun t_ k_ => XS.ifYes X388.here hx rfl (pc0 := 191) (pc' := 204) rfl (hb hby at_191) rfl ((if0 _ _).trans (flt (by decide : ¬ ((0 : Int32) < (0 : Int32)))).2.2.2) (by decide) (by decide) k_) ?_
      show OwnGo p e below s _ _ _ (T388.setTop (mkF m 204 #[.val (.int xa), .val (.int xb), .val (.int xc), .val (.int vH), .val (.int vS), .val (.int (0 : Int32)), .val (.ref wA), .val (.ref wB), .val (.ref wC), .val (.ref wD), .val (.ref wE), .val (.ref wF), .val (.ref oH), .val (.ref oS), .val (.ref b373), .unset, .unset, .unset, .unset] []))
      refine own_on (fun t_ k_ => XS.iload X388.here hx rfl (hb hby at_204) rfl k_) ?_
      show OwnGo p e below s _ _ _ (T388.setTop (mkF m 206 #[.val (.int xa), .val (.int xb), .val (.int xc), .val (.int vH), .val (.int vS), .val (.int (0 : Int32)), .val (.ref wA), .val (.ref wB), .val (.ref wC), .val (.ref wD), .val (.ref wE), .val (.ref wF), .val (.ref oH), .val (.ref oS), .val (.ref b373), .unset, .unset, .unset, .unset] [(.int (0 : Int32))]))
      refine own_on (fun t_ k_ => XS.iconst X388.here hx rfl (hb hby at_206) k_) ?_
      show OwnGo p e below s _ _ _ (T388.setTop (mkF m 207 #[.val (.int xa), .val (.int xb), .val (.int xc), .val (.int vH), .val (.int vS), .val (.int (0 : Int32)), .val (.ref wA), .val (.ref wB), .val (.ref wC), .val (.ref wD), .val (.ref wE), .val (.ref wF), .val (.ref oH), .val (.ref oS), .val (.ref b373), .unset, .unset, .unset, .unset] [(.int (1 : Int32)), (.int (0 : Int32))]))
      refine own_on (fun t_ k_ => XS.icmpYes X388.here hx rfl (pc0 := 207) (pc' := 220) rfl (hb hby at_207) rfl (flt (by decide : ¬ ((1 : Int32) < (0 : Int32)))).2.2.2 (by decide) (by decide) k_) ?_
      show OwnGo p e below s _ _ _ (T388.setTop (mkF m 220 #[.val (.int xa), .val (.int xb), .val (.int xc), .val (.int vH), .val (.int vS), .val (.int (0 : Int32)), .val (.ref wA), .val (.ref wB), .val (.ref wC), .val (.ref wD), .val (.ref wE), .val (.ref wF), .val (.ref oH), .val (.ref oS), .val (.ref b373), .unset, .unset, .unset, .unset] []))
      have hc393 : own_case (0 : Int32) own_nil wE wF := Or.inl ⟨rfl, rfl⟩
      have f394 : Exa Z h373 oH "java/util/ArrayList" := fq0.ext E373
      have f395 : Exa Z T388.heap oH "java/util/ArrayList" := f394.keep K388q
      have f396 : Fld Z h373 oH "java/util/ArrayList" "elementData" "[Ljava/lang/Object;" (.ref eaH) := fq1.ext E373
      have f397 : Fld Z T388.heap oH "java/util/ArrayList" "elementData" "[Ljava/lang/Object;" (.ref eaH) := f396.keep K388q (ninS ne374 nin0)
      have f398 : Fld Z h373 oH "java/util/ArrayList" "size" "I" (.int (own_n lH)) := fq2.ext E373
      have f399 : Fld Z T388.heap oH "java/util/ArrayList" "size" "I" (.int (own_n lH)) := f398.keep K388q (ninS ne374 nin0)
      have f400 : OwnA Z h373 eaH cpH lH := fq3.ext E373
      have f401 : OwnA Z T388.heap eaH cpH lH := f400.keep K388q (ninS ne375 nin0)
      have f402 : OwnE Z h373 lH := fq4.ext E373
      have f403 : OwnE Z T388.heap lH := f402.keep K388q 
      have f404 : Exa Z h373 oS "java/util/ArrayList" := fq5.ext E373
      have f405 : Exa Z T388.heap oS "java/util/ArrayList" := f404.keep K388q
      have f406 : Fld Z h373 oS "java/util/ArrayList" "elementData" "[Ljava/lang/Object;" (.ref eaS) := fq6.ext E373
      have f407 : Fld Z T388.heap oS "java/util/ArrayList" "elementData" "[Ljava/lang/Object;" (.ref eaS) := f406.keep K388q (ninS ne376 nin0)
      have f408 : Fld Z h373 oS "java/util/ArrayList" "size" "I" (.int (own_n lS)) := fq7.ext E373
      have f409 : Fld Z T388.heap oS "java/util/ArrayList" "size" "I" (.int (own_n lS)) := f408.keep K388q (ninS ne376 nin0)
      have f410 : OwnA Z h373 eaS cpS lS := fq8.ext E373
      have f411 : OwnA Z T388.heap eaS cpS lS := f410.keep K388q (ninS ne377 nin0)
      have f412 : OwnE Z h373 lS := fq9.ext E373
      have f413 : OwnE Z T388.heap lS := f412.keep K388q 
      have f414 : Exa Z h373 wA "java/lang/String" := fq11.ext E373
      have f415 : Exa Z T388.heap wA "java/lang/String" := f414.keep K388q
      have f416 : Exa Z h373 wB "java/lang/String" := fq12.ext E373
      have f417 : Exa Z T388.heap wB "java/lang/String" := f416.keep K388q
      have f418 : Exa Z h373 wC "java/lang/String" := fq13.ext E373
      have f419 : Exa Z T388.heap wC "java/lang/String" := f418.keep K388q
      have f420 : Exa Z h373 wD "java/lang/String" := fq14.ext E373
      have f421 : Exa Z T388.heap wD "java/lang/String" := f420.keep K388q
      have f422 : Exa Z h373 wE "java/lang/String" := fq15.ext E373
      have f423 : Exa Z T388.heap wE "java/lang/String" := f422.keep K388q
      have f424 : Exa Z h373 wF "java/lang/String" := fq16.ext E373
      have f425 : Exa Z T388.heap wF "java/lang/String" := f424.keep K388q
      exact J220 _ _ _ (X388.more (by decide) (by decide)) rfl N388 Z388 K388 vH vS (0 : Int32) wA wB wC wD wE wF oH eaH cpH lH oS eaS cpS lS b373 dc 0 own_nil f395 f397 f399 f401 f403 f405 f407 f409 f411 f413 c388_0 c388_1 c388_2 c388_4 f392 c388_5 f415 f417 f419 f421 f423 f425 fq17 fq18 hc393
    · rw [show vT = (1 : Int32) from hv]
      show OwnGo p e below s _ _ _ (T388.setTop (mkF m 189 #[.val (.int xa), .val (.int xb), .val (.int xc), .val (.int vH), .val (.int vS), .val (.int (1 : Int32)), .val (.ref wA), .val (.ref wB), .val (.ref wC), .val (.ref wD), .val (.ref wE), .val (.ref wF), .val (.ref oH), .val (.ref oS), .val (.ref b373), .unset, .unset, .unset, .unset] []))
      refine own_on (fun t_ k_ => XS.iload X388.here hx rfl (hb hby at_189) rfl k_) ?_
      show OwnGo p e below s _ _ _ (T388.setTop (mkF m 191 #[.val (.int xa), .val (.int xb), .val (.int xc), .val (.int vH), .val (.int vS), .val (.int (1 : Int32)), .val (.ref wA), .val (.ref wB), .val (.ref wC), .val (.ref wD), .val (.ref wE), .val (.ref wF), .val (.ref oH), .val (.ref oS), .val (.ref b373), .unset, .unset, .unset, .unset] [(.int (1 : Int32))]))
      refine own_on (fun t_ k_ => XS.ifNo X388.here hx rfl (hb hby at_191) rfl ((if0 _ _).trans (tlt (by decide : (0 : Int32) < (1 : Int32))).2.2.2) k_) ?_
      show OwnGo p e below s _ _ _ (T388.setTop (mkF m 194 #[.val (.int xa), .val (.int xb), .val (.int xc), .val (.int vH), .val (.int vS), .val (.int (1 : Int32)), .val (.ref wA), .val (.ref wB), .val (.ref wC), .val (.ref wD), .val (.ref wE), .val (.ref wF), .val (.ref oH), .val (.ref oS), .val (.ref b373), .unset, .unset, .unset, .unset] []))
      refine own_on (fun t_ k_ => XS.aload X388.here hx rfl (hb hby at_194) rfl rfl k_) ?_
      show OwnGo p e below s _ _ _ (T388.setTop (mkF m 196 #[.val (.int xa), .val (.int xb), .val (.int xc), .val (.int vH), .val (.int vS), .val (.int (1 : Int32)), .val (.ref wA), .val (.ref wB), .val (.ref wC), .val (.ref wD), .val (.ref wE), .val (.ref wF), .val (.ref oH), .val (.ref oS), .val (.ref b373), .unset, .unset, .unset, .unset] [(.ref b373)]))
      refine own_on (fun t_ k_ => XS.aload X388.here hx rfl (hb hby at_196) rfl rfl k_) ?_
      show OwnGo p e below s _ _ _ (T388.setTop (mkF m 198 #[.val (.int xa), .val (.int xb), .val (.int xc), .val (.int vH), .val (.int vS), .val (.int (1 : Int32)), .val (.ref wA), .val (.ref wB), .val (.ref wC), .val (.ref wD), .val (.ref wE), .val (.ref wF), .val (.ref oH), .val (.ref oS), .val (.ref b373), .unset, .unset, .unset, .unset] [(.ref wE), (.ref b373)]))
      have f426 : Exa Z h373 wE "java/lang/String" := fq15.ext E373
      have f427 : Exa Z T388.heap wE "java/lang/String" := f426.keep K388q
      obtain ⟨cq428, kq428, q428a, q428b, q428c⟩ := isOf hZ rfl c388_0
      obtain ⟨_, _, ⟨T428, L428, k428, n428⟩, -, X428, ⟨Lc428, hQ428, l428, y428, z428⟩, st428⟩ := X388.interfaceBack hx (xi := (⟨"java/util/List", "add", "(Ljava/lang/Object;)Z"⟩ : MethodName)) (y := (⟨"java/util/ArrayList", "add", "(Ljava/lang/Object;)Z"⟩ : MethodName)) hown (mvT hZ (w135 hw)) (mvT hZ (w136 hw)) (mvT hZ (w137 hw)) (mvT hZ (w138 hw)) (mvT hZ (w139 hw)) (mvT hZ (w140 hw)) (mvT hZ (w141 hw)) (mvT hZ (w129 hw)) (by decide) (backOf (W := 0) (rm20 l Z a0 hw [] b373 wE dc 0 own_nil (0 : Int32) b373 b373 dc mr T388.heap n0 Z388 c388_0 c388_1 c388_2 c388_3 c388_4 f392 f427 hr390 g385 hr391 f389 c388_5 P3 P7 g385 (by (first | omega | exact Nat.le_of_ble_eq_true rfl | (simp only [List.length_append]; omega)) : own_nil.length ≤ 5)) hZ (w142 hw) (w28 hw) (by decide) (by decide)) q428a q428b q428c (g := (mkF m 198 #[.val (.int xa), .val (.int xb), .val (.int xc), .val (.int vH), .val (.int vS), .val (.int (1 : Int32)), .val (.ref wA), .val (.ref wB), .val (.ref wC), .val (.ref wD), .val (.ref wE), .val (.ref wF), .val (.ref oH), .val (.ref oS), .val (.ref b373), .unset, .unset, .unset, .unset] [(.ref wE), (.ref b373)])) rfl (by rw [hml]; rfl) (Steps.refl _) (argsL := [(.ref wE)]) (rest := []) (lenOf pd_13 rfl) rfl (by show 2 * 0 + _ ≤ _; exact Nat.le_of_eq rfl) (hb hby at_198) (fun _ hWx => ⟨rfl, rfl, (by decide : 22 + 1 ≤ _), (by decide : 101 + 10 ≤ _)⟩)
      dsimp only [Pt.U, Pt.locs, Pt.cells, Pt.slots] at X428 l428 y428 z428 st428 hQ428
      replace X428 := own_num (c' := 23) (n' := 111) X428 l428 (y428.trans rfl) (z428.trans rfl)
      obtain ⟨ea2_428, cp2_428, wa2_428, rfl, N428q, K428q, c428_0, c428_1, c428_2, c428_3, c428_4, c428_5, c428_6, c428_7, c428_8, c428_9⟩ := hQ428
      have N428 := Fr.app N388 N428q
      have Z428 : n0 ≤ T428.heap.size := Nat.le_trans Z388 K428q.1
      have K428 : Keep h0 T428.heap [] := K388.trans K428q (allS (P := fun x => x ∈ [] ∨ h0.size ≤ x) (Or.inr z386) (allS (P := fun x => x ∈ [] ∨ h0.size ≤ x) (Or.inr z386) all0))
      refine own_tr st428 ?_
      show OwnGo p e below s _ _ _ (T428.setTop (mkF m 203 #[.val (.int xa), .val (.int xb), .val (.int xc), .val (.int vH), .val (.int vS), .val (.int (1 : Int32)), .val (.ref wA), .val (.ref wB), .val (.ref wC), .val (.ref wD), .val (.ref wE), .val (.ref wF), .val (.ref oH), .val (.ref oS), .val (.ref b373), .unset, .unset, .unset, .unset] [(.int (1 : Int32))]))
      have hr429 : h0.size ≤ wa2_428 := Nat.le_trans z386 c428_7
      have ne430 : oH ≠ wa2_428 := Nat.ne_of_lt (Nat.lt_of_lt_of_le ne374' c428_7)
      have ne431 : eaH ≠ wa2_428 := Nat.ne_of_lt (Nat.lt_of_lt_of_le ne375' c428_7)
      have ne432 : oS ≠ wa2_428 := Nat.ne_of_lt (Nat.lt_of_lt_of_le ne376' c428_7)
      have ne433 : eaS ≠ wa2_428 := Nat.ne_of_lt (Nat.lt_of_lt_of_le ne377' c428_7)
      have ne434 : wA ≠ wa2_428 := Nat.ne_of_lt (Nat.lt_of_lt_of_le ne378' c428_7)
      have ne435 : wB ≠ wa2_428 := Nat.ne_of_lt (Nat.lt_of_lt_of_le ne379' c428_7)
      have ne436 : wC ≠ wa2_428 := Nat.ne_of_lt (Nat.lt_of_lt_of_le ne380' c428_7)
      have ne437 : wD ≠ wa2_428 := Nat.ne_of_lt (Nat.lt_of_lt_of_le ne381' c428_7)
      have ne438 : wE ≠ wa2_428 := Nat.ne_of_lt (Nat.lt_of_lt_of_le ne382' c428_7)
      have ne439 : wF ≠ wa2_428 := Nat.ne_of_lt (Nat.lt_of_lt_of_le ne383' c428_7)
      have ne440 : dc ≠ wa2_428 := Nat.ne_of_lt (Nat.lt_of_lt_of_le ne384' c428_7)
      refine own_on (fun t_ k_ => XS.pop X428.here hx rfl (hb hby at_203) rfl rfl k_) ?_
      show OwnGo p e below s _ _ _ (T428.setTop (mkF m 204 #[.val (.int xa), .val (.int xb), .val (.int xc), .val (.int vH), .val (.int vS), .val (.int (1 : Int32)), .val (.ref wA), .val (.ref wB), .val (.ref wC), .val (.ref wD), .val (.ref wE), .val (.ref wF), .val (.ref oH), .val (.ref oS), .val (.ref b373), .unset, .unset, .unset, .unset] []))
      refine own_on (fun t_ k_ => XS.iload X428.here hx rfl (hb hby at_204) rfl k_) ?_
      show OwnGo p e below s _ _ _ (T428.setTop (mkF m 206 #[.val (.int xa), .val (.int xb), .val (.int xc), .val (.int vH), .val (.int vS), .val (.int (1 : Int32)), .val (.ref wA), .val (.ref wB), .val (.ref wC), .val (.ref wD), .val (.ref wE), .val (.ref wF), .val (.ref oH), .val (.ref oS), .val (.ref b373), .unset, .unset, .unset, .unset] [(.int (1 : Int32))]))
      refine own_on (fun t_ k_ => XS.iconst X428.here hx rfl (hb hby at_206) k_) ?_
      show OwnGo p e below s _ _ _ (T428.setTop (mkF m 207 #[.val (.int xa), .val (.int xb), .val (.int xc), .val (.int vH), .val (.int vS), .val (.int (1 : Int32)), .val (.ref wA), .val (.ref wB), .val (.ref wC), .val (.ref wD), .val (.ref wE), .val (.ref wF), .val (.ref oH), .val (.ref oS), .val (.ref b373), .unset, .unset, .unset, .unset] [(.int (1 : Int32)), (.int (1 : Int32))]))
      refine own_on (fun t_ k_ => XS.icmpYes X428.here hx rfl (pc0 := 207) (pc' := 220) rfl (hb hby at_207) rfl (flt (by decide : ¬ ((1 : Int32) < (1 : Int32)))).2.2.2 (by decide) (by decide) k_) ?_
      show OwnGo p e below s _ _ _ (T428.setTop (mkF m 220 #[.val (.int xa), .val (.int xb), .val (.int xc), .val (.int vH), .val (.int vS), .val (.int (1 : Int32)), .val (.ref wA), .val (.ref wB), .val (.ref wC), .val (.ref wD), .val (.ref wE), .val (.ref wF), .val (.ref oH), .val (.ref oS), .val (.ref b373), .unset, .unset, .unset, .unset] []))
      have hc441 : own_case (1 : Int32) (own_nil ++ [wE]) wE wF := Or.inr (Or.inl ⟨rfl, rfl⟩)
      have f442 : Exa Z h373 oH "java/util/ArrayList" := fq0.ext E373
      have f443 : Exa Z T388.heap oH "java/util/ArrayList" := f442.keep K388q
      have f444 : Exa Z T428.heap oH "java/util/ArrayList" := f443.keep K428q
      have f445 : Fld Z h373 oH "java/util/ArrayList" "elementData" "[Ljava/lang/Object;" (.ref eaH) := fq1.ext E373
      have f446 : Fld Z T388.heap oH "java/util/ArrayList" "elementData" "[Ljava/lang/Object;" (.ref eaH) := f445.keep K388q (ninS ne374 nin0)
      have f447 : Fld Z T428.heap oH "java/util/ArrayList" "elementData" "[Ljava/lang/Object;" (.ref eaH) := f446.keep K428q (ninS ne374 (ninS ne374 nin0))
      have f448 : Fld Z h373 oH "java/util/ArrayList" "size" "I" (.int (own_n lH)) := fq2.ext E373
      have f449 : Fld Z T388.heap oH "java/util/ArrayList" "size" "I" (.int (own_n lH)) := f448.keep K388q (ninS ne374 nin0)
      have f450 : Fld Z T428.heap oH "java/util/ArrayList" "size" "I" (.int (own_n lH)) := f449.keep K428q (ninS ne374 (ninS ne374 nin0))
      have f451 : OwnA Z h373 eaH cpH lH := fq3.ext E373
      have f452 : OwnA Z T388.heap eaH cpH lH := f451.keep K388q (ninS ne375 nin0)
      have f453 : OwnA Z T428.heap eaH cpH lH := f452.keep K428q (ninS ne375 (ninS ne375 nin0))
      have f454 : OwnE Z h373 lH := fq4.ext E373
      have f455 : OwnE Z T388.heap lH := f454.keep K388q 
      have f456 : OwnE Z T428.heap lH := f455.keep K428q 
      have f457 : Exa Z h373 oS "java/util/ArrayList" := fq5.ext E373
      have f458 : Exa Z T388.heap oS "java/util/ArrayList" := f457.keep K388q
      have f459 : Exa Z T428.heap oS "java/util/ArrayList" := f458.keep K428q
      have f460 : Fld Z h373 oS "java/util/ArrayList" "elementData" "[Ljava/lang/Object;" (.ref eaS) := fq6.ext E373
      have f461 : Fld Z T388.heap oS "java/util/ArrayList" "elementData" "[Ljava/lang/Object;" (.ref eaS) := f460.keep K388q (ninS ne376 nin0)
      have f462 : Fld Z T428.heap oS "java/util/ArrayList" "elementData" "[Ljava/lang/Object;" (.ref eaS) := f461.keep K428q (ninS ne376 (ninS ne376 nin0))
      have f463 : Fld Z h373 oS "java/util/ArrayList" "size" "I" (.int (own_n lS)) := fq7.ext E373
      have f464 : Fld Z T388.heap oS "java/util/ArrayList" "size" "I" (.int (own_n lS)) := f463.keep K388q (ninS ne376 nin0)
      have f465 : Fld Z T428.heap oS "java/util/ArrayList" "size" "I" (.int (own_n lS)) := f464.keep K428q (ninS ne376 (ninS ne376 nin0))
      have f466 : OwnA Z h373 eaS cpS lS := fq8.ext E373
      have f467 : OwnA Z T388.heap eaS cpS lS := f466.keep K388q (ninS ne377 nin0)
      have f468 : OwnA Z T428.heap eaS cpS lS := f467.keep K428q (ninS ne377 (ninS ne377 nin0))
      have f469 : OwnE Z h373 lS := fq9.ext E373
      have f470 : OwnE Z T388.heap lS := f469.keep K388q 
      have f471 : OwnE Z T428.heap lS := f470.keep K428q 
      have f472 : Exa Z h373 wA "java/lang/String" := fq11.ext E373
      have f473 : Exa Z T388.heap wA "java/lang/String" := f472.keep K388q
      have f474 : Exa Z T428.heap wA "java/lang/String" := f473.keep K428q
      have f475 : Exa Z h373 wB "java/lang/String" := fq12.ext E373
      have f476 : Exa Z T388.heap wB "java/lang/String" := f475.keep K388q
      have f477 : Exa Z T428.heap wB "java/lang/String" := f476.keep K428q
      have f478 : Exa Z h373 wC "java/lang/String" := fq13.ext E373
      have f479 : Exa Z T388.heap wC "java/lang/String" := f478.keep K388q
      have f480 : Exa Z T428.heap wC "java/lang/String" := f479.keep K428q
      have f481 : Exa Z h373 wD "java/lang/String" := fq14.ext E373
      have f482 : Exa Z T388.heap wD "java/lang/String" := f481.keep K388q
      have f483 : Exa Z T428.heap wD "java/lang/String" := f482.keep K428q
      have f484 : Exa Z T428.heap wE "java/lang/String" := f427.keep K428q
      have f485 : Exa Z h373 wF "java/lang/String" := fq16.ext E373
      have f486 : Exa Z T388.heap wF "java/lang/String" := f485.keep K388q
      have f487 : Exa Z T428.heap wF "java/lang/String" := f486.keep K428q
      exact J220 _ _ _ (X428.more (by decide) (by decide)) rfl N428 Z428 K428 vH vS (1 : Int32) wA wB wC wD wE wF oH eaH cpH lH oS eaS cpS lS b373 ea2_428 cp2_428 (own_nil ++ [wE]) f444 f447 f450 f453 f456 f459 f462 f465 f468 f471 c428_0 c428_1 c428_2 c428_4 c428_9 c428_8 f474 f477 f480 f483 f484 f487 fq17 fq18 hc441
    · rw [show vT = (2 : Int32) from hv]
      show OwnGo p e below s _ _ _ (T388.setTop (mkF m 189 #[.val (.int xa), .val (.int xb), .val (.int xc), .val (.int vH), .val (.int vS), .val (.int (2 : Int32)), .val (.ref wA), .val (.ref wB), .val (.ref wC), .val (.ref wD), .val (.ref wE), .val (.ref wF), .val (.ref oH), .val (.ref oS), .val (.ref b373), .unset, .unset, .unset, .unset] []))
      refine own_on (fun t_ k_ => XS.iload X388.here hx rfl (hb hby at_189) rfl k_) ?_
      show OwnGo p e below s _ _ _ (T388.setTop (mkF m 191 #[.val (.int xa), .val (.int xb), .val (.int xc), .val (.int vH), .val (.int vS), .val (.int (2 : Int32)), .val (.ref wA), .val (.ref wB), .val (.ref wC), .val (.ref wD), .val (.ref wE), .val (.ref wF), .val (.ref oH), .val (.ref oS), .val (.ref b373), .unset, .unset, .unset, .unset] [(.int (2 : Int32))]))
      refine own_on (fun t_ k_ => XS.ifNo X388.here hx rfl (hb hby at_191) rfl ((if0 _ _).trans (tlt (by decide : (0 : Int32) < (2 : Int32))).2.2.2) k_) ?_
      show OwnGo p e below s _ _ _ (T388.setTop (mkF m 194 #[.val (.int xa), .val (.int xb), .val (.int xc), .val (.int vH), .val (.int vS), .val (.int (2 : Int32)), .val (.ref wA), .val (.ref wB), .val (.ref wC), .val (.ref wD), .val (.ref wE), .val (.ref wF), .val (.ref oH), .val (.ref oS), .val (.ref b373), .unset, .unset, .unset, .unset] []))
      refine own_on (fun t_ k_ => XS.aload X388.here hx rfl (hb hby at_194) rfl rfl k_) ?_
      show OwnGo p e below s _ _ _ (T388.setTop (mkF m 196 #[.val (.int xa), .val (.int xb), .val (.int xc), .val (.int vH), .val (.int vS), .val (.int (2 : Int32)), .val (.ref wA), .val (.ref wB), .val (.ref wC), .val (.ref wD), .val (.ref wE), .val (.ref wF), .val (.ref oH), .val (.ref oS), .val (.ref b373), .unset, .unset, .unset, .unset] [(.ref b373)]))
      refine own_on (fun t_ k_ => XS.aload X388.here hx rfl (hb hby at_196) rfl rfl k_) ?_
      show OwnGo p e below s _ _ _ (T388.setTop (mkF m 198 #[.val (.int xa), .val (.int xb), .val (.int xc), .val (.int vH), .val (.int vS), .val (.int (2 : Int32)), .val (.ref wA), .val (.ref wB), .val (.ref wC), .val (.ref wD), .val (.ref wE), .val (.ref wF), .val (.ref oH), .val (.ref oS), .val (.ref b373), .unset, .unset, .unset, .unset] [(.ref wE), (.ref b373)]))
      have f488 : Exa Z h373 wE "java/lang/String" := fq15.ext E373
      have f489 : Exa Z T388.heap wE "java/lang/String" := f488.keep K388q
      obtain ⟨cq490, kq490, q490a, q490b, q490c⟩ := isOf hZ rfl c388_0
      obtain ⟨_, _, ⟨T490, L490, k490, n490⟩, -, X490, ⟨Lc490, hQ490, l490, y490, z490⟩, st490⟩ := X388.interfaceBack hx (xi := (⟨"java/util/List", "add", "(Ljava/lang/Object;)Z"⟩ : MethodName)) (y := (⟨"java/util/ArrayList", "add", "(Ljava/lang/Object;)Z"⟩ : MethodName)) hown (mvT hZ (w135 hw)) (mvT hZ (w136 hw)) (mvT hZ (w137 hw)) (mvT hZ (w138 hw)) (mvT hZ (w139 hw)) (mvT hZ (w140 hw)) (mvT hZ (w141 hw)) (mvT hZ (w129 hw)) (by decide) (backOf (W := 0) (rm20 l Z a0 hw [] b373 wE dc 0 own_nil (0 : Int32) b373 b373 dc mr T388.heap n0 Z388 c388_0 c388_1 c388_2 c388_3 c388_4 f392 f489 hr390 g385 hr391 f389 c388_5 P3 P7 g385 (by (first | omega | exact Nat.le_of_ble_eq_true rfl | (simp only [List.length_append]; omega)) : own_nil.length ≤ 5)) hZ (w142 hw) (w28 hw) (by decide) (by decide)) q490a q490b q490c (g := (mkF m 198 #[.val (.int xa), .val (.int xb), .val (.int xc), .val (.int vH), .val (.int vS), .val (.int (2 : Int32)), .val (.ref wA), .val (.ref wB), .val (.ref wC), .val (.ref wD), .val (.ref wE), .val (.ref wF), .val (.ref oH), .val (.ref oS), .val (.ref b373), .unset, .unset, .unset, .unset] [(.ref wE), (.ref b373)])) rfl (by rw [hml]; rfl) (Steps.refl _) (argsL := [(.ref wE)]) (rest := []) (lenOf pd_13 rfl) rfl (by show 2 * 0 + _ ≤ _; exact Nat.le_of_eq rfl) (hb hby at_198) (fun _ hWx => ⟨rfl, rfl, (by decide : 22 + 1 ≤ _), (by decide : 101 + 10 ≤ _)⟩)
      dsimp only [Pt.U, Pt.locs, Pt.cells, Pt.slots] at X490 l490 y490 z490 st490 hQ490
      replace X490 := own_num (c' := 23) (n' := 111) X490 l490 (y490.trans rfl) (z490.trans rfl)
      obtain ⟨ea2_490, cp2_490, wa2_490, rfl, N490q, K490q, c490_0, c490_1, c490_2, c490_3, c490_4, c490_5, c490_6, c490_7, c490_8, c490_9⟩ := hQ490
      have N490 := Fr.app N388 N490q
      have Z490 : n0 ≤ T490.heap.size := Nat.le_trans Z388 K490q.1
      have K490 : Keep h0 T490.heap [] := K388.trans K490q (allS (P := fun x => x ∈ [] ∨ h0.size ≤ x) (Or.inr z386) (allS (P := fun x => x ∈ [] ∨ h0.size ≤ x) (Or.inr z386) all0))
      refine own_tr st490 ?_
      show OwnGo p e below s _ _ _ (T490.setTop (mkF m 203 #[.val (.int xa), .val (.int xb), .val (.int xc), .val (.int vH), .val (.int vS), .val (.int (2 : Int32)), .val (.ref wA), .val (.ref wB), .val (.ref wC), .val (.ref wD), .val (.ref wE), .val (.ref wF), .val (.ref oH), .val (.ref oS), .val (.ref b373), .unset, .unset, .unset, .unset] [(.int (1 : Int32))]))
      have hr491 : h0.size ≤ wa2_490 := Nat.le_trans z386 c490_7
      have ne492 : oH ≠ wa2_490 := Nat.ne_of_lt (Nat.lt_of_lt_of_le ne374' c490_7)
      have ne493 : eaH ≠ wa2_490 := Nat.ne_of_lt (Nat.lt_of_lt_of_le ne375' c490_7)
      have ne494 : oS ≠ wa2_490 := Nat.ne_of_lt (Nat.lt_of_lt_of_le ne376' c490_7)
      have ne495 : eaS ≠ wa2_490 := Nat.ne_of_lt (Nat.lt_of_lt_of_le ne377' c490_7)
      have ne496 : wA ≠ wa2_490 := Nat.ne_of_lt (Nat.lt_of_lt_of_le ne378' c490_7)
      have ne497 : wB ≠ wa2_490 := Nat.ne_of_lt (Nat.lt_of_lt_of_le ne379' c490_7)
      have ne498 : wC ≠ wa2_490 := Nat.ne_of_lt (Nat.lt_of_lt_of_le ne380' c490_7)
      have ne499 : wD ≠ wa2_490 := Nat.ne_of_lt (Nat.lt_of_lt_of_le ne381' c490_7)
      have ne500 : wE ≠ wa2_490 := Nat.ne_of_lt (Nat.lt_of_lt_of_le ne382' c490_7)
      have ne501 : wF ≠ wa2_490 := Nat.ne_of_lt (Nat.lt_of_lt_of_le ne383' c490_7)
      have ne502 : dc ≠ wa2_490 := Nat.ne_of_lt (Nat.lt_of_lt_of_le ne384' c490_7)
      refine own_on (fun t_ k_ => XS.pop X490.here hx rfl (hb hby at_203) rfl rfl k_) ?_
      show OwnGo p e below s _ _ _ (T490.setTop (mkF m 204 #[.val (.int xa), .val (.int xb), .val (.int xc), .val (.int vH), .val (.int vS), .val (.int (2 : Int32)), .val (.ref wA), .val (.ref wB), .val (.ref wC), .val (.ref wD), .val (.ref wE), .val (.ref wF), .val (.ref oH), .val (.ref oS), .val (.ref b373), .unset, .unset, .unset, .unset] []))
      refine own_on (fun t_ k_ => XS.iload X490.here hx rfl (hb hby at_204) rfl k_) ?_
      show OwnGo p e below s _ _ _ (T490.setTop (mkF m 206 #[.val (.int xa), .val (.int xb), .val (.int xc), .val (.int vH), .val (.int vS), .val (.int (2 : Int32)), .val (.ref wA), .val (.ref wB), .val (.ref wC), .val (.ref wD), .val (.ref wE), .val (.ref wF), .val (.ref oH), .val (.ref oS), .val (.ref b373), .unset, .unset, .unset, .unset] [(.int (2 : Int32))]))
      refine own_on (fun t_ k_ => XS.iconst X490.here hx rfl (hb hby at_206) k_) ?_
      show OwnGo p e below s _ _ _ (T490.setTop (mkF m 207 #[.val (.int xa), .val (.int xb), .val (.int xc), .val (.int vH), .val (.int vS), .val (.int (2 : Int32)), .val (.ref wA), .val (.ref wB), .val (.ref wC), .val (.ref wD), .val (.ref wE), .val (.ref wF), .val (.ref oH), .val (.ref oS), .val (.ref b373), .unset, .unset, .unset, .unset] [(.int (1 : Int32)), (.int (2 : Int32))]))
      refine own_on (fun t_ k_ => XS.icmpNo X490.here hx rfl (hb hby at_207) rfl (tlt (by decide : (1 : Int32) < (2 : Int32))).2.2.2 k_) ?_
      show OwnGo p e below s _ _ _ (T490.setTop (mkF m 210 #[.val (.int xa), .val (.int xb), .val (.int xc), .val (.int vH), .val (.int vS), .val (.int (2 : Int32)), .val (.ref wA), .val (.ref wB), .val (.ref wC), .val (.ref wD), .val (.ref wE), .val (.ref wF), .val (.ref oH), .val (.ref oS), .val (.ref b373), .unset, .unset, .unset, .unset] []))
      refine own_on (fun t_ k_ => XS.aload X490.here hx rfl (hb hby at_210) rfl rfl k_) ?_
      show OwnGo p e below s _ _ _ (T490.setTop (mkF m 212 #[.val (.int xa), .val (.int xb), .val (.int xc), .val (.int vH), .val (.int vS), .val (.int (2 : Int32)), .val (.ref wA), .val (.ref wB), .val (.ref wC), .val (.ref wD), .val (.ref wE), .val (.ref wF), .val (.ref oH), .val (.ref oS), .val (.ref b373), .unset, .unset, .unset, .unset] [(.ref b373)]))
      refine own_on (fun t_ k_ => XS.aload X490.here hx rfl (hb hby at_212) rfl rfl k_) ?_
      show OwnGo p e below s _ _ _ (T490.setTop (mkF m 214 #[.val (.int xa), .val (.int xb), .val (.int xc), .val (.int vH), .val (.int vS), .val (.int (2 : Int32)), .val (.ref wA), .val (.ref wB), .val (.ref wC), .val (.ref wD), .val (.ref wE), .val (.ref wF), .val (.ref oH), .val (.ref oS), .val (.ref b373), .unset, .unset, .unset, .unset] [(.ref wF), (.ref b373)]))
      have f503 : Exa Z h373 wF "java/lang/String" := fq16.ext E373
      have f504 : Exa Z T388.heap wF "java/lang/String" := f503.keep K388q
      have f505 : Exa Z T490.heap wF "java/lang/String" := f504.keep K490q
      have f506 : b373 ≤ T490.heap.size := Nat.le_trans f389 K490q.1
      obtain ⟨cq507, kq507, q507a, q507b, q507c⟩ := isOf hZ rfl c490_0
      obtain ⟨_, _, ⟨T507, L507, k507, n507⟩, -, X507, ⟨Lc507, hQ507, l507, y507, z507⟩, st507⟩ := X490.interfaceBack hx (xi := (⟨"java/util/List", "add", "(Ljava/lang/Object;)Z"⟩ : MethodName)) (y := (⟨"java/util/ArrayList", "add", "(Ljava/lang/Object;)Z"⟩ : MethodName)) hown (mvT hZ (w135 hw)) (mvT hZ (w136 hw)) (mvT hZ (w137 hw)) (mvT hZ (w138 hw)) (mvT hZ (w139 hw)) (mvT hZ (w140 hw)) (mvT hZ (w141 hw)) (mvT hZ (w129 hw)) (by decide) (backOf (W := 0) (rm20 l Z a0 hw [] b373 wF ea2_490 cp2_490 (own_nil ++ [wE]) ((0 : Int32) + (1 : Int32)) wa2_490 b373 dc mr T490.heap n0 Z490 c490_0 c490_1 c490_2 c490_3 c490_4 c490_9 f505 c490_5 c490_6 c490_7 f506 c490_8 P3 P7 g385 (by (first | omega | exact Nat.le_of_ble_eq_true rfl | (simp only [List.length_append]; omega)) : (own_nil ++ [wE]).length ≤ 5)) hZ (w142 hw) (w28 hw) (by decide) (by decide)) q507a q507b q507c (g := (mkF m 214 #[.val (.int xa), .val (.int xb), .val (.int xc), .val (.int vH), .val (.int vS), .val (.int (2 : Int32)), .val (.ref wA), .val (.ref wB), .val (.ref wC), .val (.ref wD), .val (.ref wE), .val (.ref wF), .val (.ref oH), .val (.ref oS), .val (.ref b373), .unset, .unset, .unset, .unset] [(.ref wF), (.ref b373)])) rfl (by rw [hml]; rfl) (Steps.refl _) (argsL := [(.ref wF)]) (rest := []) (lenOf pd_13 rfl) rfl (by show 2 * 0 + _ ≤ _; exact Nat.le_of_eq rfl) (hb hby at_214) (fun _ hWx => ⟨rfl, rfl, (by decide : 23 + 1 ≤ _), (by decide : 111 + 10 ≤ _)⟩)
      dsimp only [Pt.U, Pt.locs, Pt.cells, Pt.slots] at X507 l507 y507 z507 st507 hQ507
      replace X507 := own_num (c' := 24) (n' := 121) X507 l507 (y507.trans rfl) (z507.trans rfl)
      obtain ⟨ea2_507, cp2_507, wa2_507, rfl, N507q, K507q, c507_0, c507_1, c507_2, c507_3, c507_4, c507_5, c507_6, c507_7, c507_8, c507_9⟩ := hQ507
      have N507 := Fr.app N490 N507q
      have Z507 : n0 ≤ T507.heap.size := Nat.le_trans Z490 K507q.1
      have K507 : Keep h0 T507.heap [] := K490.trans K507q (allS (P := fun x => x ∈ [] ∨ h0.size ≤ x) (Or.inr z386) (allS (P := fun x => x ∈ [] ∨ h0.size ≤ x) (Or.inr hr491) all0))
      refine own_tr st507 ?_
      show OwnGo p e below s _ _ _ (T507.setTop (mkF m 219 #[.val (.int xa), .val (.int xb), .val (.int xc), .val (.int vH), .val (.int vS), .val (.int (2 : Int32)), .val (.ref wA), .val (.ref wB), .val (.ref wC), .val (.ref wD), .val (.ref wE), .val (.ref wF), .val (.ref oH), .val (.ref oS), .val (.ref b373), .unset, .unset, .unset, .unset] [(.int (1 : Int32))]))
      refine own_on (fun t_ k_ => XS.pop X507.here hx rfl (hb hby at_219) rfl rfl k_) ?_
      show OwnGo p e below s _ _ _ (T507.setTop (mkF m 220 #[.val (.int xa), .val (.int xb), .val (.int xc), .val (.int vH), .val (.int vS), .val (.int (2 : Int32)), .val (.ref wA), .val (.ref wB), .val (.ref wC), .val (.ref wD), .val (.ref wE), .val (.ref wF), .val (.ref oH), .val (.ref oS), .val (.ref b373), .unset, .unset, .unset, .unset] []))
      have hc508 : own_case (2 : Int32) ((own_nil ++ [wE]) ++ [wF]) wE wF := Or.inr (Or.inr ⟨rfl, rfl⟩)
      have f509 : Exa Z h373 oH "java/util/ArrayList" := fq0.ext E373
      have f510 : Exa Z T388.heap oH "java/util/ArrayList" := f509.keep K388q
      have f511 : Exa Z T490.heap oH "java/util/ArrayList" := f510.keep K490q
      have f512 : Exa Z T507.heap oH "java/util/ArrayList" := f511.keep K507q
      have f513 : Fld Z h373 oH "java/util/ArrayList" "elementData" "[Ljava/lang/Object;" (.ref eaH) := fq1.ext E373
      have f514 : Fld Z T388.heap oH "java/util/ArrayList" "elementData" "[Ljava/lang/Object;" (.ref eaH) := f513.keep K388q (ninS ne374 nin0)
      have f515 : Fld Z T490.heap oH "java/util/ArrayList" "elementData" "[Ljava/lang/Object;" (.ref eaH) := f514.keep K490q (ninS ne374 (ninS ne374 nin0))
      have f516 : Fld Z T507.heap oH "java/util/ArrayList" "elementData" "[Ljava/lang/Object;" (.ref eaH) := f515.keep K507q (ninS ne374 (ninS ne492 nin0))
      have f517 : Fld Z h373 oH "java/util/ArrayList" "size" "I" (.int (own_n lH)) := fq2.ext E373
      have f518 : Fld Z T388.heap oH "java/util/ArrayList" "size" "I" (.int (own_n lH)) := f517.keep K388q (ninS ne374 nin0)
      have f519 : Fld Z T490.heap oH "java/util/ArrayList" "size" "I" (.int (own_n lH)) := f518.keep K490q (ninS ne374 (ninS ne374 nin0))
      have f520 : Fld Z T507.heap oH "java/util/ArrayList" "size" "I" (.int (own_n lH)) := f519.keep K507q (ninS ne374 (ninS ne492 nin0))
      have f521 : OwnA Z h373 eaH cpH lH := fq3.ext E373
      have f522 : OwnA Z T388.heap eaH cpH lH := f521.keep K388q (ninS ne375 nin0)
      have f523 : OwnA Z T490.heap eaH cpH lH := f522.keep K490q (ninS ne375 (ninS ne375 nin0))
      have f524 : OwnA Z T507.heap eaH cpH lH := f523.keep K507q (ninS ne375 (ninS ne493 nin0))
      have f525 : OwnE Z h373 lH := fq4.ext E373
      have f526 : OwnE Z T388.heap lH := f525.keep K388q 
      have f527 : OwnE Z T490.heap lH := f526.keep K490q 
      have f528 : OwnE Z T507.heap lH := f527.keep K507q 
      have f529 : Exa Z h373 oS "java/util/ArrayList" := fq5.ext E373
      have f530 : Exa Z T388.heap oS "java/util/ArrayList" := f529.keep K388q
      have f531 : Exa Z T490.heap oS "java/util/ArrayList" := f530.keep K490q
      have f532 : Exa Z T507.heap oS "java/util/ArrayList" := f531.keep K507q
      have f533 : Fld Z h373 oS "java/util/ArrayList" "elementData" "[Ljava/lang/Object;" (.ref eaS) := fq6.ext E373
      have f534 : Fld Z T388.heap oS "java/util/ArrayList" "elementData" "[Ljava/lang/Object;" (.ref eaS) := f533.keep K388q (ninS ne376 nin0)
      have f535 : Fld Z T490.heap oS "java/util/ArrayList" "elementData" "[Ljava/lang/Object;" (.ref eaS) := f534.keep K490q (ninS ne376 (ninS ne376 nin0))
      have f536 : Fld Z T507.heap oS "java/util/ArrayList" "elementData" "[Ljava/lang/Object;" (.ref eaS) := f535.keep K507q (ninS ne376 (ninS ne494 nin0))
      have f537 : Fld Z h373 oS "java/util/ArrayList" "size" "I" (.int (own_n lS)) := fq7.ext E373
      have f538 : Fld Z T388.heap oS "java/util/ArrayList" "size" "I" (.int (own_n lS)) := f537.keep K388q (ninS ne376 nin0)
      have f539 : Fld Z T490.heap oS "java/util/ArrayList" "size" "I" (.int (own_n lS)) := f538.keep K490q (ninS ne376 (ninS ne376 nin0))
      have f540 : Fld Z T507.heap oS "java/util/ArrayList" "size" "I" (.int (own_n lS)) := f539.keep K507q (ninS ne376 (ninS ne494 nin0))
      have f541 : OwnA Z h373 eaS cpS lS := fq8.ext E373
      have f542 : OwnA Z T388.heap eaS cpS lS := f541.keep K388q (ninS ne377 nin0)
      have f543 : OwnA Z T490.heap eaS cpS lS := f542.keep K490q (ninS ne377 (ninS ne377 nin0))
      have f544 : OwnA Z T507.heap eaS cpS lS := f543.keep K507q (ninS ne377 (ninS ne495 nin0))
      have f545 : OwnE Z h373 lS := fq9.ext E373
      have f546 : OwnE Z T388.heap lS := f545.keep K388q 
      have f547 : OwnE Z T490.heap lS := f546.keep K490q 
      have f548 : OwnE Z T507.heap lS := f547.keep K507q 
      have f549 : Exa Z h373 wA "java/lang/String" := fq11.ext E373
      have f550 : Exa Z T388.heap wA "java/lang/String" := f549.keep K388q
      have f551 : Exa Z T490.heap wA "java/lang/String" := f550.keep K490q
      have f552 : Exa Z T507.heap wA "java/lang/String" := f551.keep K507q
      have f553 : Exa Z h373 wB "java/lang/String" := fq12.ext E373
      have f554 : Exa Z T388.heap wB "java/lang/String" := f553.keep K388q
      have f555 : Exa Z T490.heap wB "java/lang/String" := f554.keep K490q
      have f556 : Exa Z T507.heap wB "java/lang/String" := f555.keep K507q
      have f557 : Exa Z h373 wC "java/lang/String" := fq13.ext E373
      have f558 : Exa Z T388.heap wC "java/lang/String" := f557.keep K388q
      have f559 : Exa Z T490.heap wC "java/lang/String" := f558.keep K490q
      have f560 : Exa Z T507.heap wC "java/lang/String" := f559.keep K507q
      have f561 : Exa Z h373 wD "java/lang/String" := fq14.ext E373
      have f562 : Exa Z T388.heap wD "java/lang/String" := f561.keep K388q
      have f563 : Exa Z T490.heap wD "java/lang/String" := f562.keep K490q
      have f564 : Exa Z T507.heap wD "java/lang/String" := f563.keep K507q
      have f565 : Exa Z T490.heap wE "java/lang/String" := f489.keep K490q
      have f566 : Exa Z T507.heap wE "java/lang/String" := f565.keep K507q
      have f567 : Exa Z T507.heap wF "java/lang/String" := f505.keep K507q
      exact J220 _ _ _ (X507.more (by decide) (by decide)) rfl N507 Z507 K507 vH vS (2 : Int32) wA wB wC wD wE wF oH eaH cpH lH oS eaS cpS lS b373 ea2_507 cp2_507 ((own_nil ++ [wE]) ++ [wF]) f512 f516 f520 f524 f528 f532 f536 f540 f544 f548 c507_0 c507_1 c507_2 c507_4 c507_9 c507_8 f552 f556 f560 f564 f566 f567 fq17 fq18 hc508
  have J140 : ∀ (Tq : State) (hq : Heap) (lq : List Loc) (Xq : Stand p l e room_1 s m #[(.int xa), (.int xb), (.int xc)] below meth c Tq lq 17 70) (eq : Tq.heap = hq) (Nq : Fr n0 lq) (Zq : n0 ≤ hq.size) (Kq : Keep h0 hq []) (vH : Int32) (vS : Int32) (vT : Int32) (wA : Addr) (wB : Addr) (wC : Addr) (wD : Addr) (wE : Addr) (wF : Addr) (oH : Addr) (eaH : Addr) (cpH : Nat) (lH : List Addr) (fq0 : Exa Z hq oH "java/util/ArrayList") (fq1 : Fld Z hq oH "java/util/ArrayList" "elementData" "[Ljava/lang/Object;" (.ref eaH)) (fq2 : Fld Z hq oH "java/util/ArrayList" "size" "I" (.int (own_n lH))) (fq3 : OwnA Z hq eaH cpH lH) (fq4 : OwnE Z hq lH) (fq5 : Old Z n0 hq) (fq6 : Exa Z hq wA "java/lang/String") (fq7 : Exa Z hq wB "java/lang/String") (fq8 : Exa Z hq wC "java/lang/String") (fq9 : Exa Z hq wD "java/lang/String") (fq10 : Exa Z hq wE "java/lang/String") (fq11 : Exa Z hq wF "java/lang/String") (fq12 : own_case vH lH wA wB) (fq13 : vS = 0 ∨ vS = 1 ∨ vS = 2) (fq14 : vT = 0 ∨ vT = 1 ∨ vT = 2), OwnGo p e below s (Q0 Z xa xb xc cs dc em mr ml h0 n0) room_1.cells room_1.slots (Tq.setTop (mkF m 140 #[.val (.int xa), .val (.int xb), .val (.int xc), .val (.int vH), .val (.int vS), .val (.int vT), .val (.ref wA), .val (.ref wB), .val (.ref wC), .val (.ref wD), .val (.ref wE), .val (.ref wF), .val (.ref oH), .unset, .unset, .unset, .unset, .unset, .unset] [])) := by
    intro Tq hq lq Xq eq Nq Zq Kq vH vS vT wA wB wC wD wE wF oH eaH cpH lH fq0 fq1 fq2 fq3 fq4 fq5 fq6 fq7 fq8 fq9 fq10 fq11 fq12 fq13 fq14
    have f568 : OwnA Z hq dc 0 own_nil := P4.ext fq5.2
    obtain ⟨T569, h569, X569, e569, E569, A569, D569, u569, st569⟩ := newO Xq hx hZ hown (w26 hw) (w27 hw) (w28 hw) eq (g := (mkF m 140 #[.val (.int xa), .val (.int xb), .val (.int xc), .val (.int vH), .val (.int vS), .val (.int vT), .val (.ref wA), .val (.ref wB), .val (.ref wC), .val (.ref wD), .val (.ref wE), .val (.ref wF), .val (.ref oH), .unset, .unset, .unset, .unset, .unset, .unset] [])) rfl (hb hby at_140) (by decide) (by decide)
    obtain ⟨b569, g569⟩ : ∃ z, z = hq.size := ⟨_, rfl⟩
    rw [← g569] at A569 D569 st569
    have ne570' : oH < b569 := Nat.lt_of_lt_of_le fq0.lt (Nat.le_of_eq g569.symm)
    have ne570 : oH ≠ b569 := Nat.ne_of_lt ne570'
    have ne571' : eaH < b569 := Nat.lt_of_lt_of_le fq3.lt (Nat.le_of_eq g569.symm)
    have ne571 : eaH ≠ b569 := Nat.ne_of_lt ne571'
    have ne572' : wA < b569 := Nat.lt_of_lt_of_le fq6.lt (Nat.le_of_eq g569.symm)
    have ne572 : wA ≠ b569 := Nat.ne_of_lt ne572'
    have ne573' : wB < b569 := Nat.lt_of_lt_of_le fq7.lt (Nat.le_of_eq g569.symm)
    have ne573 : wB ≠ b569 := Nat.ne_of_lt ne573'
    have ne574' : wC < b569 := Nat.lt_of_lt_of_le fq8.lt (Nat.le_of_eq g569.symm)
    have ne574 : wC ≠ b569 := Nat.ne_of_lt ne574'
    have ne575' : wD < b569 := Nat.lt_of_lt_of_le fq9.lt (Nat.le_of_eq g569.symm)
    have ne575 : wD ≠ b569 := Nat.ne_of_lt ne575'
    have ne576' : wE < b569 := Nat.lt_of_lt_of_le fq10.lt (Nat.le_of_eq g569.symm)
    have ne576 : wE ≠ b569 := Nat.ne_of_lt ne576'
    have ne577' : wF < b569 := Nat.lt_of_lt_of_le fq11.lt (Nat.le_of_eq g569.symm)
    have ne577 : wF ≠ b569 := Nat.ne_of_lt ne577'
    have ne578' : dc < b569 := Nat.lt_of_lt_of_le f568.lt (Nat.le_of_eq g569.symm)
    have ne578 : dc ≠ b569 := Nat.ne_of_lt ne578'
    have g579 : n0 ≤ b569 := Nat.le_trans Zq (Nat.le_of_eq g569.symm)
    have z580 : h0.size ≤ b569 := Nat.le_trans Kq.1 (Nat.le_of_eq g569.symm)
    have Z569 : n0 ≤ h569.size := Nat.le_trans Zq E569.1
    have K569 : Keep h0 h569 [] := Kq.ext E569
    have F569_modCount : Fld Z h569 b569 "java/util/AbstractList" "modCount" "I" (.int (0 : Int32)) := D569 (Or.inl (w46 hw)) (ty := .int) (by decide)
    have F569_elementData : Fld Z h569 b569 "java/util/ArrayList" "elementData" "[Ljava/lang/Object;" .null := D569 (Or.inl (w49 hw)) (ty := (.array (.object "java/lang/Object"))) (by decide)
    have F569_size : Fld Z h569 b569 "java/util/ArrayList" "size" "I" (.int (0 : Int32)) := D569 (Or.inl (w89 hw)) (ty := .int) (by decide)
    refine own_on st569 ?_
    show OwnGo p e below s _ _ _ (T569.setTop (mkF m 143 #[.val (.int xa), .val (.int xb), .val (.int xc), .val (.int vH), .val (.int vS), .val (.int vT), .val (.ref wA), .val (.ref wB), .val (.ref wC), .val (.ref wD), .val (.ref wE), .val (.ref wF), .val (.ref oH), .unset, .unset, .unset, .unset, .unset, .unset] [(.ref b569)]))
    refine own_on (fun t_ k_ => XS.dup X569.here hx rfl (hb hby at_143) rfl rfl k_) ?_
    show OwnGo p e below s _ _ _ (T569.setTop (mkF m 144 #[.val (.int xa), .val (.int xb), .val (.int xc), .val (.int vH), .val (.int vS), .val (.int vT), .val (.ref wA), .val (.ref wB), .val (.ref wC), .val (.ref wD), .val (.ref wE), .val (.ref wF), .val (.ref oH), .unset, .unset, .unset, .unset, .unset, .unset] [(.ref b569), (.ref b569)]))
    have f581 : Old Z n0 h569 := fq5.ext E569
    obtain ⟨_, _, ⟨T582, L582, k582, n582⟩, -, X582, ⟨Lc582, hQ582, l582, y582, z582⟩, st582⟩ := X569.specialBack hx (y := (⟨"java/util/ArrayList", "<init>", "()V"⟩ : MethodName)) rfl hown (mvT hZ (w29 hw)) (mvT hZ (w30 hw)) (mvT hZ (w31 hw)) (by decide) (backOf (W := 1) (rm6 l Z a0 hw [] b569 .null (.int (0 : Int32)) dc h569 n0 Z569 A569 F569_elementData F569_size F569_modCount g579 f581 P3 P4) hZ (w31 hw) (w28 hw) (by decide) (by decide)) (g := (mkF m 144 #[.val (.int xa), .val (.int xb), .val (.int xc), .val (.int vH), .val (.int vS), .val (.int vT), .val (.ref wA), .val (.ref wB), .val (.ref wC), .val (.ref wD), .val (.ref wE), .val (.ref wF), .val (.ref oH), .unset, .unset, .unset, .unset, .unset, .unset] [(.ref b569), (.ref b569)])) rfl (by rw [hml]; rfl) (Steps.refl _) (a := b569) (argsL := []) (rest := [(.ref b569)]) (lenOf pd_0 rfl) rfl (by show 2 * 0 + _ ≤ _; exact Nat.le_of_eq rfl) (hb hby at_144) (fun _ hWx => ⟨rfl, e569, (by decide : 18 + 0 ≤ _), (by decide : 73 + 0 ≤ _)⟩)
    dsimp only [Pt.U, Pt.locs, Pt.cells, Pt.slots] at X582 l582 y582 z582 st582 hQ582
    replace X582 := own_num (c' := 18) (n' := 73) X582 l582 (y582.trans rfl) (z582.trans rfl)
    obtain ⟨rfl, N582q, K582q, c582_0, c582_1, c582_2, c582_3, c582_4, c582_5⟩ := hQ582
    have N582 := Fr.app Nq N582q
    have Z582 : n0 ≤ T582.heap.size := Nat.le_trans Z569 K582q.1
    have K582 : Keep h0 T582.heap [] := K569.trans K582q (allS (P := fun x => x ∈ [] ∨ h0.size ≤ x) (Or.inr z580) all0)
    refine own_tr st582 ?_
    show OwnGo p e below s _ _ _ (T582.setTop (mkF m 147 #[.val (.int xa), .val (.int xb), .val (.int xc), .val (.int vH), .val (.int vS), .val (.int vT), .val (.ref wA), .val (.ref wB), .val (.ref wC), .val (.ref wD), .val (.ref wE), .val (.ref wF), .val (.ref oH), .unset, .unset, .unset, .unset, .unset, .unset] [(.ref b569)]))
    refine own_on (fun t_ k_ => XS.astore X582.here hx rfl (hb hby at_147) rfl rfl (l' := #[.val (.int xa), .val (.int xb), .val (.int xc), .val (.int vH), .val (.int vS), .val (.int vT), .val (.ref wA), .val (.ref wB), .val (.ref wC), .val (.ref wD), .val (.ref wE), .val (.ref wF), .val (.ref oH), .val (.ref b569), .unset, .unset, .unset, .unset, .unset]) rfl k_) ?_
    show OwnGo p e below s _ _ _ (T582.setTop (mkF m 149 #[.val (.int xa), .val (.int xb), .val (.int xc), .val (.int vH), .val (.int vS), .val (.int vT), .val (.ref wA), .val (.ref wB), .val (.ref wC), .val (.ref wD), .val (.ref wE), .val (.ref wF), .val (.ref oH), .val (.ref b569), .unset, .unset, .unset, .unset, .unset] []))
    have f583 : b569 ≤ T582.heap.size := Nat.le_of_lt c582_0.lt
    have hr584 : b569 = dc ∨ 0 = 0 := Or.inr rfl
    have hr585 : b569 ≤ b569 := Nat.le_refl _
    have f586 : OwnE Z T582.heap own_nil := fun _ q => nomatch q
    rcases fq13 with hv | hv | hv
    · rw [show vS = (0 : Int32) from hv]
      show OwnGo p e below s _ _ _ (T582.setTop (mkF m 149 #[.val (.int xa), .val (.int xb), .val (.int xc), .val (.int vH), .val (.int (0 : Int32)), .val (.int vT), .val (.ref wA), .val (.ref wB), .val (.ref wC), .val (.ref wD), .val (.ref wE), .val (.ref wF), .val (.ref oH), .val (.ref b569), .unset, .unset, .unset, .unset, .unset] []))
      refine own_on (fun t_ k_ => XS.iload X582.here hx rfl (hb hby at_149) rfl k_) ?_
      show OwnGo p e below s _ _ _ (T582.setTop (mkF m 151 #[.val (.int xa), .val (.int xb), .val (.int xc), .val (.int vH), .val (.int (0 : Int32)), .val (.int vT), .val (.ref wA), .val (.ref wB), .val (.ref wC), .val (.ref wD), .val (.ref wE), .val (.ref wF), .val (.ref oH), .val (.ref b569), .unset, .unset, .unset, .unset, .unset] [(.int (0 : Int32))]))
      refine own_on (fun t_ k_ => XS.ifYes X582.here hx rfl (pc0 := 151) (pc' := 164) rfl (hb hby at_151) rfl ((if0 _ _).trans (flt (by decide : ¬ ((0 : Int32) < (0 : Int32)))).2.2.2) (by decide) (by decide) k_) ?_
      show OwnGo p e below s _ _ _ (T582.setTop (mkF m 164 #[.val (.int xa), .val (.int xb), .val (.int xc), .val (.int vH), .val (.int (0 : Int32)), .val (.int vT), .val (.ref wA), .val (.ref wB), .val (.ref wC), .val (.ref wD), .val (.ref wE), .val (.ref wF), .val (.ref oH), .val (.ref b569), .unset, .unset, .unset, .unset, .unset] []))
      refine own_on (fun t_ k_ => XS.iload X582.here hx rfl (hb hby at_164) rfl k_) ?_
      show OwnGo p e below s _ _ _ (T582.setTop (mkF m 166 #[.val (.int xa), .val (.int xb), .val (.int xc), .val (.int vH), .val (.int (0 : Int32)), .val (.int vT), .val (.ref wA), .val (.ref wB), .val (.ref wC), .val (.ref wD), .val (.ref wE), .val (.ref wF), .val (.ref oH), .val (.ref b569), .unset, .unset, .unset, .unset, .unset] [(.int (0 : Int32))]))
      refine own_on (fun t_ k_ => XS.iconst X582.here hx rfl (hb hby at_166) k_) ?_
      show OwnGo p e below s _ _ _ (T582.setTop (mkF m 167 #[.val (.int xa), .val (.int xb), .val (.int xc), .val (.int vH), .val (.int (0 : Int32)), .val (.int vT), .val (.ref wA), .val (.ref wB), .val (.ref wC), .val (.ref wD), .val (.ref wE), .val (.ref wF), .val (.ref oH), .val (.ref b569), .unset, .unset, .unset, .unset, .unset] [(.int (1 : Int32)), (.int (0 : Int32))]))
      refine own_on (fun t_ k_ => XS.icmpYes X582.here hx rfl (pc0 := 167) (pc' := 180) rfl (hb hby at_167) rfl (flt (by decide : ¬ ((1 : Int32) < (0 : Int32)))).2.2.2 (by decide) (by decide) k_) ?_
      show OwnGo p e below s _ _ _ (T582.setTop (mkF m 180 #[.val (.int xa), .val (.int xb), .val (.int xc), .val (.int vH), .val (.int (0 : Int32)), .val (.int vT), .val (.ref wA), .val (.ref wB), .val (.ref wC), .val (.ref wD), .val (.ref wE), .val (.ref wF), .val (.ref oH), .val (.ref b569), .unset, .unset, .unset, .unset, .unset] []))
      have hc587 : own_case (0 : Int32) own_nil wC wD := Or.inl ⟨rfl, rfl⟩
      have f588 : Exa Z h569 oH "java/util/ArrayList" := fq0.ext E569
      have f589 : Exa Z T582.heap oH "java/util/ArrayList" := f588.keep K582q
      have f590 : Fld Z h569 oH "java/util/ArrayList" "elementData" "[Ljava/lang/Object;" (.ref eaH) := fq1.ext E569
      have f591 : Fld Z T582.heap oH "java/util/ArrayList" "elementData" "[Ljava/lang/Object;" (.ref eaH) := f590.keep K582q (ninS ne570 nin0)
      have f592 : Fld Z h569 oH "java/util/ArrayList" "size" "I" (.int (own_n lH)) := fq2.ext E569
      have f593 : Fld Z T582.heap oH "java/util/ArrayList" "size" "I" (.int (own_n lH)) := f592.keep K582q (ninS ne570 nin0)
      have f594 : OwnA Z h569 eaH cpH lH := fq3.ext E569
      have f595 : OwnA Z T582.heap eaH cpH lH := f594.keep K582q (ninS ne571 nin0)
      have f596 : OwnE Z h569 lH := fq4.ext E569
      have f597 : OwnE Z T582.heap lH := f596.keep K582q 
      have f598 : Exa Z h569 wA "java/lang/String" := fq6.ext E569
      have f599 : Exa Z T582.heap wA "java/lang/String" := f598.keep K582q
      have f600 : Exa Z h569 wB "java/lang/String" := fq7.ext E569
      have f601 : Exa Z T582.heap wB "java/lang/String" := f600.keep K582q
      have f602 : Exa Z h569 wC "java/lang/String" := fq8.ext E569
      have f603 : Exa Z T582.heap wC "java/lang/String" := f602.keep K582q
      have f604 : Exa Z h569 wD "java/lang/String" := fq9.ext E569
      have f605 : Exa Z T582.heap wD "java/lang/String" := f604.keep K582q
      have f606 : Exa Z h569 wE "java/lang/String" := fq10.ext E569
      have f607 : Exa Z T582.heap wE "java/lang/String" := f606.keep K582q
      have f608 : Exa Z h569 wF "java/lang/String" := fq11.ext E569
      have f609 : Exa Z T582.heap wF "java/lang/String" := f608.keep K582q
      exact J180 _ _ _ (X582.more (by decide) (by decide)) rfl N582 Z582 K582 vH (0 : Int32) vT wA wB wC wD wE wF oH eaH cpH lH b569 dc 0 own_nil f589 f591 f593 f595 f597 c582_0 c582_1 c582_2 c582_4 f586 c582_5 f599 f601 f603 f605 f607 f609 fq12 hc587 fq14
    · rw [show vS = (1 : Int32) from hv]
      show OwnGo p e below s _ _ _ (T582.setTop (mkF m 149 #[.val (.int xa), .val (.int xb), .val (.int xc), .val (.int vH), .val (.int (1 : Int32)), .val (.int vT), .val (.ref wA), .val (.ref wB), .val (.ref wC), .val (.ref wD), .val (.ref wE), .val (.ref wF), .val (.ref oH), .val (.ref b569), .unset, .unset, .unset, .unset, .unset] []))
      refine own_on (fun t_ k_ => XS.iload X582.here hx rfl (hb hby at_149) rfl k_) ?_
      show OwnGo p e below s _ _ _ (T582.setTop (mkF m 151 #[.val (.int xa), .val (.int xb), .val (.int xc), .val (.int vH), .val (.int (1 : Int32)), .val (.int vT), .val (.ref wA), .val (.ref wB), .val (.ref wC), .val (.ref wD), .val (.ref wE), .val (.ref wF), .val (.ref oH), .val (.ref b569), .unset, .unset, .unset, .unset, .unset] [(.int (1 : Int32))]))
      refine own_on (fun t_ k_ => XS.ifNo X582.here hx rfl (hb hby at_151) rfl ((if0 _ _).trans (tlt (by decide : (0 : Int32) < (1 : Int32))).2.2.2) k_) ?_
      show OwnGo p e below s _ _ _ (T582.setTop (mkF m 154 #[.val (.int xa), .val (.int xb), .val (.int xc), .val (.int vH), .val (.int (1 : Int32)), .val (.int vT), .val (.ref wA), .val (.ref wB), .val (.ref wC), .val (.ref wD), .val (.ref wE), .val (.ref wF), .val (.ref oH), .val (.ref b569), .unset, .unset, .unset, .unset, .unset] []))
      refine own_on (fun t_ k_ => XS.aload X582.here hx rfl (hb hby at_154) rfl rfl k_) ?_
      show OwnGo p e below s _ _ _ (T582.setTop (mkF m 156 #[.val (.int xa), .val (.int xb), .val (.int xc), .val (.int vH), .val (.int (1 : Int32)), .val (.int vT), .val (.ref wA), .val (.ref wB), .val (.ref wC), .val (.ref wD), .val (.ref wE), .val (.ref wF), .val (.ref oH), .val (.ref b569), .unset, .unset, .unset, .unset, .unset] [(.ref b569)]))
      refine own_on (fun t_ k_ => XS.aload X582.here hx rfl (hb hby at_156) rfl rfl k_) ?_
      show OwnGo p e below s _ _ _ (T582.setTop (mkF m 158 #[.val (.int xa), .val (.int xb), .val (.int xc), .val (.int vH), .val (.int (1 : Int32)), .val (.int vT), .val (.ref wA), .val (.ref wB), .val (.ref wC), .val (.ref wD), .val (.ref wE), .val (.ref wF), .val (.ref oH), .val (.ref b569), .unset, .unset, .unset, .unset, .unset] [(.ref wC), (.ref b569)]))
      have f610 : Exa Z h569 wC "java/lang/String" := fq8.ext E569
      have f611 : Exa Z T582.heap wC "java/lang/String" := f610.keep K582q
      obtain ⟨cq612, kq612, q612a, q612b, q612c⟩ := isOf hZ rfl c582_0
      obtain ⟨_, _, ⟨T612, L612, k612, n612⟩, -, X612, ⟨Lc612, hQ612, l612, y612, z612⟩, st612⟩ := X582.interfaceBack hx (xi := (⟨"java/util/List", "add", "(Ljava/lang/Object;)Z"⟩ : MethodName)) (y := (⟨"java/util/ArrayList", "add", "(Ljava/lang/Object;)Z"⟩ : MethodName)) hown (mvT hZ (w135 hw)) (mvT hZ (w136 hw)) (mvT hZ (w137 hw)) (mvT hZ (w138 hw)) (mvT hZ (w139 hw)) (mvT hZ (w140 hw)) (mvT hZ (w141 hw)) (mvT hZ (w129 hw)) (by decide) (backOf (W := 0) (rm20 l Z a0 hw [] b569 wC dc 0 own_nil (0 : Int32) b569 b569 dc mr T582.heap n0 Z582 c582_0 c582_1 c582_2 c582_3 c582_4 f586 f611 hr584 g579 hr585 f583 c582_5 P3 P7 g579 (by (first | omega | exact Nat.le_of_ble_eq_true rfl | (simp only [List.length_append]; omega)) : own_nil.length ≤ 5)) hZ (w142 hw) (w28 hw) (by decide) (by decide)) q612a q612b q612c (g := (mkF m 158 #[.val (.int xa), .val (.int xb), .val (.int xc), .val (.int vH), .val (.int (1 : Int32)), .val (.int vT), .val (.ref wA), .val (.ref wB), .val (.ref wC), .val (.ref wD), .val (.ref wE), .val (.ref wF), .val (.ref oH), .val (.ref b569), .unset, .unset, .unset, .unset, .unset] [(.ref wC), (.ref b569)])) rfl (by rw [hml]; rfl) (Steps.refl _) (argsL := [(.ref wC)]) (rest := []) (lenOf pd_13 rfl) rfl (by show 2 * 0 + _ ≤ _; exact Nat.le_of_eq rfl) (hb hby at_158) (fun _ hWx => ⟨rfl, rfl, (by decide : 18 + 1 ≤ _), (by decide : 73 + 10 ≤ _)⟩)
      dsimp only [Pt.U, Pt.locs, Pt.cells, Pt.slots] at X612 l612 y612 z612 st612 hQ612
      replace X612 := own_num (c' := 19) (n' := 83) X612 l612 (y612.trans rfl) (z612.trans rfl)
      obtain ⟨ea2_612, cp2_612, wa2_612, rfl, N612q, K612q, c612_0, c612_1, c612_2, c612_3, c612_4, c612_5, c612_6, c612_7, c612_8, c612_9⟩ := hQ612
      have N612 := Fr.app N582 N612q
      have Z612 : n0 ≤ T612.heap.size := Nat.le_trans Z582 K612q.1
      have K612 : Keep h0 T612.heap [] := K582.trans K612q (allS (P := fun x => x ∈ [] ∨ h0.size ≤ x) (Or.inr z580) (allS (P := fun x => x ∈ [] ∨ h0.size ≤ x) (Or.inr z580) all0))
      refine own_tr st612 ?_
      show OwnGo p e below s _ _ _ (T612.setTop (mkF m 163 #[.val (.int xa), .val (.int xb), .val (.int xc), .val (.int vH), .val (.int (1 : Int32)), .val (.int vT), .val (.ref wA), .val (.ref wB), .val (.ref wC), .val (.ref wD), .val (.ref wE), .val (.ref wF), .val (.ref oH), .val (.ref b569), .unset, .unset, .unset, .unset, .unset] [(.int (1 : Int32))]))
      have hr613 : h0.size ≤ wa2_612 := Nat.le_trans z580 c612_7
      have ne614 : oH ≠ wa2_612 := Nat.ne_of_lt (Nat.lt_of_lt_of_le ne570' c612_7)
      have ne615 : eaH ≠ wa2_612 := Nat.ne_of_lt (Nat.lt_of_lt_of_le ne571' c612_7)
      have ne616 : wA ≠ wa2_612 := Nat.ne_of_lt (Nat.lt_of_lt_of_le ne572' c612_7)
      have ne617 : wB ≠ wa2_612 := Nat.ne_of_lt (Nat.lt_of_lt_of_le ne573' c612_7)
      have ne618 : wC ≠ wa2_612 := Nat.ne_of_lt (Nat.lt_of_lt_of_le ne574' c612_7)
      have ne619 : wD ≠ wa2_612 := Nat.ne_of_lt (Nat.lt_of_lt_of_le ne575' c612_7)
      have ne620 : wE ≠ wa2_612 := Nat.ne_of_lt (Nat.lt_of_lt_of_le ne576' c612_7)
      have ne621 : wF ≠ wa2_612 := Nat.ne_of_lt (Nat.lt_of_lt_of_le ne577' c612_7)
      have ne622 : dc ≠ wa2_612 := Nat.ne_of_lt (Nat.lt_of_lt_of_le ne578' c612_7)
      refine own_on (fun t_ k_ => XS.pop X612.here hx rfl (hb hby at_163) rfl rfl k_) ?_
      show OwnGo p e below s _ _ _ (T612.setTop (mkF m 164 #[.val (.int xa), .val (.int xb), .val (.int xc), .val (.int vH), .val (.int (1 : Int32)), .val (.int vT), .val (.ref wA), .val (.ref wB), .val (.ref wC), .val (.ref wD), .val (.ref wE), .val (.ref wF), .val (.ref oH), .val (.ref b569), .unset, .unset, .unset, .unset, .unset] []))
      refine own_on (fun t_ k_ => XS.iload X612.here hx rfl (hb hby at_164) rfl k_) ?_
      show OwnGo p e below s _ _ _ (T612.setTop (mkF m 166 #[.val (.int xa), .val (.int xb), .val (.int xc), .val (.int vH), .val (.int (1 : Int32)), .val (.int vT), .val (.ref wA), .val (.ref wB), .val (.ref wC), .val (.ref wD), .val (.ref wE), .val (.ref wF), .val (.ref oH), .val (.ref b569), .unset, .unset, .unset, .unset, .unset] [(.int (1 : Int32))]))
      refine own_on (fun t_ k_ => XS.iconst X612.here hx rfl (hb hby at_166) k_) ?_
      show OwnGo p e below s _ _ _ (T612.setTop (mkF m 167 #[.val (.int xa), .val (.int xb), .val (.int xc), .val (.int vH), .val (.int (1 : Int32)), .val (.int vT), .val (.ref wA), .val (.ref wB), .val (.ref wC), .val (.ref wD), .val (.ref wE), .val (.ref wF), .val (.ref oH), .val (.ref b569), .unset, .unset, .unset, .unset, .unset] [(.int (1 : Int32)), (.int (1 : Int32))]))
      refine own_on (fun t_ k_ => XS.icmpYes X612.here hx rfl (pc0 := 167) (pc' := 180) rfl (hb hby at_167) rfl (flt (by decide : ¬ ((1 : Int32) < (1 : Int32)))).2.2.2 (by decide) (by decide) k_) ?_
      show OwnGo p e below s _ _ _ (T612.setTop (mkF m 180 #[.val (.int xa), .val (.int xb), .val (.int xc), .val (.int vH), .val (.int (1 : Int32)), .val (.int vT), .val (.ref wA), .val (.ref wB), .val (.ref wC), .val (.ref wD), .val (.ref wE), .val (.ref wF), .val (.ref oH), .val (.ref b569), .unset, .unset, .unset, .unset, .unset] []))
      have hc623 : own_case (1 : Int32) (own_nil ++ [wC]) wC wD := Or.inr (Or.inl ⟨rfl, rfl⟩)
      have f624 : Exa Z h569 oH "java/util/ArrayList" := fq0.ext E569
      have f625 : Exa Z T582.heap oH "java/util/ArrayList" := f624.keep K582q
      have f626 : Exa Z T612.heap oH "java/util/ArrayList" := f625.keep K612q
      have f627 : Fld Z h569 oH "java/util/ArrayList" "elementData" "[Ljava/lang/Object;" (.ref eaH) := fq1.ext E569
      have f628 : Fld Z T582.heap oH "java/util/ArrayList" "elementData" "[Ljava/lang/Object;" (.ref eaH) := f627.keep K582q (ninS ne570 nin0)
      have f629 : Fld Z T612.heap oH "java/util/ArrayList" "elementData" "[Ljava/lang/Object;" (.ref eaH) := f628.keep K612q (ninS ne570 (ninS ne570 nin0))
      have f630 : Fld Z h569 oH "java/util/ArrayList" "size" "I" (.int (own_n lH)) := fq2.ext E569
      have f631 : Fld Z T582.heap oH "java/util/ArrayList" "size" "I" (.int (own_n lH)) := f630.keep K582q (ninS ne570 nin0)
      have f632 : Fld Z T612.heap oH "java/util/ArrayList" "size" "I" (.int (own_n lH)) := f631.keep K612q (ninS ne570 (ninS ne570 nin0))
      have f633 : OwnA Z h569 eaH cpH lH := fq3.ext E569
      have f634 : OwnA Z T582.heap eaH cpH lH := f633.keep K582q (ninS ne571 nin0)
      have f635 : OwnA Z T612.heap eaH cpH lH := f634.keep K612q (ninS ne571 (ninS ne571 nin0))
      have f636 : OwnE Z h569 lH := fq4.ext E569
      have f637 : OwnE Z T582.heap lH := f636.keep K582q 
      have f638 : OwnE Z T612.heap lH := f637.keep K612q 
      have f639 : Exa Z h569 wA "java/lang/String" := fq6.ext E569
      have f640 : Exa Z T582.heap wA "java/lang/String" := f639.keep K582q
      have f641 : Exa Z T612.heap wA "java/lang/String" := f640.keep K612q
      have f642 : Exa Z h569 wB "java/lang/String" := fq7.ext E569
      have f643 : Exa Z T582.heap wB "java/lang/String" := f642.keep K582q
      have f644 : Exa Z T612.heap wB "java/lang/String" := f643.keep K612q
      have f645 : Exa Z T612.heap wC "java/lang/String" := f611.keep K612q
      have f646 : Exa Z h569 wD "java/lang/String" := fq9.ext E569
      have f647 : Exa Z T582.heap wD "java/lang/String" := f646.keep K582q
      have f648 : Exa Z T612.heap wD "java/lang/String" := f647.keep K612q
      have f649 : Exa Z h569 wE "java/lang/String" := fq10.ext E569
      have f650 : Exa Z T582.heap wE "java/lang/String" := f649.keep K582q
      have f651 : Exa Z T612.heap wE "java/lang/String" := f650.keep K612q
      have f652 : Exa Z h569 wF "java/lang/String" := fq11.ext E569
      have f653 : Exa Z T582.heap wF "java/lang/String" := f652.keep K582q
      have f654 : Exa Z T612.heap wF "java/lang/String" := f653.keep K612q
      exact J180 _ _ _ (X612.more (by decide) (by decide)) rfl N612 Z612 K612 vH (1 : Int32) vT wA wB wC wD wE wF oH eaH cpH lH b569 ea2_612 cp2_612 (own_nil ++ [wC]) f626 f629 f632 f635 f638 c612_0 c612_1 c612_2 c612_4 c612_9 c612_8 f641 f644 f645 f648 f651 f654 fq12 hc623 fq14
    · rw [show vS = (2 : Int32) from hv]
      show OwnGo p e below s _ _ _ (T582.setTop (mkF m 149 #[.val (.int xa), .val (.int xb), .val (.int xc), .val (.int vH), .val (.int (2 : Int32)), .val (.int vT), .val (.ref wA), .val (.ref wB), .val (.ref wC), .val (.ref wD), .val (.ref wE), .val (.ref wF), .val (.ref oH), .val (.ref b569), .unset, .unset, .unset, .unset, .unset] []))
      refine own_on (fun t_ k_ => XS.iload X582.here hx rfl (hb hby at_149) rfl k_) ?_
      show OwnGo p e below s _ _ _ (T582.setTop (mkF m 151 #[.val (.int xa), .val (.int xb), .val (.int xc), .val (.int vH), .val (.int (2 : Int32)), .val (.int vT), .val (.ref wA), .val (.ref wB), .val (.ref wC), .val (.ref wD), .val (.ref wE), .val (.ref wF), .val (.ref oH), .val (.ref b569), .unset, .unset, .unset, .unset, .unset] [(.int (2 : Int32))]))
      refine own_on (fun t_ k_ => XS.ifNo X582.here hx rfl (hb hby at_151) rfl ((if0 _ _).trans (tlt (by decide : (0 : Int32) < (2 : Int32))).2.2.2) k_) ?_
      show OwnGo p e below s _ _ _ (T582.setTop (mkF m 154 #[.val (.int xa), .val (.int xb), .val (.int xc), .val (.int vH), .val (.int (2 : Int32)), .val (.int vT), .val (.ref wA), .val (.ref wB), .val (.ref wC), .val (.ref wD), .val (.ref wE), .val (.ref wF), .val (.ref oH), .val (.ref b569), .unset, .unset, .unset, .unset, .unset] []))
      refine own_on (fun t_ k_ => XS.aload X582.here hx rfl (hb hby at_154) rfl rfl k_) ?_
      show OwnGo p e below s _ _ _ (T582.setTop (mkF m 156 #[.val (.int xa), .val (.int xb), .val (.int xc), .val (.int vH), .val (.int (2 : Int32)), .val (.int vT), .val (.ref wA), .val (.ref wB), .val (.ref wC), .val (.ref wD), .val (.ref wE), .val (.ref wF), .val (.ref oH), .val (.ref b569), .unset, .unset, .unset, .unset, .unset] [(.ref b569)]))
      refine own_on (fun t_ k_ => XS.aload X582.here hx rfl (hb hby at_156) rfl rfl k_) ?_
      show OwnGo p e below s _ _ _ (T582.setTop (mkF m 158 #[.val (.int xa), .val (.int xb), .val (.int xc), .val (.int vH), .val (.int (2 : Int32)), .val (.int vT), .val (.ref wA), .val (.ref wB), .val (.ref wC), .val (.ref wD), .val (.ref wE), .val (.ref wF), .val (.ref oH), .val (.ref b569), .unset, .unset, .unset, .unset, .unset] [(.ref wC), (.ref b569)]))
      have f655 : Exa Z h569 wC "java/lang/String" := fq8.ext E569
      have f656 : Exa Z T582.heap wC "java/lang/String" := f655.keep K582q
      obtain ⟨cq657, kq657, q657a, q657b, q657c⟩ := isOf hZ rfl c582_0
      obtain ⟨_, _, ⟨T657, L657, k657, n657⟩, -, X657, ⟨Lc657, hQ657, l657, y657, z657⟩, st657⟩ := X582.interfaceBack hx (xi := (⟨"java/util/List", "add", "(Ljava/lang/Object;)Z"⟩ : MethodName)) (y := (⟨"java/util/ArrayList", "add", "(Ljava/lang/Object;)Z"⟩ : MethodName)) hown (mvT hZ (w135 hw)) (mvT hZ (w136 hw)) (mvT hZ (w137 hw)) (mvT hZ (w138 hw)) (mvT hZ (w139 hw)) (mvT hZ (w140 hw)) (mvT hZ (w141 hw)) (mvT hZ (w129 hw)) (by decide) (backOf (W := 0) (rm20 l Z a0 hw [] b569 wC dc 0 own_nil (0 : Int32) b569 b569 dc mr T582.heap n0 Z582 c582_0 c582_1 c582_2 c582_3 c582_4 f586 f656 hr584 g579 hr585 f583 c582_5 P3 P7 g579 (by (first | omega | exact Nat.le_of_ble_eq_true rfl | (simp only [List.length_append]; omega)) : own_nil.length ≤ 5)) hZ (w142 hw) (w28 hw) (by decide) (by decide)) q657a q657b q657c (g := (mkF m 158 #[.val (.int xa), .val (.int xb), .val (.int xc), .val (.int vH), .val (.int (2 : Int32)), .val (.int vT), .val (.ref wA), .val (.ref wB), .val (.ref wC), .val (.ref wD), .val (.ref wE), .val (.ref wF), .val (.ref oH), .val (.ref b569), .unset, .unset, .unset, .unset, .unset] [(.ref wC), (.ref b569)])) rfl (by rw [hml]; rfl) (Steps.refl _) (argsL := [(.ref wC)]) (rest := []) (lenOf pd_13 rfl) rfl (by show 2 * 0 + _ ≤ _; exact Nat.le_of_eq rfl) (hb hby at_158) (fun _ hWx => ⟨rfl, rfl, (by decide : 18 + 1 ≤ _), (by decide : 73 + 10 ≤ _)⟩)
      dsimp only [Pt.U, Pt.locs, Pt.cells, Pt.slots] at X657 l657 y657 z657 st657 hQ657
      replace X657 := own_num (c' := 19) (n' := 83) X657 l657 (y657.trans rfl) (z657.trans rfl)
      obtain ⟨ea2_657, cp2_657, wa2_657, rfl, N657q, K657q, c657_0, c657_1, c657_2, c657_3, c657_4, c657_5, c657_6, c657_7, c657_8, c657_9⟩ := hQ657
      have N657 := Fr.app N582 N657q
      have Z657 : n0 ≤ T657.heap.size := Nat.le_trans Z582 K657q.1
      have K657 : Keep h0 T657.heap [] := K582.trans K657q (allS (P := fun x => x ∈ [] ∨ h0.size ≤ x) (Or.inr z580) (allS (P := fun x => x ∈ [] ∨ h0.size ≤ x) (Or.inr z580) all0))
      refine own_tr st657 ?_
      show OwnGo p e below s _ _ _ (T657.setTop (mkF m 163 #[.val (.int xa), .val (.int xb), .val (.int xc), .val (.int vH), .val (.int (2 : Int32)), .val (.int vT), .val (.ref wA), .val (.ref wB), .val (.ref wC), .val (.ref wD), .val (.ref wE), .val (.ref wF), .val (.ref oH), .val (.ref b569), .unset, .unset, .unset, .unset, .unset] [(.int (1 : Int32))]))
      have hr658 : h0.size ≤ wa2_657 := Nat.le_trans z580 c657_7
      have ne659 : oH ≠ wa2_657 := Nat.ne_of_lt (Nat.lt_of_lt_of_le ne570' c657_7)
      have ne660 : eaH ≠ wa2_657 := Nat.ne_of_lt (Nat.lt_of_lt_of_le ne571' c657_7)
      have ne661 : wA ≠ wa2_657 := Nat.ne_of_lt (Nat.lt_of_lt_of_le ne572' c657_7)
      have ne662 : wB ≠ wa2_657 := Nat.ne_of_lt (Nat.lt_of_lt_of_le ne573' c657_7)
      have ne663 : wC ≠ wa2_657 := Nat.ne_of_lt (Nat.lt_of_lt_of_le ne574' c657_7)
      have ne664 : wD ≠ wa2_657 := Nat.ne_of_lt (Nat.lt_of_lt_of_le ne575' c657_7)
      have ne665 : wE ≠ wa2_657 := Nat.ne_of_lt (Nat.lt_of_lt_of_le ne576' c657_7)
      have ne666 : wF ≠ wa2_657 := Nat.ne_of_lt (Nat.lt_of_lt_of_le ne577' c657_7)
      have ne667 : dc ≠ wa2_657 := Nat.ne_of_lt (Nat.lt_of_lt_of_le ne578' c657_7)
      refine own_on (fun t_ k_ => XS.pop X657.here hx rfl (hb hby at_163) rfl rfl k_) ?_
      show OwnGo p e below s _ _ _ (T657.setTop (mkF m 164 #[.val (.int xa), .val (.int xb), .val (.int xc), .val (.int vH), .val (.int (2 : Int32)), .val (.int vT), .val (.ref wA), .val (.ref wB), .val (.ref wC), .val (.ref wD), .val (.ref wE), .val (.ref wF), .val (.ref oH), .val (.ref b569), .unset, .unset, .unset, .unset, .unset] []))
      refine own_on (fun t_ k_ => XS.iload X657.here hx rfl (hb hby at_164) rfl k_) ?_
      show OwnGo p e below s _ _ _ (T657.setTop (mkF m 166 #[.val (.int xa), .val (.int xb), .val (.int xc), .val (.int vH), .val (.int (2 : Int32)), .val (.int vT), .val (.ref wA), .val (.ref wB), .val (.ref wC), .val (.ref wD), .val (.ref wE), .val (.ref wF), .val (.ref oH), .val (.ref b569), .unset, .unset, .unset, .unset, .unset] [(.int (2 : Int32))]))
      refine own_on (fun t_ k_ => XS.iconst X657.here hx rfl (hb hby at_166) k_) ?_
      show OwnGo p e below s _ _ _ (T657.setTop (mkF m 167 #[.val (.int xa), .val (.int xb), .val (.int xc), .val (.int vH), .val (.int (2 : Int32)), .val (.int vT), .val (.ref wA), .val (.ref wB), .val (.ref wC), .val (.ref wD), .val (.ref wE), .val (.ref wF), .val (.ref oH), .val (.ref b569), .unset, .unset, .unset, .unset, .unset] [(.int (1 : Int32)), (.int (2 : Int32))]))
      refine own_on (fun t_ k_ => XS.icmpNo X657.here hx rfl (hb hby at_167) rfl (tlt (by decide : (1 : Int32) < (2 : Int32))).2.2.2 k_) ?_
      show OwnGo p e below s _ _ _ (T657.setTop (mkF m 170 #[.val (.int xa), .val (.int xb), .val (.int xc), .val (.int vH), .val (.int (2 : Int32)), .val (.int vT), .val (.ref wA), .val (.ref wB), .val (.ref wC), .val (.ref wD), .val (.ref wE), .val (.ref wF), .val (.ref oH), .val (.ref b569), .unset, .unset, .unset, .unset, .unset] []))
      refine own_on (fun t_ k_ => XS.aload X657.here hx rfl (hb hby at_170) rfl rfl k_) ?_
      show OwnGo p e below s _ _ _ (T657.setTop (mkF m 172 #[.val (.int xa), .val (.int xb), .val (.int xc), .val (.int vH), .val (.int (2 : Int32)), .val (.int vT), .val (.ref wA), .val (.ref wB), .val (.ref wC), .val (.ref wD), .val (.ref wE), .val (.ref wF), .val (.ref oH), .val (.ref b569), .unset, .unset, .unset, .unset, .unset] [(.ref b569)]))
      refine own_on (fun t_ k_ => XS.aload X657.here hx rfl (hb hby at_172) rfl rfl k_) ?_
      show OwnGo p e below s _ _ _ (T657.setTop (mkF m 174 #[.val (.int xa), .val (.int xb), .val (.int xc), .val (.int vH), .val (.int (2 : Int32)), .val (.int vT), .val (.ref wA), .val (.ref wB), .val (.ref wC), .val (.ref wD), .val (.ref wE), .val (.ref wF), .val (.ref oH), .val (.ref b569), .unset, .unset, .unset, .unset, .unset] [(.ref wD), (.ref b569)]))
      have f668 : Exa Z h569 wD "java/lang/String" := fq9.ext E569
      have f669 : Exa Z T582.heap wD "java/lang/String" := f668.keep K582q
      have f670 : Exa Z T657.heap wD "java/lang/String" := f669.keep K657q
      have f671 : b569 ≤ T657.heap.size := Nat.le_trans f583 K657q.1
      obtain ⟨cq672, kq672, q672a, q672b, q672c⟩ := isOf hZ rfl c657_0
      obtain ⟨_, _, ⟨T672, L672, k672, n672⟩, -, X672, ⟨Lc672, hQ672, l672, y672, z672⟩, st672⟩ := X657.interfaceBack hx (xi := (⟨"java/util/List", "add", "(Ljava/lang/Object;)Z"⟩ : MethodName)) (y := (⟨"java/util/ArrayList", "add", "(Ljava/lang/Object;)Z"⟩ : MethodName)) hown (mvT hZ (w135 hw)) (mvT hZ (w136 hw)) (mvT hZ (w137 hw)) (mvT hZ (w138 hw)) (mvT hZ (w139 hw)) (mvT hZ (w140 hw)) (mvT hZ (w141 hw)) (mvT hZ (w129 hw)) (by decide) (backOf (W := 0) (rm20 l Z a0 hw [] b569 wD ea2_657 cp2_657 (own_nil ++ [wC]) ((0 : Int32) + (1 : Int32)) wa2_657 b569 dc mr T657.heap n0 Z657 c657_0 c657_1 c657_2 c657_3 c657_4 c657_9 f670 c657_5 c657_6 c657_7 f671 c657_8 P3 P7 g579 (by (first | omega | exact Nat.le_of_ble_eq_true rfl | (simp only [List.length_append]; omega)) : (own_nil ++ [wC]).length ≤ 5)) hZ (w142 hw) (w28 hw) (by decide) (by decide)) q672a q672b q672c (g := (mkF m 174 #[.val (.int xa), .val (.int xb), .val (.int xc), .val (.int vH), .val (.int (2 : Int32)), .val (.int vT), .val (.ref wA), .val (.ref wB), .val (.ref wC), .val (.ref wD), .val (.ref wE), .val (.ref wF), .val (.ref oH), .val (.ref b569), .unset, .unset, .unset, .unset, .unset] [(.ref wD), (.ref b569)])) rfl (by rw [hml]; rfl) (Steps.refl _) (argsL := [(.ref wD)]) (rest := []) (lenOf pd_13 rfl) rfl (by show 2 * 0 + _ ≤ _; exact Nat.le_of_eq rfl) (hb hby at_174) (fun _ hWx => ⟨rfl, rfl, (by decide : 19 + 1 ≤ _), (by decide : 83 + 10 ≤ _)⟩)
      dsimp only [Pt.U, Pt.locs, Pt.cells, Pt.slots] at X672 l672 y672 z672 st672 hQ672
      replace X672 := own_num (c' := 20) (n' := 93) X672 l672 (y672.trans rfl) (z672.trans rfl)
      obtain ⟨ea2_672, cp2_672, wa2_672, rfl, N672q, K672q, c672_0, c672_1, c672_2, c672_3, c672_4, c672_5, c672_6, c672_7, c672_8, c672_9⟩ := hQ672
      have N672 := Fr.app N657 N672q
      have Z672 : n0 ≤ T672.heap.size := Nat.le_trans Z657 K672q.1
      have K672 : Keep h0 T672.heap [] := K657.trans K672q (allS (P := fun x => x ∈ [] ∨ h0.size ≤ x) (Or.inr z580) (allS (P := fun x => x ∈ [] ∨ h0.size ≤ x) (Or.inr hr658) all0))
      refine own_tr st672 ?_
      show OwnGo p e below s _ _ _ (T672.setTop (mkF m 179 #[.val (.int xa), .val (.int xb), .val (.int xc), .val (.int vH), .val (.int (2 : Int32)), .val (.int vT), .val (.ref wA), .val (.ref wB), .val (.ref wC), .val (.ref wD), .val (.ref wE), .val (.ref wF), .val (.ref oH), .val (.ref b569), .unset, .unset, .unset, .unset, .unset] [(.int (1 : Int32))]))
      refine own_on (fun t_ k_ => XS.pop X672.here hx rfl (hb hby at_179) rfl rfl k_) ?_
      show OwnGo p e below s _ _ _ (T672.setTop (mkF m 180 #[.val (.int xa), .val (.int xb), .val (.int xc), .val (.int vH), .val (.int (2 : Int32)), .val (.int vT), .val (.ref wA), .val (.ref wB), .val (.ref wC), .val (.ref wD), .val (.ref wE), .val (.ref wF), .val (.ref oH), .val (.ref b569), .unset, .unset, .unset, .unset, .unset] []))
      have hc673 : own_case (2 : Int32) ((own_nil ++ [wC]) ++ [wD]) wC wD := Or.inr (Or.inr ⟨rfl, rfl⟩)
      have f674 : Exa Z h569 oH "java/util/ArrayList" := fq0.ext E569
      have f675 : Exa Z T582.heap oH "java/util/ArrayList" := f674.keep K582q
      have f676 : Exa Z T657.heap oH "java/util/ArrayList" := f675.keep K657q
      have f677 : Exa Z T672.heap oH "java/util/ArrayList" := f676.keep K672q
      have f678 : Fld Z h569 oH "java/util/ArrayList" "elementData" "[Ljava/lang/Object;" (.ref eaH) := fq1.ext E569
      have f679 : Fld Z T582.heap oH "java/util/ArrayList" "elementData" "[Ljava/lang/Object;" (.ref eaH) := f678.keep K582q (ninS ne570 nin0)
      have f680 : Fld Z T657.heap oH "java/util/ArrayList" "elementData" "[Ljava/lang/Object;" (.ref eaH) := f679.keep K657q (ninS ne570 (ninS ne570 nin0))
      have f681 : Fld Z T672.heap oH "java/util/ArrayList" "elementData" "[Ljava/lang/Object;" (.ref eaH) := f680.keep K672q (ninS ne570 (ninS ne659 nin0))
      have f682 : Fld Z h569 oH "java/util/ArrayList" "size" "I" (.int (own_n lH)) := fq2.ext E569
      have f683 : Fld Z T582.heap oH "java/util/ArrayList" "size" "I" (.int (own_n lH)) := f682.keep K582q (ninS ne570 nin0)
      have f684 : Fld Z T657.heap oH "java/util/ArrayList" "size" "I" (.int (own_n lH)) := f683.keep K657q (ninS ne570 (ninS ne570 nin0))
      have f685 : Fld Z T672.heap oH "java/util/ArrayList" "size" "I" (.int (own_n lH)) := f684.keep K672q (ninS ne570 (ninS ne659 nin0))
      have f686 : OwnA Z h569 eaH cpH lH := fq3.ext E569
      have f687 : OwnA Z T582.heap eaH cpH lH := f686.keep K582q (ninS ne571 nin0)
      have f688 : OwnA Z T657.heap eaH cpH lH := f687.keep K657q (ninS ne571 (ninS ne571 nin0))
      have f689 : OwnA Z T672.heap eaH cpH lH := f688.keep K672q (ninS ne571 (ninS ne660 nin0))
      have f690 : OwnE Z h569 lH := fq4.ext E569
      have f691 : OwnE Z T582.heap lH := f690.keep K582q 
      have f692 : OwnE Z T657.heap lH := f691.keep K657q 
      have f693 : OwnE Z T672.heap lH := f692.keep K672q 
      have f694 : Exa Z h569 wA "java/lang/String" := fq6.ext E569
      have f695 : Exa Z T582.heap wA "java/lang/String" := f694.keep K582q
      have f696 : Exa Z T657.heap wA "java/lang/String" := f695.keep K657q
      have f697 : Exa Z T672.heap wA "java/lang/String" := f696.keep K672q
      have f698 : Exa Z h569 wB "java/lang/String" := fq7.ext E569
      have f699 : Exa Z T582.heap wB "java/lang/String" := f698.keep K582q
      have f700 : Exa Z T657.heap wB "java/lang/String" := f699.keep K657q
      have f701 : Exa Z T672.heap wB "java/lang/String" := f700.keep K672q
      have f702 : Exa Z T657.heap wC "java/lang/String" := f656.keep K657q
      have f703 : Exa Z T672.heap wC "java/lang/String" := f702.keep K672q
      have f704 : Exa Z T672.heap wD "java/lang/String" := f670.keep K672q
      have f705 : Exa Z h569 wE "java/lang/String" := fq10.ext E569
      have f706 : Exa Z T582.heap wE "java/lang/String" := f705.keep K582q
      have f707 : Exa Z T657.heap wE "java/lang/String" := f706.keep K657q
      have f708 : Exa Z T672.heap wE "java/lang/String" := f707.keep K672q
      have f709 : Exa Z h569 wF "java/lang/String" := fq11.ext E569
      have f710 : Exa Z T582.heap wF "java/lang/String" := f709.keep K582q
      have f711 : Exa Z T657.heap wF "java/lang/String" := f710.keep K657q
      have f712 : Exa Z T672.heap wF "java/lang/String" := f711.keep K672q
      exact J180 _ _ _ (X672.more (by decide) (by decide)) rfl N672 Z672 K672 vH (2 : Int32) vT wA wB wC wD wE wF oH eaH cpH lH b569 ea2_672 cp2_672 ((own_nil ++ [wC]) ++ [wD]) f677 f681 f685 f689 f693 c672_0 c672_1 c672_2 c672_4 c672_9 c672_8 f697 f701 f703 f704 f708 f712 fq12 hc673 fq14
  have J102 : ∀ (Tq : State) (hq : Heap) (lq : List Loc) (Xq : Stand p l e room_1 s m #[(.int xa), (.int xb), (.int xc)] below meth c Tq lq 13 42) (eq : Tq.heap = hq) (Nq : Fr n0 lq) (Zq : n0 ≤ hq.size) (Kq : Keep h0 hq []) (vH : Int32) (vS : Int32) (vT : Int32) (wA : Addr) (wB : Addr) (wC : Addr) (wD : Addr) (wE : Addr) (wF : Addr) (fq0 : Old Z n0 hq) (fq1 : Exa Z hq wA "java/lang/String") (fq2 : Exa Z hq wB "java/lang/String") (fq3 : Exa Z hq wC "java/lang/String") (fq4 : Exa Z hq wD "java/lang/String") (fq5 : Exa Z hq wE "java/lang/String") (fq6 : Exa Z hq wF "java/lang/String") (fq7 : vH = 0 ∨ vH = 1 ∨ vH = 2) (fq8 : vS = 0 ∨ vS = 1 ∨ vS = 2) (fq9 : vT = 0 ∨ vT = 1 ∨ vT = 2), OwnGo p e below s (Q0 Z xa xb xc cs dc em mr ml h0 n0) room_1.cells room_1.slots (Tq.setTop (mkF m 102 #[.val (.int xa), .val (.int xb), .val (.int xc), .val (.int vH), .val (.int vS), .val (.int vT), .val (.ref wA), .val (.ref wB), .val (.ref wC), .val (.ref wD), .val (.ref wE), .val (.ref wF), .unset, .unset, .unset, .unset, .unset, .unset, .unset] [])) := by
    intro Tq hq lq Xq eq Nq Zq Kq vH vS vT wA wB wC wD wE wF fq0 fq1 fq2 fq3 fq4 fq5 fq6 fq7 fq8 fq9
    have f713 : OwnA Z hq dc 0 own_nil := P4.ext fq0.2
    obtain ⟨T714, h714, X714, e714, E714, A714, D714, u714, st714⟩ := newO Xq hx hZ hown (w26 hw) (w27 hw) (w28 hw) eq (g := (mkF m 102 #[.val (.int xa), .val (.int xb), .val (.int xc), .val (.int vH), .val (.int vS), .val (.int vT), .val (.ref wA), .val (.ref wB), .val (.ref wC), .val (.ref wD), .val (.ref wE), .val (.ref wF), .unset, .unset, .unset, .unset, .unset, .unset, .unset] [])) rfl (hb hby at_102) (by decide) (by decide)
    obtain ⟨b714, g714⟩ : ∃ z, z = hq.size := ⟨_, rfl⟩
    rw [← g714] at A714 D714 st714
    have ne715' : wA < b714 := Nat.lt_of_lt_of_le fq1.lt (Nat.le_of_eq g714.symm)
    have ne715 : wA ≠ b714 := Nat.ne_of_lt ne715'
    have ne716' : wB < b714 := Nat.lt_of_lt_of_le fq2.lt (Nat.le_of_eq g714.symm)
    have ne716 : wB ≠ b714 := Nat.ne_of_lt ne716'
    have ne717' : wC < b714 := Nat.lt_of_lt_of_le fq3.lt (Nat.le_of_eq g714.symm)
    have ne717 : wC ≠ b714 := Nat.ne_of_lt ne717'
    have ne718' : wD < b714 := Nat.lt_of_lt_of_le fq4.lt (Nat.le_of_eq g714.symm)
    have ne718 : wD ≠ b714 := Nat.ne_of_lt ne718'
    have ne719' : wE < b714 := Nat.lt_of_lt_of_le fq5.lt (Nat.le_of_eq g714.symm)
    have ne719 : wE ≠ b714 := Nat.ne_of_lt ne719'
    have ne720' : wF < b714 := Nat.lt_of_lt_of_le fq6.lt (Nat.le_of_eq g714.symm)
    have ne720 : wF ≠ b714 := Nat.ne_of_lt ne720'
    have ne721' : dc < b714 := Nat.lt_of_lt_of_le f713.lt (Nat.le_of_eq g714.symm)
    have ne721 : dc ≠ b714 := Nat.ne_of_lt ne721'
    have g722 : n0 ≤ b714 := Nat.le_trans Zq (Nat.le_of_eq g714.symm)
    have z723 : h0.size ≤ b714 := Nat.le_trans Kq.1 (Nat.le_of_eq g714.symm)
    have Z714 : n0 ≤ h714.size := Nat.le_trans Zq E714.1
    have K714 : Keep h0 h714 [] := Kq.ext E714
    have F714_modCount : Fld Z h714 b714 "java/util/AbstractList" "modCount" "I" (.int (0 : Int32)) := D714 (Or.inl (w46 hw)) (ty := .int) (by decide)
    have F714_elementData : Fld Z h714 b714 "java/util/ArrayList" "elementData" "[Ljava/lang/Object;" .null := D714 (Or.inl (w49 hw)) (ty := (.array (.object "java/lang/Object"))) (by decide)
    have F714_size : Fld Z h714 b714 "java/util/ArrayList" "size" "I" (.int (0 : Int32)) := D714 (Or.inl (w89 hw)) (ty := .int) (by decide)
    refine own_on st714 ?_
    show OwnGo p e below s _ _ _ (T714.setTop (mkF m 105 #[.val (.int xa), .val (.int xb), .val (.int xc), .val (.int vH), .val (.int vS), .val (.int vT), .val (.ref wA), .val (.ref wB), .val (.ref wC), .val (.ref wD), .val (.ref wE), .val (.ref wF), .unset, .unset, .unset, .unset, .unset, .unset, .unset] [(.ref b714)]))
    refine own_on (fun t_ k_ => XS.dup X714.here hx rfl (hb hby at_105) rfl rfl k_) ?_
    show OwnGo p e below s _ _ _ (T714.setTop (mkF m 106 #[.val (.int xa), .val (.int xb), .val (.int xc), .val (.int vH), .val (.int vS), .val (.int vT), .val (.ref wA), .val (.ref wB), .val (.ref wC), .val (.ref wD), .val (.ref wE), .val (.ref wF), .unset, .unset, .unset, .unset, .unset, .unset, .unset] [(.ref b714), (.ref b714)]))
    have f724 : Old Z n0 h714 := fq0.ext E714
    obtain ⟨_, _, ⟨T725, L725, k725, n725⟩, -, X725, ⟨Lc725, hQ725, l725, y725, z725⟩, st725⟩ := X714.specialBack hx (y := (⟨"java/util/ArrayList", "<init>", "()V"⟩ : MethodName)) rfl hown (mvT hZ (w29 hw)) (mvT hZ (w30 hw)) (mvT hZ (w31 hw)) (by decide) (backOf (W := 1) (rm6 l Z a0 hw [] b714 .null (.int (0 : Int32)) dc h714 n0 Z714 A714 F714_elementData F714_size F714_modCount g722 f724 P3 P4) hZ (w31 hw) (w28 hw) (by decide) (by decide)) (g := (mkF m 106 #[.val (.int xa), .val (.int xb), .val (.int xc), .val (.int vH), .val (.int vS), .val (.int vT), .val (.ref wA), .val (.ref wB), .val (.ref wC), .val (.ref wD), .val (.ref wE), .val (.ref wF), .unset, .unset, .unset, .unset, .unset, .unset, .unset] [(.ref b714), (.ref b714)])) rfl (by rw [hml]; rfl) (Steps.refl _) (a := b714) (argsL := []) (rest := [(.ref b714)]) (lenOf pd_0 rfl) rfl (by show 2 * 0 + _ ≤ _; exact Nat.le_of_eq rfl) (hb hby at_106) (fun _ hWx => ⟨rfl, e714, (by decide : 14 + 0 ≤ _), (by decide : 45 + 0 ≤ _)⟩)
    dsimp only [Pt.U, Pt.locs, Pt.cells, Pt.slots] at X725 l725 y725 z725 st725 hQ725
    replace X725 := own_num (c' := 14) (n' := 45) X725 l725 (y725.trans rfl) (z725.trans rfl)
    obtain ⟨rfl, N725q, K725q, c725_0, c725_1, c725_2, c725_3, c725_4, c725_5⟩ := hQ725
    have N725 := Fr.app Nq N725q
    have Z725 : n0 ≤ T725.heap.size := Nat.le_trans Z714 K725q.1
    have K725 : Keep h0 T725.heap [] := K714.trans K725q (allS (P := fun x => x ∈ [] ∨ h0.size ≤ x) (Or.inr z723) all0)
    refine own_tr st725 ?_
    show OwnGo p e below s _ _ _ (T725.setTop (mkF m 109 #[.val (.int xa), .val (.int xb), .val (.int xc), .val (.int vH), .val (.int vS), .val (.int vT), .val (.ref wA), .val (.ref wB), .val (.ref wC), .val (.ref wD), .val (.ref wE), .val (.ref wF), .unset, .unset, .unset, .unset, .unset, .unset, .unset] [(.ref b714)]))
    refine own_on (fun t_ k_ => XS.astore X725.here hx rfl (hb hby at_109) rfl rfl (l' := #[.val (.int xa), .val (.int xb), .val (.int xc), .val (.int vH), .val (.int vS), .val (.int vT), .val (.ref wA), .val (.ref wB), .val (.ref wC), .val (.ref wD), .val (.ref wE), .val (.ref wF), .val (.ref b714), .unset, .unset, .unset, .unset, .unset, .unset]) rfl k_) ?_
    show OwnGo p e below s _ _ _ (T725.setTop (mkF m 111 #[.val (.int xa), .val (.int xb), .val (.int xc), .val (.int vH), .val (.int vS), .val (.int vT), .val (.ref wA), .val (.ref wB), .val (.ref wC), .val (.ref wD), .val (.ref wE), .val (.ref wF), .val (.ref b714), .unset, .unset, .unset, .unset, .unset, .unset] []))
    have f726 : b714 ≤ T725.heap.size := Nat.le_of_lt c725_0.lt
    have hr727 : b714 = dc ∨ 0 = 0 := Or.inr rfl
    have hr728 : b714 ≤ b714 := Nat.le_refl _
    have f729 : OwnE Z T725.heap own_nil := fun _ q => nomatch q
    rcases fq7 with hv | hv | hv
    · rw [show vH = (0 : Int32) from hv]
      show OwnGo p e below s _ _ _ (T725.setTop (mkF m 111 #[.val (.int xa), .val (.int xb), .val (.int xc), .val (.int (0 : Int32)), .val (.int vS), .val (.int vT), .val (.ref wA), .val (.ref wB), .val (.ref wC), .val (.ref wD), .val (.ref wE), .val (.ref wF), .val (.ref b714), .unset, .unset, .unset, .unset, .unset, .unset] []))
      refine own_on (fun t_ k_ => XS.iloadN X725.here hx rfl (hb hby at_111) rfl k_) ?_
      show OwnGo p e below s _ _ _ (T725.setTop (mkF m 112 #[.val (.int xa), .val (.int xb), .val (.int xc), .val (.int (0 : Int32)), .val (.int vS), .val (.int vT), .val (.ref wA), .val (.ref wB), .val (.ref wC), .val (.ref wD), .val (.ref wE), .val (.ref wF), .val (.ref b714), .unset, .unset, .unset, .unset, .unset, .unset] [(.int (0 : Int32))]))
      refine own_on (fun t_ k_ => XS.ifYes X725.here hx rfl (pc0 := 112) (pc' := 125) rfl (hb hby at_112) rfl ((if0 _ _).trans (flt (by decide : ¬ ((0 : Int32) < (0 : Int32)))).2.2.2) (by decide) (by decide) k_) ?_
      show OwnGo p e below s _ _ _ (T725.setTop (mkF m 125 #[.val (.int xa), .val (.int xb), .val (.int xc), .val (.int (0 : Int32)), .val (.int vS), .val (.int vT), .val (.ref wA), .val (.ref wB), .val (.ref wC), .val (.ref wD), .val (.ref wE), .val (.ref wF), .val (.ref b714), .unset, .unset, .unset, .unset, .unset, .unset] []))
      refine own_on (fun t_ k_ => XS.iloadN X725.here hx rfl (hb hby at_125) rfl k_) ?_
      show OwnGo p e below s _ _ _ (T725.setTop (mkF m 126 #[.val (.int xa), .val (.int xb), .val (.int xc), .val (.int (0 : Int32)), .val (.int vS), .val (.int vT), .val (.ref wA), .val (.ref wB), .val (.ref wC), .val (.ref wD), .val (.ref wE), .val (.ref wF), .val (.ref b714), .unset, .unset, .unset, .unset, .unset, .unset] [(.int (0 : Int32))]))
      refine own_on (fun t_ k_ => XS.iconst X725.here hx rfl (hb hby at_126) k_) ?_
      show OwnGo p e below s _ _ _ (T725.setTop (mkF m 127 #[.val (.int xa), .val (.int xb), .val (.int xc), .val (.int (0 : Int32)), .val (.int vS), .val (.int vT), .val (.ref wA), .val (.ref wB), .val (.ref wC), .val (.ref wD), .val (.ref wE), .val (.ref wF), .val (.ref b714), .unset, .unset, .unset, .unset, .unset, .unset] [(.int (1 : Int32)), (.int (0 : Int32))]))
      refine own_on (fun t_ k_ => XS.icmpYes X725.here hx rfl (pc0 := 127) (pc' := 140) rfl (hb hby at_127) rfl (flt (by decide : ¬ ((1 : Int32) < (0 : Int32)))).2.2.2 (by decide) (by decide) k_) ?_
      show OwnGo p e below s _ _ _ (T725.setTop (mkF m 140 #[.val (.int xa), .val (.int xb), .val (.int xc), .val (.int (0 : Int32)), .val (.int vS), .val (.int vT), .val (.ref wA), .val (.ref wB), .val (.ref wC), .val (.ref wD), .val (.ref wE), .val (.ref wF), .val (.ref b714), .unset, .unset, .unset, .unset, .unset, .unset] []))
      have hc730 : own_case (0 : Int32) own_nil wA wB := Or.inl ⟨rfl, rfl⟩
      have f731 : Exa Z h714 wA "java/lang/String" := fq1.ext E714
      have f732 : Exa Z T725.heap wA "java/lang/String" := f731.keep K725q
      have f733 : Exa Z h714 wB "java/lang/String" := fq2.ext E714
      have f734 : Exa Z T725.heap wB "java/lang/String" := f733.keep K725q
      have f735 : Exa Z h714 wC "java/lang/String" := fq3.ext E714
      have f736 : Exa Z T725.heap wC "java/lang/String" := f735.keep K725q
      have f737 : Exa Z h714 wD "java/lang/String" := fq4.ext E714
      have f738 : Exa Z T725.heap wD "java/lang/String" := f737.keep K725q
      have f739 : Exa Z h714 wE "java/lang/String" := fq5.ext E714
      have f740 : Exa Z T725.heap wE "java/lang/String" := f739.keep K725q
      have f741 : Exa Z h714 wF "java/lang/String" := fq6.ext E714
      have f742 : Exa Z T725.heap wF "java/lang/String" := f741.keep K725q
      exact J140 _ _ _ (X725.more (by decide) (by decide)) rfl N725 Z725 K725 (0 : Int32) vS vT wA wB wC wD wE wF b714 dc 0 own_nil c725_0 c725_1 c725_2 c725_4 f729 c725_5 f732 f734 f736 f738 f740 f742 hc730 fq8 fq9
    · rw [show vH = (1 : Int32) from hv]
      show OwnGo p e below s _ _ _ (T725.setTop (mkF m 111 #[.val (.int xa), .val (.int xb), .val (.int xc), .val (.int (1 : Int32)), .val (.int vS), .val (.int vT), .val (.ref wA), .val (.ref wB), .val (.ref wC), .val (.ref wD), .val (.ref wE), .val (.ref wF), .val (.ref b714), .unset, .unset, .unset, .unset, .unset, .unset] []))
      refine own_on (fun t_ k_ => XS.iloadN X725.here hx rfl (hb hby at_111) rfl k_) ?_
      show OwnGo p e below s _ _ _ (T725.setTop (mkF m 112 #[.val (.int xa), .val (.int xb), .val (.int xc), .val (.int (1 : Int32)), .val (.int vS), .val (.int vT), .val (.ref wA), .val (.ref wB), .val (.ref wC), .val (.ref wD), .val (.ref wE), .val (.ref wF), .val (.ref b714), .unset, .unset, .unset, .unset, .unset, .unset] [(.int (1 : Int32))]))
      refine own_on (fun t_ k_ => XS.ifNo X725.here hx rfl (hb hby at_112) rfl ((if0 _ _).trans (tlt (by decide : (0 : Int32) < (1 : Int32))).2.2.2) k_) ?_
      show OwnGo p e below s _ _ _ (T725.setTop (mkF m 115 #[.val (.int xa), .val (.int xb), .val (.int xc), .val (.int (1 : Int32)), .val (.int vS), .val (.int vT), .val (.ref wA), .val (.ref wB), .val (.ref wC), .val (.ref wD), .val (.ref wE), .val (.ref wF), .val (.ref b714), .unset, .unset, .unset, .unset, .unset, .unset] []))
      refine own_on (fun t_ k_ => XS.aload X725.here hx rfl (hb hby at_115) rfl rfl k_) ?_
      show OwnGo p e below s _ _ _ (T725.setTop (mkF m 117 #[.val (.int xa), .val (.int xb), .val (.int xc), .val (.int (1 : Int32)), .val (.int vS), .val (.int vT), .val (.ref wA), .val (.ref wB), .val (.ref wC), .val (.ref wD), .val (.ref wE), .val (.ref wF), .val (.ref b714), .unset, .unset, .unset, .unset, .unset, .unset] [(.ref b714)]))
      refine own_on (fun t_ k_ => XS.aload X725.here hx rfl (hb hby at_117) rfl rfl k_) ?_
      show OwnGo p e below s _ _ _ (T725.setTop (mkF m 119 #[.val (.int xa), .val (.int xb), .val (.int xc), .val (.int (1 : Int32)), .val (.int vS), .val (.int vT), .val (.ref wA), .val (.ref wB), .val (.ref wC), .val (.ref wD), .val (.ref wE), .val (.ref wF), .val (.ref b714), .unset, .unset, .unset, .unset, .unset, .unset] [(.ref wA), (.ref b714)]))
      have f743 : Exa Z h714 wA "java/lang/String" := fq1.ext E714
      have f744 : Exa Z T725.heap wA "java/lang/String" := f743.keep K725q
      obtain ⟨cq745, kq745, q745a, q745b, q745c⟩ := isOf hZ rfl c725_0
      obtain ⟨_, _, ⟨T745, L745, k745, n745⟩, -, X745, ⟨Lc745, hQ745, l745, y745, z745⟩, st745⟩ := X725.interfaceBack hx (xi := (⟨"java/util/List", "add", "(Ljava/lang/Object;)Z"⟩ : MethodName)) (y := (⟨"java/util/ArrayList", "add", "(Ljava/lang/Object;)Z"⟩ : MethodName)) hown (mvT hZ (w135 hw)) (mvT hZ (w136 hw)) (mvT hZ (w137 hw)) (mvT hZ (w138 hw)) (mvT hZ (w139 hw)) (mvT hZ (w140 hw)) (mvT hZ (w141 hw)) (mvT hZ (w129 hw)) (by decide) (backOf (W := 0) (rm20 l Z a0 hw [] b714 wA dc 0 own_nil (0 : Int32) b714 b714 dc mr T725.heap n0 Z725 c725_0 c725_1 c725_2 c725_3 c725_4 f729 f744 hr727 g722 hr728 f726 c725_5 P3 P7 g722 (by (first | omega | exact Nat.le_of_ble_eq_true rfl | (simp only [List.length_append]; omega)) : own_nil.length ≤ 5)) hZ (w142 hw) (w28 hw) (by decide) (by decide)) q745a q745b q745c (g := (mkF m 119 #[.val (.int xa), .val (.int xb), .val (.int xc), .val (.int (1 : Int32)), .val (.int vS), .val (.int vT), .val (.ref wA), .val (.ref wB), .val (.ref wC), .val (.ref wD), .val (.ref wE), .val (.ref wF), .val (.ref b714), .unset, .unset, .unset, .unset, .unset, .unset] [(.ref wA), (.ref b714)])) rfl (by rw [hml]; rfl) (Steps.refl _) (argsL := [(.ref wA)]) (rest := []) (lenOf pd_13 rfl) rfl (by show 2 * 0 + _ ≤ _; exact Nat.le_of_eq rfl) (hb hby at_119) (fun _ hWx => ⟨rfl, rfl, (by decide : 14 + 1 ≤ _), (by decide : 45 + 10 ≤ _)⟩)
      dsimp only [Pt.U, Pt.locs, Pt.cells, Pt.slots] at X745 l745 y745 z745 st745 hQ745
      replace X745 := own_num (c' := 15) (n' := 55) X745 l745 (y745.trans rfl) (z745.trans rfl)
      obtain ⟨ea2_745, cp2_745, wa2_745, rfl, N745q, K745q, c745_0, c745_1, c745_2, c745_3, c745_4, c745_5, c745_6, c745_7, c745_8, c745_9⟩ := hQ745
      have N745 := Fr.app N725 N745q
      have Z745 : n0 ≤ T745.heap.size := Nat.le_trans Z725 K745q.1
      have K745 : Keep h0 T745.heap [] := K725.trans K745q (allS (P := fun x => x ∈ [] ∨ h0.size ≤ x) (Or.inr z723) (allS (P := fun x => x ∈ [] ∨ h0.size ≤ x) (Or.inr z723) all0))
      refine own_tr st745 ?_
      show OwnGo p e below s _ _ _ (T745.setTop (mkF m 124 #[.val (.int xa), .val (.int xb), .val (.int xc), .val (.int (1 : Int32)), .val (.int vS), .val (.int vT), .val (.ref wA), .val (.ref wB), .val (.ref wC), .val (.ref wD), .val (.ref wE), .val (.ref wF), .val (.ref b714), .unset, .unset, .unset, .unset, .unset, .unset] [(.int (1 : Int32))]))
      have hr746 : h0.size ≤ wa2_745 := Nat.le_trans z723 c745_7
      have ne747 : wA ≠ wa2_745 := Nat.ne_of_lt (Nat.lt_of_lt_of_le ne715' c745_7)
      have ne748 : wB ≠ wa2_745 := Nat.ne_of_lt (Nat.lt_of_lt_of_le ne716' c745_7)
      have ne749 : wC ≠ wa2_745 := Nat.ne_of_lt (Nat.lt_of_lt_of_le ne717' c745_7)
      have ne750 : wD ≠ wa2_745 := Nat.ne_of_lt (Nat.lt_of_lt_of_le ne718' c745_7)
      have ne751 : wE ≠ wa2_745 := Nat.ne_of_lt (Nat.lt_of_lt_of_le ne719' c745_7)
      have ne752 : wF ≠ wa2_745 := Nat.ne_of_lt (Nat.lt_of_lt_of_le ne720' c745_7)
      have ne753 : dc ≠ wa2_745 := Nat.ne_of_lt (Nat.lt_of_lt_of_le ne721' c745_7)
      refine own_on (fun t_ k_ => XS.pop X745.here hx rfl (hb hby at_124) rfl rfl k_) ?_
      show OwnGo p e below s _ _ _ (T745.setTop (mkF m 125 #[.val (.int xa), .val (.int xb), .val (.int xc), .val (.int (1 : Int32)), .val (.int vS), .val (.int vT), .val (.ref wA), .val (.ref wB), .val (.ref wC), .val (.ref wD), .val (.ref wE), .val (.ref wF), .val (.ref b714), .unset, .unset, .unset, .unset, .unset, .unset] []))
      refine own_on (fun t_ k_ => XS.iloadN X745.here hx rfl (hb hby at_125) rfl k_) ?_
      show OwnGo p e below s _ _ _ (T745.setTop (mkF m 126 #[.val (.int xa), .val (.int xb), .val (.int xc), .val (.int (1 : Int32)), .val (.int vS), .val (.int vT), .val (.ref wA), .val (.ref wB), .val (.ref wC), .val (.ref wD), .val (.ref wE), .val (.ref wF), .val (.ref b714), .unset, .unset, .unset, .unset, .unset, .unset] [(.int (1 : Int32))]))
      refine own_on (fun t_ k_ => XS.iconst X745.here hx rfl (hb hby at_126) k_) ?_
      show OwnGo p e below s _ _ _ (T745.setTop (mkF m 127 #[.val (.int xa), .val (.int xb), .val (.int xc), .val (.int (1 : Int32)), .val (.int vS), .val (.int vT), .val (.ref wA), .val (.ref wB), .val (.ref wC), .val (.ref wD), .val (.ref wE), .val (.ref wF), .val (.ref b714), .unset, .unset, .unset, .unset, .unset, .unset] [(.int (1 : Int32)), (.int (1 : Int32))]))
      refine own_on (fun t_ k_ => XS.icmpYes X745.here hx rfl (pc0 := 127) (pc' := 140) rfl (hb hby at_127) rfl (flt (by decide : ¬ ((1 : Int32) < (1 : Int32)))).2.2.2 (by decide) (by decide) k_) ?_
      show OwnGo p e below s _ _ _ (T745.setTop (mkF m 140 #[.val (.int xa), .val (.int xb), .val (.int xc), .val (.int (1 : Int32)), .val (.int vS), .val (.int vT), .val (.ref wA), .val (.ref wB), .val (.ref wC), .val (.ref wD), .val (.ref wE), .val (.ref wF), .val (.ref b714), .unset, .unset, .unset, .unset, .unset, .unset] []))
      have hc754 : own_case (1 : Int32) (own_nil ++ [wA]) wA wB := Or.inr (Or.inl ⟨rfl, rfl⟩)
      have f755 : Exa Z T745.heap wA "java/lang/String" := f744.keep K745q
      have f756 : Exa Z h714 wB "java/lang/String" := fq2.ext E714
      have f757 : Exa Z T725.heap wB "java/lang/String" := f756.keep K725q
      have f758 : Exa Z T745.heap wB "java/lang/String" := f757.keep K745q
      have f759 : Exa Z h714 wC "java/lang/String" := fq3.ext E714
      have f760 : Exa Z T725.heap wC "java/lang/String" := f759.keep K725q
      have f761 : Exa Z T745.heap wC "java/lang/String" := f760.keep K745q
      have f762 : Exa Z h714 wD "java/lang/String" := fq4.ext E714
      have f763 : Exa Z T725.heap wD "java/lang/String" := f762.keep K725q
      have f764 : Exa Z T745.heap wD "java/lang/String" := f763.keep K745q
      have f765 : Exa Z h714 wE "java/lang/String" := fq5.ext E714
      have f766 : Exa Z T725.heap wE "java/lang/String" := f765.keep K725q
      have f767 : Exa Z T745.heap wE "java/lang/String" := f766.keep K745q
      have f768 : Exa Z h714 wF "java/lang/String" := fq6.ext E714
      have f769 : Exa Z T725.heap wF "java/lang/String" := f768.keep K725q
      have f770 : Exa Z T745.heap wF "java/lang/String" := f769.keep K745q
      exact J140 _ _ _ (X745.more (by decide) (by decide)) rfl N745 Z745 K745 (1 : Int32) vS vT wA wB wC wD wE wF b714 ea2_745 cp2_745 (own_nil ++ [wA]) c745_0 c745_1 c745_2 c745_4 c745_9 c745_8 f755 f758 f761 f764 f767 f770 hc754 fq8 fq9
    · rw [show vH = (2 : Int32) from hv]
      show OwnGo p e below s _ _ _ (T725.setTop (mkF m 111 #[.val (.int xa), .val (.int xb), .val (.int xc), .val (.int (2 : Int32)), .val (.int vS), .val (.int vT), .val (.ref wA), .val (.ref wB), .val (.ref wC), .val (.ref wD), .val (.ref wE), .val (.ref wF), .val (.ref b714), .unset, .unset, .unset, .unset, .unset, .unset] []))
      refine own_on (fun t_ k_ => XS.iloadN X725.here hx rfl (hb hby at_111) rfl k_) ?_
      show OwnGo p e below s _ _ _ (T725.setTop (mkF m 112 #[.val (.int xa), .val (.int xb), .val (.int xc), .val (.int (2 : Int32)), .val (.int vS), .val (.int vT), .val (.ref wA), .val (.ref wB), .val (.ref wC), .val (.ref wD), .val (.ref wE), .val (.ref wF), .val (.ref b714), .unset, .unset, .unset, .unset, .unset, .unset] [(.int (2 : Int32))]))
      refine own_on (fun t_ k_ => XS.ifNo X725.here hx rfl (hb hby at_112) rfl ((if0 _ _).trans (tlt (by decide : (0 : Int32) < (2 : Int32))).2.2.2) k_) ?_
      show OwnGo p e below s _ _ _ (T725.setTop (mkF m 115 #[.val (.int xa), .val (.int xb), .val (.int xc), .val (.int (2 : Int32)), .val (.int vS), .val (.int vT), .val (.ref wA), .val (.ref wB), .val (.ref wC), .val (.ref wD), .val (.ref wE), .val (.ref wF), .val (.ref b714), .unset, .unset, .unset, .unset, .unset, .unset] []))
      refine own_on (fun t_ k_ => XS.aload X725.here hx rfl (hb hby at_115) rfl rfl k_) ?_
      show OwnGo p e below s _ _ _ (T725.setTop (mkF m 117 #[.val (.int xa), .val (.int xb), .val (.int xc), .val (.int (2 : Int32)), .val (.int vS), .val (.int vT), .val (.ref wA), .val (.ref wB), .val (.ref wC), .val (.ref wD), .val (.ref wE), .val (.ref wF), .val (.ref b714), .unset, .unset, .unset, .unset, .unset, .unset] [(.ref b714)]))
      refine own_on (fun t_ k_ => XS.aload X725.here hx rfl (hb hby at_117) rfl rfl k_) ?_
      show OwnGo p e below s _ _ _ (T725.setTop (mkF m 119 #[.val (.int xa), .val (.int xb), .val (.int xc), .val (.int (2 : Int32)), .val (.int vS), .val (.int vT), .val (.ref wA), .val (.ref wB), .val (.ref wC), .val (.ref wD), .val (.ref wE), .val (.ref wF), .val (.ref b714), .unset, .unset, .unset, .unset, .unset, .unset] [(.ref wA), (.ref b714)]))
      have f771 : Exa Z h714 wA "java/lang/String" := fq1.ext E714
      have f772 : Exa Z T725.heap wA "java/lang/String" := f771.keep K725q
      obtain ⟨cq773, kq773, q773a, q773b, q773c⟩ := isOf hZ rfl c725_0
      obtain ⟨_, _, ⟨T773, L773, k773, n773⟩, -, X773, ⟨Lc773, hQ773, l773, y773, z773⟩, st773⟩ := X725.interfaceBack hx (xi := (⟨"java/util/List", "add", "(Ljava/lang/Object;)Z"⟩ : MethodName)) (y := (⟨"java/util/ArrayList", "add", "(Ljava/lang/Object;)Z"⟩ : MethodName)) hown (mvT hZ (w135 hw)) (mvT hZ (w136 hw)) (mvT hZ (w137 hw)) (mvT hZ (w138 hw)) (mvT hZ (w139 hw)) (mvT hZ (w140 hw)) (mvT hZ (w141 hw)) (mvT hZ (w129 hw)) (by decide) (backOf (W := 0) (rm20 l Z a0 hw [] b714 wA dc 0 own_nil (0 : Int32) b714 b714 dc mr T725.heap n0 Z725 c725_0 c725_1 c725_2 c725_3 c725_4 f729 f772 hr727 g722 hr728 f726 c725_5 P3 P7 g722 (by (first | omega | exact Nat.le_of_ble_eq_true rfl | (simp only [List.length_append]; omega)) : own_nil.length ≤ 5)) hZ (w142 hw) (w28 hw) (by decide) (by decide)) q773a q773b q773c (g := (mkF m 119 #[.val (.int xa), .val (.int xb), .val (.int xc), .val (.int (2 : Int32)), .val (.int vS), .val (.int vT), .val (.ref wA), .val (.ref wB), .val (.ref wC), .val (.ref wD), .val (.ref wE), .val (.ref wF), .val (.ref b714), .unset, .unset, .unset, .unset, .unset, .unset] [(.ref wA), (.ref b714)])) rfl (by rw [hml]; rfl) (Steps.refl _) (argsL := [(.ref wA)]) (rest := []) (lenOf pd_13 rfl) rfl (by show 2 * 0 + _ ≤ _; exact Nat.le_of_eq rfl) (hb hby at_119) (fun _ hWx => ⟨rfl, rfl, (by decide : 14 + 1 ≤ _), (by decide : 45 + 10 ≤ _)⟩)
      dsimp only [Pt.U, Pt.locs, Pt.cells, Pt.slots] at X773 l773 y773 z773 st773 hQ773
      replace X773 := own_num (c' := 15) (n' := 55) X773 l773 (y773.trans rfl) (z773.trans rfl)
      obtain ⟨ea2_773, cp2_773, wa2_773, rfl, N773q, K773q, c773_0, c773_1, c773_2, c773_3, c773_4, c773_5, c773_6, c773_7, c773_8, c773_9⟩ := hQ773
      have N773 := Fr.app N725 N773q
      have Z773 : n0 ≤ T773.heap.size := Nat.le_trans Z725 K773q.1
      have K773 : Keep h0 T773.heap [] := K725.trans K773q (allS (P := fun x => x ∈ [] ∨ h0.size ≤ x) (Or.inr z723) (allS (P := fun x => x ∈ [] ∨ h0.size ≤ x) (Or.inr z723) all0))
      refine own_tr st773 ?_
      show OwnGo p e below s _ _ _ (T773.setTop (mkF m 124 #[.val (.int xa), .val (.int xb), .val (.int xc), .val (.int (2 : Int32)), .val (.int vS), .val (.int vT), .val (.ref wA), .val (.ref wB), .val (.ref wC), .val (.ref wD), .val (.ref wE), .val (.ref wF), .val (.ref b714), .unset, .unset, .unset, .unset, .unset, .unset] [(.int (1 : Int32))]))
      have hr774 : h0.size ≤ wa2_773 := Nat.le_trans z723 c773_7
      have ne775 : wA ≠ wa2_773 := Nat.ne_of_lt (Nat.lt_of_lt_of_le ne715' c773_7)
      have ne776 : wB ≠ wa2_773 := Nat.ne_of_lt (Nat.lt_of_lt_of_le ne716' c773_7)
      have ne777 : wC ≠ wa2_773 := Nat.ne_of_lt (Nat.lt_of_lt_of_le ne717' c773_7)
      have ne778 : wD ≠ wa2_773 := Nat.ne_of_lt (Nat.lt_of_lt_of_le ne718' c773_7)
      have ne779 : wE ≠ wa2_773 := Nat.ne_of_lt (Nat.lt_of_lt_of_le ne719' c773_7)
      have ne780 : wF ≠ wa2_773 := Nat.ne_of_lt (Nat.lt_of_lt_of_le ne720' c773_7)
      have ne781 : dc ≠ wa2_773 := Nat.ne_of_lt (Nat.lt_of_lt_of_le ne721' c773_7)
      refine own_on (fun t_ k_ => XS.pop X773.here hx rfl (hb hby at_124) rfl rfl k_) ?_
      show OwnGo p e below s _ _ _ (T773.setTop (mkF m 125 #[.val (.int xa), .val (.int xb), .val (.int xc), .val (.int (2 : Int32)), .val (.int vS), .val (.int vT), .val (.ref wA), .val (.ref wB), .val (.ref wC), .val (.ref wD), .val (.ref wE), .val (.ref wF), .val (.ref b714), .unset, .unset, .unset, .unset, .unset, .unset] []))
      refine own_on (fun t_ k_ => XS.iloadN X773.here hx rfl (hb hby at_125) rfl k_) ?_
      show OwnGo p e below s _ _ _ (T773.setTop (mkF m 126 #[.val (.int xa), .val (.int xb), .val (.int xc), .val (.int (2 : Int32)), .val (.int vS), .val (.int vT), .val (.ref wA), .val (.ref wB), .val (.ref wC), .val (.ref wD), .val (.ref wE), .val (.ref wF), .val (.ref b714), .unset, .unset, .unset, .unset, .unset, .unset] [(.int (2 : Int32))]))
      refine own_on (fun t_ k_ => XS.iconst X773.here hx rfl (hb hby at_126) k_) ?_
      show OwnGo p e below s _ _ _ (T773.setTop (mkF m 127 #[.val (.int xa), .val (.int xb), .val (.int xc), .val (.int (2 : Int32)), .val (.int vS), .val (.int vT), .val (.ref wA), .val (.ref wB), .val (.ref wC), .val (.ref wD), .val (.ref wE), .val (.ref wF), .val (.ref b714), .unset, .unset, .unset, .unset, .unset, .unset] [(.int (1 : Int32)), (.int (2 : Int32))]))
      refine own_on (fun t_ k_ => XS.icmpNo X773.here hx rfl (hb hby at_127) rfl (tlt (by decide : (1 : Int32) < (2 : Int32))).2.2.2 k_) ?_
      show OwnGo p e below s _ _ _ (T773.setTop (mkF m 130 #[.val (.int xa), .val (.int xb), .val (.int xc), .val (.int (2 : Int32)), .val (.int vS), .val (.int vT), .val (.ref wA), .val (.ref wB), .val (.ref wC), .val (.ref wD), .val (.ref wE), .val (.ref wF), .val (.ref b714), .unset, .unset, .unset, .unset, .unset, .unset] []))
      refine own_on (fun t_ k_ => XS.aload X773.here hx rfl (hb hby at_130) rfl rfl k_) ?_
      show OwnGo p e below s _ _ _ (T773.setTop (mkF m 132 #[.val (.int xa), .val (.int xb), .val (.int xc), .val (.int (2 : Int32)), .val (.int vS), .val (.int vT), .val (.ref wA), .val (.ref wB), .val (.ref wC), .val (.ref wD), .val (.ref wE), .val (.ref wF), .val (.ref b714), .unset, .unset, .unset, .unset, .unset, .unset] [(.ref b714)]))
      refine own_on (fun t_ k_ => XS.aload X773.here hx rfl (hb hby at_132) rfl rfl k_) ?_
      show OwnGo p e below s _ _ _ (T773.setTop (mkF m 134 #[.val (.int xa), .val (.int xb), .val (.int xc), .val (.int (2 : Int32)), .val (.int vS), .val (.int vT), .val (.ref wA), .val (.ref wB), .val (.ref wC), .val (.ref wD), .val (.ref wE), .val (.ref wF), .val (.ref b714), .unset, .unset, .unset, .unset, .unset, .unset] [(.ref wB), (.ref b714)]))
      have f782 : Exa Z h714 wB "java/lang/String" := fq2.ext E714
      have f783 : Exa Z T725.heap wB "java/lang/String" := f782.keep K725q
      have f784 : Exa Z T773.heap wB "java/lang/String" := f783.keep K773q
      have f785 : b714 ≤ T773.heap.size := Nat.le_trans f726 K773q.1
      obtain ⟨cq786, kq786, q786a, q786b, q786c⟩ := isOf hZ rfl c773_0
      obtain ⟨_, _, ⟨T786, L786, k786, n786⟩, -, X786, ⟨Lc786, hQ786, l786, y786, z786⟩, st786⟩ := X773.interfaceBack hx (xi := (⟨"java/util/List", "add", "(Ljava/lang/Object;)Z"⟩ : MethodName)) (y := (⟨"java/util/ArrayList", "add", "(Ljava/lang/Object;)Z"⟩ : MethodName)) hown (mvT hZ (w135 hw)) (mvT hZ (w136 hw)) (mvT hZ (w137 hw)) (mvT hZ (w138 hw)) (mvT hZ (w139 hw)) (mvT hZ (w140 hw)) (mvT hZ (w141 hw)) (mvT hZ (w129 hw)) (by decide) (backOf (W := 0) (rm20 l Z a0 hw [] b714 wB ea2_773 cp2_773 (own_nil ++ [wA]) ((0 : Int32) + (1 : Int32)) wa2_773 b714 dc mr T773.heap n0 Z773 c773_0 c773_1 c773_2 c773_3 c773_4 c773_9 f784 c773_5 c773_6 c773_7 f785 c773_8 P3 P7 g722 (by (first | omega | exact Nat.le_of_ble_eq_true rfl | (simp only [List.length_append]; omega)) : (own_nil ++ [wA]).length ≤ 5)) hZ (w142 hw) (w28 hw) (by decide) (by decide)) q786a q786b q786c (g := (mkF m 134 #[.val (.int xa), .val (.int xb), .val (.int xc), .val (.int (2 : Int32)), .val (.int vS), .val (.int vT), .val (.ref wA), .val (.ref wB), .val (.ref wC), .val (.ref wD), .val (.ref wE), .val (.ref wF), .val (.ref b714), .unset, .unset, .unset, .unset, .unset, .unset] [(.ref wB), (.ref b714)])) rfl (by rw [hml]; rfl) (Steps.refl _) (argsL := [(.ref wB)]) (rest := []) (lenOf pd_13 rfl) rfl (by show 2 * 0 + _ ≤ _; exact Nat.le_of_eq rfl) (hb hby at_134) (fun _ hWx => ⟨rfl, rfl, (by decide : 15 + 1 ≤ _), (by decide : 55 + 10 ≤ _)⟩)
      dsimp only [Pt.U, Pt.locs, Pt.cells, Pt.slots] at X786 l786 y786 z786 st786 hQ786
      replace X786 := own_num (c' := 16) (n' := 65) X786 l786 (y786.trans rfl) (z786.trans rfl)
      obtain ⟨ea2_786, cp2_786, wa2_786, rfl, N786q, K786q, c786_0, c786_1, c786_2, c786_3, c786_4, c786_5, c786_6, c786_7, c786_8, c786_9⟩ := hQ786
      have N786 := Fr.app N773 N786q
      have Z786 : n0 ≤ T786.heap.size := Nat.le_trans Z773 K786q.1
      have K786 : Keep h0 T786.heap [] := K773.trans K786q (allS (P := fun x => x ∈ [] ∨ h0.size ≤ x) (Or.inr z723) (allS (P := fun x => x ∈ [] ∨ h0.size ≤ x) (Or.inr hr774) all0))
      refine own_tr st786 ?_
      show OwnGo p e below s _ _ _ (T786.setTop (mkF m 139 #[.val (.int xa), .val (.int xb), .val (.int xc), .val (.int (2 : Int32)), .val (.int vS), .val (.int vT), .val (.ref wA), .val (.ref wB), .val (.ref wC), .val (.ref wD), .val (.ref wE), .val (.ref wF), .val (.ref b714), .unset, .unset, .unset, .unset, .unset, .unset] [(.int (1 : Int32))]))
      refine own_on (fun t_ k_ => XS.pop X786.here hx rfl (hb hby at_139) rfl rfl k_) ?_
      show OwnGo p e below s _ _ _ (T786.setTop (mkF m 140 #[.val (.int xa), .val (.int xb), .val (.int xc), .val (.int (2 : Int32)), .val (.int vS), .val (.int vT), .val (.ref wA), .val (.ref wB), .val (.ref wC), .val (.ref wD), .val (.ref wE), .val (.ref wF), .val (.ref b714), .unset, .unset, .unset, .unset, .unset, .unset] []))
      have hc787 : own_case (2 : Int32) ((own_nil ++ [wA]) ++ [wB]) wA wB := Or.inr (Or.inr ⟨rfl, rfl⟩)
      have f788 : Exa Z T773.heap wA "java/lang/String" := f772.keep K773q
      have f789 : Exa Z T786.heap wA "java/lang/String" := f788.keep K786q
      have f790 : Exa Z T786.heap wB "java/lang/String" := f784.keep K786q
      have f791 : Exa Z h714 wC "java/lang/String" := fq3.ext E714
      have f792 : Exa Z T725.heap wC "java/lang/String" := f791.keep K725q
      have f793 : Exa Z T773.heap wC "java/lang/String" := f792.keep K773q
      have f794 : Exa Z T786.heap wC "java/lang/String" := f793.keep K786q
      have f795 : Exa Z h714 wD "java/lang/String" := fq4.ext E714
      have f796 : Exa Z T725.heap wD "java/lang/String" := f795.keep K725q
      have f797 : Exa Z T773.heap wD "java/lang/String" := f796.keep K773q
      have f798 : Exa Z T786.heap wD "java/lang/String" := f797.keep K786q
      have f799 : Exa Z h714 wE "java/lang/String" := fq5.ext E714
      have f800 : Exa Z T725.heap wE "java/lang/String" := f799.keep K725q
      have f801 : Exa Z T773.heap wE "java/lang/String" := f800.keep K773q
      have f802 : Exa Z T786.heap wE "java/lang/String" := f801.keep K786q
      have f803 : Exa Z h714 wF "java/lang/String" := fq6.ext E714
      have f804 : Exa Z T725.heap wF "java/lang/String" := f803.keep K725q
      have f805 : Exa Z T773.heap wF "java/lang/String" := f804.keep K773q
      have f806 : Exa Z T786.heap wF "java/lang/String" := f805.keep K786q
      exact J140 _ _ _ (X786.more (by decide) (by decide)) rfl N786 Z786 K786 (2 : Int32) vS vT wA wB wC wD wE wF b714 ea2_786 cp2_786 ((own_nil ++ [wA]) ++ [wB]) c786_0 c786_1 c786_2 c786_4 c786_9 c786_8 f789 f790 f794 f798 f802 f806 hc787 fq8 fq9
  refine own_on (fun t_ k_ => XS.iloadN X0.here hx rfl (hb hby at_0) rfl k_) ?_
  show OwnGo p e below s _ _ _ (s₁.setTop (mkF m 1 #[.val (.int xa), .val (.int xb), .val (.int xc), .unset, .unset, .unset, .unset, .unset, .unset, .unset, .unset, .unset, .unset, .unset, .unset, .unset, .unset, .unset, .unset] [(.int xa)]))
  refine own_on (fun t_ k_ => XS.iconst X0.here hx rfl (hb hby at_1) k_) ?_
  show OwnGo p e below s _ _ _ (s₁.setTop (mkF m 2 #[.val (.int xa), .val (.int xb), .val (.int xc), .unset, .unset, .unset, .unset, .unset, .unset, .unset, .unset, .unset, .unset, .unset, .unset, .unset, .unset, .unset, .unset] [(.int (3 : Int32)), (.int xa)]))
  refine own_on (fun t_ k_ => XS.iand X0.here hx rfl (hb hby at_2) rfl k_) ?_
  show OwnGo p e below s _ _ _ (s₁.setTop (mkF m 3 #[.val (.int xa), .val (.int xb), .val (.int xc), .unset, .unset, .unset, .unset, .unset, .unset, .unset, .unset, .unset, .unset, .unset, .unset, .unset, .unset, .unset, .unset] [(.int (xa &&& (3 : Int32)))]))
  refine own_on (fun t_ k_ => XS.iconst X0.here hx rfl (hb hby at_3) k_) ?_
  show OwnGo p e below s _ _ _ (s₁.setTop (mkF m 4 #[.val (.int xa), .val (.int xb), .val (.int xc), .unset, .unset, .unset, .unset, .unset, .unset, .unset, .unset, .unset, .unset, .unset, .unset, .unset, .unset, .unset, .unset] [(.int (3 : Int32)), (.int (xa &&& (3 : Int32)))]))
  refine own_on (fun t_ k_ => iremM X0 hx rfl (hb hby at_4) rfl (by decide) k_) ?_
  show OwnGo p e below s _ _ _ (s₁.setTop (mkF m 5 #[.val (.int xa), .val (.int xb), .val (.int xc), .unset, .unset, .unset, .unset, .unset, .unset, .unset, .unset, .unset, .unset, .unset, .unset, .unset, .unset, .unset, .unset] [(.int ((xa &&& (3 : Int32)) % (3 : Int32)))]))
  refine own_on (fun t_ k_ => XS.istoreN X0.here hx rfl (hb hby at_5) rfl (l' := #[.val (.int xa), .val (.int xb), .val (.int xc), .val (.int ((xa &&& (3 : Int32)) % (3 : Int32))), .unset, .unset, .unset, .unset, .unset, .unset, .unset, .unset, .unset, .unset, .unset, .unset, .unset, .unset, .unset]) rfl k_) ?_
  show OwnGo p e below s _ _ _ (s₁.setTop (mkF m 6 #[.val (.int xa), .val (.int xb), .val (.int xc), .val (.int ((xa &&& (3 : Int32)) % (3 : Int32))), .unset, .unset, .unset, .unset, .unset, .unset, .unset, .unset, .unset, .unset, .unset, .unset, .unset, .unset, .unset] []))
  refine own_on (fun t_ k_ => XS.iloadN X0.here hx rfl (hb hby at_6) rfl k_) ?_
  show OwnGo p e below s _ _ _ (s₁.setTop (mkF m 7 #[.val (.int xa), .val (.int xb), .val (.int xc), .val (.int ((xa &&& (3 : Int32)) % (3 : Int32))), .unset, .unset, .unset, .unset, .unset, .unset, .unset, .unset, .unset, .unset, .unset, .unset, .unset, .unset, .unset] [(.int xa)]))
  refine own_on (fun t_ k_ => XS.iconst X0.here hx rfl (hb hby at_7) k_) ?_
  show OwnGo p e below s _ _ _ (s₁.setTop (mkF m 8 #[.val (.int xa), .val (.int xb), .val (.int xc), .val (.int ((xa &&& (3 : Int32)) % (3 : Int32))), .unset, .unset, .unset, .unset, .unset, .unset, .unset, .unset, .unset, .unset, .unset, .unset, .unset, .unset, .unset] [(.int (2 : Int32)), (.int xa)]))
  refine own_on (fun t_ k_ => XS.iushr X0.here hx rfl (hb hby at_8) rfl k_) ?_
  show OwnGo p e below s _ _ _ (s₁.setTop (mkF m 9 #[.val (.int xa), .val (.int xb), .val (.int xc), .val (.int ((xa &&& (3 : Int32)) % (3 : Int32))), .unset, .unset, .unset, .unset, .unset, .unset, .unset, .unset, .unset, .unset, .unset, .unset, .unset, .unset, .unset] [(.int ((xa.toUInt32 >>> ((2 : Int32) &&& 31).toUInt32).toInt32))]))
  refine own_on (fun t_ k_ => XS.iconst X0.here hx rfl (hb hby at_9) k_) ?_
  show OwnGo p e below s _ _ _ (s₁.setTop (mkF m 10 #[.val (.int xa), .val (.int xb), .val (.int xc), .val (.int ((xa &&& (3 : Int32)) % (3 : Int32))), .unset, .unset, .unset, .unset, .unset, .unset, .unset, .unset, .unset, .unset, .unset, .unset, .unset, .unset, .unset] [(.int (3 : Int32)), (.int ((xa.toUInt32 >>> ((2 : Int32) &&& 31).toUInt32).toInt32))]))
  refine own_on (fun t_ k_ => XS.iand X0.here hx rfl (hb hby at_10) rfl k_) ?_
  show OwnGo p e below s _ _ _ (s₁.setTop (mkF m 11 #[.val (.int xa), .val (.int xb), .val (.int xc), .val (.int ((xa &&& (3 : Int32)) % (3 : Int32))), .unset, .unset, .unset, .unset, .unset, .unset, .unset, .unset, .unset, .unset, .unset, .unset, .unset, .unset, .unset] [(.int (((xa.toUInt32 >>> ((2 : Int32) &&& 31).toUInt32).toInt32) &&& (3 : Int32)))]))
  refine own_on (fun t_ k_ => XS.iconst X0.here hx rfl (hb hby at_11) k_) ?_
  show OwnGo p e below s _ _ _ (s₁.setTop (mkF m 12 #[.val (.int xa), .val (.int xb), .val (.int xc), .val (.int ((xa &&& (3 : Int32)) % (3 : Int32))), .unset, .unset, .unset, .unset, .unset, .unset, .unset, .unset, .unset, .unset, .unset, .unset, .unset, .unset, .unset] [(.int (3 : Int32)), (.int (((xa.toUInt32 >>> ((2 : Int32) &&& 31).toUInt32).toInt32) &&& (3 : Int32)))]))
  refine own_on (fun t_ k_ => iremM X0 hx rfl (hb hby at_12) rfl (by decide) k_) ?_
  show OwnGo p e below s _ _ _ (s₁.setTop (mkF m 13 #[.val (.int xa), .val (.int xb), .val (.int xc), .val (.int ((xa &&& (3 : Int32)) % (3 : Int32))), .unset, .unset, .unset, .unset, .unset, .unset, .unset, .unset, .unset, .unset, .unset, .unset, .unset, .unset, .unset] [(.int ((((xa.toUInt32 >>> ((2 : Int32) &&& 31).toUInt32).toInt32) &&& (3 : Int32)) % (3 : Int32)))]))
  refine own_on (fun t_ k_ => XS.istore X0.here hx rfl (hb hby at_13) rfl (l' := #[.val (.int xa), .val (.int xb), .val (.int xc), .val (.int ((xa &&& (3 : Int32)) % (3 : Int32))), .val (.int ((((xa.toUInt32 >>> ((2 : Int32) &&& 31).toUInt32).toInt32) &&& (3 : Int32)) % (3 : Int32))), .unset, .unset, .unset, .unset, .unset, .unset, .unset, .unset, .unset, .unset, .unset, .unset, .unset, .unset]) rfl k_) ?_
  show OwnGo p e below s _ _ _ (s₁.setTop (mkF m 15 #[.val (.int xa), .val (.int xb), .val (.int xc), .val (.int ((xa &&& (3 : Int32)) % (3 : Int32))), .val (.int ((((xa.toUInt32 >>> ((2 : Int32) &&& 31).toUInt32).toInt32) &&& (3 : Int32)) % (3 : Int32))), .unset, .unset, .unset, .unset, .unset, .unset, .unset, .unset, .unset, .unset, .unset, .unset, .unset, .unset] []))
  refine own_on (fun t_ k_ => XS.iloadN X0.here hx rfl (hb hby at_15) rfl k_) ?_
  show OwnGo p e below s _ _ _ (s₁.setTop (mkF m 16 #[.val (.int xa), .val (.int xb), .val (.int xc), .val (.int ((xa &&& (3 : Int32)) % (3 : Int32))), .val (.int ((((xa.toUInt32 >>> ((2 : Int32) &&& 31).toUInt32).toInt32) &&& (3 : Int32)) % (3 : Int32))), .unset, .unset, .unset, .unset, .unset, .unset, .unset, .unset, .unset, .unset, .unset, .unset, .unset, .unset] [(.int xa)]))
  refine own_on (fun t_ k_ => XS.iconst X0.here hx rfl (hb hby at_16) k_) ?_
  show OwnGo p e below s _ _ _ (s₁.setTop (mkF m 17 #[.val (.int xa), .val (.int xb), .val (.int xc), .val (.int ((xa &&& (3 : Int32)) % (3 : Int32))), .val (.int ((((xa.toUInt32 >>> ((2 : Int32) &&& 31).toUInt32).toInt32) &&& (3 : Int32)) % (3 : Int32))), .unset, .unset, .unset, .unset, .unset, .unset, .unset, .unset, .unset, .unset, .unset, .unset, .unset, .unset] [(.int (4 : Int32)), (.int xa)]))
  refine own_on (fun t_ k_ => XS.iushr X0.here hx rfl (hb hby at_17) rfl k_) ?_
  show OwnGo p e below s _ _ _ (s₁.setTop (mkF m 18 #[.val (.int xa), .val (.int xb), .val (.int xc), .val (.int ((xa &&& (3 : Int32)) % (3 : Int32))), .val (.int ((((xa.toUInt32 >>> ((2 : Int32) &&& 31).toUInt32).toInt32) &&& (3 : Int32)) % (3 : Int32))), .unset, .unset, .unset, .unset, .unset, .unset, .unset, .unset, .unset, .unset, .unset, .unset, .unset, .unset] [(.int ((xa.toUInt32 >>> ((4 : Int32) &&& 31).toUInt32).toInt32))]))
  refine own_on (fun t_ k_ => XS.iconst X0.here hx rfl (hb hby at_18) k_) ?_
  show OwnGo p e below s _ _ _ (s₁.setTop (mkF m 19 #[.val (.int xa), .val (.int xb), .val (.int xc), .val (.int ((xa &&& (3 : Int32)) % (3 : Int32))), .val (.int ((((xa.toUInt32 >>> ((2 : Int32) &&& 31).toUInt32).toInt32) &&& (3 : Int32)) % (3 : Int32))), .unset, .unset, .unset, .unset, .unset, .unset, .unset, .unset, .unset, .unset, .unset, .unset, .unset, .unset] [(.int (3 : Int32)), (.int ((xa.toUInt32 >>> ((4 : Int32) &&& 31).toUInt32).toInt32))]))
  refine own_on (fun t_ k_ => XS.iand X0.here hx rfl (hb hby at_19) rfl k_) ?_
  show OwnGo p e below s _ _ _ (s₁.setTop (mkF m 20 #[.val (.int xa), .val (.int xb), .val (.int xc), .val (.int ((xa &&& (3 : Int32)) % (3 : Int32))), .val (.int ((((xa.toUInt32 >>> ((2 : Int32) &&& 31).toUInt32).toInt32) &&& (3 : Int32)) % (3 : Int32))), .unset, .unset, .unset, .unset, .unset, .unset, .unset, .unset, .unset, .unset, .unset, .unset, .unset, .unset] [(.int (((xa.toUInt32 >>> ((4 : Int32) &&& 31).toUInt32).toInt32) &&& (3 : Int32)))]))
  refine own_on (fun t_ k_ => XS.iconst X0.here hx rfl (hb hby at_20) k_) ?_
  show OwnGo p e below s _ _ _ (s₁.setTop (mkF m 21 #[.val (.int xa), .val (.int xb), .val (.int xc), .val (.int ((xa &&& (3 : Int32)) % (3 : Int32))), .val (.int ((((xa.toUInt32 >>> ((2 : Int32) &&& 31).toUInt32).toInt32) &&& (3 : Int32)) % (3 : Int32))), .unset, .unset, .unset, .unset, .unset, .unset, .unset, .unset, .unset, .unset, .unset, .unset, .unset, .unset] [(.int (3 : Int32)), (.int (((xa.toUInt32 >>> ((4 : Int32) &&& 31).toUInt32).toInt32) &&& (3 : Int32)))]))
  refine own_on (fun t_ k_ => iremM X0 hx rfl (hb hby at_21) rfl (by decide) k_) ?_
  show OwnGo p e below s _ _ _ (s₁.setTop (mkF m 22 #[.val (.int xa), .val (.int xb), .val (.int xc), .val (.int ((xa &&& (3 : Int32)) % (3 : Int32))), .val (.int ((((xa.toUInt32 >>> ((2 : Int32) &&& 31).toUInt32).toInt32) &&& (3 : Int32)) % (3 : Int32))), .unset, .unset, .unset, .unset, .unset, .unset, .unset, .unset, .unset, .unset, .unset, .unset, .unset, .unset] [(.int ((((xa.toUInt32 >>> ((4 : Int32) &&& 31).toUInt32).toInt32) &&& (3 : Int32)) % (3 : Int32)))]))
  refine own_on (fun t_ k_ => XS.istore X0.here hx rfl (hb hby at_22) rfl (l' := #[.val (.int xa), .val (.int xb), .val (.int xc), .val (.int ((xa &&& (3 : Int32)) % (3 : Int32))), .val (.int ((((xa.toUInt32 >>> ((2 : Int32) &&& 31).toUInt32).toInt32) &&& (3 : Int32)) % (3 : Int32))), .val (.int ((((xa.toUInt32 >>> ((4 : Int32) &&& 31).toUInt32).toInt32) &&& (3 : Int32)) % (3 : Int32))), .unset, .unset, .unset, .unset, .unset, .unset, .unset, .unset, .unset, .unset, .unset, .unset, .unset]) rfl k_) ?_
  show OwnGo p e below s _ _ _ (s₁.setTop (mkF m 24 #[.val (.int xa), .val (.int xb), .val (.int xc), .val (.int ((xa &&& (3 : Int32)) % (3 : Int32))), .val (.int ((((xa.toUInt32 >>> ((2 : Int32) &&& 31).toUInt32).toInt32) &&& (3 : Int32)) % (3 : Int32))), .val (.int ((((xa.toUInt32 >>> ((4 : Int32) &&& 31).toUInt32).toInt32) &&& (3 : Int32)) % (3 : Int32))), .unset, .unset, .unset, .unset, .unset, .unset, .unset, .unset, .unset, .unset, .unset, .unset, .unset] []))
  refine own_on (fun t_ k_ => XS.iloadN X0.here hx rfl (hb hby at_24) rfl k_) ?_
  show OwnGo p e below s _ _ _ (s₁.setTop (mkF m 25 #[.val (.int xa), .val (.int xb), .val (.int xc), .val (.int ((xa &&& (3 : Int32)) % (3 : Int32))), .val (.int ((((xa.toUInt32 >>> ((2 : Int32) &&& 31).toUInt32).toInt32) &&& (3 : Int32)) % (3 : Int32))), .val (.int ((((xa.toUInt32 >>> ((4 : Int32) &&& 31).toUInt32).toInt32) &&& (3 : Int32)) % (3 : Int32))), .unset, .unset, .unset, .unset, .unset, .unset, .unset, .unset, .unset, .unset, .unset, .unset, .unset] [(.int xb)]))
  refine own_on (fun t_ k_ => XS.sipush X0.here hx rfl (hb hby at_25) k_) ?_
  show OwnGo p e below s _ _ _ (s₁.setTop (mkF m 28 #[.val (.int xa), .val (.int xb), .val (.int xc), .val (.int ((xa &&& (3 : Int32)) % (3 : Int32))), .val (.int ((((xa.toUInt32 >>> ((2 : Int32) &&& 31).toUInt32).toInt32) &&& (3 : Int32)) % (3 : Int32))), .val (.int ((((xa.toUInt32 >>> ((4 : Int32) &&& 31).toUInt32).toInt32) &&& (3 : Int32)) % (3 : Int32))), .unset, .unset, .unset, .unset, .unset, .unset, .unset, .unset, .unset, .unset, .unset, .unset, .unset] [(.int (255 : Int32)), (.int xb)]))
  refine own_on (fun t_ k_ => XS.iand X0.here hx rfl (hb hby at_28) rfl k_) ?_
  show OwnGo p e below s _ _ _ (s₁.setTop (mkF m 29 #[.val (.int xa), .val (.int xb), .val (.int xc), .val (.int ((xa &&& (3 : Int32)) % (3 : Int32))), .val (.int ((((xa.toUInt32 >>> ((2 : Int32) &&& 31).toUInt32).toInt32) &&& (3 : Int32)) % (3 : Int32))), .val (.int ((((xa.toUInt32 >>> ((4 : Int32) &&& 31).toUInt32).toInt32) &&& (3 : Int32)) % (3 : Int32))), .unset, .unset, .unset, .unset, .unset, .unset, .unset, .unset, .unset, .unset, .unset, .unset, .unset] [(.int (xb &&& (255 : Int32)))]))
  refine own_on (fun t_ k_ => XS.i2c X0.here hx rfl (hb hby at_29) rfl k_) ?_
  show OwnGo p e below s _ _ _ (s₁.setTop (mkF m 30 #[.val (.int xa), .val (.int xb), .val (.int xc), .val (.int ((xa &&& (3 : Int32)) % (3 : Int32))), .val (.int ((((xa.toUInt32 >>> ((2 : Int32) &&& 31).toUInt32).toInt32) &&& (3 : Int32)) % (3 : Int32))), .val (.int ((((xa.toUInt32 >>> ((4 : Int32) &&& 31).toUInt32).toInt32) &&& (3 : Int32)) % (3 : Int32))), .unset, .unset, .unset, .unset, .unset, .unset, .unset, .unset, .unset, .unset, .unset, .unset, .unset] [(.int ((xb &&& (255 : Int32)).toUInt32.toUInt16.toUInt32.toInt32))]))
  have hr807 : ¬ (255 : Int32) < ((xb &&& (255 : Int32)).toUInt32.toUInt16.toUInt32.toInt32) := own_c255 _
  obtain ⟨_, _, ⟨T808, L808, k808, n808⟩, -, X808, ⟨Lc808, hQ808, l808, y808, z808⟩, st808⟩ := Jvm.LawKit.callS X0 hx (y := (⟨"java/lang/String", "valueOf", "(C)Ljava/lang/String;"⟩ : MethodName)) hown (mvT hZ (w0 hw)) (mvT hZ (w1 hw)) (mvT hZ (w2 hw)) (mvT hZ (w3 hw)) (by decide) (backOf (W := 0) (rm1 l Z a0 hw [] ((xb &&& (255 : Int32)).toUInt32.toUInt16.toUInt32.toInt32) cs h0 n0 Z0 P0 P1 P2 hr807) hZ (w3 hw) (w2 hw) (by decide) (by decide)) (g := (mkF m 30 #[.val (.int xa), .val (.int xb), .val (.int xc), .val (.int ((xa &&& (3 : Int32)) % (3 : Int32))), .val (.int ((((xa.toUInt32 >>> ((2 : Int32) &&& 31).toUInt32).toInt32) &&& (3 : Int32)) % (3 : Int32))), .val (.int ((((xa.toUInt32 >>> ((4 : Int32) &&& 31).toUInt32).toInt32) &&& (3 : Int32)) % (3 : Int32))), .unset, .unset, .unset, .unset, .unset, .unset, .unset, .unset, .unset, .unset, .unset, .unset, .unset] [(.int ((xb &&& (255 : Int32)).toUInt32.toUInt16.toUInt32.toInt32))])) rfl (by rw [hml]; rfl) (argsL := [(.int ((xb &&& (255 : Int32)).toUInt32.toUInt16.toUInt32.toInt32))]) (rest := []) (lenOf pd_20 rfl) rfl (by show 2 * 0 + _ ≤ _; exact Nat.le_of_eq rfl) (hb hby at_30) (fun _ hWx => ⟨rfl, e0, (by decide : 0 + 2 ≤ _), (by decide : 0 + 5 ≤ _)⟩)
  dsimp only [Pt.U, Pt.locs, Pt.cells, Pt.slots] at X808 l808 y808 z808 st808 hQ808
  replace X808 := own_num (c' := 2) (n' := 5) X808 l808 (y808.trans rfl) (z808.trans rfl)
  obtain ⟨r_808, rb_808, kr_808, rfl, N808q, K808q, c808_0, c808_1, c808_2, c808_3, c808_4, c808_5, c808_6, c808_7, c808_8⟩ := hQ808
  have N808 := Fr.app N0 N808q
  have Z808 : n0 ≤ T808.heap.size := Nat.le_trans Z0 K808q.1
  have K808 : Keep h0 T808.heap [] := K0.trans K808q all0
  have z809 : h0.size ≤ r_808 := Nat.le_trans K0.1 c808_6
  have z810 : h0.size ≤ rb_808 := Nat.le_trans K0.1 c808_7
  refine own_on st808 ?_
  show OwnGo p e below s _ _ _ (T808.setTop (mkF m 33 #[.val (.int xa), .val (.int xb), .val (.int xc), .val (.int ((xa &&& (3 : Int32)) % (3 : Int32))), .val (.int ((((xa.toUInt32 >>> ((2 : Int32) &&& 31).toUInt32).toInt32) &&& (3 : Int32)) % (3 : Int32))), .val (.int ((((xa.toUInt32 >>> ((4 : Int32) &&& 31).toUInt32).toInt32) &&& (3 : Int32)) % (3 : Int32))), .unset, .unset, .unset, .unset, .unset, .unset, .unset, .unset, .unset, .unset, .unset, .unset, .unset] [(.ref r_808)]))
  refine own_on (fun t_ k_ => XS.astore X808.here hx rfl (hb hby at_33) rfl rfl (l' := #[.val (.int xa), .val (.int xb), .val (.int xc), .val (.int ((xa &&& (3 : Int32)) % (3 : Int32))), .val (.int ((((xa.toUInt32 >>> ((2 : Int32) &&& 31).toUInt32).toInt32) &&& (3 : Int32)) % (3 : Int32))), .val (.int ((((xa.toUInt32 >>> ((4 : Int32) &&& 31).toUInt32).toInt32) &&& (3 : Int32)) % (3 : Int32))), .val (.ref r_808), .unset, .unset, .unset, .unset, .unset, .unset, .unset, .unset, .unset, .unset, .unset, .unset]) rfl k_) ?_
  show OwnGo p e below s _ _ _ (T808.setTop (mkF m 35 #[.val (.int xa), .val (.int xb), .val (.int xc), .val (.int ((xa &&& (3 : Int32)) % (3 : Int32))), .val (.int ((((xa.toUInt32 >>> ((2 : Int32) &&& 31).toUInt32).toInt32) &&& (3 : Int32)) % (3 : Int32))), .val (.int ((((xa.toUInt32 >>> ((4 : Int32) &&& 31).toUInt32).toInt32) &&& (3 : Int32)) % (3 : Int32))), .val (.ref r_808), .unset, .unset, .unset, .unset, .unset, .unset, .unset, .unset, .unset, .unset, .unset, .unset] []))
  refine own_on (fun t_ k_ => XS.iloadN X808.here hx rfl (hb hby at_35) rfl k_) ?_
  show OwnGo p e below s _ _ _ (T808.setTop (mkF m 36 #[.val (.int xa), .val (.int xb), .val (.int xc), .val (.int ((xa &&& (3 : Int32)) % (3 : Int32))), .val (.int ((((xa.toUInt32 >>> ((2 : Int32) &&& 31).toUInt32).toInt32) &&& (3 : Int32)) % (3 : Int32))), .val (.int ((((xa.toUInt32 >>> ((4 : Int32) &&& 31).toUInt32).toInt32) &&& (3 : Int32)) % (3 : Int32))), .val (.ref r_808), .unset, .unset, .unset, .unset, .unset, .unset, .unset, .unset, .unset, .unset, .unset, .unset] [(.int xb)]))
  refine own_on (fun t_ k_ => XS.bipush X808.here hx rfl (hb hby at_36) k_) ?_
  show OwnGo p e below s _ _ _ (T808.setTop (mkF m 38 #[.val (.int xa), .val (.int xb), .val (.int xc), .val (.int ((xa &&& (3 : Int32)) % (3 : Int32))), .val (.int ((((xa.toUInt32 >>> ((2 : Int32) &&& 31).toUInt32).toInt32) &&& (3 : Int32)) % (3 : Int32))), .val (.int ((((xa.toUInt32 >>> ((4 : Int32) &&& 31).toUInt32).toInt32) &&& (3 : Int32)) % (3 : Int32))), .val (.ref r_808), .unset, .unset, .unset, .unset, .unset, .unset, .unset, .unset, .unset, .unset, .unset, .unset] [(.int (8 : Int32)), (.int xb)]))
  refine own_on (fun t_ k_ => XS.iushr X808.here hx rfl (hb hby at_38) rfl k_) ?_
  show OwnGo p e below s _ _ _ (T808.setTop (mkF m 39 #[.val (.int xa), .val (.int xb), .val (.int xc), .val (.int ((xa &&& (3 : Int32)) % (3 : Int32))), .val (.int ((((xa.toUInt32 >>> ((2 : Int32) &&& 31).toUInt32).toInt32) &&& (3 : Int32)) % (3 : Int32))), .val (.int ((((xa.toUInt32 >>> ((4 : Int32) &&& 31).toUInt32).toInt32) &&& (3 : Int32)) % (3 : Int32))), .val (.ref r_808), .unset, .unset, .unset, .unset, .unset, .unset, .unset, .unset, .unset, .unset, .unset, .unset] [(.int ((xb.toUInt32 >>> ((8 : Int32) &&& 31).toUInt32).toInt32))]))
  refine own_on (fun t_ k_ => XS.sipush X808.here hx rfl (hb hby at_39) k_) ?_
  show OwnGo p e below s _ _ _ (T808.setTop (mkF m 42 #[.val (.int xa), .val (.int xb), .val (.int xc), .val (.int ((xa &&& (3 : Int32)) % (3 : Int32))), .val (.int ((((xa.toUInt32 >>> ((2 : Int32) &&& 31).toUInt32).toInt32) &&& (3 : Int32)) % (3 : Int32))), .val (.int ((((xa.toUInt32 >>> ((4 : Int32) &&& 31).toUInt32).toInt32) &&& (3 : Int32)) % (3 : Int32))), .val (.ref r_808), .unset, .unset, .unset, .unset, .unset, .unset, .unset, .unset, .unset, .unset, .unset, .unset] [(.int (255 : Int32)), (.int ((xb.toUInt32 >>> ((8 : Int32) &&& 31).toUInt32).toInt32))]))
  refine own_on (fun t_ k_ => XS.iand X808.here hx rfl (hb hby at_42) rfl k_) ?_
  show OwnGo p e below s _ _ _ (T808.setTop (mkF m 43 #[.val (.int xa), .val (.int xb), .val (.int xc), .val (.int ((xa &&& (3 : Int32)) % (3 : Int32))), .val (.int ((((xa.toUInt32 >>> ((2 : Int32) &&& 31).toUInt32).toInt32) &&& (3 : Int32)) % (3 : Int32))), .val (.int ((((xa.toUInt32 >>> ((4 : Int32) &&& 31).toUInt32).toInt32) &&& (3 : Int32)) % (3 : Int32))), .val (.ref r_808), .unset, .unset, .unset, .unset, .unset, .unset, .unset, .unset, .unset, .unset, .unset, .unset] [(.int (((xb.toUInt32 >>> ((8 : Int32) &&& 31).toUInt32).toInt32) &&& (255 : Int32)))]))
  refine own_on (fun t_ k_ => XS.i2c X808.here hx rfl (hb hby at_43) rfl k_) ?_
  show OwnGo p e below s _ _ _ (T808.setTop (mkF m 44 #[.val (.int xa), .val (.int xb), .val (.int xc), .val (.int ((xa &&& (3 : Int32)) % (3 : Int32))), .val (.int ((((xa.toUInt32 >>> ((2 : Int32) &&& 31).toUInt32).toInt32) &&& (3 : Int32)) % (3 : Int32))), .val (.int ((((xa.toUInt32 >>> ((4 : Int32) &&& 31).toUInt32).toInt32) &&& (3 : Int32)) % (3 : Int32))), .val (.ref r_808), .unset, .unset, .unset, .unset, .unset, .unset, .unset, .unset, .unset, .unset, .unset, .unset] [(.int ((((xb.toUInt32 >>> ((8 : Int32) &&& 31).toUInt32).toInt32) &&& (255 : Int32)).toUInt32.toUInt16.toUInt32.toInt32))]))
  have hr811 : ¬ (255 : Int32) < ((((xb.toUInt32 >>> ((8 : Int32) &&& 31).toUInt32).toInt32) &&& (255 : Int32)).toUInt32.toUInt16.toUInt32.toInt32) := own_c255 _
  obtain ⟨_, _, ⟨T812, L812, k812, n812⟩, -, X812, ⟨Lc812, hQ812, l812, y812, z812⟩, st812⟩ := Jvm.LawKit.callS X808 hx (y := (⟨"java/lang/String", "valueOf", "(C)Ljava/lang/String;"⟩ : MethodName)) hown (mvT hZ (w0 hw)) (mvT hZ (w1 hw)) (mvT hZ (w2 hw)) (mvT hZ (w3 hw)) (by decide) (backOf (W := 0) (rm1 l Z a0 hw [] ((((xb.toUInt32 >>> ((8 : Int32) &&& 31).toUInt32).toInt32) &&& (255 : Int32)).toUInt32.toUInt16.toUInt32.toInt32) cs T808.heap n0 Z808 c808_8 P1 P2 hr811) hZ (w3 hw) (w2 hw) (by decide) (by decide)) (g := (mkF m 44 #[.val (.int xa), .val (.int xb), .val (.int xc), .val (.int ((xa &&& (3 : Int32)) % (3 : Int32))), .val (.int ((((xa.toUInt32 >>> ((2 : Int32) &&& 31).toUInt32).toInt32) &&& (3 : Int32)) % (3 : Int32))), .val (.int ((((xa.toUInt32 >>> ((4 : Int32) &&& 31).toUInt32).toInt32) &&& (3 : Int32)) % (3 : Int32))), .val (.ref r_808), .unset, .unset, .unset, .unset, .unset, .unset, .unset, .unset, .unset, .unset, .unset, .unset] [(.int ((((xb.toUInt32 >>> ((8 : Int32) &&& 31).toUInt32).toInt32) &&& (255 : Int32)).toUInt32.toUInt16.toUInt32.toInt32))])) rfl (by rw [hml]; rfl) (argsL := [(.int ((((xb.toUInt32 >>> ((8 : Int32) &&& 31).toUInt32).toInt32) &&& (255 : Int32)).toUInt32.toUInt16.toUInt32.toInt32))]) (rest := []) (lenOf pd_20 rfl) rfl (by show 2 * 0 + _ ≤ _; exact Nat.le_of_eq rfl) (hb hby at_44) (fun _ hWx => ⟨rfl, rfl, (by decide : 2 + 2 ≤ _), (by decide : 5 + 5 ≤ _)⟩)
  dsimp only [Pt.U, Pt.locs, Pt.cells, Pt.slots] at X812 l812 y812 z812 st812 hQ812
  replace X812 := own_num (c' := 4) (n' := 10) X812 l812 (y812.trans rfl) (z812.trans rfl)
  obtain ⟨r_812, rb_812, kr_812, rfl, N812q, K812q, c812_0, c812_1, c812_2, c812_3, c812_4, c812_5, c812_6, c812_7, c812_8⟩ := hQ812
  have N812 := Fr.app N808 N812q
  have Z812 : n0 ≤ T812.heap.size := Nat.le_trans Z808 K812q.1
  have K812 : Keep h0 T812.heap [] := K808.trans K812q all0
  have ne813 : r_808 ≠ r_812 := Nat.ne_of_lt (Nat.lt_of_lt_of_le c808_0.lt c812_6)
  have z814 : h0.size ≤ r_812 := Nat.le_trans K808.1 c812_6
  have ne815 : r_808 ≠ rb_812 := Nat.ne_of_lt (Nat.lt_of_lt_of_le c808_0.lt c812_7)
  have z816 : h0.size ≤ rb_812 := Nat.le_trans K808.1 c812_7
  refine own_on st812 ?_
  show OwnGo p e below s _ _ _ (T812.setTop (mkF m 47 #[.val (.int xa), .val (.int xb), .val (.int xc), .val (.int ((xa &&& (3 : Int32)) % (3 : Int32))), .val (.int ((((xa.toUInt32 >>> ((2 : Int32) &&& 31).toUInt32).toInt32) &&& (3 : Int32)) % (3 : Int32))), .val (.int ((((xa.toUInt32 >>> ((4 : Int32) &&& 31).toUInt32).toInt32) &&& (3 : Int32)) % (3 : Int32))), .val (.ref r_808), .unset, .unset, .unset, .unset, .unset, .unset, .unset, .unset, .unset, .unset, .unset, .unset] [(.ref r_812)]))
  refine own_on (fun t_ k_ => XS.astore X812.here hx rfl (hb hby at_47) rfl rfl (l' := #[.val (.int xa), .val (.int xb), .val (.int xc), .val (.int ((xa &&& (3 : Int32)) % (3 : Int32))), .val (.int ((((xa.toUInt32 >>> ((2 : Int32) &&& 31).toUInt32).toInt32) &&& (3 : Int32)) % (3 : Int32))), .val (.int ((((xa.toUInt32 >>> ((4 : Int32) &&& 31).toUInt32).toInt32) &&& (3 : Int32)) % (3 : Int32))), .val (.ref r_808), .val (.ref r_812), .unset, .unset, .unset, .unset, .unset, .unset, .unset, .unset, .unset, .unset, .unset]) rfl k_) ?_
  show OwnGo p e below s _ _ _ (T812.setTop (mkF m 49 #[.val (.int xa), .val (.int xb), .val (.int xc), .val (.int ((xa &&& (3 : Int32)) % (3 : Int32))), .val (.int ((((xa.toUInt32 >>> ((2 : Int32) &&& 31).toUInt32).toInt32) &&& (3 : Int32)) % (3 : Int32))), .val (.int ((((xa.toUInt32 >>> ((4 : Int32) &&& 31).toUInt32).toInt32) &&& (3 : Int32)) % (3 : Int32))), .val (.ref r_808), .val (.ref r_812), .unset, .unset, .unset, .unset, .unset, .unset, .unset, .unset, .unset, .unset, .unset] []))
  refine own_on (fun t_ k_ => XS.iloadN X812.here hx rfl (hb hby at_49) rfl k_) ?_
  show OwnGo p e below s _ _ _ (T812.setTop (mkF m 50 #[.val (.int xa), .val (.int xb), .val (.int xc), .val (.int ((xa &&& (3 : Int32)) % (3 : Int32))), .val (.int ((((xa.toUInt32 >>> ((2 : Int32) &&& 31).toUInt32).toInt32) &&& (3 : Int32)) % (3 : Int32))), .val (.int ((((xa.toUInt32 >>> ((4 : Int32) &&& 31).toUInt32).toInt32) &&& (3 : Int32)) % (3 : Int32))), .val (.ref r_808), .val (.ref r_812), .unset, .unset, .unset, .unset, .unset, .unset, .unset, .unset, .unset, .unset, .unset] [(.int xb)]))
  refine own_on (fun t_ k_ => XS.bipush X812.here hx rfl (hb hby at_50) k_) ?_
  show OwnGo p e below s _ _ _ (T812.setTop (mkF m 52 #[.val (.int xa), .val (.int xb), .val (.int xc), .val (.int ((xa &&& (3 : Int32)) % (3 : Int32))), .val (.int ((((xa.toUInt32 >>> ((2 : Int32) &&& 31).toUInt32).toInt32) &&& (3 : Int32)) % (3 : Int32))), .val (.int ((((xa.toUInt32 >>> ((4 : Int32) &&& 31).toUInt32).toInt32) &&& (3 : Int32)) % (3 : Int32))), .val (.ref r_808), .val (.ref r_812), .unset, .unset, .unset, .unset, .unset, .unset, .unset, .unset, .unset, .unset, .unset] [(.int (16 : Int32)), (.int xb)]))
  refine own_on (fun t_ k_ => XS.iushr X812.here hx rfl (hb hby at_52) rfl k_) ?_
  show OwnGo p e below s _ _ _ (T812.setTop (mkF m 53 #[.val (.int xa), .val (.int xb), .val (.int xc), .val (.int ((xa &&& (3 : Int32)) % (3 : Int32))), .val (.int ((((xa.toUInt32 >>> ((2 : Int32) &&& 31).toUInt32).toInt32) &&& (3 : Int32)) % (3 : Int32))), .val (.int ((((xa.toUInt32 >>> ((4 : Int32) &&& 31).toUInt32).toInt32) &&& (3 : Int32)) % (3 : Int32))), .val (.ref r_808), .val (.ref r_812), .unset, .unset, .unset, .unset, .unset, .unset, .unset, .unset, .unset, .unset, .unset] [(.int ((xb.toUInt32 >>> ((16 : Int32) &&& 31).toUInt32).toInt32))]))
  refine own_on (fun t_ k_ => XS.sipush X812.here hx rfl (hb hby at_53) k_) ?_
  show OwnGo p e below s _ _ _ (T812.setTop (mkF m 56 #[.val (.int xa), .val (.int xb), .val (.int xc), .val (.int ((xa &&& (3 : Int32)) % (3 : Int32))), .val (.int ((((xa.toUInt32 >>> ((2 : Int32) &&& 31).toUInt32).toInt32) &&& (3 : Int32)) % (3 : Int32))), .val (.int ((((xa.toUInt32 >>> ((4 : Int32) &&& 31).toUInt32).toInt32) &&& (3 : Int32)) % (3 : Int32))), .val (.ref r_808), .val (.ref r_812), .unset, .unset, .unset, .unset, .unset, .unset, .unset, .unset, .unset, .unset, .unset] [(.int (255 : Int32)), (.int ((xb.toUInt32 >>> ((16 : Int32) &&& 31).toUInt32).toInt32))]))
  refine own_on (fun t_ k_ => XS.iand X812.here hx rfl (hb hby at_56) rfl k_) ?_
  show OwnGo p e below s _ _ _ (T812.setTop (mkF m 57 #[.val (.int xa), .val (.int xb), .val (.int xc), .val (.int ((xa &&& (3 : Int32)) % (3 : Int32))), .val (.int ((((xa.toUInt32 >>> ((2 : Int32) &&& 31).toUInt32).toInt32) &&& (3 : Int32)) % (3 : Int32))), .val (.int ((((xa.toUInt32 >>> ((4 : Int32) &&& 31).toUInt32).toInt32) &&& (3 : Int32)) % (3 : Int32))), .val (.ref r_808), .val (.ref r_812), .unset, .unset, .unset, .unset, .unset, .unset, .unset, .unset, .unset, .unset, .unset] [(.int (((xb.toUInt32 >>> ((16 : Int32) &&& 31).toUInt32).toInt32) &&& (255 : Int32)))]))
  refine own_on (fun t_ k_ => XS.i2c X812.here hx rfl (hb hby at_57) rfl k_) ?_
  show OwnGo p e below s _ _ _ (T812.setTop (mkF m 58 #[.val (.int xa), .val (.int xb), .val (.int xc), .val (.int ((xa &&& (3 : Int32)) % (3 : Int32))), .val (.int ((((xa.toUInt32 >>> ((2 : Int32) &&& 31).toUInt32).toInt32) &&& (3 : Int32)) % (3 : Int32))), .val (.int ((((xa.toUInt32 >>> ((4 : Int32) &&& 31).toUInt32).toInt32) &&& (3 : Int32)) % (3 : Int32))), .val (.ref r_808), .val (.ref r_812), .unset, .unset, .unset, .unset, .unset, .unset, .unset, .unset, .unset, .unset, .unset] [(.int ((((xb.toUInt32 >>> ((16 : Int32) &&& 31).toUInt32).toInt32) &&& (255 : Int32)).toUInt32.toUInt16.toUInt32.toInt32))]))
  have hr817 : ¬ (255 : Int32) < ((((xb.toUInt32 >>> ((16 : Int32) &&& 31).toUInt32).toInt32) &&& (255 : Int32)).toUInt32.toUInt16.toUInt32.toInt32) := own_c255 _
  obtain ⟨_, _, ⟨T818, L818, k818, n818⟩, -, X818, ⟨Lc818, hQ818, l818, y818, z818⟩, st818⟩ := Jvm.LawKit.callS X812 hx (y := (⟨"java/lang/String", "valueOf", "(C)Ljava/lang/String;"⟩ : MethodName)) hown (mvT hZ (w0 hw)) (mvT hZ (w1 hw)) (mvT hZ (w2 hw)) (mvT hZ (w3 hw)) (by decide) (backOf (W := 0) (rm1 l Z a0 hw [] ((((xb.toUInt32 >>> ((16 : Int32) &&& 31).toUInt32).toInt32) &&& (255 : Int32)).toUInt32.toUInt16.toUInt32.toInt32) cs T812.heap n0 Z812 c812_8 P1 P2 hr817) hZ (w3 hw) (w2 hw) (by decide) (by decide)) (g := (mkF m 58 #[.val (.int xa), .val (.int xb), .val (.int xc), .val (.int ((xa &&& (3 : Int32)) % (3 : Int32))), .val (.int ((((xa.toUInt32 >>> ((2 : Int32) &&& 31).toUInt32).toInt32) &&& (3 : Int32)) % (3 : Int32))), .val (.int ((((xa.toUInt32 >>> ((4 : Int32) &&& 31).toUInt32).toInt32) &&& (3 : Int32)) % (3 : Int32))), .val (.ref r_808), .val (.ref r_812), .unset, .unset, .unset, .unset, .unset, .unset, .unset, .unset, .unset, .unset, .unset] [(.int ((((xb.toUInt32 >>> ((16 : Int32) &&& 31).toUInt32).toInt32) &&& (255 : Int32)).toUInt32.toUInt16.toUInt32.toInt32))])) rfl (by rw [hml]; rfl) (argsL := [(.int ((((xb.toUInt32 >>> ((16 : Int32) &&& 31).toUInt32).toInt32) &&& (255 : Int32)).toUInt32.toUInt16.toUInt32.toInt32))]) (rest := []) (lenOf pd_20 rfl) rfl (by show 2 * 0 + _ ≤ _; exact Nat.le_of_eq rfl) (hb hby at_58) (fun _ hWx => ⟨rfl, rfl, (by decide : 4 + 2 ≤ _), (by decide : 10 + 5 ≤ _)⟩)
  have f819 : Exa Z T812.heap r_808 "java/lang/String" := c808_0.keep K812q
  dsimp only [Pt.U, Pt.locs, Pt.cells, Pt.slots] at X818 l818 y818 z818 st818 hQ818
  replace X818 := own_num (c' := 6) (n' := 15) X818 l818 (y818.trans rfl) (z818.trans rfl)
  obtain ⟨r_818, rb_818, kr_818, rfl, N818q, K818q, c818_0, c818_1, c818_2, c818_3, c818_4, c818_5, c818_6, c818_7, c818_8⟩ := hQ818
  have N818 := Fr.app N812 N818q
  have Z818 : n0 ≤ T818.heap.size := Nat.le_trans Z812 K818q.1
  have K818 : Keep h0 T818.heap [] := K812.trans K818q all0
  have ne820 : r_808 ≠ r_818 := Nat.ne_of_lt (Nat.lt_of_lt_of_le f819.lt c818_6)
  have ne821 : r_812 ≠ r_818 := Nat.ne_of_lt (Nat.lt_of_lt_of_le c812_0.lt c818_6)
  have z822 : h0.size ≤ r_818 := Nat.le_trans K812.1 c818_6
  have ne823 : r_808 ≠ rb_818 := Nat.ne_of_lt (Nat.lt_of_lt_of_le f819.lt c818_7)
  have ne824 : r_812 ≠ rb_818 := Nat.ne_of_lt (Nat.lt_of_lt_of_le c812_0.lt c818_7)
  have z825 : h0.size ≤ rb_818 := Nat.le_trans K812.1 c818_7
  refine own_on st818 ?_
  show OwnGo p e below s _ _ _ (T818.setTop (mkF m 61 #[.val (.int xa), .val (.int xb), .val (.int xc), .val (.int ((xa &&& (3 : Int32)) % (3 : Int32))), .val (.int ((((xa.toUInt32 >>> ((2 : Int32) &&& 31).toUInt32).toInt32) &&& (3 : Int32)) % (3 : Int32))), .val (.int ((((xa.toUInt32 >>> ((4 : Int32) &&& 31).toUInt32).toInt32) &&& (3 : Int32)) % (3 : Int32))), .val (.ref r_808), .val (.ref r_812), .unset, .unset, .unset, .unset, .unset, .unset, .unset, .unset, .unset, .unset, .unset] [(.ref r_818)]))
  refine own_on (fun t_ k_ => XS.astore X818.here hx rfl (hb hby at_61) rfl rfl (l' := #[.val (.int xa), .val (.int xb), .val (.int xc), .val (.int ((xa &&& (3 : Int32)) % (3 : Int32))), .val (.int ((((xa.toUInt32 >>> ((2 : Int32) &&& 31).toUInt32).toInt32) &&& (3 : Int32)) % (3 : Int32))), .val (.int ((((xa.toUInt32 >>> ((4 : Int32) &&& 31).toUInt32).toInt32) &&& (3 : Int32)) % (3 : Int32))), .val (.ref r_808), .val (.ref r_812), .val (.ref r_818), .unset, .unset, .unset, .unset, .unset, .unset, .unset, .unset, .unset, .unset]) rfl k_) ?_
  show OwnGo p e below s _ _ _ (T818.setTop (mkF m 63 #[.val (.int xa), .val (.int xb), .val (.int xc), .val (.int ((xa &&& (3 : Int32)) % (3 : Int32))), .val (.int ((((xa.toUInt32 >>> ((2 : Int32) &&& 31).toUInt32).toInt32) &&& (3 : Int32)) % (3 : Int32))), .val (.int ((((xa.toUInt32 >>> ((4 : Int32) &&& 31).toUInt32).toInt32) &&& (3 : Int32)) % (3 : Int32))), .val (.ref r_808), .val (.ref r_812), .val (.ref r_818), .unset, .unset, .unset, .unset, .unset, .unset, .unset, .unset, .unset, .unset] []))
  refine own_on (fun t_ k_ => XS.iloadN X818.here hx rfl (hb hby at_63) rfl k_) ?_
  show OwnGo p e below s _ _ _ (T818.setTop (mkF m 64 #[.val (.int xa), .val (.int xb), .val (.int xc), .val (.int ((xa &&& (3 : Int32)) % (3 : Int32))), .val (.int ((((xa.toUInt32 >>> ((2 : Int32) &&& 31).toUInt32).toInt32) &&& (3 : Int32)) % (3 : Int32))), .val (.int ((((xa.toUInt32 >>> ((4 : Int32) &&& 31).toUInt32).toInt32) &&& (3 : Int32)) % (3 : Int32))), .val (.ref r_808), .val (.ref r_812), .val (.ref r_818), .unset, .unset, .unset, .unset, .unset, .unset, .unset, .unset, .unset, .unset] [(.int xb)]))
  refine own_on (fun t_ k_ => XS.bipush X818.here hx rfl (hb hby at_64) k_) ?_
  show OwnGo p e below s _ _ _ (T818.setTop (mkF m 66 #[.val (.int xa), .val (.int xb), .val (.int xc), .val (.int ((xa &&& (3 : Int32)) % (3 : Int32))), .val (.int ((((xa.toUInt32 >>> ((2 : Int32) &&& 31).toUInt32).toInt32) &&& (3 : Int32)) % (3 : Int32))), .val (.int ((((xa.toUInt32 >>> ((4 : Int32) &&& 31).toUInt32).toInt32) &&& (3 : Int32)) % (3 : Int32))), .val (.ref r_808), .val (.ref r_812), .val (.ref r_818), .unset, .unset, .unset, .unset, .unset, .unset, .unset, .unset, .unset, .unset] [(.int (24 : Int32)), (.int xb)]))
  refine own_on (fun t_ k_ => XS.iushr X818.here hx rfl (hb hby at_66) rfl k_) ?_
  show OwnGo p e below s _ _ _ (T818.setTop (mkF m 67 #[.val (.int xa), .val (.int xb), .val (.int xc), .val (.int ((xa &&& (3 : Int32)) % (3 : Int32))), .val (.int ((((xa.toUInt32 >>> ((2 : Int32) &&& 31).toUInt32).toInt32) &&& (3 : Int32)) % (3 : Int32))), .val (.int ((((xa.toUInt32 >>> ((4 : Int32) &&& 31).toUInt32).toInt32) &&& (3 : Int32)) % (3 : Int32))), .val (.ref r_808), .val (.ref r_812), .val (.ref r_818), .unset, .unset, .unset, .unset, .unset, .unset, .unset, .unset, .unset, .unset] [(.int ((xb.toUInt32 >>> ((24 : Int32) &&& 31).toUInt32).toInt32))]))
  refine own_on (fun t_ k_ => XS.sipush X818.here hx rfl (hb hby at_67) k_) ?_
  show OwnGo p e below s _ _ _ (T818.setTop (mkF m 70 #[.val (.int xa), .val (.int xb), .val (.int xc), .val (.int ((xa &&& (3 : Int32)) % (3 : Int32))), .val (.int ((((xa.toUInt32 >>> ((2 : Int32) &&& 31).toUInt32).toInt32) &&& (3 : Int32)) % (3 : Int32))), .val (.int ((((xa.toUInt32 >>> ((4 : Int32) &&& 31).toUInt32).toInt32) &&& (3 : Int32)) % (3 : Int32))), .val (.ref r_808), .val (.ref r_812), .val (.ref r_818), .unset, .unset, .unset, .unset, .unset, .unset, .unset, .unset, .unset, .unset] [(.int (255 : Int32)), (.int ((xb.toUInt32 >>> ((24 : Int32) &&& 31).toUInt32).toInt32))]))
  refine own_on (fun t_ k_ => XS.iand X818.here hx rfl (hb hby at_70) rfl k_) ?_
  show OwnGo p e below s _ _ _ (T818.setTop (mkF m 71 #[.val (.int xa), .val (.int xb), .val (.int xc), .val (.int ((xa &&& (3 : Int32)) % (3 : Int32))), .val (.int ((((xa.toUInt32 >>> ((2 : Int32) &&& 31).toUInt32).toInt32) &&& (3 : Int32)) % (3 : Int32))), .val (.int ((((xa.toUInt32 >>> ((4 : Int32) &&& 31).toUInt32).toInt32) &&& (3 : Int32)) % (3 : Int32))), .val (.ref r_808), .val (.ref r_812), .val (.ref r_818), .unset, .unset, .unset, .unset, .unset, .unset, .unset, .unset, .unset, .unset] [(.int (((xb.toUInt32 >>> ((24 : Int32) &&& 31).toUInt32).toInt32) &&& (255 : Int32)))]))
  refine own_on (fun t_ k_ => XS.i2c X818.here hx rfl (hb hby at_71) rfl k_) ?_
  show OwnGo p e below s _ _ _ (T818.setTop (mkF m 72 #[.val (.int xa), .val (.int xb), .val (.int xc), .val (.int ((xa &&& (3 : Int32)) % (3 : Int32))), .val (.int ((((xa.toUInt32 >>> ((2 : Int32) &&& 31).toUInt32).toInt32) &&& (3 : Int32)) % (3 : Int32))), .val (.int ((((xa.toUInt32 >>> ((4 : Int32) &&& 31).toUInt32).toInt32) &&& (3 : Int32)) % (3 : Int32))), .val (.ref r_808), .val (.ref r_812), .val (.ref r_818), .unset, .unset, .unset, .unset, .unset, .unset, .unset, .unset, .unset, .unset] [(.int ((((xb.toUInt32 >>> ((24 : Int32) &&& 31).toUInt32).toInt32) &&& (255 : Int32)).toUInt32.toUInt16.toUInt32.toInt32))]))
  have hr826 : ¬ (255 : Int32) < ((((xb.toUInt32 >>> ((24 : Int32) &&& 31).toUInt32).toInt32) &&& (255 : Int32)).toUInt32.toUInt16.toUInt32.toInt32) := own_c255 _
  obtain ⟨_, _, ⟨T827, L827, k827, n827⟩, -, X827, ⟨Lc827, hQ827, l827, y827, z827⟩, st827⟩ := Jvm.LawKit.callS X818 hx (y := (⟨"java/lang/String", "valueOf", "(C)Ljava/lang/String;"⟩ : MethodName)) hown (mvT hZ (w0 hw)) (mvT hZ (w1 hw)) (mvT hZ (w2 hw)) (mvT hZ (w3 hw)) (by decide) (backOf (W := 0) (rm1 l Z a0 hw [] ((((xb.toUInt32 >>> ((24 : Int32) &&& 31).toUInt32).toInt32) &&& (255 : Int32)).toUInt32.toUInt16.toUInt32.toInt32) cs T818.heap n0 Z818 c818_8 P1 P2 hr826) hZ (w3 hw) (w2 hw) (by decide) (by decide)) (g := (mkF m 72 #[.val (.int xa), .val (.int xb), .val (.int xc), .val (.int ((xa &&& (3 : Int32)) % (3 : Int32))), .val (.int ((((xa.toUInt32 >>> ((2 : Int32) &&& 31).toUInt32).toInt32) &&& (3 : Int32)) % (3 : Int32))), .val (.int ((((xa.toUInt32 >>> ((4 : Int32) &&& 31).toUInt32).toInt32) &&& (3 : Int32)) % (3 : Int32))), .val (.ref r_808), .val (.ref r_812), .val (.ref r_818), .unset, .unset, .unset, .unset, .unset, .unset, .unset, .unset, .unset, .unset] [(.int ((((xb.toUInt32 >>> ((24 : Int32) &&& 31).toUInt32).toInt32) &&& (255 : Int32)).toUInt32.toUInt16.toUInt32.toInt32))])) rfl (by rw [hml]; rfl) (argsL := [(.int ((((xb.toUInt32 >>> ((24 : Int32) &&& 31).toUInt32).toInt32) &&& (255 : Int32)).toUInt32.toUInt16.toUInt32.toInt32))]) (rest := []) (lenOf pd_20 rfl) rfl (by show 2 * 0 + _ ≤ _; exact Nat.le_of_eq rfl) (hb hby at_72) (fun _ hWx => ⟨rfl, rfl, (by decide : 6 + 2 ≤ _), (by decide : 15 + 5 ≤ _)⟩)
  have f828 : Exa Z T818.heap r_808 "java/lang/String" := f819.keep K818q
  have f829 : Exa Z T818.heap r_812 "java/lang/String" := c812_0.keep K818q
  dsimp only [Pt.U, Pt.locs, Pt.cells, Pt.slots] at X827 l827 y827 z827 st827 hQ827
  replace X827 := own_num (c' := 8) (n' := 20) X827 l827 (y827.trans rfl) (z827.trans rfl)
  obtain ⟨r_827, rb_827, kr_827, rfl, N827q, K827q, c827_0, c827_1, c827_2, c827_3, c827_4, c827_5, c827_6, c827_7, c827_8⟩ := hQ827
  have N827 := Fr.app N818 N827q
  have Z827 : n0 ≤ T827.heap.size := Nat.le_trans Z818 K827q.1
  have K827 : Keep h0 T827.heap [] := K818.trans K827q all0
  have ne830 : r_808 ≠ r_827 := Nat.ne_of_lt (Nat.lt_of_lt_of_le f828.lt c827_6)
  have ne831 : r_812 ≠ r_827 := Nat.ne_of_lt (Nat.lt_of_lt_of_le f829.lt c827_6)
  have ne832 : r_818 ≠ r_827 := Nat.ne_of_lt (Nat.lt_of_lt_of_le c818_0.lt c827_6)
  have z833 : h0.size ≤ r_827 := Nat.le_trans K818.1 c827_6
  have ne834 : r_808 ≠ rb_827 := Nat.ne_of_lt (Nat.lt_of_lt_of_le f828.lt c827_7)
  have ne835 : r_812 ≠ rb_827 := Nat.ne_of_lt (Nat.lt_of_lt_of_le f829.lt c827_7)
  have ne836 : r_818 ≠ rb_827 := Nat.ne_of_lt (Nat.lt_of_lt_of_le c818_0.lt c827_7)
  have z837 : h0.size ≤ rb_827 := Nat.le_trans K818.1 c827_7
  refine own_on st827 ?_
  show OwnGo p e below s _ _ _ (T827.setTop (mkF m 75 #[.val (.int xa), .val (.int xb), .val (.int xc), .val (.int ((xa &&& (3 : Int32)) % (3 : Int32))), .val (.int ((((xa.toUInt32 >>> ((2 : Int32) &&& 31).toUInt32).toInt32) &&& (3 : Int32)) % (3 : Int32))), .val (.int ((((xa.toUInt32 >>> ((4 : Int32) &&& 31).toUInt32).toInt32) &&& (3 : Int32)) % (3 : Int32))), .val (.ref r_808), .val (.ref r_812), .val (.ref r_818), .unset, .unset, .unset, .unset, .unset, .unset, .unset, .unset, .unset, .unset] [(.ref r_827)]))
  refine own_on (fun t_ k_ => XS.astore X827.here hx rfl (hb hby at_75) rfl rfl (l' := #[.val (.int xa), .val (.int xb), .val (.int xc), .val (.int ((xa &&& (3 : Int32)) % (3 : Int32))), .val (.int ((((xa.toUInt32 >>> ((2 : Int32) &&& 31).toUInt32).toInt32) &&& (3 : Int32)) % (3 : Int32))), .val (.int ((((xa.toUInt32 >>> ((4 : Int32) &&& 31).toUInt32).toInt32) &&& (3 : Int32)) % (3 : Int32))), .val (.ref r_808), .val (.ref r_812), .val (.ref r_818), .val (.ref r_827), .unset, .unset, .unset, .unset, .unset, .unset, .unset, .unset, .unset]) rfl k_) ?_
  show OwnGo p e below s _ _ _ (T827.setTop (mkF m 77 #[.val (.int xa), .val (.int xb), .val (.int xc), .val (.int ((xa &&& (3 : Int32)) % (3 : Int32))), .val (.int ((((xa.toUInt32 >>> ((2 : Int32) &&& 31).toUInt32).toInt32) &&& (3 : Int32)) % (3 : Int32))), .val (.int ((((xa.toUInt32 >>> ((4 : Int32) &&& 31).toUInt32).toInt32) &&& (3 : Int32)) % (3 : Int32))), .val (.ref r_808), .val (.ref r_812), .val (.ref r_818), .val (.ref r_827), .unset, .unset, .unset, .unset, .unset, .unset, .unset, .unset, .unset] []))
  refine own_on (fun t_ k_ => XS.iloadN X827.here hx rfl (hb hby at_77) rfl k_) ?_
  show OwnGo p e below s _ _ _ (T827.setTop (mkF m 78 #[.val (.int xa), .val (.int xb), .val (.int xc), .val (.int ((xa &&& (3 : Int32)) % (3 : Int32))), .val (.int ((((xa.toUInt32 >>> ((2 : Int32) &&& 31).toUInt32).toInt32) &&& (3 : Int32)) % (3 : Int32))), .val (.int ((((xa.toUInt32 >>> ((4 : Int32) &&& 31).toUInt32).toInt32) &&& (3 : Int32)) % (3 : Int32))), .val (.ref r_808), .val (.ref r_812), .val (.ref r_818), .val (.ref r_827), .unset, .unset, .unset, .unset, .unset, .unset, .unset, .unset, .unset] [(.int xc)]))
  refine own_on (fun t_ k_ => XS.sipush X827.here hx rfl (hb hby at_78) k_) ?_
  show OwnGo p e below s _ _ _ (T827.setTop (mkF m 81 #[.val (.int xa), .val (.int xb), .val (.int xc), .val (.int ((xa &&& (3 : Int32)) % (3 : Int32))), .val (.int ((((xa.toUInt32 >>> ((2 : Int32) &&& 31).toUInt32).toInt32) &&& (3 : Int32)) % (3 : Int32))), .val (.int ((((xa.toUInt32 >>> ((4 : Int32) &&& 31).toUInt32).toInt32) &&& (3 : Int32)) % (3 : Int32))), .val (.ref r_808), .val (.ref r_812), .val (.ref r_818), .val (.ref r_827), .unset, .unset, .unset, .unset, .unset, .unset, .unset, .unset, .unset] [(.int (255 : Int32)), (.int xc)]))
  refine own_on (fun t_ k_ => XS.iand X827.here hx rfl (hb hby at_81) rfl k_) ?_
  show OwnGo p e below s _ _ _ (T827.setTop (mkF m 82 #[.val (.int xa), .val (.int xb), .val (.int xc), .val (.int ((xa &&& (3 : Int32)) % (3 : Int32))), .val (.int ((((xa.toUInt32 >>> ((2 : Int32) &&& 31).toUInt32).toInt32) &&& (3 : Int32)) % (3 : Int32))), .val (.int ((((xa.toUInt32 >>> ((4 : Int32) &&& 31).toUInt32).toInt32) &&& (3 : Int32)) % (3 : Int32))), .val (.ref r_808), .val (.ref r_812), .val (.ref r_818), .val (.ref r_827), .unset, .unset, .unset, .unset, .unset, .unset, .unset, .unset, .unset] [(.int (xc &&& (255 : Int32)))]))
  refine own_on (fun t_ k_ => XS.i2c X827.here hx rfl (hb hby at_82) rfl k_) ?_
  show OwnGo p e below s _ _ _ (T827.setTop (mkF m 83 #[.val (.int xa), .val (.int xb), .val (.int xc), .val (.int ((xa &&& (3 : Int32)) % (3 : Int32))), .val (.int ((((xa.toUInt32 >>> ((2 : Int32) &&& 31).toUInt32).toInt32) &&& (3 : Int32)) % (3 : Int32))), .val (.int ((((xa.toUInt32 >>> ((4 : Int32) &&& 31).toUInt32).toInt32) &&& (3 : Int32)) % (3 : Int32))), .val (.ref r_808), .val (.ref r_812), .val (.ref r_818), .val (.ref r_827), .unset, .unset, .unset, .unset, .unset, .unset, .unset, .unset, .unset] [(.int ((xc &&& (255 : Int32)).toUInt32.toUInt16.toUInt32.toInt32))]))
  have hr838 : ¬ (255 : Int32) < ((xc &&& (255 : Int32)).toUInt32.toUInt16.toUInt32.toInt32) := own_c255 _
  obtain ⟨_, _, ⟨T839, L839, k839, n839⟩, -, X839, ⟨Lc839, hQ839, l839, y839, z839⟩, st839⟩ := Jvm.LawKit.callS X827 hx (y := (⟨"java/lang/String", "valueOf", "(C)Ljava/lang/String;"⟩ : MethodName)) hown (mvT hZ (w0 hw)) (mvT hZ (w1 hw)) (mvT hZ (w2 hw)) (mvT hZ (w3 hw)) (by decide) (backOf (W := 0) (rm1 l Z a0 hw [] ((xc &&& (255 : Int32)).toUInt32.toUInt16.toUInt32.toInt32) cs T827.heap n0 Z827 c827_8 P1 P2 hr838) hZ (w3 hw) (w2 hw) (by decide) (by decide)) (g := (mkF m 83 #[.val (.int xa), .val (.int xb), .val (.int xc), .val (.int ((xa &&& (3 : Int32)) % (3 : Int32))), .val (.int ((((xa.toUInt32 >>> ((2 : Int32) &&& 31).toUInt32).toInt32) &&& (3 : Int32)) % (3 : Int32))), .val (.int ((((xa.toUInt32 >>> ((4 : Int32) &&& 31).toUInt32).toInt32) &&& (3 : Int32)) % (3 : Int32))), .val (.ref r_808), .val (.ref r_812), .val (.ref r_818), .val (.ref r_827), .unset, .unset, .unset, .unset, .unset, .unset, .unset, .unset, .unset] [(.int ((xc &&& (255 : Int32)).toUInt32.toUInt16.toUInt32.toInt32))])) rfl (by rw [hml]; rfl) (argsL := [(.int ((xc &&& (255 : Int32)).toUInt32.toUInt16.toUInt32.toInt32))]) (rest := []) (lenOf pd_20 rfl) rfl (by show 2 * 0 + _ ≤ _; exact Nat.le_of_eq rfl) (hb hby at_83) (fun _ hWx => ⟨rfl, rfl, (by decide : 8 + 2 ≤ _), (by decide : 20 + 5 ≤ _)⟩)
  have f840 : Exa Z T827.heap r_808 "java/lang/String" := f828.keep K827q
  have f841 : Exa Z T827.heap r_812 "java/lang/String" := f829.keep K827q
  have f842 : Exa Z T827.heap r_818 "java/lang/String" := c818_0.keep K827q
  dsimp only [Pt.U, Pt.locs, Pt.cells, Pt.slots] at X839 l839 y839 z839 st839 hQ839
  replace X839 := own_num (c' := 10) (n' := 25) X839 l839 (y839.trans rfl) (z839.trans rfl)
  obtain ⟨r_839, rb_839, kr_839, rfl, N839q, K839q, c839_0, c839_1, c839_2, c839_3, c839_4, c839_5, c839_6, c839_7, c839_8⟩ := hQ839
  have N839 := Fr.app N827 N839q
  have Z839 : n0 ≤ T839.heap.size := Nat.le_trans Z827 K839q.1
  have K839 : Keep h0 T839.heap [] := K827.trans K839q all0
  have ne843 : r_808 ≠ r_839 := Nat.ne_of_lt (Nat.lt_of_lt_of_le f840.lt c839_6)
  have ne844 : r_812 ≠ r_839 := Nat.ne_of_lt (Nat.lt_of_lt_of_le f841.lt c839_6)
  have ne845 : r_818 ≠ r_839 := Nat.ne_of_lt (Nat.lt_of_lt_of_le f842.lt c839_6)
  have ne846 : r_827 ≠ r_839 := Nat.ne_of_lt (Nat.lt_of_lt_of_le c827_0.lt c839_6)
  have z847 : h0.size ≤ r_839 := Nat.le_trans K827.1 c839_6
  have ne848 : r_808 ≠ rb_839 := Nat.ne_of_lt (Nat.lt_of_lt_of_le f840.lt c839_7)
  have ne849 : r_812 ≠ rb_839 := Nat.ne_of_lt (Nat.lt_of_lt_of_le f841.lt c839_7)
  have ne850 : r_818 ≠ rb_839 := Nat.ne_of_lt (Nat.lt_of_lt_of_le f842.lt c839_7)
  have ne851 : r_827 ≠ rb_839 := Nat.ne_of_lt (Nat.lt_of_lt_of_le c827_0.lt c839_7)
  have z852 : h0.size ≤ rb_839 := Nat.le_trans K827.1 c839_7
  refine own_on st839 ?_
  show OwnGo p e below s _ _ _ (T839.setTop (mkF m 86 #[.val (.int xa), .val (.int xb), .val (.int xc), .val (.int ((xa &&& (3 : Int32)) % (3 : Int32))), .val (.int ((((xa.toUInt32 >>> ((2 : Int32) &&& 31).toUInt32).toInt32) &&& (3 : Int32)) % (3 : Int32))), .val (.int ((((xa.toUInt32 >>> ((4 : Int32) &&& 31).toUInt32).toInt32) &&& (3 : Int32)) % (3 : Int32))), .val (.ref r_808), .val (.ref r_812), .val (.ref r_818), .val (.ref r_827), .unset, .unset, .unset, .unset, .unset, .unset, .unset, .unset, .unset] [(.ref r_839)]))
  refine own_on (fun t_ k_ => XS.astore X839.here hx rfl (hb hby at_86) rfl rfl (l' := #[.val (.int xa), .val (.int xb), .val (.int xc), .val (.int ((xa &&& (3 : Int32)) % (3 : Int32))), .val (.int ((((xa.toUInt32 >>> ((2 : Int32) &&& 31).toUInt32).toInt32) &&& (3 : Int32)) % (3 : Int32))), .val (.int ((((xa.toUInt32 >>> ((4 : Int32) &&& 31).toUInt32).toInt32) &&& (3 : Int32)) % (3 : Int32))), .val (.ref r_808), .val (.ref r_812), .val (.ref r_818), .val (.ref r_827), .val (.ref r_839), .unset, .unset, .unset, .unset, .unset, .unset, .unset, .unset]) rfl k_) ?_
  show OwnGo p e below s _ _ _ (T839.setTop (mkF m 88 #[.val (.int xa), .val (.int xb), .val (.int xc), .val (.int ((xa &&& (3 : Int32)) % (3 : Int32))), .val (.int ((((xa.toUInt32 >>> ((2 : Int32) &&& 31).toUInt32).toInt32) &&& (3 : Int32)) % (3 : Int32))), .val (.int ((((xa.toUInt32 >>> ((4 : Int32) &&& 31).toUInt32).toInt32) &&& (3 : Int32)) % (3 : Int32))), .val (.ref r_808), .val (.ref r_812), .val (.ref r_818), .val (.ref r_827), .val (.ref r_839), .unset, .unset, .unset, .unset, .unset, .unset, .unset, .unset] []))
  refine own_on (fun t_ k_ => XS.iloadN X839.here hx rfl (hb hby at_88) rfl k_) ?_
  show OwnGo p e below s _ _ _ (T839.setTop (mkF m 89 #[.val (.int xa), .val (.int xb), .val (.int xc), .val (.int ((xa &&& (3 : Int32)) % (3 : Int32))), .val (.int ((((xa.toUInt32 >>> ((2 : Int32) &&& 31).toUInt32).toInt32) &&& (3 : Int32)) % (3 : Int32))), .val (.int ((((xa.toUInt32 >>> ((4 : Int32) &&& 31).toUInt32).toInt32) &&& (3 : Int32)) % (3 : Int32))), .val (.ref r_808), .val (.ref r_812), .val (.ref r_818), .val (.ref r_827), .val (.ref r_839), .unset, .unset, .unset, .unset, .unset, .unset, .unset, .unset] [(.int xc)]))
  refine own_on (fun t_ k_ => XS.bipush X839.here hx rfl (hb hby at_89) k_) ?_
  show OwnGo p e below s _ _ _ (T839.setTop (mkF m 91 #[.val (.int xa), .val (.int xb), .val (.int xc), .val (.int ((xa &&& (3 : Int32)) % (3 : Int32))), .val (.int ((((xa.toUInt32 >>> ((2 : Int32) &&& 31).toUInt32).toInt32) &&& (3 : Int32)) % (3 : Int32))), .val (.int ((((xa.toUInt32 >>> ((4 : Int32) &&& 31).toUInt32).toInt32) &&& (3 : Int32)) % (3 : Int32))), .val (.ref r_808), .val (.ref r_812), .val (.ref r_818), .val (.ref r_827), .val (.ref r_839), .unset, .unset, .unset, .unset, .unset, .unset, .unset, .unset] [(.int (8 : Int32)), (.int xc)]))
  refine own_on (fun t_ k_ => XS.iushr X839.here hx rfl (hb hby at_91) rfl k_) ?_
  show OwnGo p e below s _ _ _ (T839.setTop (mkF m 92 #[.val (.int xa), .val (.int xb), .val (.int xc), .val (.int ((xa &&& (3 : Int32)) % (3 : Int32))), .val (.int ((((xa.toUInt32 >>> ((2 : Int32) &&& 31).toUInt32).toInt32) &&& (3 : Int32)) % (3 : Int32))), .val (.int ((((xa.toUInt32 >>> ((4 : Int32) &&& 31).toUInt32).toInt32) &&& (3 : Int32)) % (3 : Int32))), .val (.ref r_808), .val (.ref r_812), .val (.ref r_818), .val (.ref r_827), .val (.ref r_839), .unset, .unset, .unset, .unset, .unset, .unset, .unset, .unset] [(.int ((xc.toUInt32 >>> ((8 : Int32) &&& 31).toUInt32).toInt32))]))
  refine own_on (fun t_ k_ => XS.sipush X839.here hx rfl (hb hby at_92) k_) ?_
  show OwnGo p e below s _ _ _ (T839.setTop (mkF m 95 #[.val (.int xa), .val (.int xb), .val (.int xc), .val (.int ((xa &&& (3 : Int32)) % (3 : Int32))), .val (.int ((((xa.toUInt32 >>> ((2 : Int32) &&& 31).toUInt32).toInt32) &&& (3 : Int32)) % (3 : Int32))), .val (.int ((((xa.toUInt32 >>> ((4 : Int32) &&& 31).toUInt32).toInt32) &&& (3 : Int32)) % (3 : Int32))), .val (.ref r_808), .val (.ref r_812), .val (.ref r_818), .val (.ref r_827), .val (.ref r_839), .unset, .unset, .unset, .unset, .unset, .unset, .unset, .unset] [(.int (255 : Int32)), (.int ((xc.toUInt32 >>> ((8 : Int32) &&& 31).toUInt32).toInt32))]))
  refine own_on (fun t_ k_ => XS.iand X839.here hx rfl (hb hby at_95) rfl k_) ?_
  show OwnGo p e below s _ _ _ (T839.setTop (mkF m 96 #[.val (.int xa), .val (.int xb), .val (.int xc), .val (.int ((xa &&& (3 : Int32)) % (3 : Int32))), .val (.int ((((xa.toUInt32 >>> ((2 : Int32) &&& 31).toUInt32).toInt32) &&& (3 : Int32)) % (3 : Int32))), .val (.int ((((xa.toUInt32 >>> ((4 : Int32) &&& 31).toUInt32).toInt32) &&& (3 : Int32)) % (3 : Int32))), .val (.ref r_808), .val (.ref r_812), .val (.ref r_818), .val (.ref r_827), .val (.ref r_839), .unset, .unset, .unset, .unset, .unset, .unset, .unset, .unset] [(.int (((xc.toUInt32 >>> ((8 : Int32) &&& 31).toUInt32).toInt32) &&& (255 : Int32)))]))
  refine own_on (fun t_ k_ => XS.i2c X839.here hx rfl (hb hby at_96) rfl k_) ?_
  show OwnGo p e below s _ _ _ (T839.setTop (mkF m 97 #[.val (.int xa), .val (.int xb), .val (.int xc), .val (.int ((xa &&& (3 : Int32)) % (3 : Int32))), .val (.int ((((xa.toUInt32 >>> ((2 : Int32) &&& 31).toUInt32).toInt32) &&& (3 : Int32)) % (3 : Int32))), .val (.int ((((xa.toUInt32 >>> ((4 : Int32) &&& 31).toUInt32).toInt32) &&& (3 : Int32)) % (3 : Int32))), .val (.ref r_808), .val (.ref r_812), .val (.ref r_818), .val (.ref r_827), .val (.ref r_839), .unset, .unset, .unset, .unset, .unset, .unset, .unset, .unset] [(.int ((((xc.toUInt32 >>> ((8 : Int32) &&& 31).toUInt32).toInt32) &&& (255 : Int32)).toUInt32.toUInt16.toUInt32.toInt32))]))
  have hr853 : ¬ (255 : Int32) < ((((xc.toUInt32 >>> ((8 : Int32) &&& 31).toUInt32).toInt32) &&& (255 : Int32)).toUInt32.toUInt16.toUInt32.toInt32) := own_c255 _
  obtain ⟨_, _, ⟨T854, L854, k854, n854⟩, -, X854, ⟨Lc854, hQ854, l854, y854, z854⟩, st854⟩ := Jvm.LawKit.callS X839 hx (y := (⟨"java/lang/String", "valueOf", "(C)Ljava/lang/String;"⟩ : MethodName)) hown (mvT hZ (w0 hw)) (mvT hZ (w1 hw)) (mvT hZ (w2 hw)) (mvT hZ (w3 hw)) (by decide) (backOf (W := 0) (rm1 l Z a0 hw [] ((((xc.toUInt32 >>> ((8 : Int32) &&& 31).toUInt32).toInt32) &&& (255 : Int32)).toUInt32.toUInt16.toUInt32.toInt32) cs T839.heap n0 Z839 c839_8 P1 P2 hr853) hZ (w3 hw) (w2 hw) (by decide) (by decide)) (g := (mkF m 97 #[.val (.int xa), .val (.int xb), .val (.int xc), .val (.int ((xa &&& (3 : Int32)) % (3 : Int32))), .val (.int ((((xa.toUInt32 >>> ((2 : Int32) &&& 31).toUInt32).toInt32) &&& (3 : Int32)) % (3 : Int32))), .val (.int ((((xa.toUInt32 >>> ((4 : Int32) &&& 31).toUInt32).toInt32) &&& (3 : Int32)) % (3 : Int32))), .val (.ref r_808), .val (.ref r_812), .val (.ref r_818), .val (.ref r_827), .val (.ref r_839), .unset, .unset, .unset, .unset, .unset, .unset, .unset, .unset] [(.int ((((xc.toUInt32 >>> ((8 : Int32) &&& 31).toUInt32).toInt32) &&& (255 : Int32)).toUInt32.toUInt16.toUInt32.toInt32))])) rfl (by rw [hml]; rfl) (argsL := [(.int ((((xc.toUInt32 >>> ((8 : Int32) &&& 31).toUInt32).toInt32) &&& (255 : Int32)).toUInt32.toUInt16.toUInt32.toInt32))]) (rest := []) (lenOf pd_20 rfl) rfl (by show 2 * 0 + _ ≤ _; exact Nat.le_of_eq rfl) (hb hby at_97) (fun _ hWx => ⟨rfl, rfl, (by decide : 10 + 2 ≤ _), (by decide : 25 + 5 ≤ _)⟩)
  have f855 : Exa Z T839.heap r_808 "java/lang/String" := f840.keep K839q
  have f856 : Exa Z T839.heap r_812 "java/lang/String" := f841.keep K839q
  have f857 : Exa Z T839.heap r_818 "java/lang/String" := f842.keep K839q
  have f858 : Exa Z T839.heap r_827 "java/lang/String" := c827_0.keep K839q
  dsimp only [Pt.U, Pt.locs, Pt.cells, Pt.slots] at X854 l854 y854 z854 st854 hQ854
  replace X854 := own_num (c' := 12) (n' := 30) X854 l854 (y854.trans rfl) (z854.trans rfl)
  obtain ⟨r_854, rb_854, kr_854, rfl, N854q, K854q, c854_0, c854_1, c854_2, c854_3, c854_4, c854_5, c854_6, c854_7, c854_8⟩ := hQ854
  have N854 := Fr.app N839 N854q
  have Z854 : n0 ≤ T854.heap.size := Nat.le_trans Z839 K854q.1
  have K854 : Keep h0 T854.heap [] := K839.trans K854q all0
  have ne859 : r_808 ≠ r_854 := Nat.ne_of_lt (Nat.lt_of_lt_of_le f855.lt c854_6)
  have ne860 : r_812 ≠ r_854 := Nat.ne_of_lt (Nat.lt_of_lt_of_le f856.lt c854_6)
  have ne861 : r_818 ≠ r_854 := Nat.ne_of_lt (Nat.lt_of_lt_of_le f857.lt c854_6)
  have ne862 : r_827 ≠ r_854 := Nat.ne_of_lt (Nat.lt_of_lt_of_le f858.lt c854_6)
  have ne863 : r_839 ≠ r_854 := Nat.ne_of_lt (Nat.lt_of_lt_of_le c839_0.lt c854_6)
  have z864 : h0.size ≤ r_854 := Nat.le_trans K839.1 c854_6
  have ne865 : r_808 ≠ rb_854 := Nat.ne_of_lt (Nat.lt_of_lt_of_le f855.lt c854_7)
  have ne866 : r_812 ≠ rb_854 := Nat.ne_of_lt (Nat.lt_of_lt_of_le f856.lt c854_7)
  have ne867 : r_818 ≠ rb_854 := Nat.ne_of_lt (Nat.lt_of_lt_of_le f857.lt c854_7)
  have ne868 : r_827 ≠ rb_854 := Nat.ne_of_lt (Nat.lt_of_lt_of_le f858.lt c854_7)
  have ne869 : r_839 ≠ rb_854 := Nat.ne_of_lt (Nat.lt_of_lt_of_le c839_0.lt c854_7)
  have z870 : h0.size ≤ rb_854 := Nat.le_trans K839.1 c854_7
  refine own_on st854 ?_
  show OwnGo p e below s _ _ _ (T854.setTop (mkF m 100 #[.val (.int xa), .val (.int xb), .val (.int xc), .val (.int ((xa &&& (3 : Int32)) % (3 : Int32))), .val (.int ((((xa.toUInt32 >>> ((2 : Int32) &&& 31).toUInt32).toInt32) &&& (3 : Int32)) % (3 : Int32))), .val (.int ((((xa.toUInt32 >>> ((4 : Int32) &&& 31).toUInt32).toInt32) &&& (3 : Int32)) % (3 : Int32))), .val (.ref r_808), .val (.ref r_812), .val (.ref r_818), .val (.ref r_827), .val (.ref r_839), .unset, .unset, .unset, .unset, .unset, .unset, .unset, .unset] [(.ref r_854)]))
  refine own_on (fun t_ k_ => XS.astore X854.here hx rfl (hb hby at_100) rfl rfl (l' := #[.val (.int xa), .val (.int xb), .val (.int xc), .val (.int ((xa &&& (3 : Int32)) % (3 : Int32))), .val (.int ((((xa.toUInt32 >>> ((2 : Int32) &&& 31).toUInt32).toInt32) &&& (3 : Int32)) % (3 : Int32))), .val (.int ((((xa.toUInt32 >>> ((4 : Int32) &&& 31).toUInt32).toInt32) &&& (3 : Int32)) % (3 : Int32))), .val (.ref r_808), .val (.ref r_812), .val (.ref r_818), .val (.ref r_827), .val (.ref r_839), .val (.ref r_854), .unset, .unset, .unset, .unset, .unset, .unset, .unset]) rfl k_) ?_
  show OwnGo p e below s _ _ _ (T854.setTop (mkF m 102 #[.val (.int xa), .val (.int xb), .val (.int xc), .val (.int ((xa &&& (3 : Int32)) % (3 : Int32))), .val (.int ((((xa.toUInt32 >>> ((2 : Int32) &&& 31).toUInt32).toInt32) &&& (3 : Int32)) % (3 : Int32))), .val (.int ((((xa.toUInt32 >>> ((4 : Int32) &&& 31).toUInt32).toInt32) &&& (3 : Int32)) % (3 : Int32))), .val (.ref r_808), .val (.ref r_812), .val (.ref r_818), .val (.ref r_827), .val (.ref r_839), .val (.ref r_854), .unset, .unset, .unset, .unset, .unset, .unset, .unset] []))
  have f871 : Exa Z T854.heap r_808 "java/lang/String" := f855.keep K854q
  have f872 : Exa Z T854.heap r_812 "java/lang/String" := f856.keep K854q
  have f873 : Exa Z T854.heap r_818 "java/lang/String" := f857.keep K854q
  have f874 : Exa Z T854.heap r_827 "java/lang/String" := f858.keep K854q
  have f875 : Exa Z T854.heap r_839 "java/lang/String" := c839_0.keep K854q
  exact J102 _ _ _ (X854.more (by decide) (by decide)) rfl N854 Z854 K854 ((xa &&& (3 : Int32)) % (3 : Int32)) ((((xa.toUInt32 >>> ((2 : Int32) &&& 31).toUInt32).toInt32) &&& (3 : Int32)) % (3 : Int32)) ((((xa.toUInt32 >>> ((4 : Int32) &&& 31).toUInt32).toInt32) &&& (3 : Int32)) % (3 : Int32)) r_808 r_812 r_818 r_827 r_839 r_854 c854_8 f871 f872 f873 f874 f875 c854_0 (own_r3 _) (own_r3 _) (own_r3 _)
set_option maxRecDepth 65536 in
set_option maxHeartbeats 40000000 in
theorem comes_1 {Post : Tables → Env → Array Value → State → Outcome → State → Prop} (hpost : ∀ tb e args s v u, (limb_1_1.after args s (.returned v) u = true ∧ limb_1_2.after args s (.returned v) u = true ∧ True) → FrameEnd s (.returned v) u (Jvm.fieldLocs frame_1_writes args s ++ Jvm.arrayLocs frame_1_arrays args s ++ Jvm.staticLocs frame_1_statics s) 64 320 → Post tb e args s (.returned v) u) :
    ArmFor flags0 classFile x code maxLocals ret World_1 tables_1 room_1 Calls_1 rest_1 Pre_1 Post := by
  intro l hfl _ _ p e ha hc hk s m args below hf hA hF happ hP
  obtain ⟨hcalls, hrest, hpre⟩ := hP
  obtain ⟨-, -, -, hnamed, -, -, -, hat⟩ := (Spec.applies_iff hf).mp happ
  obtain ⟨hg, hn⟩ := and_e (Cond.before_iff.mp (show (Jvm.Cond.and given_1 narrow_1).before args s = true from hpre))
  obtain ⟨gc, gr0⟩ := and_e hg
  obtain ⟨gi0, gr1⟩ := and_e gr0
  obtain ⟨gi1, gr2⟩ := and_e gr1
  have gi2 := gr2
  obtain ⟨w_0, w_1, w_2, rfl⟩ : ∃ w_0 w_1 w_2 : Value, args = #[w_0, w_1, w_2] := by
    have hs : args.size = 3 := by simpa [Cond.value, given_1] using gc
    obtain ⟨L⟩ := args
    match L, hs with
    | [w_0, w_1, w_2], _ => exact ⟨w_0, w_1, w_2, rfl⟩
  have hw := fun d (hd : d ∈ tables_1) => atoms_spec (ws := Jvm.Cond.code x code maxLocals ret :: tables_1) hat d (List.mem_cons_of_mem _ hd)
  have hfit : Fit s := fun {y c} hc i hi => by
    obtain ⟨ha, rfl⟩ := Array.getElem?_eq_some_iff.mp hc
    have q := List.all_eq_true.mp ((Array.all_eq_true_iff_forall_mem.mp hF) _ (Array.getElem_mem ha)) i (List.mem_range.mpr hi)
    simpa [Array.getElem?_eq_getElem hi] using q
  obtain ⟨hsets, hown0⟩ := atoms_of _ (rest_1_c_eq ▸ (show rest_1_c.before _ s = true from hrest))
  obtain ⟨i0, ei0⟩ := is_v gi0
  obtain rfl : w_0 = (.int i0) := Option.some.inj ei0
  obtain ⟨i1, ei1⟩ := is_v gi1
  obtain rfl : w_1 = (.int i1) := Option.some.inj ei1
  obtain ⟨i2, ei2⟩ := is_v gi2
  obtain rfl : w_2 = (.int i2) := Option.some.inj ei2
  obtain ⟨cs, ecs⟩ := is_v (Cond.before_iff.mp (hsets _ (List.mem_of_getElem? (i := 1) rfl)))
  obtain ⟨em, eem⟩ := arr_v (Cond.before_iff.mp (hsets _ (List.mem_of_getElem? (i := 12) rfl)))
  obtain ⟨dc, edc⟩ := arr_v (Cond.before_iff.mp (hsets _ (List.mem_of_getElem? (i := 15) rfl)))
  obtain ⟨⟨cA, kA, mr, mA1, mA2, mA3⟩, ⟨cL, kL, ml, mL1, mL2, mL3⟩, -⟩ := hcalls
  have AD := own_empty hfit edc (hsets _ (List.mem_of_getElem? (i := 15) rfl)) (hsets _ (List.mem_of_getElem? (i := 16) rfl)) (hsets _ (List.mem_of_getElem? (i := 17) rfl))
  have AE := own_empty hfit eem (hsets _ (List.mem_of_getElem? (i := 12) rfl)) (hsets _ (List.mem_of_getElem? (i := 13) rfl)) (hsets _ (List.mem_of_getElem? (i := 14) rfl))
  have SD := Sta.start edc (Or.inr ⟨(w28 hw), (hsets _ (List.mem_of_getElem? (i := 11) rfl))⟩)
  have SE := Sta.start eem (Or.inl (hsets _ (List.mem_of_getElem? (i := 10) rfl)))
  obtain ⟨n, o, h1, h2, h3, _, L, rfl, ⟨rfl, N, _⟩, hq⟩ := rm0 l s _ hw tables_1 i0 i1 i2 cs dc em mr ml s.heap s.heap.size (Nat.le_refl _) (Old.start s) (Sta.start ecs (Or.inl (hsets _ (List.mem_of_getElem? (i := 0) rfl)))) (own_nz ecs (Cond.before_iff.mp (hsets _ (List.mem_of_getElem? (i := 2) rfl)))) SD AD SE AE ⟨cA, kA, mA1, mA2, mA3.1⟩ ⟨cL, kL, mL1, mL2, mL3.1⟩ p e ha hc hk s m _ below hf ((Spec.applies_iff_loose hf).mp happ).1 ⟨rfl, State.Warmed39.refl s, rfl⟩ trivial
  refine ⟨n, _, h1, h2, h3, hpost _ _ _ _ _ _ ⟨Cond.after_iff.mpr rfl, Cond.after_iff.mpr (eq_i res_at (Term.int_eval (1)) rfl), trivial⟩ ⟨hq.1, hq.2.1, (hq.2.2.sift fun y hy => Or.inr (N y hy)).mono (by decide) (by decide)⟩⟩
theorem main_1_1 : Claimed_1_1 := comes_1 fun _ _ _ _ _ _ h hF => ⟨h.1, hF⟩
theorem main_1_2 : Claimed_1_2 := comes_1 fun _ _ _ _ _ _ h hF => ⟨h.2.1, hF⟩
end Jvm.Pilot.@@N@@
namespace Jvm.Pilot.@@N@@
open Jvm Jvm.ClassFile Sem Op Lib Jvm.Free Jvm.Stand Jvm.Pilot.@@N@@.Jvm.D
/-! MADE BY PROGRAM (witnessworld.py) out of the Statement's table words and the real class files: 33 classes; the members and pool entries that the words name. The judged class is class 1, her method 2. -/
namespace start1
open Jvm.ClassFile
def u (s : String) : CpInfo := .utf8 (stringToUtf16 s)
/-- a pool by its gaps: so many unusable entries, then the entry; so many at the end -/
def gap : Nat → List CpInfo → List CpInfo
  | 0, r => r
  | n + 1, r => .unusable :: gap n r
def poolList (es : List (Nat × CpInfo)) (last : Nat) : List CpInfo := es.foldr (fun e r => gap e.1 (e.2 :: r)) (gap last [])
def pool (es : List (Nat × CpInfo)) (last : Nat) : Array CpInfo := ⟨poolList es last⟩
def fileOf (pool : Array CpInfo) (this : Nat) (attrs : Array Attribute := #[]) (ms : Array MethodInfo := #[]) (fl : Nat := 33) (sup : Nat := 0) (ifs : Array Nat := #[]) (fds : Array FieldInfo := #[]) : ClassFile where
  minorVersion := 0
  majorVersion := 65
  constantPool := pool
  accessFlags := fl
  thisClass := this
  superClass := sup
  interfaces := ifs
  fields := fds
  methods := ms
  attributes := attrs
def plain (name : String) (sup : Option ClassId) : Class where
  name := name
  kind := .ordinary
  loader := none
  accessFlags := 33
  super := sup
  interfaces := #[]
  cf := none
  fields := #[]
  methods := #[]
  instanceTypes := #[]
  staticTypes := #[]
  resolved := #[]
  callSites := []
  init := .initialized
  statics := none
  mirror := none

def pool0 : Array CpInfo := pool [(5, u "<init>"), (0, u "()V"), (1, .class_ 10), (1, u "java/lang/Object"), (0, u "getClass"), (0, u "()Ljava/lang/Class;")] 111

def k0c0 : Code := { maxStack := 0, maxLocals := 1, code := object_method_1_code, exceptionTable := #[], attributes := #[] }
def k0m0 : Method := { name := "<init>", desc := "()V", sig := { parameters := [], returnType := none }, accessFlags := 1, code := some k0c0 }
def k0m1 : Method := { name := "getClass", desc := "()Ljava/lang/Class;", sig := { parameters := [], returnType := some (.object "java/lang/Class") }, accessFlags := 273, code := none }
/-- java/lang/Object -/
def k0 : Class := { plain "java/lang/Object" none with
  accessFlags := 33
  interfaces := #[]
  cf := some (fileOf pool0 8 #[] #[{ accessFlags := 1, nameIndex := 5, descriptorIndex := 6, attributes := #[] }, { accessFlags := 273, nameIndex := 11, descriptorIndex := 12, attributes := #[] }] 33 0 #[] #[])
  fields := #[]
  methods := #[k0m0, k0m1]
  instanceTypes := #[]
  staticTypes := #[]
  resolved := Array.replicate 124 none
  statics := none }

def pool1 : Array CpInfo := pool [(2, .class_ 4), (0, .nameAndType 5 6), (0, u "java/lang/Object"), (0, u "<init>"), (0, u "()V"), (0, .interfaceMethodref 8 9), (0, .class_ 10), (0, .nameAndType 11 12), (0, u "java/util/List"), (0, u "get"), (0, u "(I)Ljava/lang/Object;"), (0, .class_ 14), (0, u "java/lang/String"), (0, .methodref 13 16), (0, .nameAndType 17 18), (0, u "equals"), (0, u "(Ljava/lang/Object;)Z"), (0, .methodref 13 20), (0, .nameAndType 21 22), (0, u "valueOf"), (0, u "(C)Ljava/lang/String;"), (0, .class_ 24), (0, u "java/util/ArrayList"), (0, .methodref 23 3), (0, .interfaceMethodref 8 27), (0, .nameAndType 28 18), (0, u "add"), (0, .class_ 30), (0, u "com/example/fachwissen/fachwissen/mail/Message"), (0, .methodref 29 32), (0, .nameAndType 5 33), (0, u "(Ljava/util/List;Ljava/util/List;Ljava/util/List;)V"), (0, .methodref 29 35), (0, .nameAndType 36 37), (0, u "associationTexts"), (0, u "()Ljava/util/List;"), (0, .interfaceMethodref 8 39), (0, .nameAndType 40 41), (0, u "size"), (0, u "()I"), (0, .methodref 43 44), (0, .class_ 45), (0, .nameAndType 46 47), (0, u "com/example/fachwissen/fachwissen/mail/MessageAssociationTextsPinLaw"), (0, u "at"), (0, u "(Ljava/util/List;[Ljava/lang/String;II)Z"), (5, u "law"), (0, u "(III)Z")] 4

def k1m0 : Method := { name := "<init>", desc := "()V", sig := { parameters := [], returnType := none }, accessFlags := 1, code := none }
def k1c1 : Code := { maxStack := 3, maxLocals := 4, code := method_2_code, exceptionTable := #[], attributes := #[] }
def k1m1 : Method := { name := "at", desc := "(Ljava/util/List;[Ljava/lang/String;II)Z", sig := { parameters := [(.object "java/util/List"), (.array (.object "java/lang/String")), .int, .int], returnType := some .boolean }, accessFlags := 10, code := some k1c1 }
def k1c2 : Code := { maxStack := 5, maxLocals := 19, code := code, exceptionTable := #[], attributes := #[] }
def k1m2 : Method := { name := "law", desc := "(III)Z", sig := { parameters := [.int, .int, .int], returnType := some .boolean }, accessFlags := 9, code := some k1c2 }
/-- com/example/fachwissen/fachwissen/mail/MessageAssociationTextsPinLaw -/
def k1 : Class := { plain "com/example/fachwissen/fachwissen/mail/MessageAssociationTextsPinLaw" (some 0) with
  accessFlags := 49
  interfaces := #[]
  cf := some (fileOf pool1 43 #[] #[{ accessFlags := 1, nameIndex := 5, descriptorIndex := 6, attributes := #[] }, { accessFlags := 10, nameIndex := 46, descriptorIndex := 47, attributes := #[] }, { accessFlags := 9, nameIndex := 53, descriptorIndex := 54, attributes := #[] }] 49 2 #[] #[])
  fields := #[]
  methods := #[k1m0, k1m1, k1m2]
  instanceTypes := #[]
  staticTypes := #[]
  resolved := Array.replicate 59 none
  statics := none }

def pool2 : Array CpInfo := pool [(1, .class_ 2), (0, u "java/io/Serializable"), (0, .class_ 4), (0, u "java/lang/Object")] 2

/-- java/io/Serializable -/
def k2 : Class := { plain "java/io/Serializable" (some 0) with
  accessFlags := 1537
  interfaces := #[]
  cf := some (fileOf pool2 1 #[] #[] 1537 3 #[] #[])
  fields := #[]
  methods := #[]
  instanceTypes := #[]
  staticTypes := #[]
  resolved := Array.replicate 7 none
  statics := none }

def pool3 : Array CpInfo := pool [(1, .class_ 2), (0, u "java/lang/Comparable"), (0, .class_ 4), (0, u "java/lang/Object")] 7

/-- java/lang/Comparable -/
def k3 : Class := { plain "java/lang/Comparable" (some 0) with
  accessFlags := 1537
  interfaces := #[]
  cf := some (fileOf pool3 1 #[] #[] 1537 3 #[] #[])
  fields := #[]
  methods := #[]
  instanceTypes := #[]
  staticTypes := #[]
  resolved := Array.replicate 12 none
  statics := none }

def pool4 : Array CpInfo := pool [(2, .class_ 4), (1, u "java/lang/CharSequence"), (42, .class_ 48), (0, u "java/lang/CharSequence$1CodePointIterator"), (10, .class_ 60), (0, u "java/lang/CharSequence$1CharIterator"), (5, .class_ 67), (0, u "java/lang/Object")] 63

/-- java/lang/CharSequence -/
def k4 : Class := { plain "java/lang/CharSequence" (some 0) with
  accessFlags := 1537
  interfaces := #[]
  cf := some (fileOf pool4 2 #[.nestMembers #[47, 59]] #[] 1537 66 #[] #[])
  fields := #[]
  methods := #[]
  instanceTypes := #[]
  staticTypes := #[]
  resolved := Array.replicate 131 none
  statics := none }

def pool5 : Array CpInfo := pool [(1, .class_ 2), (0, u "java/lang/constant/Constable"), (0, .class_ 4), (0, u "java/lang/Object")] 6

/-- java/lang/constant/Constable -/
def k5 : Class := { plain "java/lang/constant/Constable" (some 0) with
  accessFlags := 1537
  interfaces := #[]
  cf := some (fileOf pool5 1 #[] #[] 1537 3 #[] #[])
  fields := #[]
  methods := #[]
  instanceTypes := #[]
  staticTypes := #[]
  resolved := Array.replicate 11 none
  statics := none }

def pool6 : Array CpInfo := pool [(1, .class_ 2), (0, u "java/lang/constant/ConstantDesc"), (0, .class_ 4), (0, u "java/lang/Object")] 32

/-- java/lang/constant/ConstantDesc -/
def k6 : Class := { plain "java/lang/constant/ConstantDesc" (some 0) with
  accessFlags := 1537
  interfaces := #[]
  cf := some (fileOf pool6 1 #[] #[] 1537 3 #[] #[])
  fields := #[]
  methods := #[]
  instanceTypes := #[]
  staticTypes := #[]
  resolved := Array.replicate 37 none
  statics := none }

def pool7 : Array CpInfo := pool [(1, .methodref 2 3), (0, .class_ 4), (0, .nameAndType 5 6), (0, u "java/lang/Object"), (0, u "<init>"), (0, u "()V"), (2, .fieldref 10 11), (0, .class_ 12), (0, .nameAndType 13 14), (0, u "java/lang/String"), (0, u "value"), (0, u "[B"), (0, .fieldref 10 16), (0, .nameAndType 17 18), (0, u "coder"), (0, u "B"), (2, u "hash"), (0, u "I"), (2, u "hashIsZero"), (0, u "Z"), (11, .fieldref 10 39), (0, .nameAndType 40 26), (0, u "COMPACT_STRINGS"), (12, u "toBytes"), (53, .class_ 109), (1, u "java/lang/StringLatin1"), (99, .methodref 10 210), (0, .nameAndType 5 211), (0, u "([BB)V"), (157, u "(C)Z"), (173, u "equals"), (29, u "(Ljava/lang/Object;)Z"), (1, .class_ 576), (0, u "java/lang/CharSequence"), (22, u "CASE_INSENSITIVE_ORDER"), (0, u "Ljava/util/Comparator;"), (181, u "valueOf"), (0, u "(C)Ljava/lang/String;"), (231, .methodref 107 1016), (0, .nameAndType 1017 369), (0, u "canEncode"), (0, .methodref 107 1019), (0, .nameAndType 53 1020), (0, u "(C)[B"), (80, u "serialPersistentFields"), (0, u "[Ljava/io/ObjectStreamField;"), (0, .class_ 1104), (0, u "java/lang/String$CaseInsensitiveComparator"), (1, .class_ 1107), (0, u "java/io/Serializable"), (0, .class_ 1109), (0, u "java/lang/Comparable"), (0, .class_ 1111), (0, u "java/lang/constant/Constable"), (0, .class_ 1113), (0, u "java/lang/constant/ConstantDesc"), (2, u "serialVersionUID"), (0, u "J"), (3, u "REPL"), (0, u "C"), (2, u "LATIN1"), (1, u "UTF16")] 323

def k7m0 : Method := { name := "<init>", desc := "()V", sig := { parameters := [], returnType := none }, accessFlags := 1, code := none }
def k7c1 : Code := { maxStack := 2, maxLocals := 3, code := jdk_42_method_66_code, exceptionTable := #[], attributes := #[] }
def k7m1 : Method := { name := "equals", desc := "(Ljava/lang/Object;)Z", sig := { parameters := [(.object "java/lang/Object")], returnType := some .boolean }, accessFlags := 1, code := some k7c1 }
def k7c2 : Code := { maxStack := 4, maxLocals := 1, code := jdk_42_method_139_code, exceptionTable := #[], attributes := #[] }
def k7m2 : Method := { name := "valueOf", desc := "(C)Ljava/lang/String;", sig := { parameters := [.char], returnType := some (.object "java/lang/String") }, accessFlags := 9, code := some k7c2 }
def k7c3 : Code := { maxStack := 2, maxLocals := 3, code := jdk_42_method_151_code, exceptionTable := #[], attributes := #[] }
def k7m3 : Method := { name := "<init>", desc := "([BB)V", sig := { parameters := [(.array .byte), .byte], returnType := none }, accessFlags := 0, code := some k7c3 }
/-- java/lang/String -/
def k7 : Class := { plain "java/lang/String" (some 0) with
  accessFlags := 49
  interfaces := #[2, 3, 4, 5, 6]
  cf := some (fileOf pool7 10 #[.nestMembers #[1103]] #[{ accessFlags := 1, nameIndex := 5, descriptorIndex := 6, attributes := #[] }, { accessFlags := 1, nameIndex := 543, descriptorIndex := 573, attributes := #[] }, { accessFlags := 9, nameIndex := 782, descriptorIndex := 783, attributes := #[] }, { accessFlags := 0, nameIndex := 5, descriptorIndex := 211, attributes := #[] }] 49 2 #[1106, 1108, 575, 1110, 1112] #[{ accessFlags := 18, nameIndex := 13, descriptorIndex := 14, attributes := #[] }, { accessFlags := 18, nameIndex := 17, descriptorIndex := 18, attributes := #[] }, { accessFlags := 2, nameIndex := 21, descriptorIndex := 22, attributes := #[] }, { accessFlags := 2, nameIndex := 25, descriptorIndex := 26, attributes := #[] }, { accessFlags := 26, nameIndex := 1116, descriptorIndex := 1117, attributes := #[] }, { accessFlags := 24, nameIndex := 40, descriptorIndex := 26, attributes := #[] }, { accessFlags := 26, nameIndex := 1101, descriptorIndex := 1102, attributes := #[] }, { accessFlags := 26, nameIndex := 1121, descriptorIndex := 1122, attributes := #[] }, { accessFlags := 25, nameIndex := 599, descriptorIndex := 600, attributes := #[] }, { accessFlags := 24, nameIndex := 1125, descriptorIndex := 18, attributes := #[] }, { accessFlags := 24, nameIndex := 1127, descriptorIndex := 18, attributes := #[] }])
  fields := #[{ name := "value", type := (.array .byte), accessFlags := 18, slot := 0, constantValue := 0 }, { name := "coder", type := .byte, accessFlags := 18, slot := 1, constantValue := 0 }, { name := "hash", type := .int, accessFlags := 2, slot := 2, constantValue := 0 }, { name := "hashIsZero", type := .boolean, accessFlags := 2, slot := 3, constantValue := 0 }, { name := "serialVersionUID", type := .long, accessFlags := 26, slot := 0, constantValue := 0 }, { name := "COMPACT_STRINGS", type := .boolean, accessFlags := 24, slot := 1, constantValue := 0 }, { name := "serialPersistentFields", type := (.array (.object "java/io/ObjectStreamField")), accessFlags := 26, slot := 2, constantValue := 0 }, { name := "REPL", type := .char, accessFlags := 26, slot := 3, constantValue := 0 }, { name := "CASE_INSENSITIVE_ORDER", type := (.object "java/util/Comparator"), accessFlags := 25, slot := 4, constantValue := 0 }, { name := "LATIN1", type := .byte, accessFlags := 24, slot := 5, constantValue := 0 }, { name := "UTF16", type := .byte, accessFlags := 24, slot := 6, constantValue := 0 }]
  methods := #[k7m0, k7m1, k7m2, k7m3]
  instanceTypes := #[(.array .byte), .byte, .int, .boolean]
  staticTypes := #[.long, .boolean, (.array (.object "java/io/ObjectStreamField")), .char, (.object "java/util/Comparator"), .byte, .byte]
  resolved := Array.replicate 1451 none
  statics := some 0 }

def pool8 : Array CpInfo := pool [(4, .class_ 6), (1, u "java/lang/Object"), (0, u "<init>"), (0, u "()V"), (5, .class_ 16), (1, u "java/lang/StringLatin1"), (73, u "canEncode"), (14, u "(C)Z"), (15, u "$assertionsDisabled"), (0, u "Z"), (98, .class_ 223), (1, u "java/lang/StringLatin1$LinesSpliterator"), (156, u "toBytes"), (1, u "(C)[B"), (7, .class_ 391), (0, u "java/lang/StringLatin1$CharsSpliterator")] 3

def k8m0 : Method := { name := "<init>", desc := "()V", sig := { parameters := [], returnType := none }, accessFlags := 0, code := none }
def k8c1 : Code := { maxStack := 2, maxLocals := 1, code := jdk_43_method_3_code, exceptionTable := #[], attributes := #[] }
def k8m1 : Method := { name := "canEncode", desc := "(C)Z", sig := { parameters := [.char], returnType := some .boolean }, accessFlags := 9, code := some k8c1 }
def k8c2 : Code := { maxStack := 4, maxLocals := 1, code := jdk_43_method_46_code, exceptionTable := #[], attributes := #[] }
def k8m2 : Method := { name := "toBytes", desc := "(C)[B", sig := { parameters := [.char], returnType := some (.array .byte) }, accessFlags := 9, code := some k8c2 }
/-- java/lang/StringLatin1 -/
def k8 : Class := { plain "java/lang/StringLatin1" (some 0) with
  accessFlags := 48
  interfaces := #[]
  cf := some (fileOf pool8 14 #[.nestMembers #[390, 221]] #[{ accessFlags := 0, nameIndex := 7, descriptorIndex := 8, attributes := #[] }, { accessFlags := 9, nameIndex := 90, descriptorIndex := 105, attributes := #[] }, { accessFlags := 9, nameIndex := 380, descriptorIndex := 382, attributes := #[] }] 48 4 #[] #[{ accessFlags := 4120, nameIndex := 121, descriptorIndex := 122, attributes := #[] }])
  fields := #[{ name := "$assertionsDisabled", type := .boolean, accessFlags := 4120, slot := 0, constantValue := 0 }]
  methods := #[k8m0, k8m1, k8m2]
  instanceTypes := #[]
  staticTypes := #[.boolean]
  resolved := Array.replicate 395 none
  statics := none }

def pool9 : Array CpInfo := pool [(8, .class_ 10), (1, u "java/lang/Iterable"), (24, .class_ 36), (0, u "java/lang/Object")] 25

/-- java/lang/Iterable -/
def k9 : Class := { plain "java/lang/Iterable" (some 0) with
  accessFlags := 1537
  interfaces := #[]
  cf := some (fileOf pool9 8 #[] #[] 1537 35 #[] #[])
  fields := #[]
  methods := #[]
  instanceTypes := #[]
  staticTypes := #[]
  resolved := Array.replicate 62 none
  statics := none }

def pool10 : Array CpInfo := pool [(10, .class_ 12), (1, u "java/util/Collection"), (0, u "toArray"), (46, .class_ 61), (0, u "java/lang/Object"), (0, .class_ 63), (0, u "java/lang/Iterable"), (6, u "()[Ljava/lang/Object;")] 44

def k10m0 : Method := { name := "toArray", desc := "()[Ljava/lang/Object;", sig := { parameters := [], returnType := some (.array (.object "java/lang/Object")) }, accessFlags := 1025, code := none }
/-- java/util/Collection -/
def k10 : Class := { plain "java/util/Collection" (some 0) with
  accessFlags := 1537
  interfaces := #[9]
  cf := some (fileOf pool10 10 #[] #[{ accessFlags := 1025, nameIndex := 13, descriptorIndex := 70, attributes := #[] }] 1537 60 #[62] #[])
  fields := #[]
  methods := #[k10m0]
  instanceTypes := #[]
  staticTypes := #[]
  resolved := Array.replicate 115 none
  statics := none }

def pool11 : Array CpInfo := pool [(1, .methodref 2 3), (0, .class_ 4), (0, .nameAndType 5 6), (0, u "java/lang/Object"), (0, u "<init>"), (0, u "()V"), (1, .class_ 10), (1, u "java/util/AbstractCollection"), (66, .class_ 78), (0, u "java/util/Collection")] 81

def k11c0 : Code := { maxStack := 1, maxLocals := 1, code := jdk_22_method_1_code, exceptionTable := #[], attributes := #[] }
def k11m0 : Method := { name := "<init>", desc := "()V", sig := { parameters := [], returnType := none }, accessFlags := 4, code := some k11c0 }
/-- java/util/AbstractCollection -/
def k11 : Class := { plain "java/util/AbstractCollection" (some 0) with
  accessFlags := 1057
  interfaces := #[10]
  cf := some (fileOf pool11 8 #[] #[{ accessFlags := 4, nameIndex := 5, descriptorIndex := 6, attributes := #[] }] 1057 2 #[77] #[])
  fields := #[]
  methods := #[k11m0]
  instanceTypes := #[]
  staticTypes := #[]
  resolved := Array.replicate 160 none
  statics := none }

def pool12 : Array CpInfo := pool [(8, .class_ 10), (1, u "java/util/SequencedCollection"), (15, .class_ 27), (0, u "java/lang/Object"), (0, .class_ 29), (0, u "java/util/Collection")] 27

/-- java/util/SequencedCollection -/
def k12 : Class := { plain "java/util/SequencedCollection" (some 0) with
  accessFlags := 1537
  interfaces := #[10]
  cf := some (fileOf pool12 8 #[] #[] 1537 26 #[28] #[])
  fields := #[]
  methods := #[]
  instanceTypes := #[]
  staticTypes := #[]
  resolved := Array.replicate 57 none
  statics := none }

def pool13 : Array CpInfo := pool [(8, .class_ 10), (1, u "java/util/List"), (49, u "add"), (3, u "(Ljava/lang/Object;)Z"), (10, u "get"), (0, u "(I)Ljava/lang/Object;"), (2, u "size"), (0, u "()I"), (22, .class_ 104), (0, u "java/lang/Object"), (15, .class_ 121), (0, u "java/util/SequencedCollection")] 129

def k13m0 : Method := { name := "size", desc := "()I", sig := { parameters := [], returnType := some .int }, accessFlags := 1025, code := none }
def k13m1 : Method := { name := "add", desc := "(Ljava/lang/Object;)Z", sig := { parameters := [(.object "java/lang/Object")], returnType := some .boolean }, accessFlags := 1025, code := none }
def k13m2 : Method := { name := "get", desc := "(I)Ljava/lang/Object;", sig := { parameters := [.int], returnType := some (.object "java/lang/Object") }, accessFlags := 1025, code := none }
/-- java/util/List -/
def k13 : Class := { plain "java/util/List" (some 0) with
  accessFlags := 1537
  interfaces := #[12]
  cf := some (fileOf pool13 8 #[] #[{ accessFlags := 1025, nameIndex := 79, descriptorIndex := 80, attributes := #[] }, { accessFlags := 1025, nameIndex := 60, descriptorIndex := 64, attributes := #[] }, { accessFlags := 1025, nameIndex := 75, descriptorIndex := 76, attributes := #[] }] 1537 103 #[120] #[])
  fields := #[]
  methods := #[k13m0, k13m1, k13m2]
  instanceTypes := #[]
  staticTypes := #[]
  resolved := Array.replicate 251 none
  statics := none }

def pool14 : Array CpInfo := pool [(1, .methodref 2 3), (0, .class_ 4), (0, .nameAndType 5 6), (0, u "java/util/AbstractCollection"), (0, u "<init>"), (0, u "()V"), (0, .fieldref 8 9), (0, .class_ 10), (0, .nameAndType 11 12), (0, u "java/util/AbstractList"), (0, u "modCount"), (0, u "I"), (64, .class_ 78), (0, u "java/util/AbstractList$Itr"), (3, .class_ 83), (0, u "java/util/AbstractList$ListItr"), (9, .class_ 94), (0, u "java/util/AbstractList$RandomAccessSubList"), (3, .class_ 99), (0, u "java/util/AbstractList$SubList"), (33, .class_ 134), (0, u "java/util/List"), (73, .class_ 209), (0, u "java/util/AbstractList$SubList$1"), (0, .class_ 211), (0, u "java/util/AbstractList$RandomAccessSpliterator")] 6

def k14c0 : Code := { maxStack := 2, maxLocals := 1, code := jdk_39_method_1_code, exceptionTable := #[], attributes := #[] }
def k14m0 : Method := { name := "<init>", desc := "()V", sig := { parameters := [], returnType := none }, accessFlags := 4, code := some k14c0 }
/-- java/util/AbstractList -/
def k14 : Class := { plain "java/util/AbstractList" (some 11) with
  accessFlags := 1057
  interfaces := #[13]
  cf := some (fileOf pool14 8 #[.nestMembers #[93, 98, 208, 210, 82, 77]] #[{ accessFlags := 4, nameIndex := 5, descriptorIndex := 6, attributes := #[] }] 1057 2 #[133] #[{ accessFlags := 132, nameIndex := 11, descriptorIndex := 12, attributes := #[] }])
  fields := #[{ name := "modCount", type := .int, accessFlags := 132, slot := 0, constantValue := 0 }]
  methods := #[k14m0]
  instanceTypes := #[.int]
  staticTypes := #[]
  resolved := Array.replicate 218 none
  statics := none }

def pool15 : Array CpInfo := pool [(1, .class_ 2), (0, u "java/util/RandomAccess"), (0, .class_ 4), (0, u "java/lang/Object")] 2

/-- java/util/RandomAccess -/
def k15 : Class := { plain "java/util/RandomAccess" (some 0) with
  accessFlags := 1537
  interfaces := #[]
  cf := some (fileOf pool15 1 #[] #[] 1537 3 #[] #[])
  fields := #[]
  methods := #[]
  instanceTypes := #[]
  staticTypes := #[]
  resolved := Array.replicate 7 none
  statics := none }

def pool16 : Array CpInfo := pool [(1, .class_ 2), (0, u "java/lang/Cloneable"), (0, .class_ 4), (0, u "java/lang/Object")] 2

/-- java/lang/Cloneable -/
def k16 : Class := { plain "java/lang/Cloneable" (some 0) with
  accessFlags := 1537
  interfaces := #[]
  cf := some (fileOf pool16 1 #[] #[] 1537 3 #[] #[])
  fields := #[]
  methods := #[]
  instanceTypes := #[]
  staticTypes := #[]
  resolved := Array.replicate 7 none
  statics := none }

def pool17 : Array CpInfo := pool [(1, .methodref 2 3), (0, .class_ 4), (0, .nameAndType 5 6), (0, u "java/util/AbstractList"), (0, u "<init>"), (0, u "()V"), (0, .class_ 8), (0, u "java/lang/Object"), (0, .fieldref 10 11), (0, .class_ 12), (0, .nameAndType 13 14), (0, u "java/util/ArrayList"), (0, u "elementData"), (0, u "[Ljava/lang/Object;"), (0, .fieldref 10 16), (0, .nameAndType 17 14), (0, u "EMPTY_ELEMENTDATA"), (21, .fieldref 10 40), (0, .nameAndType 41 14), (0, u "DEFAULTCAPACITY_EMPTY_ELEMENTDATA"), (0, .interfaceMethodref 43 44), (0, .class_ 45), (0, .nameAndType 46 47), (0, u "java/util/Collection"), (0, u "toArray"), (0, u "()[Ljava/lang/Object;"), (0, .fieldref 10 49), (0, .nameAndType 50 51), (0, u "size"), (0, u "I"), (0, .interfaceMethodref 43 53), (0, .nameAndType 54 55), (0, u "getClass"), (0, u "()Ljava/lang/Class;"), (2, .class_ 60), (1, u "java/util/Arrays"), (0, u "copyOf"), (1, .fieldref 10 64), (0, .nameAndType 65 51), (0, u "modCount"), (0, .methodref 58 67), (0, .nameAndType 61 68), (0, u "([Ljava/lang/Object;I)[Ljava/lang/Object;"), (0, .methodref 10 70), (0, .nameAndType 71 72), (0, u "grow"), (0, u "(I)[Ljava/lang/Object;"), (0, .methodref 74 75), (0, .class_ 76), (0, .nameAndType 77 78), (0, u "jdk/internal/util/ArraysSupport"), (0, u "newLength"), (0, u "(III)I"), (0, .methodref 80 81), (0, .class_ 82), (0, .nameAndType 83 84), (0, u "java/lang/Math"), (0, u "max"), (0, u "(II)I"), (11, u "(Ljava/lang/Object;)Z"), (15, .methodref 113 114), (0, .class_ 115), (0, .nameAndType 116 117), (0, u "java/lang/System"), (0, u "arraycopy"), (0, u "(Ljava/lang/Object;ILjava/lang/Object;II)V"), (0, .methodref 119 120), (0, .class_ 121), (0, .nameAndType 122 84), (0, u "java/util/Objects"), (0, u "checkIndex"), (0, .methodref 10 124), (0, .nameAndType 13 125), (0, u "(I)Ljava/lang/Object;"), (3, .methodref 10 130), (0, .nameAndType 71 47), (0, .methodref 10 132), (0, .nameAndType 133 134), (0, u "add"), (0, u "(Ljava/lang/Object;[Ljava/lang/Object;I)V"), (13, .class_ 149), (0, u "java/util/List"), (36, u "()I"), (75, .class_ 263), (0, u "java/util/ArrayList$ListItr"), (3, .class_ 268), (0, u "java/util/ArrayList$Itr"), (7, .class_ 277), (0, u "java/util/ArrayList$SubList"), (12, .class_ 291), (0, u "java/util/ArrayList$ArrayListSpliterator"), (37, .class_ 330), (0, u "java/util/RandomAccess"), (0, .class_ 332), (0, u "java/lang/Cloneable"), (0, .class_ 334), (0, u "java/io/Serializable"), (0, u "serialVersionUID"), (0, u "J"), (3, u "DEFAULT_CAPACITY"), (10, u "(Ljava/util/Collection;)V"), (29, u "get"), (38, u "addAll"), (0, u "(Ljava/util/Collection;)Z"), (78, .class_ 501), (0, u "java/util/ArrayList$SubList$2"), (0, .class_ 503), (0, u "java/util/ArrayList$SubList$1")] 5

def k17c0 : Code := { maxStack := 2, maxLocals := 1, code := jdk_38_method_2_code, exceptionTable := #[], attributes := #[] }
def k17m0 : Method := { name := "<init>", desc := "()V", sig := { parameters := [], returnType := none }, accessFlags := 1, code := some k17c0 }
def k17c1 : Code := { maxStack := 4, maxLocals := 3, code := jdk_38_method_3_code, exceptionTable := #[], attributes := #[] }
def k17m1 : Method := { name := "<init>", desc := "(Ljava/util/Collection;)V", sig := { parameters := [(.object "java/util/Collection")], returnType := none }, accessFlags := 1, code := some k17c1 }
def k17c2 : Code := { maxStack := 4, maxLocals := 4, code := jdk_38_method_6_code, exceptionTable := #[], attributes := #[] }
def k17m2 : Method := { name := "grow", desc := "(I)[Ljava/lang/Object;", sig := { parameters := [.int], returnType := some (.array (.object "java/lang/Object")) }, accessFlags := 2, code := some k17c2 }
def k17c3 : Code := { maxStack := 3, maxLocals := 1, code := jdk_38_method_7_code, exceptionTable := #[], attributes := #[] }
def k17m3 : Method := { name := "grow", desc := "()[Ljava/lang/Object;", sig := { parameters := [], returnType := some (.array (.object "java/lang/Object")) }, accessFlags := 2, code := some k17c3 }
def k17c4 : Code := { maxStack := 1, maxLocals := 1, code := jdk_38_method_8_code, exceptionTable := #[], attributes := #[] }
def k17m4 : Method := { name := "size", desc := "()I", sig := { parameters := [], returnType := some .int }, accessFlags := 1, code := some k17c4 }
def k17c5 : Code := { maxStack := 2, maxLocals := 1, code := jdk_38_method_16_code, exceptionTable := #[], attributes := #[] }
def k17m5 : Method := { name := "toArray", desc := "()[Ljava/lang/Object;", sig := { parameters := [], returnType := some (.array (.object "java/lang/Object")) }, accessFlags := 1, code := some k17c5 }
def k17c6 : Code := { maxStack := 2, maxLocals := 2, code := jdk_38_method_18_code, exceptionTable := #[], attributes := #[] }
def k17m6 : Method := { name := "elementData", desc := "(I)Ljava/lang/Object;", sig := { parameters := [.int], returnType := some (.object "java/lang/Object") }, accessFlags := 0, code := some k17c6 }
def k17c7 : Code := { maxStack := 2, maxLocals := 2, code := jdk_38_method_20_code, exceptionTable := #[], attributes := #[] }
def k17m7 : Method := { name := "get", desc := "(I)Ljava/lang/Object;", sig := { parameters := [.int], returnType := some (.object "java/lang/Object") }, accessFlags := 1, code := some k17c7 }
def k17c8 : Code := { maxStack := 3, maxLocals := 4, code := jdk_38_method_24_code, exceptionTable := #[], attributes := #[] }
def k17m8 : Method := { name := "add", desc := "(Ljava/lang/Object;[Ljava/lang/Object;I)V", sig := { parameters := [(.object "java/lang/Object"), (.array (.object "java/lang/Object")), .int], returnType := none }, accessFlags := 2, code := some k17c8 }
def k17c9 : Code := { maxStack := 4, maxLocals := 2, code := jdk_38_method_25_code, exceptionTable := #[], attributes := #[] }
def k17m9 : Method := { name := "add", desc := "(Ljava/lang/Object;)Z", sig := { parameters := [(.object "java/lang/Object")], returnType := some .boolean }, accessFlags := 1, code := some k17c9 }
def k17c10 : Code := { maxStack := 5, maxLocals := 6, code := jdk_38_method_41_code, exceptionTable := #[], attributes := #[] }
def k17m10 : Method := { name := "addAll", desc := "(Ljava/util/Collection;)Z", sig := { parameters := [(.object "java/util/Collection")], returnType := some .boolean }, accessFlags := 1, code := some k17c10 }
/-- java/util/ArrayList -/
def k17 : Class := { plain "java/util/ArrayList" (some 14) with
  accessFlags := 33
  interfaces := #[13, 15, 16, 2]
  cf := some (fileOf pool17 10 #[.nestMembers #[290, 276, 500, 502, 262, 267]] #[{ accessFlags := 1, nameIndex := 5, descriptorIndex := 6, attributes := #[] }, { accessFlags := 1, nameIndex := 5, descriptorIndex := 351, attributes := #[] }, { accessFlags := 2, nameIndex := 71, descriptorIndex := 72, attributes := #[] }, { accessFlags := 2, nameIndex := 71, descriptorIndex := 47, attributes := #[] }, { accessFlags := 1, nameIndex := 50, descriptorIndex := 186, attributes := #[] }, { accessFlags := 1, nameIndex := 46, descriptorIndex := 47, attributes := #[] }, { accessFlags := 0, nameIndex := 13, descriptorIndex := 125, attributes := #[] }, { accessFlags := 1, nameIndex := 381, descriptorIndex := 125, attributes := #[] }, { accessFlags := 2, nameIndex := 133, descriptorIndex := 134, attributes := #[] }, { accessFlags := 1, nameIndex := 133, descriptorIndex := 96, attributes := #[] }, { accessFlags := 1, nameIndex := 420, descriptorIndex := 421, attributes := #[] }] 33 2 #[148, 329, 331, 333] #[{ accessFlags := 26, nameIndex := 335, descriptorIndex := 336, attributes := #[] }, { accessFlags := 26, nameIndex := 340, descriptorIndex := 51, attributes := #[] }, { accessFlags := 26, nameIndex := 17, descriptorIndex := 14, attributes := #[] }, { accessFlags := 26, nameIndex := 41, descriptorIndex := 14, attributes := #[] }, { accessFlags := 128, nameIndex := 13, descriptorIndex := 14, attributes := #[] }, { accessFlags := 2, nameIndex := 50, descriptorIndex := 51, attributes := #[] }])
  fields := #[{ name := "serialVersionUID", type := .long, accessFlags := 26, slot := 0, constantValue := 0 }, { name := "DEFAULT_CAPACITY", type := .int, accessFlags := 26, slot := 1, constantValue := 0 }, { name := "EMPTY_ELEMENTDATA", type := (.array (.object "java/lang/Object")), accessFlags := 26, slot := 2, constantValue := 0 }, { name := "DEFAULTCAPACITY_EMPTY_ELEMENTDATA", type := (.array (.object "java/lang/Object")), accessFlags := 26, slot := 3, constantValue := 0 }, { name := "elementData", type := (.array (.object "java/lang/Object")), accessFlags := 128, slot := 1, constantValue := 0 }, { name := "size", type := .int, accessFlags := 2, slot := 2, constantValue := 0 }]
  methods := #[k17m0, k17m1, k17m2, k17m3, k17m4, k17m5, k17m6, k17m7, k17m8, k17m9, k17m10]
  instanceTypes := #[.int, (.array (.object "java/lang/Object")), .int]
  staticTypes := #[.long, .int, (.array (.object "java/lang/Object")), (.array (.object "java/lang/Object"))]
  resolved := Array.replicate 509 none
  mirror := some 4
  statics := some 1 }

def pool18 : Array CpInfo := pool [(1, .methodref 2 3), (0, .class_ 4), (0, .nameAndType 5 6), (0, u "java/lang/Object"), (0, u "<init>"), (0, u "()V"), (0, .class_ 8), (0, u "java/lang/Record")] 13

def k18c0 : Code := { maxStack := 1, maxLocals := 1, code := jdk_30_method_1_code, exceptionTable := #[], attributes := #[] }
def k18m0 : Method := { name := "<init>", desc := "()V", sig := { parameters := [], returnType := none }, accessFlags := 4, code := some k18c0 }
/-- java/lang/Record -/
def k18 : Class := { plain "java/lang/Record" (some 0) with
  accessFlags := 1057
  interfaces := #[]
  cf := some (fileOf pool18 7 #[] #[{ accessFlags := 4, nameIndex := 5, descriptorIndex := 6, attributes := #[] }] 1057 2 #[] #[])
  fields := #[]
  methods := #[k18m0]
  instanceTypes := #[]
  staticTypes := #[]
  resolved := Array.replicate 22 none
  statics := none }

def pool19 : Array CpInfo := pool [(1, .methodref 2 3), (0, .class_ 4), (0, .nameAndType 5 6), (0, u "java/lang/Record"), (0, u "<init>"), (0, u "()V"), (0, .fieldref 8 9), (0, .class_ 10), (0, .nameAndType 11 12), (0, u "com/example/fachwissen/fachwissen/mail/Message"), (0, u "subjects"), (0, u "Ljava/util/List;"), (0, .fieldref 8 14), (0, .nameAndType 15 12), (0, u "addressHeaders"), (0, .fieldref 8 17), (0, .nameAndType 18 12), (0, u "textParts"), (0, .class_ 20), (0, u "java/util/ArrayList"), (0, .methodref 19 22), (0, .nameAndType 5 23), (0, u "(Ljava/util/Collection;)V"), (0, .methodref 19 25), (0, .nameAndType 26 27), (0, u "addAll"), (0, u "(Ljava/util/Collection;)Z"), (14, u "(Ljava/util/List;Ljava/util/List;Ljava/util/List;)V"), (4, u "associationTexts"), (0, u "()Ljava/util/List;")] 27

def k19c0 : Code := { maxStack := 2, maxLocals := 4, code := prog_12_method_1_code, exceptionTable := #[], attributes := #[] }
def k19m0 : Method := { name := "<init>", desc := "(Ljava/util/List;Ljava/util/List;Ljava/util/List;)V", sig := { parameters := [(.object "java/util/List"), (.object "java/util/List"), (.object "java/util/List")], returnType := none }, accessFlags := 1, code := some k19c0 }
def k19c1 : Code := { maxStack := 3, maxLocals := 2, code := prog_12_method_2_code, exceptionTable := #[], attributes := #[] }
def k19m1 : Method := { name := "associationTexts", desc := "()Ljava/util/List;", sig := { parameters := [], returnType := some (.object "java/util/List") }, accessFlags := 1, code := some k19c1 }
/-- com/example/fachwissen/fachwissen/mail/Message -/
def k19 : Class := { plain "com/example/fachwissen/fachwissen/mail/Message" (some 18) with
  accessFlags := 49
  interfaces := #[]
  cf := some (fileOf pool19 8 #[] #[{ accessFlags := 1, nameIndex := 5, descriptorIndex := 42, attributes := #[] }, { accessFlags := 1, nameIndex := 47, descriptorIndex := 48, attributes := #[] }] 49 2 #[] #[{ accessFlags := 18, nameIndex := 11, descriptorIndex := 12, attributes := #[] }, { accessFlags := 18, nameIndex := 15, descriptorIndex := 12, attributes := #[] }, { accessFlags := 18, nameIndex := 18, descriptorIndex := 12, attributes := #[] }])
  fields := #[{ name := "subjects", type := (.object "java/util/List"), accessFlags := 18, slot := 0, constantValue := 0 }, { name := "addressHeaders", type := (.object "java/util/List"), accessFlags := 18, slot := 1, constantValue := 0 }, { name := "textParts", type := (.object "java/util/List"), accessFlags := 18, slot := 2, constantValue := 0 }]
  methods := #[k19m0, k19m1]
  instanceTypes := #[(.object "java/util/List"), (.object "java/util/List"), (.object "java/util/List")]
  staticTypes := #[]
  resolved := Array.replicate 76 none
  statics := none }

def pool20 : Array CpInfo := pool [(2, .class_ 4), (1, u "java/lang/Object"), (0, u "<init>"), (0, u "()V"), (7, .class_ 16), (1, u "java/util/Arrays"), (57, .class_ 76), (1, u "java/util/Arrays$NaturalOrder"), (9, .methodref 2 87), (0, .nameAndType 88 89), (0, u "getClass"), (0, u "()Ljava/lang/Class;"), (20, .class_ 111), (0, u "[Ljava/lang/Object;"), (1, .class_ 115), (1, u "java/util/Arrays$LegacyMergeSort"), (1, u "Z"), (32, .methodref 151 152), (0, .class_ 153), (0, .nameAndType 154 155), (0, u "java/lang/System"), (0, u "arraycopy"), (0, u "(Ljava/lang/Object;ILjava/lang/Object;II)V"), (144, .methodref 14 301), (0, .nameAndType 302 303), (0, u "copyOf"), (0, u "([Ljava/lang/Object;ILjava/lang/Class;)[Ljava/lang/Object;"), (0, .methodref 305 306), (0, .class_ 307), (0, .nameAndType 308 309), (0, u "java/lang/Math"), (0, u "min"), (0, u "(II)I"), (65, .class_ 376), (0, u "java/util/Arrays$ArrayList"), (68, u "$assertionsDisabled"), (269, u "MIN_ARRAY_SORT_GRAN"), (0, u "I"), (2, u "INSERTIONSORT_THRESHOLD"), (140, u "([Ljava/lang/Object;I)[Ljava/lang/Object;"), (114, .class_ 976), (0, u "java/util/Arrays$ArrayItr")] 52

def k20m0 : Method := { name := "<init>", desc := "()V", sig := { parameters := [], returnType := none }, accessFlags := 2, code := none }
def k20c1 : Code := { maxStack := 3, maxLocals := 2, code := jdk_65_method_119_code, exceptionTable := #[], attributes := #[] }
def k20m1 : Method := { name := "copyOf", desc := "([Ljava/lang/Object;I)[Ljava/lang/Object;", sig := { parameters := [(.array (.object "java/lang/Object")), .int], returnType := some (.array (.object "java/lang/Object")) }, accessFlags := 9, code := some k20c1 }
def k20c2 : Code := { maxStack := 6, maxLocals := 4, code := jdk_65_method_120_code, exceptionTable := #[], attributes := #[] }
def k20m2 : Method := { name := "copyOf", desc := "([Ljava/lang/Object;ILjava/lang/Class;)[Ljava/lang/Object;", sig := { parameters := [(.array (.object "java/lang/Object")), .int, (.object "java/lang/Class")], returnType := some (.array (.object "java/lang/Object")) }, accessFlags := 9, code := some k20c2 }
/-- java/util/Arrays -/
def k20 : Class := { plain "java/util/Arrays" (some 0) with
  accessFlags := 49
  interfaces := #[]
  cf := some (fileOf pool20 14 #[.nestMembers #[975, 375, 113, 74]] #[{ accessFlags := 2, nameIndex := 5, descriptorIndex := 6, attributes := #[] }, { accessFlags := 9, nameIndex := 302, descriptorIndex := 860, attributes := #[] }, { accessFlags := 9, nameIndex := 302, descriptorIndex := 303, attributes := #[] }] 49 2 #[] #[{ accessFlags := 26, nameIndex := 715, descriptorIndex := 716, attributes := #[] }, { accessFlags := 26, nameIndex := 719, descriptorIndex := 716, attributes := #[] }, { accessFlags := 4120, nameIndex := 445, descriptorIndex := 117, attributes := #[] }])
  fields := #[{ name := "MIN_ARRAY_SORT_GRAN", type := .int, accessFlags := 26, slot := 0, constantValue := 0 }, { name := "INSERTIONSORT_THRESHOLD", type := .int, accessFlags := 26, slot := 1, constantValue := 0 }, { name := "$assertionsDisabled", type := .boolean, accessFlags := 4120, slot := 2, constantValue := 0 }]
  methods := #[k20m0, k20m1, k20m2]
  instanceTypes := #[]
  staticTypes := #[.int, .int, .boolean]
  resolved := Array.replicate 1029 none
  statics := none }

def pool21 : Array CpInfo := pool [(1, .class_ 2), (0, u "java/lang/Math"), (1, .class_ 6), (1, u "java/lang/Object"), (0, u "<init>"), (0, u "()V"), (89, .class_ 100), (1, u "java/lang/Math$RandomNumberGeneratorHolder"), (71, u "negativeZeroFloatBits"), (0, u "J"), (2, u "negativeZeroDoubleBits"), (21, u "max"), (2, u "min"), (43, u "$assertionsDisabled"), (0, u "Z"), (88, u "(II)I"), (2, u "twoToTheDoubleScaleDown"), (0, u "D"), (4, u "twoToTheDoubleScaleUp"), (9, u "E"), (3, u "PI"), (2, u "TAU"), (2, u "DEGREES_TO_RADIANS"), (0, u "RADIANS_TO_DEGREES")] 94

def k21m0 : Method := { name := "<init>", desc := "()V", sig := { parameters := [], returnType := none }, accessFlags := 2, code := none }
def k21c1 : Code := { maxStack := 2, maxLocals := 2, code := jdk_29_method_65_code, exceptionTable := #[], attributes := #[] }
def k21m1 : Method := { name := "max", desc := "(II)I", sig := { parameters := [.int, .int], returnType := some .int }, accessFlags := 9, code := some k21c1 }
def k21c2 : Code := { maxStack := 2, maxLocals := 2, code := jdk_29_method_69_code, exceptionTable := #[], attributes := #[] }
def k21m2 : Method := { name := "min", desc := "(II)I", sig := { parameters := [.int, .int], returnType := some .int }, accessFlags := 9, code := some k21c2 }
/-- java/lang/Math -/
def k21 : Class := { plain "java/lang/Math" (some 0) with
  accessFlags := 49
  interfaces := #[]
  cf := some (fileOf pool21 1 #[.nestMembers #[98]] #[{ accessFlags := 2, nameIndex := 7, descriptorIndex := 8, attributes := #[] }, { accessFlags := 9, nameIndex := 198, descriptorIndex := 335, attributes := #[] }, { accessFlags := 9, nameIndex := 201, descriptorIndex := 335, attributes := #[] }] 49 4 #[] #[{ accessFlags := 25, nameIndex := 354, descriptorIndex := 339, attributes := #[] }, { accessFlags := 25, nameIndex := 358, descriptorIndex := 339, attributes := #[] }, { accessFlags := 25, nameIndex := 361, descriptorIndex := 339, attributes := #[] }, { accessFlags := 26, nameIndex := 364, descriptorIndex := 339, attributes := #[] }, { accessFlags := 26, nameIndex := 365, descriptorIndex := 339, attributes := #[] }, { accessFlags := 26, nameIndex := 172, descriptorIndex := 173, attributes := #[] }, { accessFlags := 26, nameIndex := 176, descriptorIndex := 173, attributes := #[] }, { accessFlags := 8, nameIndex := 344, descriptorIndex := 339, attributes := #[] }, { accessFlags := 8, nameIndex := 338, descriptorIndex := 339, attributes := #[] }, { accessFlags := 4120, nameIndex := 245, descriptorIndex := 246, attributes := #[] }])
  fields := #[{ name := "E", type := .double, accessFlags := 25, slot := 0, constantValue := 0 }, { name := "PI", type := .double, accessFlags := 25, slot := 1, constantValue := 0 }, { name := "TAU", type := .double, accessFlags := 25, slot := 2, constantValue := 0 }, { name := "DEGREES_TO_RADIANS", type := .double, accessFlags := 26, slot := 3, constantValue := 0 }, { name := "RADIANS_TO_DEGREES", type := .double, accessFlags := 26, slot := 4, constantValue := 0 }, { name := "negativeZeroFloatBits", type := .long, accessFlags := 26, slot := 5, constantValue := 0 }, { name := "negativeZeroDoubleBits", type := .long, accessFlags := 26, slot := 6, constantValue := 0 }, { name := "twoToTheDoubleScaleUp", type := .double, accessFlags := 8, slot := 7, constantValue := 0 }, { name := "twoToTheDoubleScaleDown", type := .double, accessFlags := 8, slot := 8, constantValue := 0 }, { name := "$assertionsDisabled", type := .boolean, accessFlags := 4120, slot := 9, constantValue := 0 }]
  methods := #[k21m0, k21m1, k21m2]
  instanceTypes := #[]
  staticTypes := #[.double, .double, .double, .double, .double, .long, .long, .double, .double, .boolean]
  resolved := Array.replicate 460 none
  statics := none }

def pool22 : Array CpInfo := pool [(2, .class_ 4), (1, u "java/lang/Object"), (0, u "<init>"), (0, u "()V"), (1, .class_ 10), (1, u "java/lang/System"), (0, u "allowSecurityManager"), (0, u "I"), (16, u "cons"), (0, u "Ljava/io/Console;"), (77, .class_ 110), (1, u "java/lang/System$CallersHolder"), (43, u "initialErrStream"), (0, u "Ljava/io/PrintStream;"), (19, u "security"), (0, u "Ljava/lang/SecurityManager;"), (31, .class_ 209), (0, u "java/lang/System$1"), (7, u "props"), (0, u "Ljava/util/Properties;"), (2, u "lineSeparator"), (0, u "Ljava/lang/String;"), (96, .class_ 321), (1, u "java/lang/System$LoggerFinder"), (5, .class_ 328), (0, u "java/lang/System$Logger"), (67, u "err"), (2, u "out"), (91, u "notSupportedJnuEncoding"), (15, u "in"), (17, u "initialIn"), (0, u "Ljava/io/InputStream;"), (35, u "bootLayer"), (0, u "Ljava/lang/ModuleLayer;"), (99, .class_ 664), (0, u "java/lang/System$2"), (9, u "NEVER"), (2, u "MAYBE"), (49, u "arraycopy"), (0, u "(Ljava/lang/Object;ILjava/lang/Object;II)V"), (72, .class_ 802), (0, u "java/lang/System$Logger$Level")] 31

def k22m0 : Method := { name := "<init>", desc := "()V", sig := { parameters := [], returnType := none }, accessFlags := 2, code := none }
def k22m1 : Method := { name := "arraycopy", desc := "(Ljava/lang/Object;ILjava/lang/Object;II)V", sig := { parameters := [(.object "java/lang/Object"), .int, (.object "java/lang/Object"), .int, .int], returnType := none }, accessFlags := 265, code := none }
/-- java/lang/System -/
def k22 : Class := { plain "java/lang/System" (some 0) with
  accessFlags := 49
  interfaces := #[]
  cf := some (fileOf pool22 8 #[.nestMembers #[319, 327, 801, 108, 663, 208]] #[{ accessFlags := 2, nameIndex := 5, descriptorIndex := 6, attributes := #[] }, { accessFlags := 265, nameIndex := 727, descriptorIndex := 728, attributes := #[] }] 49 2 #[] #[{ accessFlags := 25, nameIndex := 507, descriptorIndex := 526, attributes := #[] }, { accessFlags := 25, nameIndex := 399, descriptorIndex := 155, attributes := #[] }, { accessFlags := 25, nameIndex := 396, descriptorIndex := 155, attributes := #[] }, { accessFlags := 10, nameIndex := 525, descriptorIndex := 526, attributes := #[] }, { accessFlags := 26, nameIndex := 674, descriptorIndex := 12, attributes := #[] }, { accessFlags := 26, nameIndex := 677, descriptorIndex := 12, attributes := #[] }, { accessFlags := 10, nameIndex := 11, descriptorIndex := 12, attributes := #[] }, { accessFlags := 74, nameIndex := 175, descriptorIndex := 176, attributes := #[] }, { accessFlags := 10, nameIndex := 491, descriptorIndex := 222, attributes := #[] }, { accessFlags := 74, nameIndex := 29, descriptorIndex := 30, attributes := #[] }, { accessFlags := 74, nameIndex := 154, descriptorIndex := 155, attributes := #[] }, { accessFlags := 10, nameIndex := 217, descriptorIndex := 218, attributes := #[] }, { accessFlags := 10, nameIndex := 221, descriptorIndex := 222, attributes := #[] }, { accessFlags := 8, nameIndex := 562, descriptorIndex := 563, attributes := #[] }])
  fields := #[{ name := "in", type := (.object "java/io/InputStream"), accessFlags := 25, slot := 0, constantValue := 0 }, { name := "out", type := (.object "java/io/PrintStream"), accessFlags := 25, slot := 1, constantValue := 0 }, { name := "err", type := (.object "java/io/PrintStream"), accessFlags := 25, slot := 2, constantValue := 0 }, { name := "initialIn", type := (.object "java/io/InputStream"), accessFlags := 10, slot := 3, constantValue := 0 }, { name := "NEVER", type := .int, accessFlags := 26, slot := 4, constantValue := 0 }, { name := "MAYBE", type := .int, accessFlags := 26, slot := 5, constantValue := 0 }, { name := "allowSecurityManager", type := .int, accessFlags := 10, slot := 6, constantValue := 0 }, { name := "security", type := (.object "java/lang/SecurityManager"), accessFlags := 74, slot := 7, constantValue := 0 }, { name := "notSupportedJnuEncoding", type := (.object "java/lang/String"), accessFlags := 10, slot := 8, constantValue := 0 }, { name := "cons", type := (.object "java/io/Console"), accessFlags := 74, slot := 9, constantValue := 0 }, { name := "initialErrStream", type := (.object "java/io/PrintStream"), accessFlags := 74, slot := 10, constantValue := 0 }, { name := "props", type := (.object "java/util/Properties"), accessFlags := 10, slot := 11, constantValue := 0 }, { name := "lineSeparator", type := (.object "java/lang/String"), accessFlags := 10, slot := 12, constantValue := 0 }, { name := "bootLayer", type := (.object "java/lang/ModuleLayer"), accessFlags := 8, slot := 13, constantValue := 0 }]
  methods := #[k22m0, k22m1]
  instanceTypes := #[]
  staticTypes := #[(.object "java/io/InputStream"), (.object "java/io/PrintStream"), (.object "java/io/PrintStream"), (.object "java/io/InputStream"), .int, .int, .int, (.object "java/lang/SecurityManager"), (.object "java/lang/String"), (.object "java/io/Console"), (.object "java/io/PrintStream"), (.object "java/util/Properties"), (.object "java/lang/String"), (.object "java/lang/ModuleLayer")]
  resolved := Array.replicate 834 none
  statics := none }

def pool23 : Array CpInfo := pool [(2, .class_ 4), (1, u "java/lang/Object"), (0, u "<init>"), (0, u "()V"), (35, .class_ 44), (1, u "java/util/Objects"), (60, .methodref 106 107), (0, .class_ 108), (0, .nameAndType 109 110), (0, u "jdk/internal/util/Preconditions"), (0, u "checkIndex"), (0, u "(IILjava/util/function/BiFunction;)I"), (60, u "(II)I")] 12

def k23m0 : Method := { name := "<init>", desc := "()V", sig := { parameters := [], returnType := none }, accessFlags := 2, code := none }
def k23c1 : Code := { maxStack := 3, maxLocals := 2, code := jdk_31_method_17_code, exceptionTable := #[], attributes := #[] }
def k23m1 : Method := { name := "checkIndex", desc := "(II)I", sig := { parameters := [.int, .int], returnType := some .int }, accessFlags := 9, code := some k23c1 }
/-- java/util/Objects -/
def k23 : Class := { plain "java/util/Objects" (some 0) with
  accessFlags := 49
  interfaces := #[]
  cf := some (fileOf pool23 42 #[] #[{ accessFlags := 2, nameIndex := 5, descriptorIndex := 6, attributes := #[] }, { accessFlags := 9, nameIndex := 109, descriptorIndex := 171, attributes := #[] }] 49 2 #[] #[])
  fields := #[]
  methods := #[k23m0, k23m1]
  instanceTypes := #[]
  staticTypes := #[]
  resolved := Array.replicate 184 none
  statics := none }

def pool24 : Array CpInfo := pool [(2, .class_ 4), (1, u "java/lang/Object"), (0, u "<init>"), (0, u "()V"), (17, .class_ 26), (1, u "jdk/internal/util/Preconditions"), (6, u "checkIndex"), (21, .class_ 56), (0, u "jdk/internal/util/Preconditions$4"), (57, .class_ 115), (0, u "jdk/internal/util/Preconditions$1"), (7, u "SIOOBE_FORMATTER"), (0, u "Ljava/util/function/BiFunction;"), (0, .class_ 126), (0, u "jdk/internal/util/Preconditions$2"), (3, u "AIOOBE_FORMATTER"), (0, .class_ 132), (0, u "jdk/internal/util/Preconditions$3"), (3, u "IOOBE_FORMATTER"), (41, u "(IILjava/util/function/BiFunction;)I")] 15

def k24m0 : Method := { name := "<init>", desc := "()V", sig := { parameters := [], returnType := none }, accessFlags := 1, code := none }
def k24c1 : Code := { maxStack := 3, maxLocals := 3, code := jdk_41_method_11_code, exceptionTable := #[], attributes := #[] }
def k24m1 : Method := { name := "checkIndex", desc := "(IILjava/util/function/BiFunction;)I", sig := { parameters := [.int, .int, (.object "java/util/function/BiFunction")], returnType := some .int }, accessFlags := 9, code := some k24c1 }
/-- jdk/internal/util/Preconditions -/
def k24 : Class := { plain "jdk/internal/util/Preconditions" (some 0) with
  accessFlags := 33
  interfaces := #[]
  cf := some (fileOf pool24 24 #[.nestMembers #[55, 131, 125, 114]] #[{ accessFlags := 1, nameIndex := 5, descriptorIndex := 6, attributes := #[] }, { accessFlags := 9, nameIndex := 33, descriptorIndex := 178, attributes := #[] }] 33 2 #[] #[{ accessFlags := 25, nameIndex := 123, descriptorIndex := 124, attributes := #[] }, { accessFlags := 25, nameIndex := 130, descriptorIndex := 124, attributes := #[] }, { accessFlags := 25, nameIndex := 136, descriptorIndex := 124, attributes := #[] }])
  fields := #[{ name := "SIOOBE_FORMATTER", type := (.object "java/util/function/BiFunction"), accessFlags := 25, slot := 0, constantValue := 0 }, { name := "AIOOBE_FORMATTER", type := (.object "java/util/function/BiFunction"), accessFlags := 25, slot := 1, constantValue := 0 }, { name := "IOOBE_FORMATTER", type := (.object "java/util/function/BiFunction"), accessFlags := 25, slot := 2, constantValue := 0 }]
  methods := #[k24m0, k24m1]
  instanceTypes := #[]
  staticTypes := #[(.object "java/util/function/BiFunction"), (.object "java/util/function/BiFunction"), (.object "java/util/function/BiFunction")]
  resolved := Array.replicate 194 none
  statics := some 2 }

def pool25 : Array CpInfo := pool [(9, u "<init>"), (6, .class_ 18), (1, u "java/lang/Object"), (0, u "()V"), (1, .class_ 23), (1, u "jdk/internal/util/ArraysSupport"), (0, u "LOG2_ARRAY_LONG_INDEX_SCALE"), (0, u "I"), (2, u "U"), (0, u "Ljdk/internal/misc/Unsafe;"), (8, u "BIG_ENDIAN"), (0, u "Z"), (8, u "LOG2_BYTE_BIT_SIZE"), (4, u "LOG2_ARRAY_INT_INDEX_SCALE"), (54, u "JLA"), (0, u "Ljdk/internal/access/JavaLangAccess;"), (11, u "LOG2_ARRAY_BOOLEAN_INDEX_SCALE"), (9, u "LOG2_ARRAY_BYTE_INDEX_SCALE"), (5, u "LOG2_ARRAY_CHAR_INDEX_SCALE"), (5, u "LOG2_ARRAY_SHORT_INDEX_SCALE"), (18, u "LOG2_ARRAY_FLOAT_INDEX_SCALE"), (24, u "LOG2_ARRAY_DOUBLE_INDEX_SCALE"), (6, .methodref 195 196), (0, .class_ 197), (0, .nameAndType 198 199), (0, u "java/lang/Math"), (0, u "max"), (0, u "(II)I"), (0, .integer 2147483639), (76, u "T_BOOLEAN"), (2, u "T_CHAR"), (1, u "T_FLOAT"), (1, u "T_DOUBLE"), (1, u "T_BYTE"), (1, u "T_SHORT"), (1, u "T_INT"), (1, u "T_LONG"), (1, u "SOFT_MAX_ARRAY_LENGTH"), (56, u "newLength"), (0, u "(III)I")] 25

def k25m0 : Method := { name := "<init>", desc := "()V", sig := { parameters := [], returnType := none }, accessFlags := 2, code := none }
def k25c1 : Code := { maxStack := 3, maxLocals := 4, code := jdk_48_method_27_code, exceptionTable := #[], attributes := #[] }
def k25m1 : Method := { name := "newLength", desc := "(III)I", sig := { parameters := [.int, .int, .int], returnType := some .int }, accessFlags := 9, code := some k25c1 }
/-- jdk/internal/util/ArraysSupport -/
def k25 : Class := { plain "jdk/internal/util/ArraysSupport" (some 0) with
  accessFlags := 33
  interfaces := #[]
  cf := some (fileOf pool25 21 #[] #[{ accessFlags := 2, nameIndex := 9, descriptorIndex := 19, attributes := #[] }, { accessFlags := 9, nameIndex := 351, descriptorIndex := 352, attributes := #[] }] 33 16 #[] #[{ accessFlags := 24, nameIndex := 28, descriptorIndex := 29, attributes := #[] }, { accessFlags := 26, nameIndex := 38, descriptorIndex := 39, attributes := #[] }, { accessFlags := 25, nameIndex := 121, descriptorIndex := 25, attributes := #[] }, { accessFlags := 25, nameIndex := 131, descriptorIndex := 25, attributes := #[] }, { accessFlags := 25, nameIndex := 137, descriptorIndex := 25, attributes := #[] }, { accessFlags := 25, nameIndex := 143, descriptorIndex := 25, attributes := #[] }, { accessFlags := 25, nameIndex := 53, descriptorIndex := 25, attributes := #[] }, { accessFlags := 25, nameIndex := 24, descriptorIndex := 25, attributes := #[] }, { accessFlags := 25, nameIndex := 162, descriptorIndex := 25, attributes := #[] }, { accessFlags := 25, nameIndex := 187, descriptorIndex := 25, attributes := #[] }, { accessFlags := 26, nameIndex := 48, descriptorIndex := 25, attributes := #[] }, { accessFlags := 25, nameIndex := 277, descriptorIndex := 25, attributes := #[] }, { accessFlags := 25, nameIndex := 280, descriptorIndex := 25, attributes := #[] }, { accessFlags := 25, nameIndex := 282, descriptorIndex := 25, attributes := #[] }, { accessFlags := 25, nameIndex := 284, descriptorIndex := 25, attributes := #[] }, { accessFlags := 25, nameIndex := 286, descriptorIndex := 25, attributes := #[] }, { accessFlags := 25, nameIndex := 288, descriptorIndex := 25, attributes := #[] }, { accessFlags := 25, nameIndex := 290, descriptorIndex := 25, attributes := #[] }, { accessFlags := 25, nameIndex := 292, descriptorIndex := 25, attributes := #[] }, { accessFlags := 26, nameIndex := 108, descriptorIndex := 109, attributes := #[] }, { accessFlags := 25, nameIndex := 294, descriptorIndex := 25, attributes := #[] }])
  fields := #[{ name := "U", type := (.object "jdk/internal/misc/Unsafe"), accessFlags := 24, slot := 0, constantValue := 0 }, { name := "BIG_ENDIAN", type := .boolean, accessFlags := 26, slot := 1, constantValue := 0 }, { name := "LOG2_ARRAY_BOOLEAN_INDEX_SCALE", type := .int, accessFlags := 25, slot := 2, constantValue := 0 }, { name := "LOG2_ARRAY_BYTE_INDEX_SCALE", type := .int, accessFlags := 25, slot := 3, constantValue := 0 }, { name := "LOG2_ARRAY_CHAR_INDEX_SCALE", type := .int, accessFlags := 25, slot := 4, constantValue := 0 }, { name := "LOG2_ARRAY_SHORT_INDEX_SCALE", type := .int, accessFlags := 25, slot := 5, constantValue := 0 }, { name := "LOG2_ARRAY_INT_INDEX_SCALE", type := .int, accessFlags := 25, slot := 6, constantValue := 0 }, { name := "LOG2_ARRAY_LONG_INDEX_SCALE", type := .int, accessFlags := 25, slot := 7, constantValue := 0 }, { name := "LOG2_ARRAY_FLOAT_INDEX_SCALE", type := .int, accessFlags := 25, slot := 8, constantValue := 0 }, { name := "LOG2_ARRAY_DOUBLE_INDEX_SCALE", type := .int, accessFlags := 25, slot := 9, constantValue := 0 }, { name := "LOG2_BYTE_BIT_SIZE", type := .int, accessFlags := 26, slot := 10, constantValue := 0 }, { name := "T_BOOLEAN", type := .int, accessFlags := 25, slot := 11, constantValue := 0 }, { name := "T_CHAR", type := .int, accessFlags := 25, slot := 12, constantValue := 0 }, { name := "T_FLOAT", type := .int, accessFlags := 25, slot := 13, constantValue := 0 }, { name := "T_DOUBLE", type := .int, accessFlags := 25, slot := 14, constantValue := 0 }, { name := "T_BYTE", type := .int, accessFlags := 25, slot := 15, constantValue := 0 }, { name := "T_SHORT", type := .int, accessFlags := 25, slot := 16, constantValue := 0 }, { name := "T_INT", type := .int, accessFlags := 25, slot := 17, constantValue := 0 }, { name := "T_LONG", type := .int, accessFlags := 25, slot := 18, constantValue := 0 }, { name := "JLA", type := (.object "jdk/internal/access/JavaLangAccess"), accessFlags := 26, slot := 19, constantValue := 0 }, { name := "SOFT_MAX_ARRAY_LENGTH", type := .int, accessFlags := 25, slot := 20, constantValue := 0 }]
  methods := #[k25m0, k25m1]
  instanceTypes := #[]
  staticTypes := #[(.object "jdk/internal/misc/Unsafe"), .boolean, .int, .int, .int, .int, .int, .int, .int, .int, .int, .int, .int, .int, .int, .int, .int, .int, .int, (.object "jdk/internal/access/JavaLangAccess"), .int]
  resolved := Array.replicate 378 none
  statics := none }

def pool26 : Array CpInfo := pool [(1, u "java/lang/Class"), (0, .class_ 1), (0, u "java/lang/Object"), (0, .class_ 3)] 0

/-- java/lang/Class -/
def k26 : Class := { plain "java/lang/Class" (some 0) with
  accessFlags := 49
  interfaces := #[]
  cf := some (fileOf pool26 2 #[] #[] 49 4 #[] #[])
  fields := #[]
  methods := #[]
  instanceTypes := #[]
  staticTypes := #[]
  resolved := Array.replicate 5 none
  statics := none }

/-- the primitive byte -/
def k27 : Class := { plain "byte" none with kind := .primitive 'B', accessFlags := 0x411 }
/-- [B -/
def k28 : Class := { plain "[B" (some 0) with kind := .array 27 .byte, interfaces := #[16, 2], accessFlags := 1041 }

/-- the primitive int -/
def k29 : Class := { plain "int" none with kind := .primitive 'I', accessFlags := 0x411 }
/-- [I -/
def k30 : Class := { plain "[I" (some 0) with kind := .array 29 .int, interfaces := #[16, 2], accessFlags := 1041 }

/-- [Ljava/lang/Object; -/
def k31 : Class := { plain "[Ljava/lang/Object;" (some 0) with kind := .array 0 (.object "java/lang/Object"), interfaces := #[16, 2], accessFlags := 1041, mirror := some 3 }

/-- [Ljava/lang/String; -/
def k32 : Class := { plain "[Ljava/lang/String;" (some 0) with kind := .array 7 (.object "java/lang/String"), interfaces := #[16, 2], accessFlags := 1041 }

def heap : Heap := #[{ cls := 7, slots := #[.long 0, .int 1, .null, .int 0, .null, .int 0, .int 0], vm := .statics 7 },
  { cls := 17, slots := #[.long 0, .int 0, .ref 5, .ref 6], vm := .statics 17 },
  { cls := 24, slots := #[.null, .null, .null], vm := .statics 24 },
  { cls := 26, slots := #[], vm := .mirror 31 },
  { cls := 26, slots := #[], vm := .mirror 17 },
  { cls := 31, slots := #[], vm := .none },
  { cls := 31, slots := #[], vm := .none }]
def classes : Array Class := #[k0, k1, k2, k3, k4, k5, k6, k7, k8, k9, k10, k11, k12, k13, k14, k15, k16, k17, k18, k19, k20, k21, k22, k23, k24, k25, k26, k27, k28, k29, k30, k31, k32]
def interned : List (Array UInt16 × Addr) := []
def slotsUsed : Nat := 14
def theMethod : MethodId := ⟨1, 2⟩
def args0 : Array Value := #[.int 63, .int 7, .int 9]
def aboutOver (below : List Frame) : State where
  vm := { classes := classes, interned := interned.toArray }
  heap := heap
  slotsUsed := slotsUsed
  threads := #[{ frames := .invoking theMethod args0 :: below }]
def below0 : List Frame := [.native { method := ⟨0, 0⟩, args := #[] }]
def about1 : State := aboutOver below0
def p0 : Program := .bare "" "" ""
def e0 : Env := launch0.env 0 0 0
theorem w_frames : about1.frames = Frame.invoking theMethod args0 :: below0 := rfl
set_option maxRecDepth 65536 in
theorem w_args : argsFit about1.vm theMethod args0 = true := by decide +kernel
set_option maxRecDepth 65536 in
theorem w_heap : heapFits about1 = true := by decide +kernel
set_option maxRecDepth 65536 in
theorem w_runnable : about1.curStatus? = some .runnable := by decide +kernel
set_option maxRecDepth 65536 in
theorem w_alone : about1.alone = true := by decide +kernel
set_option maxRecDepth 65536 in
theorem w_named : about1.methodNamed? x = some theMethod := by decide +kernel
set_option maxRecDepth 65536 in
theorem w_hears : about1.hears theMethod below0 = true := by decide +kernel
set_option maxRecDepth 65536 in
theorem w_ripe : about1.ripe theMethod args0 below0 = true := by decide +kernel
theorem w_running : about1.status = .running := rfl
set_option maxRecDepth 65536 in
theorem w_room : about1.hasRoom e0.platform room_1 = true :=
  launch0.hasRoom_least _ room_1 (by decide +kernel) (by decide +kernel) (by decide +kernel) (by decide +kernel) (by decide +kernel) (by decide +kernel)
theorem allAtoms_all (ts : List Jvm.Cond) (a : Array Jvm.Value) (st : Jvm.State) : (allAtoms ts).before a st = ts.all (fun c => c.before a st) := by
  induction ts with
  | nil => rfl
  | cons c t ih =>
    show (Jvm.Cond.and c (allAtoms t)).before a st = _
    rw [Jvm.Cond.before_and, ih, List.all_cons]
def words1 : List Jvm.Cond := Jvm.Cond.code x code maxLocals ret :: tables_1
/-- a 'code' word, met by the world's own term for the bytes: nothing is compared byte by byte -/
theorem code_word {y : MethodName} {bytes : ByteArray} {mx : Nat} {rt : Option FieldType} {a : Array Value} {s : State} {m : MethodId} {meth : Method} {c : Code} (h1 : s.methodNamed? y = some m) (h2 : s.vm.method? m = some meth) (h3 : meth.code = some c) (h4 : c.code = bytes)
    (h5 : (c.maxLocals == mx && c.exceptionTable.isEmpty && decide (c.maxStack ≤ mostOperands) && decide (meth.sig.returnType = rt) && !meth.locks && decide (parseMethodDescriptor y.desc = some meth.sig)) = true) : (Jvm.Cond.code y bytes mx rt).before a s = true := by
  simp only [Bool.and_eq_true, beq_iff_eq, Bool.not_eq_true', decide_eq_true_eq] at h5
  obtain ⟨⟨⟨⟨⟨g1, g2⟩, g3⟩, g4⟩, g5⟩, g6⟩ := h5
  simp [Cond.before, Cond.holds, Cond.value, h1, h2, h3, h4, g1, g2, g3, g4, g5, g6]
def isCode : Jvm.Cond → Bool
  | .code _ _ _ _ => true
  | _ => false
theorem all_split {L : List Jvm.Cond} {P : Jvm.Cond → Bool} (h1 : L.all (fun c => isCode c || P c) = true) (h2 : ∀ c ∈ L.filter isCode, P c = true) : L.all P = true := by
  refine List.all_eq_true.mpr fun c hc => ?_
  have h := List.all_eq_true.mp h1 c hc
  rcases Bool.eq_false_or_eq_true (isCode c) with hi | hi
  · exact h2 c (List.mem_filter.mpr ⟨hc, hi⟩)
  · simpa [hi] using h
set_option maxRecDepth 65536 in
theorem w_c0 : (Jvm.Cond.code x code maxLocals ret).before args0 about1 = true := code_word (m := ⟨1, 2⟩) (meth := k1m2) (c := k1c2) (by decide +kernel) rfl rfl rfl (by decide +kernel)
set_option maxRecDepth 65536 in
theorem w_c1 : (Jvm.Cond.code ({ cls := "java/lang/String", name := "valueOf", desc := "(C)Ljava/lang/String;" } : Jvm.MethodName) jdk_42_method_139_code (1 : Nat) (Option.some (Jvm.ClassFile.FieldType.object "java/lang/String"))).before args0 about1 = true := code_word (m := ⟨7, 2⟩) (meth := k7m2) (c := k7c2) (by decide +kernel) rfl rfl rfl (by decide +kernel)
set_option maxRecDepth 65536 in
theorem w_c2 : (Jvm.Cond.code ({ cls := "java/lang/StringLatin1", name := "canEncode", desc := "(C)Z" } : Jvm.MethodName) jdk_43_method_3_code (1 : Nat) (Option.some Jvm.ClassFile.FieldType.boolean)).before args0 about1 = true := code_word (m := ⟨8, 1⟩) (meth := k8m1) (c := k8c1) (by decide +kernel) rfl rfl rfl (by decide +kernel)
set_option maxRecDepth 65536 in
theorem w_c3 : (Jvm.Cond.code ({ cls := "java/lang/StringLatin1", name := "toBytes", desc := "(C)[B" } : Jvm.MethodName) jdk_43_method_46_code (1 : Nat) (Option.some (Jvm.ClassFile.FieldType.array Jvm.ClassFile.FieldType.byte))).before args0 about1 = true := code_word (m := ⟨8, 2⟩) (meth := k8m2) (c := k8c2) (by decide +kernel) rfl rfl rfl (by decide +kernel)
set_option maxRecDepth 65536 in
theorem w_c4 : (Jvm.Cond.code ({ cls := "java/lang/String", name := "<init>", desc := "([BB)V" } : Jvm.MethodName) jdk_42_method_151_code (3 : Nat) (Option.none : Option Jvm.ClassFile.FieldType)).before args0 about1 = true := code_word (m := ⟨7, 3⟩) (meth := k7m3) (c := k7c3) (by decide +kernel) rfl rfl rfl (by decide +kernel)
set_option maxRecDepth 65536 in
theorem w_c5 : (Jvm.Cond.code ({ cls := "java/lang/Object", name := "<init>", desc := "()V" } : Jvm.MethodName) object_method_1_code (1 : Nat) (Option.none : Option Jvm.ClassFile.FieldType)).before args0 about1 = true := code_word (m := ⟨0, 0⟩) (meth := k0m0) (c := k0c0) (by decide +kernel) rfl rfl rfl (by decide +kernel)
set_option maxRecDepth 65536 in
theorem w_c6 : (Jvm.Cond.code ({ cls := "java/util/ArrayList", name := "<init>", desc := "()V" } : Jvm.MethodName) jdk_38_method_2_code (1 : Nat) (Option.none : Option Jvm.ClassFile.FieldType)).before args0 about1 = true := code_word (m := ⟨17, 0⟩) (meth := k17m0) (c := k17c0) (by decide +kernel) rfl rfl rfl (by decide +kernel)
set_option maxRecDepth 65536 in
theorem w_c7 : (Jvm.Cond.code ({ cls := "java/util/AbstractList", name := "<init>", desc := "()V" } : Jvm.MethodName) jdk_39_method_1_code (1 : Nat) (Option.none : Option Jvm.ClassFile.FieldType)).before args0 about1 = true := code_word (m := ⟨14, 0⟩) (meth := k14m0) (c := k14c0) (by decide +kernel) rfl rfl rfl (by decide +kernel)
set_option maxRecDepth 65536 in
theorem w_c8 : (Jvm.Cond.code ({ cls := "java/util/AbstractCollection", name := "<init>", desc := "()V" } : Jvm.MethodName) jdk_22_method_1_code (1 : Nat) (Option.none : Option Jvm.ClassFile.FieldType)).before args0 about1 = true := code_word (m := ⟨11, 0⟩) (meth := k11m0) (c := k11c0) (by decide +kernel) rfl rfl rfl (by decide +kernel)
set_option maxRecDepth 65536 in
theorem w_c9 : (Jvm.Cond.code ({ cls := "com/example/fachwissen/fachwissen/mail/Message", name := "<init>", desc := "(Ljava/util/List;Ljava/util/List;Ljava/util/List;)V" } : Jvm.MethodName) prog_12_method_1_code (4 : Nat) (Option.none : Option Jvm.ClassFile.FieldType)).before args0 about1 = true := code_word (m := ⟨19, 0⟩) (meth := k19m0) (c := k19c0) (by decide +kernel) rfl rfl rfl (by decide +kernel)
set_option maxRecDepth 65536 in
theorem w_c10 : (Jvm.Cond.code ({ cls := "java/lang/Record", name := "<init>", desc := "()V" } : Jvm.MethodName) jdk_30_method_1_code (1 : Nat) (Option.none : Option Jvm.ClassFile.FieldType)).before args0 about1 = true := code_word (m := ⟨18, 0⟩) (meth := k18m0) (c := k18c0) (by decide +kernel) rfl rfl rfl (by decide +kernel)
set_option maxRecDepth 65536 in
theorem w_c11 : (Jvm.Cond.code ({ cls := "com/example/fachwissen/fachwissen/mail/Message", name := "associationTexts", desc := "()Ljava/util/List;" } : Jvm.MethodName) prog_12_method_2_code (2 : Nat) (Option.some (Jvm.ClassFile.FieldType.object "java/util/List"))).before args0 about1 = true := code_word (m := ⟨19, 1⟩) (meth := k19m1) (c := k19c1) (by decide +kernel) rfl rfl rfl (by decide +kernel)
set_option maxRecDepth 65536 in
theorem w_c12 : (Jvm.Cond.code ({ cls := "java/util/ArrayList", name := "<init>", desc := "(Ljava/util/Collection;)V" } : Jvm.MethodName) jdk_38_method_3_code (3 : Nat) (Option.none : Option Jvm.ClassFile.FieldType)).before args0 about1 = true := code_word (m := ⟨17, 1⟩) (meth := k17m1) (c := k17c1) (by decide +kernel) rfl rfl rfl (by decide +kernel)
set_option maxRecDepth 65536 in
theorem w_c13 : (Jvm.Cond.code ({ cls := "java/util/ArrayList", name := "toArray", desc := "()[Ljava/lang/Object;" } : Jvm.MethodName) jdk_38_method_16_code (1 : Nat) (Option.some (Jvm.ClassFile.FieldType.array (Jvm.ClassFile.FieldType.object "java/lang/Object")))).before args0 about1 = true := code_word (m := ⟨17, 5⟩) (meth := k17m5) (c := k17c5) (by decide +kernel) rfl rfl rfl (by decide +kernel)
set_option maxRecDepth 65536 in
theorem w_c14 : (Jvm.Cond.code ({ cls := "java/util/Arrays", name := "copyOf", desc := "([Ljava/lang/Object;I)[Ljava/lang/Object;" } : Jvm.MethodName) jdk_65_method_119_code (2 : Nat) (Option.some (Jvm.ClassFile.FieldType.array (Jvm.ClassFile.FieldType.object "java/lang/Object")))).before args0 about1 = true := code_word (m := ⟨20, 1⟩) (meth := k20m1) (c := k20c1) (by decide +kernel) rfl rfl rfl (by decide +kernel)
set_option maxRecDepth 65536 in
theorem w_c15 : (Jvm.Cond.code ({ cls := "java/util/Arrays", name := "copyOf", desc := "([Ljava/lang/Object;ILjava/lang/Class;)[Ljava/lang/Object;" } : Jvm.MethodName) jdk_65_method_120_code (4 : Nat) (Option.some (Jvm.ClassFile.FieldType.array (Jvm.ClassFile.FieldType.object "java/lang/Object")))).before args0 about1 = true := code_word (m := ⟨20, 2⟩) (meth := k20m2) (c := k20c2) (by decide +kernel) rfl rfl rfl (by decide +kernel)
set_option maxRecDepth 65536 in
theorem w_c16 : (Jvm.Cond.code ({ cls := "java/lang/Math", name := "min", desc := "(II)I" } : Jvm.MethodName) jdk_29_method_69_code (2 : Nat) (Option.some Jvm.ClassFile.FieldType.int)).before args0 about1 = true := code_word (m := ⟨21, 2⟩) (meth := k21m2) (c := k21c2) (by decide +kernel) rfl rfl rfl (by decide +kernel)
set_option maxRecDepth 65536 in
theorem w_c17 : (Jvm.Cond.code ({ cls := "java/util/ArrayList", name := "addAll", desc := "(Ljava/util/Collection;)Z" } : Jvm.MethodName) jdk_38_method_41_code (6 : Nat) (Option.some Jvm.ClassFile.FieldType.boolean)).before args0 about1 = true := code_word (m := ⟨17, 10⟩) (meth := k17m10) (c := k17c10) (by decide +kernel) rfl rfl rfl (by decide +kernel)
set_option maxRecDepth 65536 in
theorem w_c18 : (Jvm.Cond.code ({ cls := "java/util/ArrayList", name := "size", desc := "()I" } : Jvm.MethodName) jdk_38_method_8_code (1 : Nat) (Option.some Jvm.ClassFile.FieldType.int)).before args0 about1 = true := code_word (m := ⟨17, 4⟩) (meth := k17m4) (c := k17c4) (by decide +kernel) rfl rfl rfl (by decide +kernel)
set_option maxRecDepth 65536 in
theorem w_c19 : (Jvm.Cond.code ({ cls := "com/example/fachwissen/fachwissen/mail/MessageAssociationTextsPinLaw", name := "at", desc := "(Ljava/util/List;[Ljava/lang/String;II)Z" } : Jvm.MethodName) method_2_code (4 : Nat) (Option.some Jvm.ClassFile.FieldType.boolean)).before args0 about1 = true := code_word (m := ⟨1, 1⟩) (meth := k1m1) (c := k1c1) (by decide +kernel) rfl rfl rfl (by decide +kernel)
set_option maxRecDepth 65536 in
theorem w_c20 : (Jvm.Cond.code ({ cls := "java/util/ArrayList", name := "add", desc := "(Ljava/lang/Object;)Z" } : Jvm.MethodName) jdk_38_method_25_code (2 : Nat) (Option.some Jvm.ClassFile.FieldType.boolean)).before args0 about1 = true := code_word (m := ⟨17, 9⟩) (meth := k17m9) (c := k17c9) (by decide +kernel) rfl rfl rfl (by decide +kernel)
set_option maxRecDepth 65536 in
theorem w_c21 : (Jvm.Cond.code ({ cls := "java/util/ArrayList", name := "add", desc := "(Ljava/lang/Object;[Ljava/lang/Object;I)V" } : Jvm.MethodName) jdk_38_method_24_code (4 : Nat) (Option.none : Option Jvm.ClassFile.FieldType)).before args0 about1 = true := code_word (m := ⟨17, 8⟩) (meth := k17m8) (c := k17c8) (by decide +kernel) rfl rfl rfl (by decide +kernel)
set_option maxRecDepth 65536 in
theorem w_c22 : (Jvm.Cond.code ({ cls := "java/util/ArrayList", name := "grow", desc := "()[Ljava/lang/Object;" } : Jvm.MethodName) jdk_38_method_7_code (1 : Nat) (Option.some (Jvm.ClassFile.FieldType.array (Jvm.ClassFile.FieldType.object "java/lang/Object")))).before args0 about1 = true := code_word (m := ⟨17, 3⟩) (meth := k17m3) (c := k17c3) (by decide +kernel) rfl rfl rfl (by decide +kernel)
set_option maxRecDepth 65536 in
theorem w_c23 : (Jvm.Cond.code ({ cls := "java/util/ArrayList", name := "grow", desc := "(I)[Ljava/lang/Object;" } : Jvm.MethodName) jdk_38_method_6_code (4 : Nat) (Option.some (Jvm.ClassFile.FieldType.array (Jvm.ClassFile.FieldType.object "java/lang/Object")))).before args0 about1 = true := code_word (m := ⟨17, 2⟩) (meth := k17m2) (c := k17c2) (by decide +kernel) rfl rfl rfl (by decide +kernel)
set_option maxRecDepth 65536 in
theorem w_c24 : (Jvm.Cond.code ({ cls := "java/lang/Math", name := "max", desc := "(II)I" } : Jvm.MethodName) jdk_29_method_65_code (2 : Nat) (Option.some Jvm.ClassFile.FieldType.int)).before args0 about1 = true := code_word (m := ⟨21, 1⟩) (meth := k21m1) (c := k21c1) (by decide +kernel) rfl rfl rfl (by decide +kernel)
set_option maxRecDepth 65536 in
theorem w_c25 : (Jvm.Cond.code ({ cls := "java/util/ArrayList", name := "get", desc := "(I)Ljava/lang/Object;" } : Jvm.MethodName) jdk_38_method_20_code (2 : Nat) (Option.some (Jvm.ClassFile.FieldType.object "java/lang/Object"))).before args0 about1 = true := code_word (m := ⟨17, 7⟩) (meth := k17m7) (c := k17c7) (by decide +kernel) rfl rfl rfl (by decide +kernel)
set_option maxRecDepth 65536 in
theorem w_c26 : (Jvm.Cond.code ({ cls := "java/util/Objects", name := "checkIndex", desc := "(II)I" } : Jvm.MethodName) jdk_31_method_17_code (2 : Nat) (Option.some Jvm.ClassFile.FieldType.int)).before args0 about1 = true := code_word (m := ⟨23, 1⟩) (meth := k23m1) (c := k23c1) (by decide +kernel) rfl rfl rfl (by decide +kernel)
set_option maxRecDepth 65536 in
theorem w_c27 : (Jvm.Cond.code ({ cls := "jdk/internal/util/Preconditions", name := "checkIndex", desc := "(IILjava/util/function/BiFunction;)I" } : Jvm.MethodName) jdk_41_method_11_code (3 : Nat) (Option.some Jvm.ClassFile.FieldType.int)).before args0 about1 = true := code_word (m := ⟨24, 1⟩) (meth := k24m1) (c := k24c1) (by decide +kernel) rfl rfl rfl (by decide +kernel)
set_option maxRecDepth 65536 in
theorem w_c28 : (Jvm.Cond.code ({ cls := "java/util/ArrayList", name := "elementData", desc := "(I)Ljava/lang/Object;" } : Jvm.MethodName) jdk_38_method_18_code (2 : Nat) (Option.some (Jvm.ClassFile.FieldType.object "java/lang/Object"))).before args0 about1 = true := code_word (m := ⟨17, 6⟩) (meth := k17m6) (c := k17c6) (by decide +kernel) rfl rfl rfl (by decide +kernel)
set_option maxRecDepth 65536 in
theorem w_c29 : (Jvm.Cond.code ({ cls := "java/lang/String", name := "equals", desc := "(Ljava/lang/Object;)Z" } : Jvm.MethodName) jdk_42_method_66_code (3 : Nat) (Option.some Jvm.ClassFile.FieldType.boolean)).before args0 about1 = true := code_word (m := ⟨7, 1⟩) (meth := k7m1) (c := k7c1) (by decide +kernel) rfl rfl rfl (by decide +kernel)
set_option maxRecDepth 65536 in
theorem w_c30 : (Jvm.Cond.code ({ cls := "jdk/internal/util/ArraysSupport", name := "newLength", desc := "(III)I" } : Jvm.MethodName) jdk_48_method_27_code (4 : Nat) (Option.some Jvm.ClassFile.FieldType.int)).before args0 about1 = true := code_word (m := ⟨25, 1⟩) (meth := k25m1) (c := k25c1) (by decide +kernel) rfl rfl rfl (by decide +kernel)
def codes1 : List Jvm.Cond := [Jvm.Cond.code x code maxLocals ret, Jvm.Cond.code ({ cls := "java/lang/String", name := "valueOf", desc := "(C)Ljava/lang/String;" } : Jvm.MethodName) jdk_42_method_139_code (1 : Nat) (Option.some (Jvm.ClassFile.FieldType.object "java/lang/String")), Jvm.Cond.code ({ cls := "java/lang/StringLatin1", name := "canEncode", desc := "(C)Z" } : Jvm.MethodName) jdk_43_method_3_code (1 : Nat) (Option.some Jvm.ClassFile.FieldType.boolean), Jvm.Cond.code ({ cls := "java/lang/StringLatin1", name := "toBytes", desc := "(C)[B" } : Jvm.MethodName) jdk_43_method_46_code (1 : Nat) (Option.some (Jvm.ClassFile.FieldType.array Jvm.ClassFile.FieldType.byte)), Jvm.Cond.code ({ cls := "java/lang/String", name := "<init>", desc := "([BB)V" } : Jvm.MethodName) jdk_42_method_151_code (3 : Nat) (Option.none : Option Jvm.ClassFile.FieldType), Jvm.Cond.code ({ cls := "java/lang/Object", name := "<init>", desc := "()V" } : Jvm.MethodName) object_method_1_code (1 : Nat) (Option.none : Option Jvm.ClassFile.FieldType), Jvm.Cond.code ({ cls := "java/util/ArrayList", name := "<init>", desc := "()V" } : Jvm.MethodName) jdk_38_method_2_code (1 : Nat) (Option.none : Option Jvm.ClassFile.FieldType), Jvm.Cond.code ({ cls := "java/util/AbstractList", name := "<init>", desc := "()V" } : Jvm.MethodName) jdk_39_method_1_code (1 : Nat) (Option.none : Option Jvm.ClassFile.FieldType), Jvm.Cond.code ({ cls := "java/util/AbstractCollection", name := "<init>", desc := "()V" } : Jvm.MethodName) jdk_22_method_1_code (1 : Nat) (Option.none : Option Jvm.ClassFile.FieldType), Jvm.Cond.code ({ cls := "com/example/fachwissen/fachwissen/mail/Message", name := "<init>", desc := "(Ljava/util/List;Ljava/util/List;Ljava/util/List;)V" } : Jvm.MethodName) prog_12_method_1_code (4 : Nat) (Option.none : Option Jvm.ClassFile.FieldType), Jvm.Cond.code ({ cls := "java/lang/Record", name := "<init>", desc := "()V" } : Jvm.MethodName) jdk_30_method_1_code (1 : Nat) (Option.none : Option Jvm.ClassFile.FieldType), Jvm.Cond.code ({ cls := "com/example/fachwissen/fachwissen/mail/Message", name := "associationTexts", desc := "()Ljava/util/List;" } : Jvm.MethodName) prog_12_method_2_code (2 : Nat) (Option.some (Jvm.ClassFile.FieldType.object "java/util/List")), Jvm.Cond.code ({ cls := "java/util/ArrayList", name := "<init>", desc := "(Ljava/util/Collection;)V" } : Jvm.MethodName) jdk_38_method_3_code (3 : Nat) (Option.none : Option Jvm.ClassFile.FieldType), Jvm.Cond.code ({ cls := "java/util/ArrayList", name := "toArray", desc := "()[Ljava/lang/Object;" } : Jvm.MethodName) jdk_38_method_16_code (1 : Nat) (Option.some (Jvm.ClassFile.FieldType.array (Jvm.ClassFile.FieldType.object "java/lang/Object"))), Jvm.Cond.code ({ cls := "java/util/Arrays", name := "copyOf", desc := "([Ljava/lang/Object;I)[Ljava/lang/Object;" } : Jvm.MethodName) jdk_65_method_119_code (2 : Nat) (Option.some (Jvm.ClassFile.FieldType.array (Jvm.ClassFile.FieldType.object "java/lang/Object"))), Jvm.Cond.code ({ cls := "java/util/Arrays", name := "copyOf", desc := "([Ljava/lang/Object;ILjava/lang/Class;)[Ljava/lang/Object;" } : Jvm.MethodName) jdk_65_method_120_code (4 : Nat) (Option.some (Jvm.ClassFile.FieldType.array (Jvm.ClassFile.FieldType.object "java/lang/Object"))), Jvm.Cond.code ({ cls := "java/lang/Math", name := "min", desc := "(II)I" } : Jvm.MethodName) jdk_29_method_69_code (2 : Nat) (Option.some Jvm.ClassFile.FieldType.int), Jvm.Cond.code ({ cls := "java/util/ArrayList", name := "addAll", desc := "(Ljava/util/Collection;)Z" } : Jvm.MethodName) jdk_38_method_41_code (6 : Nat) (Option.some Jvm.ClassFile.FieldType.boolean), Jvm.Cond.code ({ cls := "java/util/ArrayList", name := "size", desc := "()I" } : Jvm.MethodName) jdk_38_method_8_code (1 : Nat) (Option.some Jvm.ClassFile.FieldType.int), Jvm.Cond.code ({ cls := "com/example/fachwissen/fachwissen/mail/MessageAssociationTextsPinLaw", name := "at", desc := "(Ljava/util/List;[Ljava/lang/String;II)Z" } : Jvm.MethodName) method_2_code (4 : Nat) (Option.some Jvm.ClassFile.FieldType.boolean), Jvm.Cond.code ({ cls := "java/util/ArrayList", name := "add", desc := "(Ljava/lang/Object;)Z" } : Jvm.MethodName) jdk_38_method_25_code (2 : Nat) (Option.some Jvm.ClassFile.FieldType.boolean), Jvm.Cond.code ({ cls := "java/util/ArrayList", name := "add", desc := "(Ljava/lang/Object;[Ljava/lang/Object;I)V" } : Jvm.MethodName) jdk_38_method_24_code (4 : Nat) (Option.none : Option Jvm.ClassFile.FieldType), Jvm.Cond.code ({ cls := "java/util/ArrayList", name := "grow", desc := "()[Ljava/lang/Object;" } : Jvm.MethodName) jdk_38_method_7_code (1 : Nat) (Option.some (Jvm.ClassFile.FieldType.array (Jvm.ClassFile.FieldType.object "java/lang/Object"))), Jvm.Cond.code ({ cls := "java/util/ArrayList", name := "grow", desc := "(I)[Ljava/lang/Object;" } : Jvm.MethodName) jdk_38_method_6_code (4 : Nat) (Option.some (Jvm.ClassFile.FieldType.array (Jvm.ClassFile.FieldType.object "java/lang/Object"))), Jvm.Cond.code ({ cls := "java/lang/Math", name := "max", desc := "(II)I" } : Jvm.MethodName) jdk_29_method_65_code (2 : Nat) (Option.some Jvm.ClassFile.FieldType.int), Jvm.Cond.code ({ cls := "java/util/ArrayList", name := "get", desc := "(I)Ljava/lang/Object;" } : Jvm.MethodName) jdk_38_method_20_code (2 : Nat) (Option.some (Jvm.ClassFile.FieldType.object "java/lang/Object")), Jvm.Cond.code ({ cls := "java/util/Objects", name := "checkIndex", desc := "(II)I" } : Jvm.MethodName) jdk_31_method_17_code (2 : Nat) (Option.some Jvm.ClassFile.FieldType.int), Jvm.Cond.code ({ cls := "jdk/internal/util/Preconditions", name := "checkIndex", desc := "(IILjava/util/function/BiFunction;)I" } : Jvm.MethodName) jdk_41_method_11_code (3 : Nat) (Option.some Jvm.ClassFile.FieldType.int), Jvm.Cond.code ({ cls := "java/util/ArrayList", name := "elementData", desc := "(I)Ljava/lang/Object;" } : Jvm.MethodName) jdk_38_method_18_code (2 : Nat) (Option.some (Jvm.ClassFile.FieldType.object "java/lang/Object")), Jvm.Cond.code ({ cls := "java/lang/String", name := "equals", desc := "(Ljava/lang/Object;)Z" } : Jvm.MethodName) jdk_42_method_66_code (3 : Nat) (Option.some Jvm.ClassFile.FieldType.boolean), Jvm.Cond.code ({ cls := "jdk/internal/util/ArraysSupport", name := "newLength", desc := "(III)I" } : Jvm.MethodName) jdk_48_method_27_code (4 : Nat) (Option.some Jvm.ClassFile.FieldType.int)]
set_option maxRecDepth 65536 in
theorem codes_eq : words1.filter isCode = codes1 := rfl
theorem w_codes : ∀ c ∈ words1.filter isCode, c.before args0 about1 = true := by
  rw [codes_eq]
  intro c hc
  simp only [codes1, List.mem_cons, List.not_mem_nil, or_false] at hc
  rcases hc with rfl | rfl | rfl | rfl | rfl | rfl | rfl | rfl | rfl | rfl | rfl | rfl | rfl | rfl | rfl | rfl | rfl | rfl | rfl | rfl | rfl | rfl | rfl | rfl | rfl | rfl | rfl | rfl | rfl | rfl | rfl
  · exact w_c0
  · exact w_c1
  · exact w_c2
  · exact w_c3
  · exact w_c4
  · exact w_c5
  · exact w_c6
  · exact w_c7
  · exact w_c8
  · exact w_c9
  · exact w_c10
  · exact w_c11
  · exact w_c12
  · exact w_c13
  · exact w_c14
  · exact w_c15
  · exact w_c16
  · exact w_c17
  · exact w_c18
  · exact w_c19
  · exact w_c20
  · exact w_c21
  · exact w_c22
  · exact w_c23
  · exact w_c24
  · exact w_c25
  · exact w_c26
  · exact w_c27
  · exact w_c28
  · exact w_c29
  · exact w_c30
set_option maxRecDepth 65536 in
theorem w_t1 : (words1.take 24).all (fun c => isCode c || c.before args0 about1) = true := by decide +kernel
set_option maxRecDepth 65536 in
theorem w_t2 : ((words1.drop 24).take 24).all (fun c => isCode c || c.before args0 about1) = true := by decide +kernel
set_option maxRecDepth 65536 in
theorem w_t3 : (((words1.drop 24).drop 24).take 24).all (fun c => isCode c || c.before args0 about1) = true := by decide +kernel
set_option maxRecDepth 65536 in
theorem w_t4 : ((((words1.drop 24).drop 24).drop 24).take 24).all (fun c => isCode c || c.before args0 about1) = true := by decide +kernel
set_option maxRecDepth 65536 in
theorem w_t5 : (((((words1.drop 24).drop 24).drop 24).drop 24).take 24).all (fun c => isCode c || c.before args0 about1) = true := by decide +kernel
set_option maxRecDepth 65536 in
theorem w_t6 : ((((((words1.drop 24).drop 24).drop 24).drop 24).drop 24).take 24).all (fun c => isCode c || c.before args0 about1) = true := by decide +kernel
set_option maxRecDepth 65536 in
theorem w_t7 : (((((((words1.drop 24).drop 24).drop 24).drop 24).drop 24).drop 24).take 24).all (fun c => isCode c || c.before args0 about1) = true := by decide +kernel
set_option maxRecDepth 65536 in
theorem w_t8 : ((((((((words1.drop 24).drop 24).drop 24).drop 24).drop 24).drop 24).drop 24).take 24).all (fun c => isCode c || c.before args0 about1) = true := by decide +kernel
set_option maxRecDepth 65536 in
theorem w_t9 : ((((((((words1.drop 24).drop 24).drop 24).drop 24).drop 24).drop 24).drop 24).drop 24).all (fun c => isCode c || c.before args0 about1) = true := by decide +kernel
theorem w_tables : (allAtoms (Jvm.Cond.code x code maxLocals ret :: tables_1)).before args0 about1 = true := by
  rw [allAtoms_all]
  show words1.all (fun c => c.before args0 about1) = true
  refine all_split ?_ w_codes
  rw [← List.take_append_drop 24 words1, List.all_append, w_t1, ← List.take_append_drop 24 (words1.drop 24), List.all_append, w_t2, ← List.take_append_drop 24 ((words1.drop 24).drop 24), List.all_append, w_t3, ← List.take_append_drop 24 (((words1.drop 24).drop 24).drop 24), List.all_append, w_t4, ← List.take_append_drop 24 ((((words1.drop 24).drop 24).drop 24).drop 24), List.all_append, w_t5, ← List.take_append_drop 24 (((((words1.drop 24).drop 24).drop 24).drop 24).drop 24), List.all_append, w_t6, ← List.take_append_drop 24 ((((((words1.drop 24).drop 24).drop 24).drop 24).drop 24).drop 24), List.all_append, w_t7, ← List.take_append_drop 24 (((((((words1.drop 24).drop 24).drop 24).drop 24).drop 24).drop 24).drop 24), List.all_append, w_t8, w_t9]
  rfl
set_option maxRecDepth 65536 in
theorem w_rest : rest_1_c.before args0 about1 = true := by decide +kernel
set_option maxRecDepth 65536 in
theorem w_case : (Jvm.Cond.and given_1 narrow_1).before args0 about1 = true := by decide +kernel
theorem w_applies : (headSpec (Jvm.Cond.code x code maxLocals ret :: tables_1) room_1).applies x e0.platform about1 = true :=
  (Spec.applies_iff w_frames).mpr ⟨w_running, w_runnable, w_alone, w_named, w_hears, w_ripe, w_room, w_tables⟩
theorem atStart : AtStart classFile x code maxLocals ret World_1 tables_1 room_1 Calls_1 rest_1 Pre_1 launch0 p0 e0 about1 theMethod args0 below0 :=
  ⟨lists_1, trivial, launch0.admits_env _ _ _, launch0.least_env, fairChoices_fair.cas, fairChoices_fair.clock, w_frames, w_args, w_heap, w_applies, ⟨⟨31, k31, 3, by decide +kernel, rfl, rfl, _, rfl, rfl⟩, ⟨⟨17, k17, 4, by decide +kernel, rfl, rfl, _, rfl, rfl⟩, trivial⟩⟩, w_rest, w_case⟩
end start1
theorem witness_1 : WitnessClaimed_1 := ⟨start1.p0, start1.e0, start1.about1, start1.theMethod, start1.args0, start1.below0, start1.atStart⟩
end Jvm.Pilot.@@N@@
