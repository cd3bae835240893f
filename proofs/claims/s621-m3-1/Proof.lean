import JvmDerived
import JvmDerived.Pilot.@@N@@Statement
import JvmDerived.Pilot.@@N@@Code
set_option linter.unusedVariables false
set_option linter.unusedSimpArgs false
namespace Jvm.RoadKit
open Sem ClassFile Op Lib Jvm.Stand Jvm.Free Jvm.LawKit
section New
variable {p : Program} {l : Launch} {e : Env} {R : Room} {s : State} {m : MethodId} {args : Array Value} {below : List Frame} {meth : Method} {c : Code} {T : State} {locs : List Loc} {cells slots : Nat}
theorem retI (X : Stand p l e R s m args below meth c T locs cells slots) (hx : p.tables.exec = Jvm.exec) {pc : Nat} {Ls : Array Slot} {z : Int32} {rest : List Value} (hret : meth.sig.returnType = some .int) (hd : decode c.code pc = .ok (.ireturn, 1)) {fs : List Frame}
    (hl : ∀ (f : JFrame) (acts : List Action), f.method = m → f.locked = none → f.entered = [] → (doReturn e (T.setTop f) acts (some (.int z))).1 = T.setFrames fs) : Steps p.tables e below (T.setTop (mkF m pc Ls (.int z :: rest))) (T.setFrames fs) := by
  have hm' : T.vm.method? m = some meth := X.method'
  have hn : narrow .int (.int z) = .int z := rfl
  show Steps p.tables e below (T.setTop { method := m, pc := pc, locals := Ls, stack := _ :: rest, locked := none }) _
  jvm_step X.here [X.here.top, hx, hd, hm', hret, hn]
  first | (intro acts; rw [hl _ acts rfl rfl rfl]) | rw [hl _ _ rfl rfl rfl]
  exact Steps.refl _
end New
end Jvm.RoadKit
namespace Jvm.Pilot.@@N@@
open Jvm Jvm.ClassFile Sem Op Lib Jvm.Free Jvm.Stand Jvm.LawKit Jvm.RoadKit Bundle Jvm.Pilot.@@N@@.Jvm.D
/-! the rest of a walk, from a state on: it returns, and what it leaves -/
def OwnGo (p : Program) (e : Env) (below : List Frame) (s : State) (Q : Option Value → Heap → List Loc → Prop) (K N : Nat) (U : State) : Prop :=
  ∃ t o, Steps p.tables e below U t ∧ t.status = .running ∧ Ended t below o ∧ ∃ v L, o = .returned v ∧ Q v t.heap L ∧ FrameEnd s o t L K N
section OwnKit
variable {p : Program} {l : Launch} {e : Env} {R : Room} {s : State} {m : MethodId} {args : Array Value} {below : List Frame} {meth : Method} {c : Code} {T : State} {locs : List Loc} {cells slots : Nat} {Q : Option Value → Heap → List Loc → Prop} {K N : Nat} {U U' : State} {h : Heap}
theorem own_on (st : ∀ t, Steps p.tables e below U' t → Steps p.tables e below U t) (k : OwnGo p e below s Q K N U') : OwnGo p e below s Q K N U := by
  obtain ⟨t, o, h1, r⟩ := k; exact ⟨t, o, st t h1, r⟩
theorem own_tr (st : Steps p.tables e below U U') (k : OwnGo p e below s Q K N U') : OwnGo p e below s Q K N U := own_on (fun _ q => st.trans q) k
theorem own_num {c' n' : Nat} {l' : List Loc} (X : Stand p l e R s m args below meth c T locs cells slots) (h0 : locs = l') (h1 : cells = c') (h2 : slots = n') : Stand p l e R s m args below meth c T l' c' n' := by
  subst h0 h1 h2; exact X
theorem own_cast {g g' : JFrame} (q : g = g') (k : OwnGo p e below s Q K N (T.setTop g')) : OwnGo p e below s Q K N (T.setTop g) := q ▸ k
theorem own_end (X : Stand p l e R s m args below meth c T locs cells slots) (hlk : meth.locks = false) {v : Option Value} (hv : meth.sig.returnType = none → v = none) (eT : T.heap = h) (q : Q v h locs) (hk : cells ≤ K) (hn : slots ≤ N)
    (st : ∀ fs, (∀ (f : JFrame) (acts : List Action), f.method = m → f.locked = none → f.entered = [] → (doReturn e (T.setTop f) acts v).1 = T.setFrames fs) → Steps p.tables e below U (T.setFrames fs)) : OwnGo p e below s Q K N U := by
  obtain ⟨fs, hr, hrun, hended, hW, hsame⟩ := X.leave (v := v) hv hlk
  refine ⟨_, _, st fs hr, hrun, hended, v, locs, rfl, ?_, ⟨_, rfl⟩, hW, hsame.mono hk hn⟩
  have : (T.setFrames fs).heap = h := eT
  rw [this]; exact q
theorem own_retN (X : Stand p l e R s m args below meth c T locs cells slots) (hx : p.tables.exec = Jvm.exec) (hlk : meth.locks = false) {pc : Nat} {Ls : Array Slot} {z : Int32} {t : FieldType} {rest : List Value} (hret : meth.sig.returnType = some t) (ht : t = .boolean ∨ t = .byte ∨ t = .char ∨ t = .short)
    (hd : decode c.code pc = .ok (.ireturn, 1)) (eT : T.heap = h) (q : Q (some (.int (nar t z))) h locs) (hk : cells ≤ K) (hn : slots ≤ N) : OwnGo p e below s Q K N (T.setTop (mkF m pc Ls (.int z :: rest))) :=
  own_end X hlk (fun h => by rw [hret] at h; cases h) eT q hk hn fun fs hr => retN X hx hret ht hd hr
theorem own_retI (X : Stand p l e R s m args below meth c T locs cells slots) (hx : p.tables.exec = Jvm.exec) (hlk : meth.locks = false) {pc : Nat} {Ls : Array Slot} {z : Int32} {rest : List Value} (hret : meth.sig.returnType = some .int)
    (hd : decode c.code pc = .ok (.ireturn, 1)) (eT : T.heap = h) (q : Q (some (.int z)) h locs) (hk : cells ≤ K) (hn : slots ≤ N) : OwnGo p e below s Q K N (T.setTop (mkF m pc Ls (.int z :: rest))) :=
  own_end X hlk (fun h => by rw [hret] at h; cases h) eT q hk hn fun fs hr => retI X hx hret hd hr
theorem own_retA (X : Stand p l e R s m args below meth c T locs cells slots) (hx : p.tables.exec = Jvm.exec) (hlk : meth.locks = false) {pc : Nat} {Ls : Array Slot} {w : Value} {t : FieldType} {rest : List Value} (hret : meth.sig.returnType = some t) (ht : t.isReference = true) (hw : w.isRef = true)
    (hd : decode c.code pc = .ok (.areturn, 1)) (eT : T.heap = h) (q : Q (some w) h locs) (hk : cells ≤ K) (hn : slots ≤ N) : OwnGo p e below s Q K N (T.setTop (mkF m pc Ls (w :: rest))) :=
  own_end X hlk (fun h => by rw [hret] at h; cases h) eT q hk hn fun fs hr => retOut X hx hret (by rcases ref_cases hw with rfl | ⟨a, rfl⟩ <;> cases t <;> rfl) (Or.inr (Or.inr (Or.inr (Or.inr ⟨rfl, ht, hw⟩)))) hd hr
theorem own_retV (X : Stand p l e R s m args below meth c T locs cells slots) (hx : p.tables.exec = Jvm.exec) (hlk : meth.locks = false) {pc : Nat} {Ls : Array Slot} (hret : meth.sig.returnType = none)
    (hd : decode c.code pc = .ok (.return_, 1)) (eT : T.heap = h) (q : Q none h locs) (hk : cells ≤ K) (hn : slots ≤ N) : OwnGo p e below s Q K N (T.setTop (mkF m pc Ls [])) :=
  own_end X hlk (fun _ => rfl) eT q hk hn fun fs hr => X.returnOut hx hret hd hr
end OwnKit

theorem own_k8 : ((8 : Int32) &&& 31) = 8 := by decide
theorem own_sh8 (x : Int32) : (x <<< ((8 : Int32) &&& 31)).toBitVec = x.toBitVec <<< 8 := by
  rw [own_k8, Int32.toBitVec_shiftLeft]; rfl
theorem own_us (x : Int32) (k : Int32) (n : Nat) (h : (k &&& 31).toUInt32.toBitVec = BitVec.ofNat 32 n) (hn : n < 32) : ((x.toUInt32 >>> (k &&& 31).toUInt32).toInt32).toBitVec = x.toBitVec >>> n := by
  rw [UInt32.toBitVec_toInt32, UInt32.toBitVec_shiftRight, h, Int32.toBitVec_toUInt32]
  have : (BitVec.ofNat 32 n % 32) = BitVec.ofNat 32 n := by
    apply BitVec.eq_of_toNat_eq; simp; omega
  rw [this]; show x.toBitVec >>> (BitVec.ofNat 32 n).toNat = _
  congr 1; simp; omega
theorem own_255 (i : Nat) : (255#32).getLsbD i = decide (i < 8) := by
  by_cases h : i < 32
  · have : ∀ i : Fin 32, (255#32).getLsbD i.val = decide (i.val < 8) := by decide
    exact this ⟨i, h⟩
  · rw [BitVec.getLsbD_of_ge _ _ (by omega)]; simp; omega
theorem own_w2 (v : Int32) : ((((v.toUInt32 >>> ((8 : Int32) &&& 31).toUInt32).toInt32).toInt8.toInt32 <<< ((8 : Int32) &&& 31)) ||| (v.toInt8.toInt32 &&& (255 : Int32))) = v.toInt16.toInt32 := by
  apply Int32.toBitVec_inj.mp
  rw [Int32.toBitVec_or, own_sh8, Int8.toBitVec_toInt32, Int32.toBitVec_toInt8, own_us v 8 8 (by decide) (by decide), Int32.toBitVec_and, Int8.toBitVec_toInt32, Int32.toBitVec_toInt8, Int16.toBitVec_toInt32, Int32.toBitVec_toInt16]
  have e : (255 : Int32).toBitVec = 255#32 := rfl
  rw [e]
  generalize v.toBitVec = x
  apply BitVec.eq_of_getLsbD_eq; intro i hi
  simp only [BitVec.getLsbD_or, BitVec.getLsbD_and, own_255, BitVec.getLsbD_shiftLeft, BitVec.getLsbD_signExtend, BitVec.getLsbD_ushiftRight, BitVec.msb_eq_getLsbD_last]
  grind
theorem own_w4 (v : Int32) : ((((((((v.toUInt32 >>> ((24 : Int32) &&& 31).toUInt32).toInt32).toInt8.toInt32 <<< ((8 : Int32) &&& 31)) ||| (((v.toUInt32 >>> ((16 : Int32) &&& 31).toUInt32).toInt32).toInt8.toInt32 &&& (255 : Int32))) <<< ((8 : Int32) &&& 31)) ||| (((v.toUInt32 >>> ((8 : Int32) &&& 31).toUInt32).toInt32).toInt8.toInt32 &&& (255 : Int32))) <<< ((8 : Int32) &&& 31)) ||| (v.toInt8.toInt32 &&& (255 : Int32))) = v := by
  apply Int32.toBitVec_inj.mp
  simp only [Int32.toBitVec_or, own_sh8, Int8.toBitVec_toInt32, Int32.toBitVec_toInt8, own_us v 8 8 (by decide) (by decide), own_us v 16 16 (by decide) (by decide), own_us v 24 24 (by decide) (by decide), Int32.toBitVec_and]
  have e : (255 : Int32).toBitVec = 255#32 := rfl
  rw [e]
  generalize v.toBitVec = x
  apply BitVec.eq_of_getLsbD_eq; intro i hi
  simp only [BitVec.getLsbD_or, BitVec.getLsbD_and, own_255, BitVec.getLsbD_shiftLeft, BitVec.getLsbD_signExtend, BitVec.getLsbD_ushiftRight, BitVec.msb_eq_getLsbD_last]
  grind

def own_none (k : Int32) : Int32 := if k = 1 then 127 else if k = 2 then 32767 else 2147483647
def own_r (n x : Int32) : Int32 := if x = n then 2147483647 else x
theorem own_nb (x : Int32) : nar .byte (x.toInt8.toInt32) = x.toInt8.toInt32 := by simp [nar]
def own_fl (i : Nat) (F : Int32) (t : Nat) : Int32 := if t < i then F else 0
def own_upd (f : Nat → Int32) (i : Nat) (v : Int32) (t : Nat) : Int32 := if t = i then v else f t
theorem own_hit (f : Nat → Int32) (i : Nat) (v : Int32) : own_upd f i v i = v := if_pos rfl
theorem own_miss (f : Nat → Int32) (i : Nat) (v : Int32) {t : Nat} (h : t ≠ i) : own_upd f i v t = f t := if_neg h
theorem own_fl_0 (F : Int32) : ∀ t, own_upd (fun _ => 0) 0 F t = own_fl 1 F t := fun t => by
  simp only [own_upd, own_fl]; by_cases h : t = 0
  · rw [if_pos h, if_pos (by omega)]
  · rw [if_neg h, if_neg (by omega)]
theorem own_fl_up (i : Nat) (F : Int32) : ∀ t, own_upd (own_fl i F) i F t = own_fl (i + 1) F t := fun t => by
  simp only [own_upd, own_fl]; by_cases h : t = i
  · rw [if_pos h, if_pos (by omega)]
  · rw [if_neg h]; by_cases h2 : t < i
    · rw [if_pos h2, if_pos (by omega)]
    · rw [if_neg h2, if_neg (by omega)]
theorem own_ix {j : Int32} {n : Nat} (h : j.toInt = n) : ¬ j < 0 ∧ j.toNatClampNeg = n := by
  constructor
  · rw [Int32.lt_iff_toInt_lt, h]; show ¬ (n : Int) < 0; omega
  · simp only [Int32.toNatClampNeg, h]; omega
theorem own_add {j : Int32} {q : Nat} (h : j.toInt = q) (hq : q ≤ 1000) {i : Int32} {k : Nat} (hi : i.toInt = k) (hk : k ≤ 1000) : (j + i).toInt = ((q + k : Nat) : Int) := by
  rw [Int32.toInt_add, h, hi, Int.bmod_eq_of_le (by omega) (by omega)]; omega
theorem own_p {st kk : Int32} {sN kN : Nat} (h1 : st.toInt = sN) (h2 : kk.toInt = kN) (h3 : sN ≤ 3) (h4 : kN ≤ 3) (W : Nat) {w : Int32} (hw : w.toInt = W) (hW : W ≤ 4) : ((st + (1 : Int32)) + (kk * w)).toInt = ((sN + 1 + kN * W : Nat) : Int) := by
  have e1 : (st + (1 : Int32)).toInt = ((sN + 1 : Nat) : Int) := own_add h1 (by omega) (k := 1) (by decide) (by decide)
  have b : kN * W ≤ 12 := Nat.mul_le_mul h4 hW
  have e2 : (kk * w).toInt = ((kN * W : Nat) : Int) := by
    rw [Int32.toInt_mul, h2, hw, ← Int.natCast_mul, Int.bmod_eq_of_le (by omega) (by omega)]
  exact own_add e1 (by omega) e2 (by omega)
theorem own_m3 {st x : Int32} (h : st = x &&& (3 : Int32)) : ∃ n : Nat, n ≤ 3 ∧ st.toInt = n := by
  subst h
  have e : (x &&& (3 : Int32)).toInt = ((x.toBitVec &&& 3#32).toNat : Int) := by
    show (x.toBitVec &&& 3#32).toInt = _
    have : (x.toBitVec &&& 3#32).toNat ≤ 3 := by rw [BitVec.toNat_and]; exact Nat.and_le_right
    rw [BitVec.toInt_eq_toNat_cond, if_pos (by omega)]
  exact ⟨_, by rw [BitVec.toNat_and]; exact Nat.and_le_right, e⟩
def OwnArf (Z : State) (h : Heap) (a : Addr) (ty : FieldType) (n : Nat) (f : Nat → Int32) : Prop := ∃ cl : Cell, Arr Z h a cl ty ∧ cl.slots.size = n ∧ ∀ j, j < n → cl.slots[j]? = some (.int (f j))
section OwnArr
variable {Z : State} {h h' : Heap} {a b : Addr} {ty : FieldType} {n : Nat} {f g : Nat → Int32} {sl : Nat} {v : Value} {ws : List Addr} {cl : Cell}
theorem OwnArf.lt (F : OwnArf Z h a ty n f) : a < h.size := by obtain ⟨c, A, -⟩ := F; exact A.lt
theorem OwnArf.ext (F : OwnArf Z h a ty n f) (E : Ext h h') : OwnArf Z h' a ty n f := by obtain ⟨c, A, r⟩ := F; exact ⟨c, A.ext E, r⟩
theorem OwnArf.other (F : OwnArf Z h b ty n f) (W : Wr h h' a sl v) (q : b ≠ a) : OwnArf Z h' b ty n f := by obtain ⟨c, A, r⟩ := F; exact ⟨c, A.other W q, r⟩
theorem OwnArf.keep (F : OwnArf Z h a ty n f) (K : Keep h h' ws) (q : a ∉ ws) : OwnArf Z h' a ty n f := by obtain ⟨c, A, r⟩ := F; exact ⟨c, ⟨K.2.1 a c A.1 q, A.2⟩, r⟩
theorem OwnArf.congr (F : OwnArf Z h a ty n f) (q : ∀ t, f t = g t) : OwnArf Z h a ty n g := by obtain ⟨c, A, r, s⟩ := F; exact ⟨c, A, r, fun j hj => by rw [← q]; exact s j hj⟩
theorem OwnArf.new {k : ClassId} {z : Int32} (A : Arr Z h a (newA k ty z) ty) (q : z.toNatClampNeg = n) (d : defaultValue ty = .int 0) : OwnArf Z h a ty n (fun _ => 0) :=
  ⟨_, A, by rw [sz_new]; exact q, fun j hj => by simp [newA, q, hj, d]⟩
theorem OwnArf.set {i : Nat} {x : Int32} {j : Int32} (A : Arr Z h a cl ty) (S : cl.slots.size = n) (H : ∀ j, j < n → cl.slots[j]? = some (.int (f j))) (W : Wr h h' a j.toNatClampNeg (.int x)) (hj : j.toNatClampNeg = i) : OwnArf Z h' a ty n (own_upd f i x) := by
  refine ⟨_, A.same W, by rw [sz_set]; exact S, fun t ht => ?_⟩
  rw [hj]; simp only [own_upd, Cell.setSlot]
  by_cases e : t = i
  · subst e; rw [if_pos rfl, Array.getElem?_setIfInBounds_self_of_lt (by omega)]
  · rw [if_neg e, Array.getElem?_setIfInBounds_ne (Ne.symm e)]; exact H t ht
theorem own_in {j : Int32} {i : Nat} (S : cl.slots.size = n) (hj : ¬ j < 0 ∧ j.toNatClampNeg = i) (hi : i < n) : ¬ (j < 0 ∨ cl.slots.size ≤ j.toNatClampNeg) := by
  rintro (q | q)
  · exact hj.1 q
  · rw [hj.2, S] at q; omega
end OwnArr
theorem w0 {a0 : Array Value} {Z : State} (hw : ∀ d ∈ tables_1, d.before a0 Z = true) : ((Jvm.Cond.arrayClass Jvm.ClassFile.FieldType.byte) : Jvm.Cond).before a0 Z = true := hw _ (List.mem_of_getElem? (i := 0) rfl)
theorem w1 {a0 : Array Value} {Z : State} (hw : ∀ d ∈ tables_1, d.before a0 Z = true) : ((Jvm.Cond.classLink "org/tempochart/zone/PackedZoneEntryPinLaw" (10 : Nat) "org/tempochart/zone/PackedZone") : Jvm.Cond).before a0 Z = true := hw _ (List.mem_of_getElem? (i := 1) rfl)
theorem w2 {a0 : Array Value} {Z : State} (hw : ∀ d ∈ tables_1, d.before a0 Z = true) : ((Jvm.Cond.instantiable "org/tempochart/zone/PackedZone" (7 : Nat)) : Jvm.Cond).before a0 Z = true := hw _ (List.mem_of_getElem? (i := 2) rfl)
theorem w3 {a0 : Array Value} {Z : State} (hw : ∀ d ∈ tables_1, d.before a0 Z = true) : ((Jvm.Cond.initialized "org/tempochart/zone/PackedZone") : Jvm.Cond).before a0 Z = true := hw _ (List.mem_of_getElem? (i := 3) rfl)
theorem w4 {a0 : Array Value} {Z : State} (hw : ∀ d ∈ tables_1, d.before a0 Z = true) : ((Jvm.Cond.methodLink "org/tempochart/zone/PackedZoneEntryPinLaw" (12 : Nat) ({ cls := "org/tempochart/zone/PackedZone", name := "<init>", desc := "()V" } : Jvm.MethodName)) : Jvm.Cond).before a0 Z = true := hw _ (List.mem_of_getElem? (i := 4) rfl)
theorem w5 {a0 : Array Value} {Z : State} (hw : ∀ d ∈ tables_1, d.before a0 Z = true) : ((Jvm.Cond.instanceMethod ({ cls := "org/tempochart/zone/PackedZone", name := "<init>", desc := "()V" } : Jvm.MethodName)) : Jvm.Cond).before a0 Z = true := hw _ (List.mem_of_getElem? (i := 5) rfl)
theorem w6 {a0 : Array Value} {Z : State} (hw : ∀ d ∈ tables_1, d.before a0 Z = true) : ((Jvm.Cond.code ({ cls := "org/tempochart/zone/PackedZone", name := "<init>", desc := "()V" } : Jvm.MethodName) prog_291_method_1_code (1 : Nat) (Option.none : Option Jvm.ClassFile.FieldType)) : Jvm.Cond).before a0 Z = true := hw _ (List.mem_of_getElem? (i := 6) rfl)
theorem w7 {a0 : Array Value} {Z : State} (hw : ∀ d ∈ tables_1, d.before a0 Z = true) : ((Jvm.Cond.methodLink "org/tempochart/zone/PackedZone" (3 : Nat) ({ cls := "java/lang/Object", name := "<init>", desc := "()V" } : Jvm.MethodName)) : Jvm.Cond).before a0 Z = true := hw _ (List.mem_of_getElem? (i := 7) rfl)
theorem w8 {a0 : Array Value} {Z : State} (hw : ∀ d ∈ tables_1, d.before a0 Z = true) : ((Jvm.Cond.instanceMethod ({ cls := "java/lang/Object", name := "<init>", desc := "()V" } : Jvm.MethodName)) : Jvm.Cond).before a0 Z = true := hw _ (List.mem_of_getElem? (i := 8) rfl)
theorem w9 {a0 : Array Value} {Z : State} (hw : ∀ d ∈ tables_1, d.before a0 Z = true) : ((Jvm.Cond.code ({ cls := "java/lang/Object", name := "<init>", desc := "()V" } : Jvm.MethodName) object_method_1_code (1 : Nat) (Option.none : Option Jvm.ClassFile.FieldType)) : Jvm.Cond).before a0 Z = true := hw _ (List.mem_of_getElem? (i := 9) rfl)
theorem w10 {a0 : Array Value} {Z : State} (hw : ∀ d ∈ tables_1, d.before a0 Z = true) : ((Jvm.Cond.arrayClass Jvm.ClassFile.FieldType.int) : Jvm.Cond).before a0 Z = true := hw _ (List.mem_of_getElem? (i := 10) rfl)
theorem w11 {a0 : Array Value} {Z : State} (hw : ∀ d ∈ tables_1, d.before a0 Z = true) : ((Jvm.Cond.fieldLink "org/tempochart/zone/PackedZone" (9 : Nat) "org/tempochart/zone/PackedZone" "failedRow" "[I") : Jvm.Cond).before a0 Z = true := hw _ (List.mem_of_getElem? (i := 11) rfl)
theorem w12 {a0 : Array Value} {Z : State} (hw : ∀ d ∈ tables_1, d.before a0 Z = true) : ((Jvm.Cond.laysFinal "org/tempochart/zone/PackedZone" "org/tempochart/zone/PackedZone" "failedRow" "[I") : Jvm.Cond).before a0 Z = true := hw _ (List.mem_of_getElem? (i := 12) rfl)
theorem w13 {a0 : Array Value} {Z : State} (hw : ∀ d ∈ tables_1, d.before a0 Z = true) : ((Jvm.Cond.fieldLink "org/tempochart/zone/PackedZone" (15 : Nat) "org/tempochart/zone/PackedZone" "failedColumn" "[I") : Jvm.Cond).before a0 Z = true := hw _ (List.mem_of_getElem? (i := 13) rfl)
theorem w14 {a0 : Array Value} {Z : State} (hw : ∀ d ∈ tables_1, d.before a0 Z = true) : ((Jvm.Cond.laysFinal "org/tempochart/zone/PackedZone" "org/tempochart/zone/PackedZone" "failedColumn" "[I") : Jvm.Cond).before a0 Z = true := hw _ (List.mem_of_getElem? (i := 14) rfl)
theorem w15 {a0 : Array Value} {Z : State} (hw : ∀ d ∈ tables_1, d.before a0 Z = true) : ((Jvm.Cond.methodLink "org/tempochart/zone/PackedZoneEntryPinLaw" (13 : Nat) ({ cls := "org/tempochart/zone/PackedZone", name := "at", desc := "([BII)Lorg/tempochart/zone/PackedZone;" } : Jvm.MethodName)) : Jvm.Cond).before a0 Z = true := hw _ (List.mem_of_getElem? (i := 15) rfl)
theorem w16 {a0 : Array Value} {Z : State} (hw : ∀ d ∈ tables_1, d.before a0 Z = true) : ((Jvm.Cond.declares ({ cls := "org/tempochart/zone/PackedZone", name := "at", desc := "([BII)Lorg/tempochart/zone/PackedZone;" } : Jvm.MethodName)) : Jvm.Cond).before a0 Z = true := hw _ (List.mem_of_getElem? (i := 16) rfl)
theorem w17 {a0 : Array Value} {Z : State} (hw : ∀ d ∈ tables_1, d.before a0 Z = true) : ((Jvm.Cond.instanceMethod ({ cls := "org/tempochart/zone/PackedZone", name := "at", desc := "([BII)Lorg/tempochart/zone/PackedZone;" } : Jvm.MethodName)) : Jvm.Cond).before a0 Z = true := hw _ (List.mem_of_getElem? (i := 17) rfl)
theorem w18 {a0 : Array Value} {Z : State} (hw : ∀ d ∈ tables_1, d.before a0 Z = true) : ((Jvm.Cond.selects "org/tempochart/zone/PackedZone" ({ cls := "org/tempochart/zone/PackedZone", name := "at", desc := "([BII)Lorg/tempochart/zone/PackedZone;" } : Jvm.MethodName) ({ cls := "org/tempochart/zone/PackedZone", name := "at", desc := "([BII)Lorg/tempochart/zone/PackedZone;" } : Jvm.MethodName)) : Jvm.Cond).before a0 Z = true := hw _ (List.mem_of_getElem? (i := 18) rfl)
theorem w19 {a0 : Array Value} {Z : State} (hw : ∀ d ∈ tables_1, d.before a0 Z = true) : ((Jvm.Cond.code ({ cls := "org/tempochart/zone/PackedZone", name := "at", desc := "([BII)Lorg/tempochart/zone/PackedZone;" } : Jvm.MethodName) prog_291_method_4_code (4 : Nat) (Option.some (Jvm.ClassFile.FieldType.object "org/tempochart/zone/PackedZone"))) : Jvm.Cond).before a0 Z = true := hw _ (List.mem_of_getElem? (i := 19) rfl)
theorem w20 {a0 : Array Value} {Z : State} (hw : ∀ d ∈ tables_1, d.before a0 Z = true) : ((Jvm.Cond.fieldLink "org/tempochart/zone/PackedZone" (38 : Nat) "org/tempochart/zone/PackedZone" "bytes" "[B") : Jvm.Cond).before a0 Z = true := hw _ (List.mem_of_getElem? (i := 20) rfl)
theorem w21 {a0 : Array Value} {Z : State} (hw : ∀ d ∈ tables_1, d.before a0 Z = true) : ((Jvm.Cond.lays "org/tempochart/zone/PackedZone" "org/tempochart/zone/PackedZone" "bytes" "[B") : Jvm.Cond).before a0 Z = true := hw _ (List.mem_of_getElem? (i := 21) rfl)
theorem w22 {a0 : Array Value} {Z : State} (hw : ∀ d ∈ tables_1, d.before a0 Z = true) : ((Jvm.Cond.fieldLink "org/tempochart/zone/PackedZone" (42 : Nat) "org/tempochart/zone/PackedZone" "dimension" "I") : Jvm.Cond).before a0 Z = true := hw _ (List.mem_of_getElem? (i := 22) rfl)
theorem w23 {a0 : Array Value} {Z : State} (hw : ∀ d ∈ tables_1, d.before a0 Z = true) : ((Jvm.Cond.lays "org/tempochart/zone/PackedZone" "org/tempochart/zone/PackedZone" "dimension" "I") : Jvm.Cond).before a0 Z = true := hw _ (List.mem_of_getElem? (i := 23) rfl)
theorem w24 {a0 : Array Value} {Z : State} (hw : ∀ d ∈ tables_1, d.before a0 Z = true) : ((Jvm.Cond.fieldLink "org/tempochart/zone/PackedZone" (45 : Nat) "org/tempochart/zone/PackedZone" "width" "I") : Jvm.Cond).before a0 Z = true := hw _ (List.mem_of_getElem? (i := 24) rfl)
theorem w25 {a0 : Array Value} {Z : State} (hw : ∀ d ∈ tables_1, d.before a0 Z = true) : ((Jvm.Cond.lays "org/tempochart/zone/PackedZone" "org/tempochart/zone/PackedZone" "width" "I") : Jvm.Cond).before a0 Z = true := hw _ (List.mem_of_getElem? (i := 25) rfl)
theorem w26 {a0 : Array Value} {Z : State} (hw : ∀ d ∈ tables_1, d.before a0 Z = true) : ((Jvm.Cond.fieldLink "org/tempochart/zone/PackedZone" (47 : Nat) "org/tempochart/zone/PackedZone" "first" "I") : Jvm.Cond).before a0 Z = true := hw _ (List.mem_of_getElem? (i := 26) rfl)
theorem w27 {a0 : Array Value} {Z : State} (hw : ∀ d ∈ tables_1, d.before a0 Z = true) : ((Jvm.Cond.lays "org/tempochart/zone/PackedZone" "org/tempochart/zone/PackedZone" "first" "I") : Jvm.Cond).before a0 Z = true := hw _ (List.mem_of_getElem? (i := 27) rfl)
theorem w28 {a0 : Array Value} {Z : State} (hw : ∀ d ∈ tables_1, d.before a0 Z = true) : ((Jvm.Cond.methodLink "org/tempochart/zone/PackedZone" (28 : Nat) ({ cls := "org/tempochart/zone/PackedZone", name := "none", desc := "(I)I" } : Jvm.MethodName)) : Jvm.Cond).before a0 Z = true := hw _ (List.mem_of_getElem? (i := 28) rfl)
theorem w29 {a0 : Array Value} {Z : State} (hw : ∀ d ∈ tables_1, d.before a0 Z = true) : ((Jvm.Cond.static ({ cls := "org/tempochart/zone/PackedZone", name := "none", desc := "(I)I" } : Jvm.MethodName)) : Jvm.Cond).before a0 Z = true := hw _ (List.mem_of_getElem? (i := 29) rfl)
theorem w30 {a0 : Array Value} {Z : State} (hw : ∀ d ∈ tables_1, d.before a0 Z = true) : ((Jvm.Cond.code ({ cls := "org/tempochart/zone/PackedZone", name := "none", desc := "(I)I" } : Jvm.MethodName) prog_291_method_15_code (1 : Nat) (Option.some Jvm.ClassFile.FieldType.int)) : Jvm.Cond).before a0 Z = true := hw _ (List.mem_of_getElem? (i := 30) rfl)
theorem w31 {a0 : Array Value} {Z : State} (hw : ∀ d ∈ tables_1, d.before a0 Z = true) : ((Jvm.Cond.fieldLink "org/tempochart/zone/PackedZone" (50 : Nat) "org/tempochart/zone/PackedZone" "none" "I") : Jvm.Cond).before a0 Z = true := hw _ (List.mem_of_getElem? (i := 31) rfl)
theorem w32 {a0 : Array Value} {Z : State} (hw : ∀ d ∈ tables_1, d.before a0 Z = true) : ((Jvm.Cond.lays "org/tempochart/zone/PackedZone" "org/tempochart/zone/PackedZone" "none" "I") : Jvm.Cond).before a0 Z = true := hw _ (List.mem_of_getElem? (i := 32) rfl)
theorem w33 {a0 : Array Value} {Z : State} (hw : ∀ d ∈ tables_1, d.before a0 Z = true) : ((Jvm.Cond.methodLink "org/tempochart/zone/PackedZoneEntryPinLaw" (17 : Nat) ({ cls := "org/tempochart/zone/PackedZone", name := "entry", desc := "(I)I" } : Jvm.MethodName)) : Jvm.Cond).before a0 Z = true := hw _ (List.mem_of_getElem? (i := 33) rfl)
theorem w34 {a0 : Array Value} {Z : State} (hw : ∀ d ∈ tables_1, d.before a0 Z = true) : ((Jvm.Cond.declares ({ cls := "org/tempochart/zone/PackedZone", name := "entry", desc := "(I)I" } : Jvm.MethodName)) : Jvm.Cond).before a0 Z = true := hw _ (List.mem_of_getElem? (i := 34) rfl)
theorem w35 {a0 : Array Value} {Z : State} (hw : ∀ d ∈ tables_1, d.before a0 Z = true) : ((Jvm.Cond.instanceMethod ({ cls := "org/tempochart/zone/PackedZone", name := "entry", desc := "(I)I" } : Jvm.MethodName)) : Jvm.Cond).before a0 Z = true := hw _ (List.mem_of_getElem? (i := 35) rfl)
theorem w36 {a0 : Array Value} {Z : State} (hw : ∀ d ∈ tables_1, d.before a0 Z = true) : ((Jvm.Cond.selects "org/tempochart/zone/PackedZone" ({ cls := "org/tempochart/zone/PackedZone", name := "entry", desc := "(I)I" } : Jvm.MethodName) ({ cls := "org/tempochart/zone/PackedZone", name := "entry", desc := "(I)I" } : Jvm.MethodName)) : Jvm.Cond).before a0 Z = true := hw _ (List.mem_of_getElem? (i := 36) rfl)
theorem w37 {a0 : Array Value} {Z : State} (hw : ∀ d ∈ tables_1, d.before a0 Z = true) : ((Jvm.Cond.code ({ cls := "org/tempochart/zone/PackedZone", name := "entry", desc := "(I)I" } : Jvm.MethodName) prog_291_method_14_code (5 : Nat) (Option.some Jvm.ClassFile.FieldType.int)) : Jvm.Cond).before a0 Z = true := hw _ (List.mem_of_getElem? (i := 37) rfl)
theorem w38 {a0 : Array Value} {Z : State} (hw : ∀ d ∈ tables_1, d.before a0 Z = true) : ((Jvm.Cond.constant "org/tempochart/zone/PackedZone" (37 : Nat) (2147483647 : Int32)) : Jvm.Cond).before a0 Z = true := hw _ (List.mem_of_getElem? (i := 38) rfl)
theorem w39 {a0 : Array Value} {Z : State} (hw : ∀ d ∈ tables_1, d.before a0 Z = true) : ((Jvm.Cond.constant "org/tempochart/zone/PackedZoneEntryPinLaw" (9 : Nat) (2147483647 : Int32)) : Jvm.Cond).before a0 Z = true := hw _ (List.mem_of_getElem? (i := 39) rfl)
theorem d1_0 : decode prog_291_method_1_code 0 = .ok (.aload_n 0, 1) := by decide +kernel
theorem d1_1 : decode prog_291_method_1_code 1 = .ok (.invokespecial 3, 3) := by decide +kernel
theorem d1_4 : decode prog_291_method_1_code 4 = .ok (.aload_n 0, 1) := by decide +kernel
theorem d1_5 : decode prog_291_method_1_code 5 = .ok (.iconst 2, 1) := by decide +kernel
theorem d1_6 : decode prog_291_method_1_code 6 = .ok (.newarray .int, 2) := by decide +kernel
theorem d1_8 : decode prog_291_method_1_code 8 = .ok (.putfield 9, 3) := by decide +kernel
theorem d1_11 : decode prog_291_method_1_code 11 = .ok (.aload_n 0, 1) := by decide +kernel
theorem d1_12 : decode prog_291_method_1_code 12 = .ok (.iconst 2, 1) := by decide +kernel
theorem d1_13 : decode prog_291_method_1_code 13 = .ok (.newarray .int, 2) := by decide +kernel
theorem d1_15 : decode prog_291_method_1_code 15 = .ok (.putfield 15, 3) := by decide +kernel
theorem d1_18 : decode prog_291_method_1_code 18 = .ok (.return_, 1) := by decide +kernel
theorem pn_0 : plainName "org/tempochart/zone/PackedZone" = true := by first | (simp [plainName, overriddenIn]; done) | decide +kernel
theorem d4_0 : decode prog_291_method_15_code 0 = .ok (.iload_n 0, 1) := by decide +kernel
theorem d4_1 : decode prog_291_method_15_code 1 = .ok (.iconst 1, 1) := by decide +kernel
theorem d4_2 : decode prog_291_method_15_code 2 = .ok (.if_icmp .ne 8, 3) := by decide +kernel
theorem d4_5 : decode prog_291_method_15_code 5 = .ok (.bipush 127, 2) := by decide +kernel
theorem d4_7 : decode prog_291_method_15_code 7 = .ok (.goto 16, 3) := by decide +kernel
theorem d4_23 : decode prog_291_method_15_code 23 = .ok (.ireturn, 1) := by decide +kernel
theorem d4_10 : decode prog_291_method_15_code 10 = .ok (.iload_n 0, 1) := by decide +kernel
theorem d4_11 : decode prog_291_method_15_code 11 = .ok (.iconst 2, 1) := by decide +kernel
theorem d4_12 : decode prog_291_method_15_code 12 = .ok (.if_icmp .ne 9, 3) := by decide +kernel
theorem d4_15 : decode prog_291_method_15_code 15 = .ok (.sipush 32767, 3) := by decide +kernel
theorem d4_18 : decode prog_291_method_15_code 18 = .ok (.goto 5, 3) := by decide +kernel
theorem d4_21 : decode prog_291_method_15_code 21 = .ok (.ldc 37, 2) := by decide +kernel
theorem d3_0 : decode prog_291_method_4_code 0 = .ok (.aload_n 0, 1) := by decide +kernel
theorem d3_1 : decode prog_291_method_4_code 1 = .ok (.aload_n 1, 1) := by decide +kernel
theorem d3_2 : decode prog_291_method_4_code 2 = .ok (.putfield 38, 3) := by decide +kernel
theorem d3_5 : decode prog_291_method_4_code 5 = .ok (.aload_n 0, 1) := by decide +kernel
theorem d3_6 : decode prog_291_method_4_code 6 = .ok (.iload_n 3, 1) := by decide +kernel
theorem d3_7 : decode prog_291_method_4_code 7 = .ok (.putfield 42, 3) := by decide +kernel
theorem d3_10 : decode prog_291_method_4_code 10 = .ok (.aload_n 0, 1) := by decide +kernel
theorem d3_11 : decode prog_291_method_4_code 11 = .ok (.aload_n 1, 1) := by decide +kernel
theorem d3_12 : decode prog_291_method_4_code 12 = .ok (.iload_n 2, 1) := by decide +kernel
theorem d3_13 : decode prog_291_method_4_code 13 = .ok (.baload, 1) := by decide +kernel
theorem d3_14 : decode prog_291_method_4_code 14 = .ok (.putfield 45, 3) := by decide +kernel
theorem d3_17 : decode prog_291_method_4_code 17 = .ok (.aload_n 0, 1) := by decide +kernel
theorem d3_18 : decode prog_291_method_4_code 18 = .ok (.iload_n 2, 1) := by decide +kernel
theorem d3_19 : decode prog_291_method_4_code 19 = .ok (.iconst 1, 1) := by decide +kernel
theorem d3_20 : decode prog_291_method_4_code 20 = .ok (.iadd, 1) := by decide +kernel
theorem d3_21 : decode prog_291_method_4_code 21 = .ok (.putfield 47, 3) := by decide +kernel
theorem d3_24 : decode prog_291_method_4_code 24 = .ok (.aload_n 0, 1) := by decide +kernel
theorem d3_25 : decode prog_291_method_4_code 25 = .ok (.aload_n 0, 1) := by decide +kernel
theorem d3_26 : decode prog_291_method_4_code 26 = .ok (.getfield 45, 3) := by decide +kernel
theorem d3_29 : decode prog_291_method_4_code 29 = .ok (.invokestatic 28, 3) := by decide +kernel
theorem pd_0 : parseMethodDescriptor "(I)I" = some ⟨[.int], some .int⟩ := by decide +kernel
theorem d3_32 : decode prog_291_method_4_code 32 = .ok (.putfield 50, 3) := by decide +kernel
theorem d3_35 : decode prog_291_method_4_code 35 = .ok (.aload_n 0, 1) := by decide +kernel
theorem d3_36 : decode prog_291_method_4_code 36 = .ok (.areturn, 1) := by decide +kernel
theorem d5_0 : decode prog_291_method_14_code 0 = .ok (.aload_n 0, 1) := by decide +kernel
theorem d5_1 : decode prog_291_method_14_code 1 = .ok (.getfield 47, 3) := by decide +kernel
theorem d5_4 : decode prog_291_method_14_code 4 = .ok (.iload_n 1, 1) := by decide +kernel
theorem d5_5 : decode prog_291_method_14_code 5 = .ok (.aload_n 0, 1) := by decide +kernel
theorem d5_6 : decode prog_291_method_14_code 6 = .ok (.getfield 45, 3) := by decide +kernel
theorem d5_9 : decode prog_291_method_14_code 9 = .ok (.imul, 1) := by decide +kernel
theorem d5_10 : decode prog_291_method_14_code 10 = .ok (.iadd, 1) := by decide +kernel
theorem d5_11 : decode prog_291_method_14_code 11 = .ok (.istore_n 2, 1) := by decide +kernel
theorem d5_12 : decode prog_291_method_14_code 12 = .ok (.aload_n 0, 1) := by decide +kernel
theorem d5_13 : decode prog_291_method_14_code 13 = .ok (.getfield 38, 3) := by decide +kernel
theorem d5_16 : decode prog_291_method_14_code 16 = .ok (.iload_n 2, 1) := by decide +kernel
theorem d5_17 : decode prog_291_method_14_code 17 = .ok (.baload, 1) := by decide +kernel
theorem d5_18 : decode prog_291_method_14_code 18 = .ok (.istore_n 3, 1) := by decide +kernel
theorem d5_19 : decode prog_291_method_14_code 19 = .ok (.iconst 1, 1) := by decide +kernel
theorem d5_20 : decode prog_291_method_14_code 20 = .ok (.istore 4, 2) := by decide +kernel
theorem d5_22 : decode prog_291_method_14_code 22 = .ok (.iload 4, 2) := by decide +kernel
theorem d5_24 : decode prog_291_method_14_code 24 = .ok (.aload_n 0, 1) := by decide +kernel
theorem d5_25 : decode prog_291_method_14_code 25 = .ok (.getfield 45, 3) := by decide +kernel
theorem d5_28 : decode prog_291_method_14_code 28 = .ok (.if_icmp .ge 28, 3) := by decide +kernel
theorem d5_56 : decode prog_291_method_14_code 56 = .ok (.iload_n 3, 1) := by decide +kernel
theorem d5_57 : decode prog_291_method_14_code 57 = .ok (.aload_n 0, 1) := by decide +kernel
theorem d5_58 : decode prog_291_method_14_code 58 = .ok (.getfield 50, 3) := by decide +kernel
theorem d5_61 : decode prog_291_method_14_code 61 = .ok (.if_icmp .ne 8, 3) := by decide +kernel
theorem d5_64 : decode prog_291_method_14_code 64 = .ok (.ldc 37, 2) := by decide +kernel
theorem d5_66 : decode prog_291_method_14_code 66 = .ok (.goto 4, 3) := by decide +kernel
theorem d5_70 : decode prog_291_method_14_code 70 = .ok (.ireturn, 1) := by decide +kernel
theorem d5_69 : decode prog_291_method_14_code 69 = .ok (.iload_n 3, 1) := by decide +kernel
theorem d5_31 : decode prog_291_method_14_code 31 = .ok (.iload_n 3, 1) := by decide +kernel
theorem d5_32 : decode prog_291_method_14_code 32 = .ok (.bipush 8, 2) := by decide +kernel
theorem d5_34 : decode prog_291_method_14_code 34 = .ok (.ishl, 1) := by decide +kernel
theorem d5_35 : decode prog_291_method_14_code 35 = .ok (.aload_n 0, 1) := by decide +kernel
theorem d5_36 : decode prog_291_method_14_code 36 = .ok (.getfield 38, 3) := by decide +kernel
theorem d5_39 : decode prog_291_method_14_code 39 = .ok (.iload_n 2, 1) := by decide +kernel
theorem d5_40 : decode prog_291_method_14_code 40 = .ok (.iload 4, 2) := by decide +kernel
theorem d5_42 : decode prog_291_method_14_code 42 = .ok (.iadd, 1) := by decide +kernel
theorem d5_43 : decode prog_291_method_14_code 43 = .ok (.baload, 1) := by decide +kernel
theorem d5_44 : decode prog_291_method_14_code 44 = .ok (.sipush 255, 3) := by decide +kernel
theorem d5_47 : decode prog_291_method_14_code 47 = .ok (.iand, 1) := by decide +kernel
theorem d5_48 : decode prog_291_method_14_code 48 = .ok (.ior, 1) := by decide +kernel
theorem d5_49 : decode prog_291_method_14_code 49 = .ok (.istore_n 3, 1) := by decide +kernel
theorem d5_50 : decode prog_291_method_14_code 50 = .ok (.iinc 4 1, 3) := by decide +kernel
theorem d5_53 : decode prog_291_method_14_code 53 = .ok (.goto (-31), 3) := by decide +kernel
theorem pd_1 : parseMethodDescriptor "()V" = some ⟨[], none⟩ := by decide +kernel
theorem pd_2 : parseMethodDescriptor "([BII)Lorg/tempochart/zone/PackedZone;" = some ⟨[(.array .byte), .int, .int], some (.object "org/tempochart/zone/PackedZone")⟩ := by decide +kernel
theorem pn_1 : plainName "org/tempochart/zone/PackedZoneEntryPinLaw" = true := by first | (simp [plainName, overriddenIn]; done) | decide +kernel
theorem ef_1 (m : MethodId) (a : Addr)  : entryFrame m #[(.ref a)] 1 = mkF m 0 #[.val (.ref a)] [] := by first | (simp [entryFrame, mkF, argsToLocals, Value.category]; done) | rfl
def Q1 (Z : State) (a : Addr) (u0 : Value) (u1 : Value) (u2 : Value) (u3 : Value) (u4 : Value) (u5 : Value) (u6 : Value) (h0 : Heap) (n0 : Nat) (v_ : Option Value) (h_ : Heap) (L_ : List Loc) : Prop := v_ = none ∧ Fr n0 L_ ∧ Keep h0 h_ [a] ∧ (Exa Z h_ a "org/tempochart/zone/PackedZone") ∧ (Fld Z h_ a "org/tempochart/zone/PackedZone" "bytes" "[B" u0) ∧ (Fld Z h_ a "org/tempochart/zone/PackedZone" "dimension" "I" u1) ∧ (Fld Z h_ a "org/tempochart/zone/PackedZone" "width" "I" u2) ∧ (Fld Z h_ a "org/tempochart/zone/PackedZone" "first" "I" u3) ∧ (Fld Z h_ a "org/tempochart/zone/PackedZone" "none" "I" u4)
set_option maxRecDepth 65536 in
set_option maxHeartbeats 40000000 in
theorem rm1 (l : Launch) (Z : State) (a0 : Array Value) (hw : ∀ d ∈ tables_1, d.before a0 Z = true) (ws : List Jvm.Cond) (a : Addr) (u0 : Value) (u1 : Value) (u2 : Value) (u3 : Value) (u4 : Value) (u5 : Value) (u6 : Value) (h0 : Heap) (n0 : Nat) (Z0 : n0 ≤ h0.size) (P0 : Exa Z h0 a "org/tempochart/zone/PackedZone") (P1 : Fld Z h0 a "org/tempochart/zone/PackedZone" "failedRow" "[I" u5) (P2 : Fld Z h0 a "org/tempochart/zone/PackedZone" "failedColumn" "[I" u6) (P3 : n0 ≤ a) (P4 : Fld Z h0 a "org/tempochart/zone/PackedZone" "bytes" "[B" u0) (P5 : Fld Z h0 a "org/tempochart/zone/PackedZone" "dimension" "I" u1) (P6 : Fld Z h0 a "org/tempochart/zone/PackedZone" "width" "I" u2) (P7 : Fld Z h0 a "org/tempochart/zone/PackedZone" "first" "I" u3) (P8 : Fld Z h0 a "org/tempochart/zone/PackedZone" "none" "I" u4) :
    MetFree l (⟨"org/tempochart/zone/PackedZone", "<init>", "()V"⟩ : MethodName) (head1 (Jvm.Cond.code (⟨"org/tempochart/zone/PackedZone", "<init>", "()V"⟩ : MethodName) prog_291_method_1_code 1 none :: ws) ({ frames := 1, cells := 2, slots := 4, locals := 12 } : Room)) (fun A_ U => A_ = #[(.ref a)] ∧ Z.Warmed39 U.vm ∧ U.heap = h0) (fun _ _ _ _ _ => True) (fun _ U_ o_ U'_ => ∃ v_ L_, o_ = .returned v_ ∧ Q1 Z a u0 u1 u2 u3 u4 u5 u6 h0 n0 v_ U'_.heap L_ ∧ FrameEnd U_ o_ U'_ L_ ({ frames := 1, cells := 2, slots := 4, locals := 12 } : Room).cells ({ frames := 1, cells := 2, slots := 4, locals := 12 } : Room).slots) := by
  refine MetFree.of_bodySF (plainFor_of_name pn_0) hisR ?_
  intro p e s m args below meth c s₁ Bd hml0 hP hK
  obtain ⟨rfl, hZ, hh⟩ := hP
  have hx := Bd.exec
  have hby := Bd.bytes
  have hml : c.maxLocals = 1 := hml0
  have hown : s.vm.findClass "org/tempochart/zone/PackedZone" = some m.cls := findClass_of_methodNamed Bd.named
  have hnm := (name_of_methodNamed Bd.named Bd.method).1
  have hlk : meth.locks = false := Bd.notSynchronized
  have X0 : Stand p l e ({ frames := 1, cells := 2, slots := 4, locals := 12 } : Room) s m #[(.ref a)] below meth c s₁ [] 0 0 := Stand.of_body Bd
  have e0 : s₁.heap = h0 := by rw [← hh, Bd.state]; rfl
  have N0 := Fr.nil n0
  have K0 : Keep h0 h0 [a] := Keep.refl _ _
  refine own_cast (ef_1 m a) ?_
  show OwnGo p e below s (Q1 Z a u0 u1 u2 u3 u4 u5 u6 h0 n0) ({ frames := 1, cells := 2, slots := 4, locals := 12 } : Room).cells ({ frames := 1, cells := 2, slots := 4, locals := 12 } : Room).slots (s₁.setTop (mkF m 0 #[.val (.ref a)] []))
  refine own_on (fun t k => XS.aloadN X0.here hx rfl (hb hby d1_0) rfl rfl k) ?_
  show OwnGo p e below s _ _ _ (s₁.setTop (mkF m 1 #[.val (.ref a)] [(.ref a)]))
  obtain ⟨T1, X1, e1, st1⟩ := initO X0 hx hZ hown (w7 hw) (w8 hw) (w9 hw) e0 (g := (mkF m 1 #[.val (.ref a)] [(.ref a)])) rfl (by rw [hml]; rfl) rfl (hb hby d1_1) (by decide) (W := 0) (by show 2 * 0 + _ ≤ _; exact Nat.le_of_eq rfl) (by decide)
  refine own_on st1 ?_
  show OwnGo p e below s _ _ _ (T1.setTop (mkF m 4 #[.val (.ref a)] []))
  refine own_on (fun t k => XS.aloadN X1.here hx rfl (hb hby d1_4) rfl rfl k) ?_
  show OwnGo p e below s _ _ _ (T1.setTop (mkF m 5 #[.val (.ref a)] [(.ref a)]))
  refine own_on (fun t k => XS.iconst X1.here hx rfl (hb hby d1_5) k) ?_
  show OwnGo p e below s _ _ _ (T1.setTop (mkF m 6 #[.val (.ref a)] [(.int (2 : Int32)), (.ref a)]))
  obtain ⟨T2, h2, k2, X2, e2, E2, A2, st2⟩ := newP (aty := .int) X1 hx hZ (w10 hw) e1 (g := (mkF m 6 #[.val (.ref a)] [(.int (2 : Int32)), (.ref a)])) rfl (hb hby d1_6) rfl (by decide) (cap := 2) (by decide) (by decide) (by decide) (by decide)
  obtain ⟨b2, g2⟩ : ∃ z, z = h0.size := ⟨_, rfl⟩
  rw [← g2] at A2 st2
  have ne3 : a ≠ b2 := Nat.ne_of_lt (Nat.lt_of_lt_of_le P0.lt (Nat.le_of_eq g2.symm))
  have g4 : n0 ≤ b2 := Nat.le_trans Z0 (Nat.le_of_eq g2.symm)
  have z5 : h0.size ≤ b2 := Nat.le_trans K0.1 (Nat.le_of_eq g2.symm)
  have V2 : Arv Z h2 b2 k2 .int (2 : Int32) [(.int (0 : Int32)), (.int (0 : Int32))] (.int (0 : Int32)) := (Arv.new A2 (by decide)).pad (pad_rep [] (.int (0 : Int32)) 2)
  have Z2 : n0 ≤ h2.size := Nat.le_trans Z0 E2.1
  have K2 : Keep h0 h2 [a] := K0.ext E2
  refine own_on st2 ?_
  show OwnGo p e below s _ _ _ (T2.setTop (mkF m 8 #[.val (.ref a)] [(.ref b2), (.ref a)]))
  have f6 : Fld Z h2 a "org/tempochart/zone/PackedZone" "failedRow" "[I" u5 := P1.ext E2
  have f7 : Exa Z h2 a "org/tempochart/zone/PackedZone" := P0.ext E2
  obtain ⟨T8, h8, X8, e8, W8, st8⟩ := putF X2 hx hZ hown (host := "") (Or.inl (w11 hw)) Via.refl e2 f6 f7 (Or.inr ⟨(w12 hw), rfl, hnm⟩) (w2 hw) (ty := (.array .int)) (by decide) rfl rfl (g := (mkF m 8 #[.val (.ref a)] [(.ref b2), (.ref a)])) rfl rfl (hb hby d1_8)
  have F8 := f6.same W8
  have N8 := Fr.snoc X8 N0 P3
  have Z8 : n0 ≤ h8.size := Nat.le_trans Z2 (Keep.of_wr W8).1
  have K8 : Keep h0 h8 [a] := K2.wr W8 (Or.inl (List.mem_of_getElem? (i := 0) rfl))
  refine own_on st8 ?_
  show OwnGo p e below s _ _ _ (T8.setTop (mkF m 11 #[.val (.ref a)] []))
  refine own_on (fun t k => XS.aloadN X8.here hx rfl (hb hby d1_11) rfl rfl k) ?_
  show OwnGo p e below s _ _ _ (T8.setTop (mkF m 12 #[.val (.ref a)] [(.ref a)]))
  refine own_on (fun t k => XS.iconst X8.here hx rfl (hb hby d1_12) k) ?_
  show OwnGo p e below s _ _ _ (T8.setTop (mkF m 13 #[.val (.ref a)] [(.int (2 : Int32)), (.ref a)]))
  obtain ⟨T9, h9, k9, X9, e9, E9, A9, st9⟩ := newP (aty := .int) X8 hx hZ (w10 hw) e8 (g := (mkF m 13 #[.val (.ref a)] [(.int (2 : Int32)), (.ref a)])) rfl (hb hby d1_13) rfl (by decide) (cap := 2) (by decide) (by decide) (by decide) (by decide)
  obtain ⟨b9, g9⟩ : ∃ z, z = h8.size := ⟨_, rfl⟩
  rw [← g9] at A9 st9
  have f10 : Exa Z h8 a "org/tempochart/zone/PackedZone" := f7.wr W8
  have ne11 : a ≠ b9 := Nat.ne_of_lt (Nat.lt_of_lt_of_le f10.lt (Nat.le_of_eq g9.symm))
  have f12 : Arv Z h8 b2 k2 .int (2 : Int32) [(.int (0 : Int32)), (.int (0 : Int32))] (.int (0 : Int32)) := V2.other W8 (Ne.symm ne3)
  have ne13 : b2 ≠ b9 := Nat.ne_of_lt (Nat.lt_of_lt_of_le f12.lt (Nat.le_of_eq g9.symm))
  have g14 : n0 ≤ b9 := Nat.le_trans Z8 (Nat.le_of_eq g9.symm)
  have z15 : h0.size ≤ b9 := Nat.le_trans K8.1 (Nat.le_of_eq g9.symm)
  have V9 : Arv Z h9 b9 k9 .int (2 : Int32) [(.int (0 : Int32)), (.int (0 : Int32))] (.int (0 : Int32)) := (Arv.new A9 (by decide)).pad (pad_rep [] (.int (0 : Int32)) 2)
  have Z9 : n0 ≤ h9.size := Nat.le_trans Z8 E9.1
  have K9 : Keep h0 h9 [a] := K8.ext E9
  refine own_on st9 ?_
  show OwnGo p e below s _ _ _ (T9.setTop (mkF m 15 #[.val (.ref a)] [(.ref b9), (.ref a)]))
  have f16 : Fld Z h2 a "org/tempochart/zone/PackedZone" "failedColumn" "[I" u6 := P2.ext E2
  have f17 : Fld Z h8 a "org/tempochart/zone/PackedZone" "failedColumn" "[I" u6 := f16.other W8 (Or.inr (slot_ne (Or.inr (w14 hw)) (Or.inr (w12 hw)) (by decide) (t := (.array .int)) (t' := (.array .int)) (by decide) (by decide)))
  have f18 : Fld Z h9 a "org/tempochart/zone/PackedZone" "failedColumn" "[I" u6 := f17.ext E9
  have f19 : Exa Z h9 a "org/tempochart/zone/PackedZone" := f10.ext E9
  obtain ⟨T20, h20, X20, e20, W20, st20⟩ := putF X9 hx hZ hown (host := "") (Or.inl (w13 hw)) Via.refl e9 f18 f19 (Or.inr ⟨(w14 hw), rfl, hnm⟩) (w2 hw) (ty := (.array .int)) (by decide) rfl rfl (g := (mkF m 15 #[.val (.ref a)] [(.ref b9), (.ref a)])) rfl rfl (hb hby d1_15)
  have F20 := f18.same W20
  have N20 := Fr.snoc X20 N8 P3
  have Z20 : n0 ≤ h20.size := Nat.le_trans Z9 (Keep.of_wr W20).1
  have K20 : Keep h0 h20 [a] := K9.wr W20 (Or.inl (List.mem_of_getElem? (i := 0) rfl))
  refine own_on st20 ?_
  show OwnGo p e below s _ _ _ (T20.setTop (mkF m 18 #[.val (.ref a)] []))
  have f21 : Exa Z h20 a "org/tempochart/zone/PackedZone" := f19.wr W20
  have f22 : Fld Z h2 a "org/tempochart/zone/PackedZone" "bytes" "[B" u0 := P4.ext E2
  have f23 : Fld Z h8 a "org/tempochart/zone/PackedZone" "bytes" "[B" u0 := f22.other W8 (Or.inr (slot_ne (Or.inl (w21 hw)) (Or.inr (w12 hw)) (by decide) (t := (.array .byte)) (t' := (.array .int)) (by decide) (by decide)))
  have f24 : Fld Z h9 a "org/tempochart/zone/PackedZone" "bytes" "[B" u0 := f23.ext E9
  have f25 : Fld Z h20 a "org/tempochart/zone/PackedZone" "bytes" "[B" u0 := f24.other W20 (Or.inr (slot_ne (Or.inl (w21 hw)) (Or.inr (w14 hw)) (by decide) (t := (.array .byte)) (t' := (.array .int)) (by decide) (by decide)))
  have f26 : Fld Z h2 a "org/tempochart/zone/PackedZone" "dimension" "I" u1 := P5.ext E2
  have f27 : Fld Z h8 a "org/tempochart/zone/PackedZone" "dimension" "I" u1 := f26.other W8 (Or.inr (slot_ne (Or.inl (w23 hw)) (Or.inr (w12 hw)) (by decide) (t := .int) (t' := (.array .int)) (by decide) (by decide)))
  have f28 : Fld Z h9 a "org/tempochart/zone/PackedZone" "dimension" "I" u1 := f27.ext E9
  have f29 : Fld Z h20 a "org/tempochart/zone/PackedZone" "dimension" "I" u1 := f28.other W20 (Or.inr (slot_ne (Or.inl (w23 hw)) (Or.inr (w14 hw)) (by decide) (t := .int) (t' := (.array .int)) (by decide) (by decide)))
  have f30 : Fld Z h2 a "org/tempochart/zone/PackedZone" "width" "I" u2 := P6.ext E2
  have f31 : Fld Z h8 a "org/tempochart/zone/PackedZone" "width" "I" u2 := f30.other W8 (Or.inr (slot_ne (Or.inl (w25 hw)) (Or.inr (w12 hw)) (by decide) (t := .int) (t' := (.array .int)) (by decide) (by decide)))
  have f32 : Fld Z h9 a "org/tempochart/zone/PackedZone" "width" "I" u2 := f31.ext E9
  have f33 : Fld Z h20 a "org/tempochart/zone/PackedZone" "width" "I" u2 := f32.other W20 (Or.inr (slot_ne (Or.inl (w25 hw)) (Or.inr (w14 hw)) (by decide) (t := .int) (t' := (.array .int)) (by decide) (by decide)))
  have f34 : Fld Z h2 a "org/tempochart/zone/PackedZone" "first" "I" u3 := P7.ext E2
  have f35 : Fld Z h8 a "org/tempochart/zone/PackedZone" "first" "I" u3 := f34.other W8 (Or.inr (slot_ne (Or.inl (w27 hw)) (Or.inr (w12 hw)) (by decide) (t := .int) (t' := (.array .int)) (by decide) (by decide)))
  have f36 : Fld Z h9 a "org/tempochart/zone/PackedZone" "first" "I" u3 := f35.ext E9
  have f37 : Fld Z h20 a "org/tempochart/zone/PackedZone" "first" "I" u3 := f36.other W20 (Or.inr (slot_ne (Or.inl (w27 hw)) (Or.inr (w14 hw)) (by decide) (t := .int) (t' := (.array .int)) (by decide) (by decide)))
  have f38 : Fld Z h2 a "org/tempochart/zone/PackedZone" "none" "I" u4 := P8.ext E2
  have f39 : Fld Z h8 a "org/tempochart/zone/PackedZone" "none" "I" u4 := f38.other W8 (Or.inr (slot_ne (Or.inl (w32 hw)) (Or.inr (w12 hw)) (by decide) (t := .int) (t' := (.array .int)) (by decide) (by decide)))
  have f40 : Fld Z h9 a "org/tempochart/zone/PackedZone" "none" "I" u4 := f39.ext E9
  have f41 : Fld Z h20 a "org/tempochart/zone/PackedZone" "none" "I" u4 := f40.other W20 (Or.inr (slot_ne (Or.inl (w32 hw)) (Or.inr (w14 hw)) (by decide) (t := .int) (t' := (.array .int)) (by decide) (by decide)))
  exact own_retV X20 hx hlk Bd.returns (hb hby d1_18) e20 ⟨rfl, N20, K20, f21, f25, f29, f33, f37, f41⟩ (by decide) (by decide)
theorem ef_4 (m : MethodId) (k : Int32)  : entryFrame m #[(.int k)] 1 = mkF m 0 #[.val (.int k)] [] := by first | (simp [entryFrame, mkF, argsToLocals, Value.category]; done) | rfl
def Q4 (Z : State) (k : Int32) (h0 : Heap) (n0 : Nat) (v_ : Option Value) (h_ : Heap) (L_ : List Loc) : Prop := v_ = some (.int (own_none k)) ∧ Fr n0 L_ ∧ h_ = h0
set_option maxRecDepth 65536 in
set_option maxHeartbeats 40000000 in
theorem rm4 (l : Launch) (Z : State) (a0 : Array Value) (hw : ∀ d ∈ tables_1, d.before a0 Z = true) (ws : List Jvm.Cond) (k : Int32) (h0 : Heap) (n0 : Nat) (Z0 : n0 ≤ h0.size)  :
    MetFree l (⟨"org/tempochart/zone/PackedZone", "none", "(I)I"⟩ : MethodName) (head1 (Jvm.Cond.code (⟨"org/tempochart/zone/PackedZone", "none", "(I)I"⟩ : MethodName) prog_291_method_15_code 1 (some .int) :: ws) ({ frames := 0, cells := 0, slots := 0, locals := 0 } : Room)) (fun A_ U => A_ = #[(.int k)] ∧ Z.Warmed39 U.vm ∧ U.heap = h0) (fun _ _ _ _ _ => True) (fun _ U_ o_ U'_ => ∃ v_ L_, o_ = .returned v_ ∧ Q4 Z k h0 n0 v_ U'_.heap L_ ∧ FrameEnd U_ o_ U'_ L_ ({ frames := 0, cells := 0, slots := 0, locals := 0 } : Room).cells ({ frames := 0, cells := 0, slots := 0, locals := 0 } : Room).slots) := by
  refine MetFree.of_bodySF (plainFor_of_name pn_0) hisR ?_
  intro p e s m args below meth c s₁ Bd hml0 hP hK
  obtain ⟨rfl, hZ, hh⟩ := hP
  have hx := Bd.exec
  have hby := Bd.bytes
  have hml : c.maxLocals = 1 := hml0
  have hown : s.vm.findClass "org/tempochart/zone/PackedZone" = some m.cls := findClass_of_methodNamed Bd.named
  have hnm := (name_of_methodNamed Bd.named Bd.method).1
  have hlk : meth.locks = false := Bd.notSynchronized
  have X0 : Stand p l e ({ frames := 0, cells := 0, slots := 0, locals := 0 } : Room) s m #[(.int k)] below meth c s₁ [] 0 0 := Stand.of_body Bd
  have e0 : s₁.heap = h0 := by rw [← hh, Bd.state]; rfl
  have N0 := Fr.nil n0
  have K0 : Keep h0 h0 [] := Keep.refl _ _
  refine own_cast (ef_4 m k) ?_
  show OwnGo p e below s (Q4 Z k h0 n0) ({ frames := 0, cells := 0, slots := 0, locals := 0 } : Room).cells ({ frames := 0, cells := 0, slots := 0, locals := 0 } : Room).slots (s₁.setTop (mkF m 0 #[.val (.int k)] []))
  refine own_on (fun t k => XS.iloadN X0.here hx rfl (hb hby d4_0) rfl k) ?_
  show OwnGo p e below s _ _ _ (s₁.setTop (mkF m 1 #[.val (.int k)] [(.int k)]))
  refine own_on (fun t k => XS.iconst X0.here hx rfl (hb hby d4_1) k) ?_
  show OwnGo p e below s _ _ _ (s₁.setTop (mkF m 2 #[.val (.int k)] [(.int (1 : Int32)), (.int k)]))
  by_cases q0 : k = (1 : Int32)
  · refine own_on (fun t k => XS.icmpNo X0.here hx rfl (hb hby d4_2) rfl (teq q0).2 k) ?_
    show OwnGo p e below s _ _ _ (s₁.setTop (mkF m 5 #[.val (.int k)] []))
    refine own_on (fun t k => XS.bipush X0.here hx rfl (hb hby d4_5) k) ?_
    show OwnGo p e below s _ _ _ (s₁.setTop (mkF m 7 #[.val (.int k)] [(.int (127 : Int32))]))
    refine own_on (fun t k => XS.goto X0.here hx rfl (pc0 := 7) (pc' := 23) rfl (hb hby d4_7) (by decide) (by decide) k) ?_
    show OwnGo p e below s _ _ _ (s₁.setTop (mkF m 23 #[.val (.int k)] [(.int (127 : Int32))]))
    exact own_retI X0 hx hlk Bd.returns (hb hby d4_23) e0 ⟨(congrArg (fun z => some (Value.int z)) (by simp [own_none, *])), N0, rfl⟩ (by decide) (by decide)
  · refine own_on (fun t k => XS.icmpYes X0.here hx rfl (pc0 := 2) (pc' := 10) rfl (hb hby d4_2) rfl (feq q0).2 (by decide) (by decide) k) ?_
    show OwnGo p e below s _ _ _ (s₁.setTop (mkF m 10 #[.val (.int k)] []))
    refine own_on (fun t k => XS.iloadN X0.here hx rfl (hb hby d4_10) rfl k) ?_
    show OwnGo p e below s _ _ _ (s₁.setTop (mkF m 11 #[.val (.int k)] [(.int k)]))
    refine own_on (fun t k => XS.iconst X0.here hx rfl (hb hby d4_11) k) ?_
    show OwnGo p e below s _ _ _ (s₁.setTop (mkF m 12 #[.val (.int k)] [(.int (2 : Int32)), (.int k)]))
    by_cases q1 : k = (2 : Int32)
    · refine own_on (fun t k => XS.icmpNo X0.here hx rfl (hb hby d4_12) rfl (teq q1).2 k) ?_
      show OwnGo p e below s _ _ _ (s₁.setTop (mkF m 15 #[.val (.int k)] []))
      refine own_on (fun t k => XS.sipush X0.here hx rfl (hb hby d4_15) k) ?_
      show OwnGo p e below s _ _ _ (s₁.setTop (mkF m 18 #[.val (.int k)] [(.int (32767 : Int32))]))
      refine own_on (fun t k => XS.goto X0.here hx rfl (pc0 := 18) (pc' := 23) rfl (hb hby d4_18) (by decide) (by decide) k) ?_
      show OwnGo p e below s _ _ _ (s₁.setTop (mkF m 23 #[.val (.int k)] [(.int (32767 : Int32))]))
      exact own_retI X0 hx hlk Bd.returns (hb hby d4_23) e0 ⟨(congrArg (fun z => some (Value.int z)) (by simp [own_none, *])), N0, rfl⟩ (by decide) (by decide)
    · refine own_on (fun t k => XS.icmpYes X0.here hx rfl (pc0 := 12) (pc' := 21) rfl (hb hby d4_12) rfl (feq q1).2 (by decide) (by decide) k) ?_
      show OwnGo p e below s _ _ _ (s₁.setTop (mkF m 21 #[.val (.int k)] []))
      refine own_on (X0.ldcInt hx hown (mvT hZ (w38 hw)) (g := (mkF m 21 #[.val (.int k)] [])) rfl (hb hby d4_21)) ?_
      show OwnGo p e below s _ _ _ (s₁.setTop (mkF m 23 #[.val (.int k)] [(.int (2147483647 : Int32))]))
      exact own_retI X0 hx hlk Bd.returns (hb hby d4_23) e0 ⟨(congrArg (fun z => some (Value.int z)) (by simp [own_none, *])), N0, rfl⟩ (by decide) (by decide)
theorem ef_3 (m : MethodId) (a : Addr) (bt : Addr) (st : Int32) (dm : Int32)  : entryFrame m #[(.ref a), (.ref bt), (.int st), (.int dm)] 4 = mkF m 0 #[.val (.ref a), .val (.ref bt), .val (.int st), .val (.int dm)] [] := by first | (simp [entryFrame, mkF, argsToLocals, Value.category]; done) | rfl
def Q3 (Z : State) (a : Addr) (bt : Addr) (st : Int32) (dm : Int32) (u0 : Value) (u1 : Value) (u2 : Value) (u3 : Value) (u4 : Value) (f : Nat → Int32) (sN : Nat) (h0 : Heap) (n0 : Nat) (v_ : Option Value) (h_ : Heap) (L_ : List Loc) : Prop := v_ = some (.ref a) ∧ Fr n0 L_ ∧ Keep h0 h_ [a] ∧ (Exa Z h_ a "org/tempochart/zone/PackedZone") ∧ (Fld Z h_ a "org/tempochart/zone/PackedZone" "bytes" "[B" (.ref bt)) ∧ (Fld Z h_ a "org/tempochart/zone/PackedZone" "width" "I" (.int (f sN))) ∧ (Fld Z h_ a "org/tempochart/zone/PackedZone" "first" "I" (.int (st + (1 : Int32)))) ∧ (Fld Z h_ a "org/tempochart/zone/PackedZone" "none" "I" (.int (own_none (f sN))))
set_option maxRecDepth 65536 in
set_option maxHeartbeats 40000000 in
theorem rm3 (l : Launch) (Z : State) (a0 : Array Value) (hw : ∀ d ∈ tables_1, d.before a0 Z = true) (ws : List Jvm.Cond) (a : Addr) (bt : Addr) (st : Int32) (dm : Int32) (u0 : Value) (u1 : Value) (u2 : Value) (u3 : Value) (u4 : Value) (f : Nat → Int32) (sN : Nat) (h0 : Heap) (n0 : Nat) (Z0 : n0 ≤ h0.size) (P0 : Exa Z h0 a "org/tempochart/zone/PackedZone") (P1 : Fld Z h0 a "org/tempochart/zone/PackedZone" "bytes" "[B" u0) (P2 : Fld Z h0 a "org/tempochart/zone/PackedZone" "dimension" "I" u1) (P3 : Fld Z h0 a "org/tempochart/zone/PackedZone" "width" "I" u2) (P4 : Fld Z h0 a "org/tempochart/zone/PackedZone" "first" "I" u3) (P5 : Fld Z h0 a "org/tempochart/zone/PackedZone" "none" "I" u4) (P6 : n0 ≤ a) (P7 : OwnArf Z h0 bt .byte 24 f) (P8 : bt ≠ a) (P9 : st.toInt = sN) (P10 : sN ≤ 3) :
    MetFree l (⟨"org/tempochart/zone/PackedZone", "at", "([BII)Lorg/tempochart/zone/PackedZone;"⟩ : MethodName) (head1 (Jvm.Cond.code (⟨"org/tempochart/zone/PackedZone", "at", "([BII)Lorg/tempochart/zone/PackedZone;"⟩ : MethodName) prog_291_method_4_code 4 (some (.object "org/tempochart/zone/PackedZone")) :: ws) ({ frames := 1, cells := 0, slots := 0, locals := 13 } : Room)) (fun A_ U => A_ = #[(.ref a), (.ref bt), (.int st), (.int dm)] ∧ Z.Warmed39 U.vm ∧ U.heap = h0) (fun _ _ _ _ _ => True) (fun _ U_ o_ U'_ => ∃ v_ L_, o_ = .returned v_ ∧ Q3 Z a bt st dm u0 u1 u2 u3 u4 f sN h0 n0 v_ U'_.heap L_ ∧ FrameEnd U_ o_ U'_ L_ ({ frames := 1, cells := 0, slots := 0, locals := 13 } : Room).cells ({ frames := 1, cells := 0, slots := 0, locals := 13 } : Room).slots) := by
  refine MetFree.of_bodySF (plainFor_of_name pn_0) hisR ?_
  intro p e s m args below meth c s₁ Bd hml0 hP hK
  obtain ⟨rfl, hZ, hh⟩ := hP
  have hx := Bd.exec
  have hby := Bd.bytes
  have hml : c.maxLocals = 4 := hml0
  have hown : s.vm.findClass "org/tempochart/zone/PackedZone" = some m.cls := findClass_of_methodNamed Bd.named
  have hnm := (name_of_methodNamed Bd.named Bd.method).1
  have hlk : meth.locks = false := Bd.notSynchronized
  have X0 : Stand p l e ({ frames := 1, cells := 0, slots := 0, locals := 13 } : Room) s m #[(.ref a), (.ref bt), (.int st), (.int dm)] below meth c s₁ [] 0 0 := Stand.of_body Bd
  have e0 : s₁.heap = h0 := by rw [← hh, Bd.state]; rfl
  have N0 := Fr.nil n0
  have K0 : Keep h0 h0 [a] := Keep.refl _ _
  refine own_cast (ef_3 m a bt st dm) ?_
  show OwnGo p e below s (Q3 Z a bt st dm u0 u1 u2 u3 u4 f sN h0 n0) ({ frames := 1, cells := 0, slots := 0, locals := 13 } : Room).cells ({ frames := 1, cells := 0, slots := 0, locals := 13 } : Room).slots (s₁.setTop (mkF m 0 #[.val (.ref a), .val (.ref bt), .val (.int st), .val (.int dm)] []))
  refine own_on (fun t k => XS.aloadN X0.here hx rfl (hb hby d3_0) rfl rfl k) ?_
  show OwnGo p e below s _ _ _ (s₁.setTop (mkF m 1 #[.val (.ref a), .val (.ref bt), .val (.int st), .val (.int dm)] [(.ref a)]))
  refine own_on (fun t k => XS.aloadN X0.here hx rfl (hb hby d3_1) rfl rfl k) ?_
  show OwnGo p e below s _ _ _ (s₁.setTop (mkF m 2 #[.val (.ref a), .val (.ref bt), .val (.int st), .val (.int dm)] [(.ref bt), (.ref a)]))
  obtain ⟨T1, h1, X1, e1, W1, st1⟩ := putF X0 hx hZ hown (host := "") (Or.inl (w20 hw)) Via.refl e0 P1 P0 (Or.inl (w21 hw)) (w2 hw) (ty := (.array .byte)) (by decide) rfl rfl (g := (mkF m 2 #[.val (.ref a), .val (.ref bt), .val (.int st), .val (.int dm)] [(.ref bt), (.ref a)])) rfl rfl (hb hby d3_2)
  have F1 := P1.same W1
  have N1 := Fr.snoc X1 N0 P6
  have Z1 : n0 ≤ h1.size := Nat.le_trans Z0 (Keep.of_wr W1).1
  have K1 : Keep h0 h1 [a] := K0.wr W1 (Or.inl (List.mem_of_getElem? (i := 0) rfl))
  refine own_on st1 ?_
  show OwnGo p e below s _ _ _ (T1.setTop (mkF m 5 #[.val (.ref a), .val (.ref bt), .val (.int st), .val (.int dm)] []))
  refine own_on (fun t k => XS.aloadN X1.here hx rfl (hb hby d3_5) rfl rfl k) ?_
  show OwnGo p e below s _ _ _ (T1.setTop (mkF m 6 #[.val (.ref a), .val (.ref bt), .val (.int st), .val (.int dm)] [(.ref a)]))
  refine own_on (fun t k => XS.iloadN X1.here hx rfl (hb hby d3_6) rfl k) ?_
  show OwnGo p e below s _ _ _ (T1.setTop (mkF m 7 #[.val (.ref a), .val (.ref bt), .val (.int st), .val (.int dm)] [(.int dm), (.ref a)]))
  have f2 : Fld Z h1 a "org/tempochart/zone/PackedZone" "dimension" "I" u1 := P2.other W1 (Or.inr (slot_ne (Or.inl (w23 hw)) (Or.inl (w21 hw)) (by decide) (t := .int) (t' := (.array .byte)) (by decide) (by decide)))
  have f3 : Exa Z h1 a "org/tempochart/zone/PackedZone" := P0.wr W1
  obtain ⟨T4, h4, X4, e4, W4, st4⟩ := putF X1 hx hZ hown (host := "") (Or.inl (w22 hw)) Via.refl e1 f2 f3 (Or.inl (w23 hw)) (w2 hw) (ty := .int) (by decide) rfl rfl (g := (mkF m 7 #[.val (.ref a), .val (.ref bt), .val (.int st), .val (.int dm)] [(.int dm), (.ref a)])) rfl rfl (hb hby d3_7)
  have F4 := f2.same W4
  have N4 := Fr.snoc X4 N1 P6
  have Z4 : n0 ≤ h4.size := Nat.le_trans Z1 (Keep.of_wr W4).1
  have K4 : Keep h0 h4 [a] := K1.wr W4 (Or.inl (List.mem_of_getElem? (i := 0) rfl))
  refine own_on st4 ?_
  show OwnGo p e below s _ _ _ (T4.setTop (mkF m 10 #[.val (.ref a), .val (.ref bt), .val (.int st), .val (.int dm)] []))
  refine own_on (fun t k => XS.aloadN X4.here hx rfl (hb hby d3_10) rfl rfl k) ?_
  show OwnGo p e below s _ _ _ (T4.setTop (mkF m 11 #[.val (.ref a), .val (.ref bt), .val (.int st), .val (.int dm)] [(.ref a)]))
  refine own_on (fun t k => XS.aloadN X4.here hx rfl (hb hby d3_11) rfl rfl k) ?_
  show OwnGo p e below s _ _ _ (T4.setTop (mkF m 12 #[.val (.ref a), .val (.ref bt), .val (.int st), .val (.int dm)] [(.ref bt), (.ref a)]))
  refine own_on (fun t k => XS.iloadN X4.here hx rfl (hb hby d3_12) rfl k) ?_
  show OwnGo p e below s _ _ _ (T4.setTop (mkF m 13 #[.val (.ref a), .val (.ref bt), .val (.int st), .val (.int dm)] [(.int st), (.ref bt), (.ref a)]))
  have f5 : OwnArf Z h1 bt .byte 24 f := P7.other W1 P8
  have f6 : OwnArf Z h4 bt .byte 24 f := f5.other W4 P8
  obtain ⟨cl7, Ar7, S7, H7⟩ := id f6
  have hj7 : ¬ st < 0 ∧ (st).toNatClampNeg = sN := own_ix P9
  refine own_on (X4.baloadBytes hx (j := st) (v := (.int (f sN))) (by rw [e4]; exact Ar7.1) (State.isArrayOf_alike hZ.alike Ar7.2.1) Ar7.2.2 (own_in S7 hj7 (by omega)) (hj7.2.symm ▸ H7 _ (by omega)) (g := (mkF m 13 #[.val (.ref a), .val (.ref bt), .val (.int st), .val (.int dm)] [(.int st), (.ref bt), (.ref a)])) rfl rfl (hb hby d3_13)) ?_
  show OwnGo p e below s _ _ _ (T4.setTop (mkF m 14 #[.val (.ref a), .val (.ref bt), .val (.int st), .val (.int dm)] [(.int (f sN)), (.ref a)]))
  have f8 : Fld Z h1 a "org/tempochart/zone/PackedZone" "width" "I" u2 := P3.other W1 (Or.inr (slot_ne (Or.inl (w25 hw)) (Or.inl (w21 hw)) (by decide) (t := .int) (t' := (.array .byte)) (by decide) (by decide)))
  have f9 : Fld Z h4 a "org/tempochart/zone/PackedZone" "width" "I" u2 := f8.other W4 (Or.inr (slot_ne (Or.inl (w25 hw)) (Or.inl (w23 hw)) (by decide) (t := .int) (t' := .int) (by decide) (by decide)))
  have f10 : Exa Z h4 a "org/tempochart/zone/PackedZone" := f3.wr W4
  obtain ⟨T11, h11, X11, e11, W11, st11⟩ := putF X4 hx hZ hown (host := "") (Or.inl (w24 hw)) Via.refl e4 f9 f10 (Or.inl (w25 hw)) (w2 hw) (ty := .int) (by decide) rfl rfl (g := (mkF m 14 #[.val (.ref a), .val (.ref bt), .val (.int st), .val (.int dm)] [(.int (f sN)), (.ref a)])) rfl rfl (hb hby d3_14)
  have F11 := f9.same W11
  have N11 := Fr.snoc X11 N4 P6
  have Z11 : n0 ≤ h11.size := Nat.le_trans Z4 (Keep.of_wr W11).1
  have K11 : Keep h0 h11 [a] := K4.wr W11 (Or.inl (List.mem_of_getElem? (i := 0) rfl))
  refine own_on st11 ?_
  show OwnGo p e below s _ _ _ (T11.setTop (mkF m 17 #[.val (.ref a), .val (.ref bt), .val (.int st), .val (.int dm)] []))
  refine own_on (fun t k => XS.aloadN X11.here hx rfl (hb hby d3_17) rfl rfl k) ?_
  show OwnGo p e below s _ _ _ (T11.setTop (mkF m 18 #[.val (.ref a), .val (.ref bt), .val (.int st), .val (.int dm)] [(.ref a)]))
  refine own_on (fun t k => XS.iloadN X11.here hx rfl (hb hby d3_18) rfl k) ?_
  show OwnGo p e below s _ _ _ (T11.setTop (mkF m 19 #[.val (.ref a), .val (.ref bt), .val (.int st), .val (.int dm)] [(.int st), (.ref a)]))
  refine own_on (fun t k => XS.iconst X11.here hx rfl (hb hby d3_19) k) ?_
  show OwnGo p e below s _ _ _ (T11.setTop (mkF m 20 #[.val (.ref a), .val (.ref bt), .val (.int st), .val (.int dm)] [(.int (1 : Int32)), (.int st), (.ref a)]))
  refine own_on (fun t k => XS.iadd X11.here hx rfl (hb hby d3_20) rfl k) ?_
  show OwnGo p e below s _ _ _ (T11.setTop (mkF m 21 #[.val (.ref a), .val (.ref bt), .val (.int st), .val (.int dm)] [(.int (st + (1 : Int32))), (.ref a)]))
  have f12 : Fld Z h1 a "org/tempochart/zone/PackedZone" "first" "I" u3 := P4.other W1 (Or.inr (slot_ne (Or.inl (w27 hw)) (Or.inl (w21 hw)) (by decide) (t := .int) (t' := (.array .byte)) (by decide) (by decide)))
  have f13 : Fld Z h4 a "org/tempochart/zone/PackedZone" "first" "I" u3 := f12.other W4 (Or.inr (slot_ne (Or.inl (w27 hw)) (Or.inl (w23 hw)) (by decide) (t := .int) (t' := .int) (by decide) (by decide)))
  have f14 : Fld Z h11 a "org/tempochart/zone/PackedZone" "first" "I" u3 := f13.other W11 (Or.inr (slot_ne (Or.inl (w27 hw)) (Or.inl (w25 hw)) (by decide) (t := .int) (t' := .int) (by decide) (by decide)))
  have f15 : Exa Z h11 a "org/tempochart/zone/PackedZone" := f10.wr W11
  obtain ⟨T16, h16, X16, e16, W16, st16⟩ := putF X11 hx hZ hown (host := "") (Or.inl (w26 hw)) Via.refl e11 f14 f15 (Or.inl (w27 hw)) (w2 hw) (ty := .int) (by decide) rfl rfl (g := (mkF m 21 #[.val (.ref a), .val (.ref bt), .val (.int st), .val (.int dm)] [(.int (st + (1 : Int32))), (.ref a)])) rfl rfl (hb hby d3_21)
  have F16 := f14.same W16
  have N16 := Fr.snoc X16 N11 P6
  have Z16 : n0 ≤ h16.size := Nat.le_trans Z11 (Keep.of_wr W16).1
  have K16 : Keep h0 h16 [a] := K11.wr W16 (Or.inl (List.mem_of_getElem? (i := 0) rfl))
  refine own_on st16 ?_
  show OwnGo p e below s _ _ _ (T16.setTop (mkF m 24 #[.val (.ref a), .val (.ref bt), .val (.int st), .val (.int dm)] []))
  refine own_on (fun t k => XS.aloadN X16.here hx rfl (hb hby d3_24) rfl rfl k) ?_
  show OwnGo p e below s _ _ _ (T16.setTop (mkF m 25 #[.val (.ref a), .val (.ref bt), .val (.int st), .val (.int dm)] [(.ref a)]))
  refine own_on (fun t k => XS.aloadN X16.here hx rfl (hb hby d3_25) rfl rfl k) ?_
  show OwnGo p e below s _ _ _ (T16.setTop (mkF m 26 #[.val (.ref a), .val (.ref bt), .val (.int st), .val (.int dm)] [(.ref a), (.ref a)]))
  have f17 : Fld Z h16 a "org/tempochart/zone/PackedZone" "width" "I" (.int (f sN)) := F11.other W16 (Or.inr (slot_ne (Or.inl (w25 hw)) (Or.inl (w27 hw)) (by decide) (t := .int) (t' := .int) (by decide) (by decide)))
  obtain ⟨T18, X18, e18, st18⟩ := getF X16 hx hZ hown (host := "") (Or.inl (w24 hw)) Via.refl e16 f17 (g := (mkF m 26 #[.val (.ref a), .val (.ref bt), .val (.int st), .val (.int dm)] [(.ref a), (.ref a)])) rfl rfl (hb hby d3_26)
  refine own_on st18 ?_
  show OwnGo p e below s _ _ _ (T18.setTop (mkF m 29 #[.val (.ref a), .val (.ref bt), .val (.int st), .val (.int dm)] [(.int (f sN)), (.ref a)]))
  obtain ⟨_, _, ⟨T19, L19, k19, n19⟩, -, X19, ⟨Lc19, hQ19, l19, y19, z19⟩, st19⟩ := Jvm.LawKit.callS X18 hx (y := (⟨"org/tempochart/zone/PackedZone", "none", "(I)I"⟩ : MethodName)) hown (mvT hZ (w28 hw)) (mvT hZ (w29 hw)) (mvT hZ (w3 hw)) (mvT hZ (w30 hw)) (by decide) (backOf (W := 1) (rm4 l Z a0 hw [] (f sN) h16 n0 Z16 ) hZ (w30 hw) (w3 hw) (by decide) (by decide)) (g := (mkF m 29 #[.val (.ref a), .val (.ref bt), .val (.int st), .val (.int dm)] [(.int (f sN)), (.ref a)])) rfl (by rw [hml]; rfl) (argsL := [(.int (f sN))]) (rest := [(.ref a)]) (lenOf pd_0 rfl) rfl (by show 2 * 0 + _ ≤ _; exact Nat.le_of_eq rfl) (hb hby d3_29) (fun _ _ => ⟨rfl, e18, (by decide : 0 + 0 ≤ _), (by decide : 0 + 0 ≤ _)⟩)
  dsimp only [Pt.U, Pt.locs, Pt.cells, Pt.slots] at X19 l19 y19 z19 st19 hQ19
  replace X19 := own_num (c' := 0) (n' := 0) X19 l19 (y19.trans rfl) (z19.trans rfl)
  obtain ⟨rfl, N19q, e19⟩ := hQ19
  have N19 := Fr.app N16 N19q
  refine own_on st19 ?_
  show OwnGo p e below s _ _ _ (T19.setTop (mkF m 32 #[.val (.ref a), .val (.ref bt), .val (.int st), .val (.int dm)] [(.int (own_none (f sN))), (.ref a)]))
  have f20 : Fld Z h1 a "org/tempochart/zone/PackedZone" "none" "I" u4 := P5.other W1 (Or.inr (slot_ne (Or.inl (w32 hw)) (Or.inl (w21 hw)) (by decide) (t := .int) (t' := (.array .byte)) (by decide) (by decide)))
  have f21 : Fld Z h4 a "org/tempochart/zone/PackedZone" "none" "I" u4 := f20.other W4 (Or.inr (slot_ne (Or.inl (w32 hw)) (Or.inl (w23 hw)) (by decide) (t := .int) (t' := .int) (by decide) (by decide)))
  have f22 : Fld Z h11 a "org/tempochart/zone/PackedZone" "none" "I" u4 := f21.other W11 (Or.inr (slot_ne (Or.inl (w32 hw)) (Or.inl (w25 hw)) (by decide) (t := .int) (t' := .int) (by decide) (by decide)))
  have f23 : Fld Z h16 a "org/tempochart/zone/PackedZone" "none" "I" u4 := f22.other W16 (Or.inr (slot_ne (Or.inl (w32 hw)) (Or.inl (w27 hw)) (by decide) (t := .int) (t' := .int) (by decide) (by decide)))
  have f24 : Exa Z h16 a "org/tempochart/zone/PackedZone" := f15.wr W16
  obtain ⟨T25, h25, X25, e25, W25, st25⟩ := putF X19 hx hZ hown (host := "") (Or.inl (w31 hw)) Via.refl e19 f23 f24 (Or.inl (w32 hw)) (w2 hw) (ty := .int) (by decide) rfl rfl (g := (mkF m 32 #[.val (.ref a), .val (.ref bt), .val (.int st), .val (.int dm)] [(.int (own_none (f sN))), (.ref a)])) rfl rfl (hb hby d3_32)
  have F25 := f23.same W25
  have N25 := Fr.snoc X25 N19 P6
  have Z25 : n0 ≤ h25.size := Nat.le_trans Z16 (Keep.of_wr W25).1
  have K25 : Keep h0 h25 [a] := K16.wr W25 (Or.inl (List.mem_of_getElem? (i := 0) rfl))
  refine own_on st25 ?_
  show OwnGo p e below s _ _ _ (T25.setTop (mkF m 35 #[.val (.ref a), .val (.ref bt), .val (.int st), .val (.int dm)] []))
  refine own_on (fun t k => XS.aloadN X25.here hx rfl (hb hby d3_35) rfl rfl k) ?_
  show OwnGo p e below s _ _ _ (T25.setTop (mkF m 36 #[.val (.ref a), .val (.ref bt), .val (.int st), .val (.int dm)] [(.ref a)]))
  have f26 : Exa Z h25 a "org/tempochart/zone/PackedZone" := f24.wr W25
  have f27 : Fld Z h4 a "org/tempochart/zone/PackedZone" "bytes" "[B" (.ref bt) := F1.other W4 (Or.inr (slot_ne (Or.inl (w21 hw)) (Or.inl (w23 hw)) (by decide) (t := (.array .byte)) (t' := .int) (by decide) (by decide)))
  have f28 : Fld Z h11 a "org/tempochart/zone/PackedZone" "bytes" "[B" (.ref bt) := f27.other W11 (Or.inr (slot_ne (Or.inl (w21 hw)) (Or.inl (w25 hw)) (by decide) (t := (.array .byte)) (t' := .int) (by decide) (by decide)))
  have f29 : Fld Z h16 a "org/tempochart/zone/PackedZone" "bytes" "[B" (.ref bt) := f28.other W16 (Or.inr (slot_ne (Or.inl (w21 hw)) (Or.inl (w27 hw)) (by decide) (t := (.array .byte)) (t' := .int) (by decide) (by decide)))
  have f30 : Fld Z h25 a "org/tempochart/zone/PackedZone" "bytes" "[B" (.ref bt) := f29.other W25 (Or.inr (slot_ne (Or.inl (w21 hw)) (Or.inl (w32 hw)) (by decide) (t := (.array .byte)) (t' := .int) (by decide) (by decide)))
  have f31 : Fld Z h25 a "org/tempochart/zone/PackedZone" "width" "I" (.int (f sN)) := f17.other W25 (Or.inr (slot_ne (Or.inl (w25 hw)) (Or.inl (w32 hw)) (by decide) (t := .int) (t' := .int) (by decide) (by decide)))
  have f32 : Fld Z h25 a "org/tempochart/zone/PackedZone" "first" "I" (.int (st + (1 : Int32))) := F16.other W25 (Or.inr (slot_ne (Or.inl (w27 hw)) (Or.inl (w32 hw)) (by decide) (t := .int) (t' := .int) (by decide) (by decide)))
  exact own_retA X25 hx hlk Bd.returns rfl rfl (hb hby d3_36) e25 ⟨rfl, N25, K25, f26, f30, f31, f32, F25⟩ (by decide) (by decide)
theorem ef_en1 (m : MethodId) (a : Addr) (kk : Int32)  : entryFrame m #[(.ref a), (.int kk)] 5 = mkF m 0 #[.val (.ref a), .val (.int kk), .unset, .unset, .unset] [] := by first | (simp [entryFrame, mkF, argsToLocals, Value.category]; done) | rfl
def Qen1 (Z : State) (a : Addr) (kk : Int32) (bt : Addr) (s1 : Int32) (f : Nat → Int32) (q : Nat) (h0 : Heap) (n0 : Nat) (v_ : Option Value) (h_ : Heap) (L_ : List Loc) : Prop := v_ = some (.int (own_r 127 (f q))) ∧ Fr n0 L_ ∧ h_ = h0
set_option maxRecDepth 65536 in
set_option maxHeartbeats 40000000 in
theorem rmen1 (l : Launch) (Z : State) (a0 : Array Value) (hw : ∀ d ∈ tables_1, d.before a0 Z = true) (ws : List Jvm.Cond) (a : Addr) (kk : Int32) (bt : Addr) (s1 : Int32) (f : Nat → Int32) (q : Nat) (h0 : Heap) (n0 : Nat) (Z0 : n0 ≤ h0.size) (P0 : Exa Z h0 a "org/tempochart/zone/PackedZone") (P1 : Fld Z h0 a "org/tempochart/zone/PackedZone" "bytes" "[B" (.ref bt)) (P2 : Fld Z h0 a "org/tempochart/zone/PackedZone" "width" "I" (.int (1 : Int32))) (P3 : Fld Z h0 a "org/tempochart/zone/PackedZone" "first" "I" (.int s1)) (P4 : Fld Z h0 a "org/tempochart/zone/PackedZone" "none" "I" (.int (127 : Int32))) (P5 : OwnArf Z h0 bt .byte 24 f) (P6 : (s1 + (kk * (1 : Int32))).toInt = q) (P7 : q ≤ 16) :
    MetFree l (⟨"org/tempochart/zone/PackedZone", "entry", "(I)I"⟩ : MethodName) (head1 (Jvm.Cond.code (⟨"org/tempochart/zone/PackedZone", "entry", "(I)I"⟩ : MethodName) prog_291_method_14_code 5 (some .int) :: ws) ({ frames := 0, cells := 0, slots := 0, locals := 0 } : Room)) (fun A_ U => A_ = #[(.ref a), (.int kk)] ∧ Z.Warmed39 U.vm ∧ U.heap = h0) (fun _ _ _ _ _ => True) (fun _ U_ o_ U'_ => ∃ v_ L_, o_ = .returned v_ ∧ Qen1 Z a kk bt s1 f q h0 n0 v_ U'_.heap L_ ∧ FrameEnd U_ o_ U'_ L_ ({ frames := 0, cells := 0, slots := 0, locals := 0 } : Room).cells ({ frames := 0, cells := 0, slots := 0, locals := 0 } : Room).slots) := by
  refine MetFree.of_bodySF (plainFor_of_name pn_0) hisR ?_
  intro p e s m args below meth c s₁ Bd hml0 hP hK
  obtain ⟨rfl, hZ, hh⟩ := hP
  have hx := Bd.exec
  have hby := Bd.bytes
  have hml : c.maxLocals = 5 := hml0
  have hown : s.vm.findClass "org/tempochart/zone/PackedZone" = some m.cls := findClass_of_methodNamed Bd.named
  have hnm := (name_of_methodNamed Bd.named Bd.method).1
  have hlk : meth.locks = false := Bd.notSynchronized
  have X0 : Stand p l e ({ frames := 0, cells := 0, slots := 0, locals := 0 } : Room) s m #[(.ref a), (.int kk)] below meth c s₁ [] 0 0 := Stand.of_body Bd
  have e0 : s₁.heap = h0 := by rw [← hh, Bd.state]; rfl
  have N0 := Fr.nil n0
  have K0 : Keep h0 h0 [] := Keep.refl _ _
  refine own_cast (ef_en1 m a kk) ?_
  show OwnGo p e below s (Qen1 Z a kk bt s1 f q h0 n0) ({ frames := 0, cells := 0, slots := 0, locals := 0 } : Room).cells ({ frames := 0, cells := 0, slots := 0, locals := 0 } : Room).slots (s₁.setTop (mkF m 0 #[.val (.ref a), .val (.int kk), .unset, .unset, .unset] []))
  refine own_on (fun t k => XS.aloadN X0.here hx rfl (hb hby d5_0) rfl rfl k) ?_
  show OwnGo p e below s _ _ _ (s₁.setTop (mkF m 1 #[.val (.ref a), .val (.int kk), .unset, .unset, .unset] [(.ref a)]))
  obtain ⟨T1, X1, e1, st1⟩ := getF X0 hx hZ hown (host := "") (Or.inl (w26 hw)) Via.refl e0 P3 (g := (mkF m 1 #[.val (.ref a), .val (.int kk), .unset, .unset, .unset] [(.ref a)])) rfl rfl (hb hby d5_1)
  refine own_on st1 ?_
  show OwnGo p e below s _ _ _ (T1.setTop (mkF m 4 #[.val (.ref a), .val (.int kk), .unset, .unset, .unset] [(.int s1)]))
  refine own_on (fun t k => XS.iloadN X1.here hx rfl (hb hby d5_4) rfl k) ?_
  show OwnGo p e below s _ _ _ (T1.setTop (mkF m 5 #[.val (.ref a), .val (.int kk), .unset, .unset, .unset] [(.int kk), (.int s1)]))
  refine own_on (fun t k => XS.aloadN X1.here hx rfl (hb hby d5_5) rfl rfl k) ?_
  show OwnGo p e below s _ _ _ (T1.setTop (mkF m 6 #[.val (.ref a), .val (.int kk), .unset, .unset, .unset] [(.ref a), (.int kk), (.int s1)]))
  obtain ⟨T2, X2, e2, st2⟩ := getF X1 hx hZ hown (host := "") (Or.inl (w24 hw)) Via.refl e1 P2 (g := (mkF m 6 #[.val (.ref a), .val (.int kk), .unset, .unset, .unset] [(.ref a), (.int kk), (.int s1)])) rfl rfl (hb hby d5_6)
  refine own_on st2 ?_
  show OwnGo p e below s _ _ _ (T2.setTop (mkF m 9 #[.val (.ref a), .val (.int kk), .unset, .unset, .unset] [(.int (1 : Int32)), (.int kk), (.int s1)]))
  refine own_on (fun t k => XS.imul X2.here hx rfl (hb hby d5_9) rfl k) ?_
  show OwnGo p e below s _ _ _ (T2.setTop (mkF m 10 #[.val (.ref a), .val (.int kk), .unset, .unset, .unset] [(.int (kk * (1 : Int32))), (.int s1)]))
  refine own_on (fun t k => XS.iadd X2.here hx rfl (hb hby d5_10) rfl k) ?_
  show OwnGo p e below s _ _ _ (T2.setTop (mkF m 11 #[.val (.ref a), .val (.int kk), .unset, .unset, .unset] [(.int (s1 + (kk * (1 : Int32))))]))
  refine own_on (fun t k => XS.istoreN X2.here hx rfl (hb hby d5_11) rfl (l' := #[.val (.ref a), .val (.int kk), .val (.int (s1 + (kk * (1 : Int32)))), .unset, .unset]) rfl k) ?_
  show OwnGo p e below s _ _ _ (T2.setTop (mkF m 12 #[.val (.ref a), .val (.int kk), .val (.int (s1 + (kk * (1 : Int32)))), .unset, .unset] []))
  refine own_on (fun t k => XS.aloadN X2.here hx rfl (hb hby d5_12) rfl rfl k) ?_
  show OwnGo p e below s _ _ _ (T2.setTop (mkF m 13 #[.val (.ref a), .val (.int kk), .val (.int (s1 + (kk * (1 : Int32)))), .unset, .unset] [(.ref a)]))
  obtain ⟨T3, X3, e3, st3⟩ := getF X2 hx hZ hown (host := "") (Or.inl (w20 hw)) Via.refl e2 P1 (g := (mkF m 13 #[.val (.ref a), .val (.int kk), .val (.int (s1 + (kk * (1 : Int32)))), .unset, .unset] [(.ref a)])) rfl rfl (hb hby d5_13)
  refine own_on st3 ?_
  show OwnGo p e below s _ _ _ (T3.setTop (mkF m 16 #[.val (.ref a), .val (.int kk), .val (.int (s1 + (kk * (1 : Int32)))), .unset, .unset] [(.ref bt)]))
  refine own_on (fun t k => XS.iloadN X3.here hx rfl (hb hby d5_16) rfl k) ?_
  show OwnGo p e below s _ _ _ (T3.setTop (mkF m 17 #[.val (.ref a), .val (.int kk), .val (.int (s1 + (kk * (1 : Int32)))), .unset, .unset] [(.int (s1 + (kk * (1 : Int32)))), (.ref bt)]))
  obtain ⟨cl4, Ar4, S4, H4⟩ := id P5
  have hj4 : ¬ (s1 + (kk * (1 : Int32))) < 0 ∧ ((s1 + (kk * (1 : Int32)))).toNatClampNeg = q := own_ix P6
  refine own_on (X3.baloadBytes hx (j := (s1 + (kk * (1 : Int32)))) (v := (.int (f q))) (by rw [e3]; exact Ar4.1) (State.isArrayOf_alike hZ.alike Ar4.2.1) Ar4.2.2 (own_in S4 hj4 (by omega)) (hj4.2.symm ▸ H4 _ (by omega)) (g := (mkF m 17 #[.val (.ref a), .val (.int kk), .val (.int (s1 + (kk * (1 : Int32)))), .unset, .unset] [(.int (s1 + (kk * (1 : Int32)))), (.ref bt)])) rfl rfl (hb hby d5_17)) ?_
  show OwnGo p e below s _ _ _ (T3.setTop (mkF m 18 #[.val (.ref a), .val (.int kk), .val (.int (s1 + (kk * (1 : Int32)))), .unset, .unset] [(.int (f q))]))
  refine own_on (fun t k => XS.istoreN X3.here hx rfl (hb hby d5_18) rfl (l' := #[.val (.ref a), .val (.int kk), .val (.int (s1 + (kk * (1 : Int32)))), .val (.int (f q)), .unset]) rfl k) ?_
  show OwnGo p e below s _ _ _ (T3.setTop (mkF m 19 #[.val (.ref a), .val (.int kk), .val (.int (s1 + (kk * (1 : Int32)))), .val (.int (f q)), .unset] []))
  refine own_on (fun t k => XS.iconst X3.here hx rfl (hb hby d5_19) k) ?_
  show OwnGo p e below s _ _ _ (T3.setTop (mkF m 20 #[.val (.ref a), .val (.int kk), .val (.int (s1 + (kk * (1 : Int32)))), .val (.int (f q)), .unset] [(.int (1 : Int32))]))
  refine own_on (fun t k => XS.istore X3.here hx rfl (hb hby d5_20) rfl (l' := #[.val (.ref a), .val (.int kk), .val (.int (s1 + (kk * (1 : Int32)))), .val (.int (f q)), .val (.int (1 : Int32))]) rfl k) ?_
  show OwnGo p e below s _ _ _ (T3.setTop (mkF m 22 #[.val (.ref a), .val (.int kk), .val (.int (s1 + (kk * (1 : Int32)))), .val (.int (f q)), .val (.int (1 : Int32))] []))
  refine own_on (fun t k => XS.iload X3.here hx rfl (hb hby d5_22) rfl k) ?_
  show OwnGo p e below s _ _ _ (T3.setTop (mkF m 24 #[.val (.ref a), .val (.int kk), .val (.int (s1 + (kk * (1 : Int32)))), .val (.int (f q)), .val (.int (1 : Int32))] [(.int (1 : Int32))]))
  refine own_on (fun t k => XS.aloadN X3.here hx rfl (hb hby d5_24) rfl rfl k) ?_
  show OwnGo p e below s _ _ _ (T3.setTop (mkF m 25 #[.val (.ref a), .val (.int kk), .val (.int (s1 + (kk * (1 : Int32)))), .val (.int (f q)), .val (.int (1 : Int32))] [(.ref a), (.int (1 : Int32))]))
  obtain ⟨T5, X5, e5, st5⟩ := getF X3 hx hZ hown (host := "") (Or.inl (w24 hw)) Via.refl e3 P2 (g := (mkF m 25 #[.val (.ref a), .val (.int kk), .val (.int (s1 + (kk * (1 : Int32)))), .val (.int (f q)), .val (.int (1 : Int32))] [(.ref a), (.int (1 : Int32))])) rfl rfl (hb hby d5_25)
  refine own_on st5 ?_
  show OwnGo p e below s _ _ _ (T5.setTop (mkF m 28 #[.val (.ref a), .val (.int kk), .val (.int (s1 + (kk * (1 : Int32)))), .val (.int (f q)), .val (.int (1 : Int32))] [(.int (1 : Int32)), (.int (1 : Int32))]))
  refine own_on (fun t k => XS.icmpYes X5.here hx rfl (pc0 := 28) (pc' := 56) rfl (hb hby d5_28) rfl (flt (by decide : ¬ ((1 : Int32) < (1 : Int32)))).2.1 (by decide) (by decide) k) ?_
  show OwnGo p e below s _ _ _ (T5.setTop (mkF m 56 #[.val (.ref a), .val (.int kk), .val (.int (s1 + (kk * (1 : Int32)))), .val (.int (f q)), .val (.int (1 : Int32))] []))
  refine own_on (fun t k => XS.iloadN X5.here hx rfl (hb hby d5_56) rfl k) ?_
  show OwnGo p e below s _ _ _ (T5.setTop (mkF m 57 #[.val (.ref a), .val (.int kk), .val (.int (s1 + (kk * (1 : Int32)))), .val (.int (f q)), .val (.int (1 : Int32))] [(.int (f q))]))
  refine own_on (fun t k => XS.aloadN X5.here hx rfl (hb hby d5_57) rfl rfl k) ?_
  show OwnGo p e below s _ _ _ (T5.setTop (mkF m 58 #[.val (.ref a), .val (.int kk), .val (.int (s1 + (kk * (1 : Int32)))), .val (.int (f q)), .val (.int (1 : Int32))] [(.ref a), (.int (f q))]))
  obtain ⟨T6, X6, e6, st6⟩ := getF X5 hx hZ hown (host := "") (Or.inl (w31 hw)) Via.refl e5 P4 (g := (mkF m 58 #[.val (.ref a), .val (.int kk), .val (.int (s1 + (kk * (1 : Int32)))), .val (.int (f q)), .val (.int (1 : Int32))] [(.ref a), (.int (f q))])) rfl rfl (hb hby d5_58)
  refine own_on st6 ?_
  show OwnGo p e below s _ _ _ (T6.setTop (mkF m 61 #[.val (.ref a), .val (.int kk), .val (.int (s1 + (kk * (1 : Int32)))), .val (.int (f q)), .val (.int (1 : Int32))] [(.int (127 : Int32)), (.int (f q))]))
  by_cases qn : (f q) = (127 : Int32)
  · refine own_on (fun t k => XS.icmpNo X6.here hx rfl (hb hby d5_61) rfl (teq qn).2 k) ?_
    show OwnGo p e below s _ _ _ (T6.setTop (mkF m 64 #[.val (.ref a), .val (.int kk), .val (.int (s1 + (kk * (1 : Int32)))), .val (.int (f q)), .val (.int (1 : Int32))] []))
    refine own_on (X6.ldcInt hx hown (mvT hZ (w38 hw)) (g := (mkF m 64 #[.val (.ref a), .val (.int kk), .val (.int (s1 + (kk * (1 : Int32)))), .val (.int (f q)), .val (.int (1 : Int32))] [])) rfl (hb hby d5_64)) ?_
    show OwnGo p e below s _ _ _ (T6.setTop (mkF m 66 #[.val (.ref a), .val (.int kk), .val (.int (s1 + (kk * (1 : Int32)))), .val (.int (f q)), .val (.int (1 : Int32))] [(.int (2147483647 : Int32))]))
    refine own_on (fun t k => XS.goto X6.here hx rfl (pc0 := 66) (pc' := 70) rfl (hb hby d5_66) (by decide) (by decide) k) ?_
    show OwnGo p e below s _ _ _ (T6.setTop (mkF m 70 #[.val (.ref a), .val (.int kk), .val (.int (s1 + (kk * (1 : Int32)))), .val (.int (f q)), .val (.int (1 : Int32))] [(.int (2147483647 : Int32))]))
    exact own_retI X6 hx hlk Bd.returns (hb hby d5_70) e6 ⟨(congrArg (fun z => some (Value.int z)) (by simp [own_r, *])), N0, rfl⟩ (by decide) (by decide)
  · refine own_on (fun t k => XS.icmpYes X6.here hx rfl (pc0 := 61) (pc' := 69) rfl (hb hby d5_61) rfl (feq qn).2 (by decide) (by decide) k) ?_
    show OwnGo p e below s _ _ _ (T6.setTop (mkF m 69 #[.val (.ref a), .val (.int kk), .val (.int (s1 + (kk * (1 : Int32)))), .val (.int (f q)), .val (.int (1 : Int32))] []))
    refine own_on (fun t k => XS.iloadN X6.here hx rfl (hb hby d5_69) rfl k) ?_
    show OwnGo p e below s _ _ _ (T6.setTop (mkF m 70 #[.val (.ref a), .val (.int kk), .val (.int (s1 + (kk * (1 : Int32)))), .val (.int (f q)), .val (.int (1 : Int32))] [(.int (f q))]))
    exact own_retI X6 hx hlk Bd.returns (hb hby d5_70) e6 ⟨(congrArg (fun z => some (Value.int z)) (by simp [own_r, *])), N0, rfl⟩ (by decide) (by decide)
theorem ef_en2 (m : MethodId) (a : Addr) (kk : Int32)  : entryFrame m #[(.ref a), (.int kk)] 5 = mkF m 0 #[.val (.ref a), .val (.int kk), .unset, .unset, .unset] [] := by first | (simp [entryFrame, mkF, argsToLocals, Value.category]; done) | rfl
def Qen2 (Z : State) (a : Addr) (kk : Int32) (bt : Addr) (s1 : Int32) (f : Nat → Int32) (q : Nat) (h0 : Heap) (n0 : Nat) (v_ : Option Value) (h_ : Heap) (L_ : List Loc) : Prop := v_ = some (.int (own_r 32767 (((f q) <<< ((8 : Int32) &&& 31)) ||| ((f (q + 1)) &&& (255 : Int32))))) ∧ Fr n0 L_ ∧ h_ = h0
set_option maxRecDepth 65536 in
set_option maxHeartbeats 40000000 in
theorem rmen2 (l : Launch) (Z : State) (a0 : Array Value) (hw : ∀ d ∈ tables_1, d.before a0 Z = true) (ws : List Jvm.Cond) (a : Addr) (kk : Int32) (bt : Addr) (s1 : Int32) (f : Nat → Int32) (q : Nat) (h0 : Heap) (n0 : Nat) (Z0 : n0 ≤ h0.size) (P0 : Exa Z h0 a "org/tempochart/zone/PackedZone") (P1 : Fld Z h0 a "org/tempochart/zone/PackedZone" "bytes" "[B" (.ref bt)) (P2 : Fld Z h0 a "org/tempochart/zone/PackedZone" "width" "I" (.int (2 : Int32))) (P3 : Fld Z h0 a "org/tempochart/zone/PackedZone" "first" "I" (.int s1)) (P4 : Fld Z h0 a "org/tempochart/zone/PackedZone" "none" "I" (.int (32767 : Int32))) (P5 : OwnArf Z h0 bt .byte 24 f) (P6 : (s1 + (kk * (2 : Int32))).toInt = q) (P7 : q ≤ 16) :
    MetFree l (⟨"org/tempochart/zone/PackedZone", "entry", "(I)I"⟩ : MethodName) (head1 (Jvm.Cond.code (⟨"org/tempochart/zone/PackedZone", "entry", "(I)I"⟩ : MethodName) prog_291_method_14_code 5 (some .int) :: ws) ({ frames := 0, cells := 0, slots := 0, locals := 0 } : Room)) (fun A_ U => A_ = #[(.ref a), (.int kk)] ∧ Z.Warmed39 U.vm ∧ U.heap = h0) (fun _ _ _ _ _ => True) (fun _ U_ o_ U'_ => ∃ v_ L_, o_ = .returned v_ ∧ Qen2 Z a kk bt s1 f q h0 n0 v_ U'_.heap L_ ∧ FrameEnd U_ o_ U'_ L_ ({ frames := 0, cells := 0, slots := 0, locals := 0 } : Room).cells ({ frames := 0, cells := 0, slots := 0, locals := 0 } : Room).slots) := by
  refine MetFree.of_bodySF (plainFor_of_name pn_0) hisR ?_
  intro p e s m args below meth c s₁ Bd hml0 hP hK
  obtain ⟨rfl, hZ, hh⟩ := hP
  have hx := Bd.exec
  have hby := Bd.bytes
  have hml : c.maxLocals = 5 := hml0
  have hown : s.vm.findClass "org/tempochart/zone/PackedZone" = some m.cls := findClass_of_methodNamed Bd.named
  have hnm := (name_of_methodNamed Bd.named Bd.method).1
  have hlk : meth.locks = false := Bd.notSynchronized
  have X0 : Stand p l e ({ frames := 0, cells := 0, slots := 0, locals := 0 } : Room) s m #[(.ref a), (.int kk)] below meth c s₁ [] 0 0 := Stand.of_body Bd
  have e0 : s₁.heap = h0 := by rw [← hh, Bd.state]; rfl
  have N0 := Fr.nil n0
  have K0 : Keep h0 h0 [] := Keep.refl _ _
  refine own_cast (ef_en2 m a kk) ?_
  show OwnGo p e below s (Qen2 Z a kk bt s1 f q h0 n0) ({ frames := 0, cells := 0, slots := 0, locals := 0 } : Room).cells ({ frames := 0, cells := 0, slots := 0, locals := 0 } : Room).slots (s₁.setTop (mkF m 0 #[.val (.ref a), .val (.int kk), .unset, .unset, .unset] []))
  refine own_on (fun t k => XS.aloadN X0.here hx rfl (hb hby d5_0) rfl rfl k) ?_
  show OwnGo p e below s _ _ _ (s₁.setTop (mkF m 1 #[.val (.ref a), .val (.int kk), .unset, .unset, .unset] [(.ref a)]))
  obtain ⟨T1, X1, e1, st1⟩ := getF X0 hx hZ hown (host := "") (Or.inl (w26 hw)) Via.refl e0 P3 (g := (mkF m 1 #[.val (.ref a), .val (.int kk), .unset, .unset, .unset] [(.ref a)])) rfl rfl (hb hby d5_1)
  refine own_on st1 ?_
  show OwnGo p e below s _ _ _ (T1.setTop (mkF m 4 #[.val (.ref a), .val (.int kk), .unset, .unset, .unset] [(.int s1)]))
  refine own_on (fun t k => XS.iloadN X1.here hx rfl (hb hby d5_4) rfl k) ?_
  show OwnGo p e below s _ _ _ (T1.setTop (mkF m 5 #[.val (.ref a), .val (.int kk), .unset, .unset, .unset] [(.int kk), (.int s1)]))
  refine own_on (fun t k => XS.aloadN X1.here hx rfl (hb hby d5_5) rfl rfl k) ?_
  show OwnGo p e below s _ _ _ (T1.setTop (mkF m 6 #[.val (.ref a), .val (.int kk), .unset, .unset, .unset] [(.ref a), (.int kk), (.int s1)]))
  obtain ⟨T2, X2, e2, st2⟩ := getF X1 hx hZ hown (host := "") (Or.inl (w24 hw)) Via.refl e1 P2 (g := (mkF m 6 #[.val (.ref a), .val (.int kk), .unset, .unset, .unset] [(.ref a), (.int kk), (.int s1)])) rfl rfl (hb hby d5_6)
  refine own_on st2 ?_
  show OwnGo p e below s _ _ _ (T2.setTop (mkF m 9 #[.val (.ref a), .val (.int kk), .unset, .unset, .unset] [(.int (2 : Int32)), (.int kk), (.int s1)]))
  refine own_on (fun t k => XS.imul X2.here hx rfl (hb hby d5_9) rfl k) ?_
  show OwnGo p e below s _ _ _ (T2.setTop (mkF m 10 #[.val (.ref a), .val (.int kk), .unset, .unset, .unset] [(.int (kk * (2 : Int32))), (.int s1)]))
  refine own_on (fun t k => XS.iadd X2.here hx rfl (hb hby d5_10) rfl k) ?_
  show OwnGo p e below s _ _ _ (T2.setTop (mkF m 11 #[.val (.ref a), .val (.int kk), .unset, .unset, .unset] [(.int (s1 + (kk * (2 : Int32))))]))
  refine own_on (fun t k => XS.istoreN X2.here hx rfl (hb hby d5_11) rfl (l' := #[.val (.ref a), .val (.int kk), .val (.int (s1 + (kk * (2 : Int32)))), .unset, .unset]) rfl k) ?_
  show OwnGo p e below s _ _ _ (T2.setTop (mkF m 12 #[.val (.ref a), .val (.int kk), .val (.int (s1 + (kk * (2 : Int32)))), .unset, .unset] []))
  refine own_on (fun t k => XS.aloadN X2.here hx rfl (hb hby d5_12) rfl rfl k) ?_
  show OwnGo p e below s _ _ _ (T2.setTop (mkF m 13 #[.val (.ref a), .val (.int kk), .val (.int (s1 + (kk * (2 : Int32)))), .unset, .unset] [(.ref a)]))
  obtain ⟨T3, X3, e3, st3⟩ := getF X2 hx hZ hown (host := "") (Or.inl (w20 hw)) Via.refl e2 P1 (g := (mkF m 13 #[.val (.ref a), .val (.int kk), .val (.int (s1 + (kk * (2 : Int32)))), .unset, .unset] [(.ref a)])) rfl rfl (hb hby d5_13)
  refine own_on st3 ?_
  show OwnGo p e below s _ _ _ (T3.setTop (mkF m 16 #[.val (.ref a), .val (.int kk), .val (.int (s1 + (kk * (2 : Int32)))), .unset, .unset] [(.ref bt)]))
  refine own_on (fun t k => XS.iloadN X3.here hx rfl (hb hby d5_16) rfl k) ?_
  show OwnGo p e below s _ _ _ (T3.setTop (mkF m 17 #[.val (.ref a), .val (.int kk), .val (.int (s1 + (kk * (2 : Int32)))), .unset, .unset] [(.int (s1 + (kk * (2 : Int32)))), (.ref bt)]))
  obtain ⟨cl4, Ar4, S4, H4⟩ := id P5
  have hj4 : ¬ (s1 + (kk * (2 : Int32))) < 0 ∧ ((s1 + (kk * (2 : Int32)))).toNatClampNeg = q := own_ix P6
  refine own_on (X3.baloadBytes hx (j := (s1 + (kk * (2 : Int32)))) (v := (.int (f q))) (by rw [e3]; exact Ar4.1) (State.isArrayOf_alike hZ.alike Ar4.2.1) Ar4.2.2 (own_in S4 hj4 (by omega)) (hj4.2.symm ▸ H4 _ (by omega)) (g := (mkF m 17 #[.val (.ref a), .val (.int kk), .val (.int (s1 + (kk * (2 : Int32)))), .unset, .unset] [(.int (s1 + (kk * (2 : Int32)))), (.ref bt)])) rfl rfl (hb hby d5_17)) ?_
  show OwnGo p e below s _ _ _ (T3.setTop (mkF m 18 #[.val (.ref a), .val (.int kk), .val (.int (s1 + (kk * (2 : Int32)))), .unset, .unset] [(.int (f q))]))
  refine own_on (fun t k => XS.istoreN X3.here hx rfl (hb hby d5_18) rfl (l' := #[.val (.ref a), .val (.int kk), .val (.int (s1 + (kk * (2 : Int32)))), .val (.int (f q)), .unset]) rfl k) ?_
  show OwnGo p e below s _ _ _ (T3.setTop (mkF m 19 #[.val (.ref a), .val (.int kk), .val (.int (s1 + (kk * (2 : Int32)))), .val (.int (f q)), .unset] []))
  refine own_on (fun t k => XS.iconst X3.here hx rfl (hb hby d5_19) k) ?_
  show OwnGo p e below s _ _ _ (T3.setTop (mkF m 20 #[.val (.ref a), .val (.int kk), .val (.int (s1 + (kk * (2 : Int32)))), .val (.int (f q)), .unset] [(.int (1 : Int32))]))
  refine own_on (fun t k => XS.istore X3.here hx rfl (hb hby d5_20) rfl (l' := #[.val (.ref a), .val (.int kk), .val (.int (s1 + (kk * (2 : Int32)))), .val (.int (f q)), .val (.int (1 : Int32))]) rfl k) ?_
  show OwnGo p e below s _ _ _ (T3.setTop (mkF m 22 #[.val (.ref a), .val (.int kk), .val (.int (s1 + (kk * (2 : Int32)))), .val (.int (f q)), .val (.int (1 : Int32))] []))
  refine own_on (fun t k => XS.iload X3.here hx rfl (hb hby d5_22) rfl k) ?_
  show OwnGo p e below s _ _ _ (T3.setTop (mkF m 24 #[.val (.ref a), .val (.int kk), .val (.int (s1 + (kk * (2 : Int32)))), .val (.int (f q)), .val (.int (1 : Int32))] [(.int (1 : Int32))]))
  refine own_on (fun t k => XS.aloadN X3.here hx rfl (hb hby d5_24) rfl rfl k) ?_
  show OwnGo p e below s _ _ _ (T3.setTop (mkF m 25 #[.val (.ref a), .val (.int kk), .val (.int (s1 + (kk * (2 : Int32)))), .val (.int (f q)), .val (.int (1 : Int32))] [(.ref a), (.int (1 : Int32))]))
  obtain ⟨T5, X5, e5, st5⟩ := getF X3 hx hZ hown (host := "") (Or.inl (w24 hw)) Via.refl e3 P2 (g := (mkF m 25 #[.val (.ref a), .val (.int kk), .val (.int (s1 + (kk * (2 : Int32)))), .val (.int (f q)), .val (.int (1 : Int32))] [(.ref a), (.int (1 : Int32))])) rfl rfl (hb hby d5_25)
  refine own_on st5 ?_
  show OwnGo p e below s _ _ _ (T5.setTop (mkF m 28 #[.val (.ref a), .val (.int kk), .val (.int (s1 + (kk * (2 : Int32)))), .val (.int (f q)), .val (.int (1 : Int32))] [(.int (2 : Int32)), (.int (1 : Int32))]))
  refine own_on (fun t k => XS.icmpNo X5.here hx rfl (hb hby d5_28) rfl (tlt (by decide : (1 : Int32) < (2 : Int32))).2.1 k) ?_
  show OwnGo p e below s _ _ _ (T5.setTop (mkF m 31 #[.val (.ref a), .val (.int kk), .val (.int (s1 + (kk * (2 : Int32)))), .val (.int (f q)), .val (.int (1 : Int32))] []))
  refine own_on (fun t k => XS.iloadN X5.here hx rfl (hb hby d5_31) rfl k) ?_
  show OwnGo p e below s _ _ _ (T5.setTop (mkF m 32 #[.val (.ref a), .val (.int kk), .val (.int (s1 + (kk * (2 : Int32)))), .val (.int (f q)), .val (.int (1 : Int32))] [(.int (f q))]))
  refine own_on (fun t k => XS.bipush X5.here hx rfl (hb hby d5_32) k) ?_
  show OwnGo p e below s _ _ _ (T5.setTop (mkF m 34 #[.val (.ref a), .val (.int kk), .val (.int (s1 + (kk * (2 : Int32)))), .val (.int (f q)), .val (.int (1 : Int32))] [(.int (8 : Int32)), (.int (f q))]))
  refine own_on (fun t k => XS.ishl X5.here hx rfl (hb hby d5_34) rfl k) ?_
  show OwnGo p e below s _ _ _ (T5.setTop (mkF m 35 #[.val (.ref a), .val (.int kk), .val (.int (s1 + (kk * (2 : Int32)))), .val (.int (f q)), .val (.int (1 : Int32))] [(.int ((f q) <<< ((8 : Int32) &&& 31)))]))
  refine own_on (fun t k => XS.aloadN X5.here hx rfl (hb hby d5_35) rfl rfl k) ?_
  show OwnGo p e below s _ _ _ (T5.setTop (mkF m 36 #[.val (.ref a), .val (.int kk), .val (.int (s1 + (kk * (2 : Int32)))), .val (.int (f q)), .val (.int (1 : Int32))] [(.ref a), (.int ((f q) <<< ((8 : Int32) &&& 31)))]))
  obtain ⟨T6, X6, e6, st6⟩ := getF X5 hx hZ hown (host := "") (Or.inl (w20 hw)) Via.refl e5 P1 (g := (mkF m 36 #[.val (.ref a), .val (.int kk), .val (.int (s1 + (kk * (2 : Int32)))), .val (.int (f q)), .val (.int (1 : Int32))] [(.ref a), (.int ((f q) <<< ((8 : Int32) &&& 31)))])) rfl rfl (hb hby d5_36)
  refine own_on st6 ?_
  show OwnGo p e below s _ _ _ (T6.setTop (mkF m 39 #[.val (.ref a), .val (.int kk), .val (.int (s1 + (kk * (2 : Int32)))), .val (.int (f q)), .val (.int (1 : Int32))] [(.ref bt), (.int ((f q) <<< ((8 : Int32) &&& 31)))]))
  refine own_on (fun t k => XS.iloadN X6.here hx rfl (hb hby d5_39) rfl k) ?_
  show OwnGo p e below s _ _ _ (T6.setTop (mkF m 40 #[.val (.ref a), .val (.int kk), .val (.int (s1 + (kk * (2 : Int32)))), .val (.int (f q)), .val (.int (1 : Int32))] [(.int (s1 + (kk * (2 : Int32)))), (.ref bt), (.int ((f q) <<< ((8 : Int32) &&& 31)))]))
  refine own_on (fun t k => XS.iload X6.here hx rfl (hb hby d5_40) rfl k) ?_
  show OwnGo p e below s _ _ _ (T6.setTop (mkF m 42 #[.val (.ref a), .val (.int kk), .val (.int (s1 + (kk * (2 : Int32)))), .val (.int (f q)), .val (.int (1 : Int32))] [(.int (1 : Int32)), (.int (s1 + (kk * (2 : Int32)))), (.ref bt), (.int ((f q) <<< ((8 : Int32) &&& 31)))]))
  refine own_on (fun t k => XS.iadd X6.here hx rfl (hb hby d5_42) rfl k) ?_
  show OwnGo p e below s _ _ _ (T6.setTop (mkF m 43 #[.val (.ref a), .val (.int kk), .val (.int (s1 + (kk * (2 : Int32)))), .val (.int (f q)), .val (.int (1 : Int32))] [(.int ((s1 + (kk * (2 : Int32))) + (1 : Int32))), (.ref bt), (.int ((f q) <<< ((8 : Int32) &&& 31)))]))
  obtain ⟨cl7, Ar7, S7, H7⟩ := id P5
  have hj7 : ¬ ((s1 + (kk * (2 : Int32))) + (1 : Int32)) < 0 ∧ (((s1 + (kk * (2 : Int32))) + (1 : Int32))).toNatClampNeg = (q + 1) := own_ix (own_add P6 (by omega) (k := 1) (by decide) (by decide))
  refine own_on (X6.baloadBytes hx (j := ((s1 + (kk * (2 : Int32))) + (1 : Int32))) (v := (.int (f (q + 1)))) (by rw [e6]; exact Ar7.1) (State.isArrayOf_alike hZ.alike Ar7.2.1) Ar7.2.2 (own_in S7 hj7 (by omega)) (hj7.2.symm ▸ H7 _ (by omega)) (g := (mkF m 43 #[.val (.ref a), .val (.int kk), .val (.int (s1 + (kk * (2 : Int32)))), .val (.int (f q)), .val (.int (1 : Int32))] [(.int ((s1 + (kk * (2 : Int32))) + (1 : Int32))), (.ref bt), (.int ((f q) <<< ((8 : Int32) &&& 31)))])) rfl rfl (hb hby d5_43)) ?_
  show OwnGo p e below s _ _ _ (T6.setTop (mkF m 44 #[.val (.ref a), .val (.int kk), .val (.int (s1 + (kk * (2 : Int32)))), .val (.int (f q)), .val (.int (1 : Int32))] [(.int (f (q + 1))), (.int ((f q) <<< ((8 : Int32) &&& 31)))]))
  refine own_on (fun t k => XS.sipush X6.here hx rfl (hb hby d5_44) k) ?_
  show OwnGo p e below s _ _ _ (T6.setTop (mkF m 47 #[.val (.ref a), .val (.int kk), .val (.int (s1 + (kk * (2 : Int32)))), .val (.int (f q)), .val (.int (1 : Int32))] [(.int (255 : Int32)), (.int (f (q + 1))), (.int ((f q) <<< ((8 : Int32) &&& 31)))]))
  refine own_on (fun t k => XS.iand X6.here hx rfl (hb hby d5_47) rfl k) ?_
  show OwnGo p e below s _ _ _ (T6.setTop (mkF m 48 #[.val (.ref a), .val (.int kk), .val (.int (s1 + (kk * (2 : Int32)))), .val (.int (f q)), .val (.int (1 : Int32))] [(.int ((f (q + 1)) &&& (255 : Int32))), (.int ((f q) <<< ((8 : Int32) &&& 31)))]))
  refine own_on (fun t k => XS.ior X6.here hx rfl (hb hby d5_48) rfl k) ?_
  show OwnGo p e below s _ _ _ (T6.setTop (mkF m 49 #[.val (.ref a), .val (.int kk), .val (.int (s1 + (kk * (2 : Int32)))), .val (.int (f q)), .val (.int (1 : Int32))] [(.int (((f q) <<< ((8 : Int32) &&& 31)) ||| ((f (q + 1)) &&& (255 : Int32))))]))
  refine own_on (fun t k => XS.istoreN X6.here hx rfl (hb hby d5_49) rfl (l' := #[.val (.ref a), .val (.int kk), .val (.int (s1 + (kk * (2 : Int32)))), .val (.int (((f q) <<< ((8 : Int32) &&& 31)) ||| ((f (q + 1)) &&& (255 : Int32)))), .val (.int (1 : Int32))]) rfl k) ?_
  show OwnGo p e below s _ _ _ (T6.setTop (mkF m 50 #[.val (.ref a), .val (.int kk), .val (.int (s1 + (kk * (2 : Int32)))), .val (.int (((f q) <<< ((8 : Int32) &&& 31)) ||| ((f (q + 1)) &&& (255 : Int32)))), .val (.int (1 : Int32))] []))
  refine own_on (fun t k => XS.iinc X6.here hx rfl (hb hby d5_50) rfl (l' := #[.val (.ref a), .val (.int kk), .val (.int (s1 + (kk * (2 : Int32)))), .val (.int (((f q) <<< ((8 : Int32) &&& 31)) ||| ((f (q + 1)) &&& (255 : Int32)))), .val (.int (2 : Int32))]) rfl k) ?_
  show OwnGo p e below s _ _ _ (T6.setTop (mkF m 53 #[.val (.ref a), .val (.int kk), .val (.int (s1 + (kk * (2 : Int32)))), .val (.int (((f q) <<< ((8 : Int32) &&& 31)) ||| ((f (q + 1)) &&& (255 : Int32)))), .val (.int (2 : Int32))] []))
  refine own_on (fun t k => XS.goto X6.here hx rfl (pc0 := 53) (pc' := 22) rfl (hb hby d5_53) (by decide) (by decide) k) ?_
  show OwnGo p e below s _ _ _ (T6.setTop (mkF m 22 #[.val (.ref a), .val (.int kk), .val (.int (s1 + (kk * (2 : Int32)))), .val (.int (((f q) <<< ((8 : Int32) &&& 31)) ||| ((f (q + 1)) &&& (255 : Int32)))), .val (.int (2 : Int32))] []))
  refine own_on (fun t k => XS.iload X6.here hx rfl (hb hby d5_22) rfl k) ?_
  show OwnGo p e below s _ _ _ (T6.setTop (mkF m 24 #[.val (.ref a), .val (.int kk), .val (.int (s1 + (kk * (2 : Int32)))), .val (.int (((f q) <<< ((8 : Int32) &&& 31)) ||| ((f (q + 1)) &&& (255 : Int32)))), .val (.int (2 : Int32))] [(.int (2 : Int32))]))
  refine own_on (fun t k => XS.aloadN X6.here hx rfl (hb hby d5_24) rfl rfl k) ?_
  show OwnGo p e below s _ _ _ (T6.setTop (mkF m 25 #[.val (.ref a), .val (.int kk), .val (.int (s1 + (kk * (2 : Int32)))), .val (.int (((f q) <<< ((8 : Int32) &&& 31)) ||| ((f (q + 1)) &&& (255 : Int32)))), .val (.int (2 : Int32))] [(.ref a), (.int (2 : Int32))]))
  obtain ⟨T8, X8, e8, st8⟩ := getF X6 hx hZ hown (host := "") (Or.inl (w24 hw)) Via.refl e6 P2 (g := (mkF m 25 #[.val (.ref a), .val (.int kk), .val (.int (s1 + (kk * (2 : Int32)))), .val (.int (((f q) <<< ((8 : Int32) &&& 31)) ||| ((f (q + 1)) &&& (255 : Int32)))), .val (.int (2 : Int32))] [(.ref a), (.int (2 : Int32))])) rfl rfl (hb hby d5_25)
  refine own_on st8 ?_
  show OwnGo p e below s _ _ _ (T8.setTop (mkF m 28 #[.val (.ref a), .val (.int kk), .val (.int (s1 + (kk * (2 : Int32)))), .val (.int (((f q) <<< ((8 : Int32) &&& 31)) ||| ((f (q + 1)) &&& (255 : Int32)))), .val (.int (2 : Int32))] [(.int (2 : Int32)), (.int (2 : Int32))]))
  refine own_on (fun t k => XS.icmpYes X8.here hx rfl (pc0 := 28) (pc' := 56) rfl (hb hby d5_28) rfl (flt (by decide : ¬ ((2 : Int32) < (2 : Int32)))).2.1 (by decide) (by decide) k) ?_
  show OwnGo p e below s _ _ _ (T8.setTop (mkF m 56 #[.val (.ref a), .val (.int kk), .val (.int (s1 + (kk * (2 : Int32)))), .val (.int (((f q) <<< ((8 : Int32) &&& 31)) ||| ((f (q + 1)) &&& (255 : Int32)))), .val (.int (2 : Int32))] []))
  refine own_on (fun t k => XS.iloadN X8.here hx rfl (hb hby d5_56) rfl k) ?_
  show OwnGo p e below s _ _ _ (T8.setTop (mkF m 57 #[.val (.ref a), .val (.int kk), .val (.int (s1 + (kk * (2 : Int32)))), .val (.int (((f q) <<< ((8 : Int32) &&& 31)) ||| ((f (q + 1)) &&& (255 : Int32)))), .val (.int (2 : Int32))] [(.int (((f q) <<< ((8 : Int32) &&& 31)) ||| ((f (q + 1)) &&& (255 : Int32))))]))
  refine own_on (fun t k => XS.aloadN X8.here hx rfl (hb hby d5_57) rfl rfl k) ?_
  show OwnGo p e below s _ _ _ (T8.setTop (mkF m 58 #[.val (.ref a), .val (.int kk), .val (.int (s1 + (kk * (2 : Int32)))), .val (.int (((f q) <<< ((8 : Int32) &&& 31)) ||| ((f (q + 1)) &&& (255 : Int32)))), .val (.int (2 : Int32))] [(.ref a), (.int (((f q) <<< ((8 : Int32) &&& 31)) ||| ((f (q + 1)) &&& (255 : Int32))))]))
  obtain ⟨T9, X9, e9, st9⟩ := getF X8 hx hZ hown (host := "") (Or.inl (w31 hw)) Via.refl e8 P4 (g := (mkF m 58 #[.val (.ref a), .val (.int kk), .val (.int (s1 + (kk * (2 : Int32)))), .val (.int (((f q) <<< ((8 : Int32) &&& 31)) ||| ((f (q + 1)) &&& (255 : Int32)))), .val (.int (2 : Int32))] [(.ref a), (.int (((f q) <<< ((8 : Int32) &&& 31)) ||| ((f (q + 1)) &&& (255 : Int32))))])) rfl rfl (hb hby d5_58)
  refine own_on st9 ?_
  show OwnGo p e below s _ _ _ (T9.setTop (mkF m 61 #[.val (.ref a), .val (.int kk), .val (.int (s1 + (kk * (2 : Int32)))), .val (.int (((f q) <<< ((8 : Int32) &&& 31)) ||| ((f (q + 1)) &&& (255 : Int32)))), .val (.int (2 : Int32))] [(.int (32767 : Int32)), (.int (((f q) <<< ((8 : Int32) &&& 31)) ||| ((f (q + 1)) &&& (255 : Int32))))]))
  by_cases qn : (((f q) <<< ((8 : Int32) &&& 31)) ||| ((f (q + 1)) &&& (255 : Int32))) = (32767 : Int32)
  · refine own_on (fun t k => XS.icmpNo X9.here hx rfl (hb hby d5_61) rfl (teq qn).2 k) ?_
    show OwnGo p e below s _ _ _ (T9.setTop (mkF m 64 #[.val (.ref a), .val (.int kk), .val (.int (s1 + (kk * (2 : Int32)))), .val (.int (((f q) <<< ((8 : Int32) &&& 31)) ||| ((f (q + 1)) &&& (255 : Int32)))), .val (.int (2 : Int32))] []))
    refine own_on (X9.ldcInt hx hown (mvT hZ (w38 hw)) (g := (mkF m 64 #[.val (.ref a), .val (.int kk), .val (.int (s1 + (kk * (2 : Int32)))), .val (.int (((f q) <<< ((8 : Int32) &&& 31)) ||| ((f (q + 1)) &&& (255 : Int32)))), .val (.int (2 : Int32))] [])) rfl (hb hby d5_64)) ?_
    show OwnGo p e below s _ _ _ (T9.setTop (mkF m 66 #[.val (.ref a), .val (.int kk), .val (.int (s1 + (kk * (2 : Int32)))), .val (.int (((f q) <<< ((8 : Int32) &&& 31)) ||| ((f (q + 1)) &&& (255 : Int32)))), .val (.int (2 : Int32))] [(.int (2147483647 : Int32))]))
    refine own_on (fun t k => XS.goto X9.here hx rfl (pc0 := 66) (pc' := 70) rfl (hb hby d5_66) (by decide) (by decide) k) ?_
    show OwnGo p e below s _ _ _ (T9.setTop (mkF m 70 #[.val (.ref a), .val (.int kk), .val (.int (s1 + (kk * (2 : Int32)))), .val (.int (((f q) <<< ((8 : Int32) &&& 31)) ||| ((f (q + 1)) &&& (255 : Int32)))), .val (.int (2 : Int32))] [(.int (2147483647 : Int32))]))
    exact own_retI X9 hx hlk Bd.returns (hb hby d5_70) e9 ⟨(congrArg (fun z => some (Value.int z)) (by simp [own_r, *])), N0, rfl⟩ (by decide) (by decide)
  · refine own_on (fun t k => XS.icmpYes X9.here hx rfl (pc0 := 61) (pc' := 69) rfl (hb hby d5_61) rfl (feq qn).2 (by decide) (by decide) k) ?_
    show OwnGo p e below s _ _ _ (T9.setTop (mkF m 69 #[.val (.ref a), .val (.int kk), .val (.int (s1 + (kk * (2 : Int32)))), .val (.int (((f q) <<< ((8 : Int32) &&& 31)) ||| ((f (q + 1)) &&& (255 : Int32)))), .val (.int (2 : Int32))] []))
    refine own_on (fun t k => XS.iloadN X9.here hx rfl (hb hby d5_69) rfl k) ?_
    show OwnGo p e below s _ _ _ (T9.setTop (mkF m 70 #[.val (.ref a), .val (.int kk), .val (.int (s1 + (kk * (2 : Int32)))), .val (.int (((f q) <<< ((8 : Int32) &&& 31)) ||| ((f (q + 1)) &&& (255 : Int32)))), .val (.int (2 : Int32))] [(.int (((f q) <<< ((8 : Int32) &&& 31)) ||| ((f (q + 1)) &&& (255 : Int32))))]))
    exact own_retI X9 hx hlk Bd.returns (hb hby d5_70) e9 ⟨(congrArg (fun z => some (Value.int z)) (by simp [own_r, *])), N0, rfl⟩ (by decide) (by decide)
theorem ef_en4 (m : MethodId) (a : Addr) (kk : Int32)  : entryFrame m #[(.ref a), (.int kk)] 5 = mkF m 0 #[.val (.ref a), .val (.int kk), .unset, .unset, .unset] [] := by first | (simp [entryFrame, mkF, argsToLocals, Value.category]; done) | rfl
def Qen4 (Z : State) (a : Addr) (kk : Int32) (bt : Addr) (s1 : Int32) (f : Nat → Int32) (q : Nat) (h0 : Heap) (n0 : Nat) (v_ : Option Value) (h_ : Heap) (L_ : List Loc) : Prop := v_ = some (.int (own_r 2147483647 (((((((f q) <<< ((8 : Int32) &&& 31)) ||| ((f (q + 1)) &&& (255 : Int32))) <<< ((8 : Int32) &&& 31)) ||| ((f (q + 2)) &&& (255 : Int32))) <<< ((8 : Int32) &&& 31)) ||| ((f (q + 3)) &&& (255 : Int32))))) ∧ Fr n0 L_ ∧ h_ = h0
set_option maxRecDepth 65536 in
set_option maxHeartbeats 40000000 in
theorem rmen4 (l : Launch) (Z : State) (a0 : Array Value) (hw : ∀ d ∈ tables_1, d.before a0 Z = true) (ws : List Jvm.Cond) (a : Addr) (kk : Int32) (bt : Addr) (s1 : Int32) (f : Nat → Int32) (q : Nat) (h0 : Heap) (n0 : Nat) (Z0 : n0 ≤ h0.size) (P0 : Exa Z h0 a "org/tempochart/zone/PackedZone") (P1 : Fld Z h0 a "org/tempochart/zone/PackedZone" "bytes" "[B" (.ref bt)) (P2 : Fld Z h0 a "org/tempochart/zone/PackedZone" "width" "I" (.int (4 : Int32))) (P3 : Fld Z h0 a "org/tempochart/zone/PackedZone" "first" "I" (.int s1)) (P4 : Fld Z h0 a "org/tempochart/zone/PackedZone" "none" "I" (.int (2147483647 : Int32))) (P5 : OwnArf Z h0 bt .byte 24 f) (P6 : (s1 + (kk * (4 : Int32))).toInt = q) (P7 : q ≤ 16) :
    MetFree l (⟨"org/tempochart/zone/PackedZone", "entry", "(I)I"⟩ : MethodName) (head1 (Jvm.Cond.code (⟨"org/tempochart/zone/PackedZone", "entry", "(I)I"⟩ : MethodName) prog_291_method_14_code 5 (some .int) :: ws) ({ frames := 0, cells := 0, slots := 0, locals := 0 } : Room)) (fun A_ U => A_ = #[(.ref a), (.int kk)] ∧ Z.Warmed39 U.vm ∧ U.heap = h0) (fun _ _ _ _ _ => True) (fun _ U_ o_ U'_ => ∃ v_ L_, o_ = .returned v_ ∧ Qen4 Z a kk bt s1 f q h0 n0 v_ U'_.heap L_ ∧ FrameEnd U_ o_ U'_ L_ ({ frames := 0, cells := 0, slots := 0, locals := 0 } : Room).cells ({ frames := 0, cells := 0, slots := 0, locals := 0 } : Room).slots) := by
  refine MetFree.of_bodySF (plainFor_of_name pn_0) hisR ?_
  intro p e s m args below meth c s₁ Bd hml0 hP hK
  obtain ⟨rfl, hZ, hh⟩ := hP
  have hx := Bd.exec
  have hby := Bd.bytes
  have hml : c.maxLocals = 5 := hml0
  have hown : s.vm.findClass "org/tempochart/zone/PackedZone" = some m.cls := findClass_of_methodNamed Bd.named
  have hnm := (name_of_methodNamed Bd.named Bd.method).1
  have hlk : meth.locks = false := Bd.notSynchronized
  have X0 : Stand p l e ({ frames := 0, cells := 0, slots := 0, locals := 0 } : Room) s m #[(.ref a), (.int kk)] below meth c s₁ [] 0 0 := Stand.of_body Bd
  have e0 : s₁.heap = h0 := by rw [← hh, Bd.state]; rfl
  have N0 := Fr.nil n0
  have K0 : Keep h0 h0 [] := Keep.refl _ _
  refine own_cast (ef_en4 m a kk) ?_
  show OwnGo p e below s (Qen4 Z a kk bt s1 f q h0 n0) ({ frames := 0, cells := 0, slots := 0, locals := 0 } : Room).cells ({ frames := 0, cells := 0, slots := 0, locals := 0 } : Room).slots (s₁.setTop (mkF m 0 #[.val (.ref a), .val (.int kk), .unset, .unset, .unset] []))
  refine own_on (fun t k => XS.aloadN X0.here hx rfl (hb hby d5_0) rfl rfl k) ?_
  show OwnGo p e below s _ _ _ (s₁.setTop (mkF m 1 #[.val (.ref a), .val (.int kk), .unset, .unset, .unset] [(.ref a)]))
  obtain ⟨T1, X1, e1, st1⟩ := getF X0 hx hZ hown (host := "") (Or.inl (w26 hw)) Via.refl e0 P3 (g := (mkF m 1 #[.val (.ref a), .val (.int kk), .unset, .unset, .unset] [(.ref a)])) rfl rfl (hb hby d5_1)
  refine own_on st1 ?_
  show OwnGo p e below s _ _ _ (T1.setTop (mkF m 4 #[.val (.ref a), .val (.int kk), .unset, .unset, .unset] [(.int s1)]))
  refine own_on (fun t k => XS.iloadN X1.here hx rfl (hb hby d5_4) rfl k) ?_
  show OwnGo p e below s _ _ _ (T1.setTop (mkF m 5 #[.val (.ref a), .val (.int kk), .unset, .unset, .unset] [(.int kk), (.int s1)]))
  refine own_on (fun t k => XS.aloadN X1.here hx rfl (hb hby d5_5) rfl rfl k) ?_
  show OwnGo p e below s _ _ _ (T1.setTop (mkF m 6 #[.val (.ref a), .val (.int kk), .unset, .unset, .unset] [(.ref a), (.int kk), (.int s1)]))
  obtain ⟨T2, X2, e2, st2⟩ := getF X1 hx hZ hown (host := "") (Or.inl (w24 hw)) Via.refl e1 P2 (g := (mkF m 6 #[.val (.ref a), .val (.int kk), .unset, .unset, .unset] [(.ref a), (.int kk), (.int s1)])) rfl rfl (hb hby d5_6)
  refine own_on st2 ?_
  show OwnGo p e below s _ _ _ (T2.setTop (mkF m 9 #[.val (.ref a), .val (.int kk), .unset, .unset, .unset] [(.int (4 : Int32)), (.int kk), (.int s1)]))
  refine own_on (fun t k => XS.imul X2.here hx rfl (hb hby d5_9) rfl k) ?_
  show OwnGo p e below s _ _ _ (T2.setTop (mkF m 10 #[.val (.ref a), .val (.int kk), .unset, .unset, .unset] [(.int (kk * (4 : Int32))), (.int s1)]))
  refine own_on (fun t k => XS.iadd X2.here hx rfl (hb hby d5_10) rfl k) ?_
  show OwnGo p e below s _ _ _ (T2.setTop (mkF m 11 #[.val (.ref a), .val (.int kk), .unset, .unset, .unset] [(.int (s1 + (kk * (4 : Int32))))]))
  refine own_on (fun t k => XS.istoreN X2.here hx rfl (hb hby d5_11) rfl (l' := #[.val (.ref a), .val (.int kk), .val (.int (s1 + (kk * (4 : Int32)))), .unset, .unset]) rfl k) ?_
  show OwnGo p e below s _ _ _ (T2.setTop (mkF m 12 #[.val (.ref a), .val (.int kk), .val (.int (s1 + (kk * (4 : Int32)))), .unset, .unset] []))
  refine own_on (fun t k => XS.aloadN X2.here hx rfl (hb hby d5_12) rfl rfl k) ?_
  show OwnGo p e below s _ _ _ (T2.setTop (mkF m 13 #[.val (.ref a), .val (.int kk), .val (.int (s1 + (kk * (4 : Int32)))), .unset, .unset] [(.ref a)]))
  obtain ⟨T3, X3, e3, st3⟩ := getF X2 hx hZ hown (host := "") (Or.inl (w20 hw)) Via.refl e2 P1 (g := (mkF m 13 #[.val (.ref a), .val (.int kk), .val (.int (s1 + (kk * (4 : Int32)))), .unset, .unset] [(.ref a)])) rfl rfl (hb hby d5_13)
  refine own_on st3 ?_
  show OwnGo p e below s _ _ _ (T3.setTop (mkF m 16 #[.val (.ref a), .val (.int kk), .val (.int (s1 + (kk * (4 : Int32)))), .unset, .unset] [(.ref bt)]))
  refine own_on (fun t k => XS.iloadN X3.here hx rfl (hb hby d5_16) rfl k) ?_
  show OwnGo p e below s _ _ _ (T3.setTop (mkF m 17 #[.val (.ref a), .val (.int kk), .val (.int (s1 + (kk * (4 : Int32)))), .unset, .unset] [(.int (s1 + (kk * (4 : Int32)))), (.ref bt)]))
  obtain ⟨cl4, Ar4, S4, H4⟩ := id P5
  have hj4 : ¬ (s1 + (kk * (4 : Int32))) < 0 ∧ ((s1 + (kk * (4 : Int32)))).toNatClampNeg = q := own_ix P6
  refine own_on (X3.baloadBytes hx (j := (s1 + (kk * (4 : Int32)))) (v := (.int (f q))) (by rw [e3]; exact Ar4.1) (State.isArrayOf_alike hZ.alike Ar4.2.1) Ar4.2.2 (own_in S4 hj4 (by omega)) (hj4.2.symm ▸ H4 _ (by omega)) (g := (mkF m 17 #[.val (.ref a), .val (.int kk), .val (.int (s1 + (kk * (4 : Int32)))), .unset, .unset] [(.int (s1 + (kk * (4 : Int32)))), (.ref bt)])) rfl rfl (hb hby d5_17)) ?_
  show OwnGo p e below s _ _ _ (T3.setTop (mkF m 18 #[.val (.ref a), .val (.int kk), .val (.int (s1 + (kk * (4 : Int32)))), .unset, .unset] [(.int (f q))]))
  refine own_on (fun t k => XS.istoreN X3.here hx rfl (hb hby d5_18) rfl (l' := #[.val (.ref a), .val (.int kk), .val (.int (s1 + (kk * (4 : Int32)))), .val (.int (f q)), .unset]) rfl k) ?_
  show OwnGo p e below s _ _ _ (T3.setTop (mkF m 19 #[.val (.ref a), .val (.int kk), .val (.int (s1 + (kk * (4 : Int32)))), .val (.int (f q)), .unset] []))
  refine own_on (fun t k => XS.iconst X3.here hx rfl (hb hby d5_19) k) ?_
  show OwnGo p e below s _ _ _ (T3.setTop (mkF m 20 #[.val (.ref a), .val (.int kk), .val (.int (s1 + (kk * (4 : Int32)))), .val (.int (f q)), .unset] [(.int (1 : Int32))]))
  refine own_on (fun t k => XS.istore X3.here hx rfl (hb hby d5_20) rfl (l' := #[.val (.ref a), .val (.int kk), .val (.int (s1 + (kk * (4 : Int32)))), .val (.int (f q)), .val (.int (1 : Int32))]) rfl k) ?_
  show OwnGo p e below s _ _ _ (T3.setTop (mkF m 22 #[.val (.ref a), .val (.int kk), .val (.int (s1 + (kk * (4 : Int32)))), .val (.int (f q)), .val (.int (1 : Int32))] []))
  refine own_on (fun t k => XS.iload X3.here hx rfl (hb hby d5_22) rfl k) ?_
  show OwnGo p e below s _ _ _ (T3.setTop (mkF m 24 #[.val (.ref a), .val (.int kk), .val (.int (s1 + (kk * (4 : Int32)))), .val (.int (f q)), .val (.int (1 : Int32))] [(.int (1 : Int32))]))
  refine own_on (fun t k => XS.aloadN X3.here hx rfl (hb hby d5_24) rfl rfl k) ?_
  show OwnGo p e below s _ _ _ (T3.setTop (mkF m 25 #[.val (.ref a), .val (.int kk), .val (.int (s1 + (kk * (4 : Int32)))), .val (.int (f q)), .val (.int (1 : Int32))] [(.ref a), (.int (1 : Int32))]))
  obtain ⟨T5, X5, e5, st5⟩ := getF X3 hx hZ hown (host := "") (Or.inl (w24 hw)) Via.refl e3 P2 (g := (mkF m 25 #[.val (.ref a), .val (.int kk), .val (.int (s1 + (kk * (4 : Int32)))), .val (.int (f q)), .val (.int (1 : Int32))] [(.ref a), (.int (1 : Int32))])) rfl rfl (hb hby d5_25)
  refine own_on st5 ?_
  show OwnGo p e below s _ _ _ (T5.setTop (mkF m 28 #[.val (.ref a), .val (.int kk), .val (.int (s1 + (kk * (4 : Int32)))), .val (.int (f q)), .val (.int (1 : Int32))] [(.int (4 : Int32)), (.int (1 : Int32))]))
  refine own_on (fun t k => XS.icmpNo X5.here hx rfl (hb hby d5_28) rfl (tlt (by decide : (1 : Int32) < (4 : Int32))).2.1 k) ?_
  show OwnGo p e below s _ _ _ (T5.setTop (mkF m 31 #[.val (.ref a), .val (.int kk), .val (.int (s1 + (kk * (4 : Int32)))), .val (.int (f q)), .val (.int (1 : Int32))] []))
  refine own_on (fun t k => XS.iloadN X5.here hx rfl (hb hby d5_31) rfl k) ?_
  show OwnGo p e below s _ _ _ (T5.setTop (mkF m 32 #[.val (.ref a), .val (.int kk), .val (.int (s1 + (kk * (4 : Int32)))), .val (.int (f q)), .val (.int (1 : Int32))] [(.int (f q))]))
  refine own_on (fun t k => XS.bipush X5.here hx rfl (hb hby d5_32) k) ?_
  show OwnGo p e below s _ _ _ (T5.setTop (mkF m 34 #[.val (.ref a), .val (.int kk), .val (.int (s1 + (kk * (4 : Int32)))), .val (.int (f q)), .val (.int (1 : Int32))] [(.int (8 : Int32)), (.int (f q))]))
  refine own_on (fun t k => XS.ishl X5.here hx rfl (hb hby d5_34) rfl k) ?_
  show OwnGo p e below s _ _ _ (T5.setTop (mkF m 35 #[.val (.ref a), .val (.int kk), .val (.int (s1 + (kk * (4 : Int32)))), .val (.int (f q)), .val (.int (1 : Int32))] [(.int ((f q) <<< ((8 : Int32) &&& 31)))]))
  refine own_on (fun t k => XS.aloadN X5.here hx rfl (hb hby d5_35) rfl rfl k) ?_
  show OwnGo p e below s _ _ _ (T5.setTop (mkF m 36 #[.val (.ref a), .val (.int kk), .val (.int (s1 + (kk * (4 : Int32)))), .val (.int (f q)), .val (.int (1 : Int32))] [(.ref a), (.int ((f q) <<< ((8 : Int32) &&& 31)))]))
  obtain ⟨T6, X6, e6, st6⟩ := getF X5 hx hZ hown (host := "") (Or.inl (w20 hw)) Via.refl e5 P1 (g := (mkF m 36 #[.val (.ref a), .val (.int kk), .val (.int (s1 + (kk * (4 : Int32)))), .val (.int (f q)), .val (.int (1 : Int32))] [(.ref a), (.int ((f q) <<< ((8 : Int32) &&& 31)))])) rfl rfl (hb hby d5_36)
  refine own_on st6 ?_
  show OwnGo p e below s _ _ _ (T6.setTop (mkF m 39 #[.val (.ref a), .val (.int kk), .val (.int (s1 + (kk * (4 : Int32)))), .val (.int (f q)), .val (.int (1 : Int32))] [(.ref bt), (.int ((f q) <<< ((8 : Int32) &&& 31)))]))
  refine own_on (fun t k => XS.iloadN X6.here hx rfl (hb hby d5_39) rfl k) ?_
  show OwnGo p e below s _ _ _ (T6.setTop (mkF m 40 #[.val (.ref a), .val (.int kk), .val (.int (s1 + (kk * (4 : Int32)))), .val (.int (f q)), .val (.int (1 : Int32))] [(.int (s1 + (kk * (4 : Int32)))), (.ref bt), (.int ((f q) <<< ((8 : Int32) &&& 31)))]))
  refine own_on (fun t k => XS.iload X6.here hx rfl (hb hby d5_40) rfl k) ?_
  show OwnGo p e below s _ _ _ (T6.setTop (mkF m 42 #[.val (.ref a), .val (.int kk), .val (.int (s1 + (kk * (4 : Int32)))), .val (.int (f q)), .val (.int (1 : Int32))] [(.int (1 : Int32)), (.int (s1 + (kk * (4 : Int32)))), (.ref bt), (.int ((f q) <<< ((8 : Int32) &&& 31)))]))
  refine own_on (fun t k => XS.iadd X6.here hx rfl (hb hby d5_42) rfl k) ?_
  show OwnGo p e below s _ _ _ (T6.setTop (mkF m 43 #[.val (.ref a), .val (.int kk), .val (.int (s1 + (kk * (4 : Int32)))), .val (.int (f q)), .val (.int (1 : Int32))] [(.int ((s1 + (kk * (4 : Int32))) + (1 : Int32))), (.ref bt), (.int ((f q) <<< ((8 : Int32) &&& 31)))]))
  obtain ⟨cl7, Ar7, S7, H7⟩ := id P5
  have hj7 : ¬ ((s1 + (kk * (4 : Int32))) + (1 : Int32)) < 0 ∧ (((s1 + (kk * (4 : Int32))) + (1 : Int32))).toNatClampNeg = (q + 1) := own_ix (own_add P6 (by omega) (k := 1) (by decide) (by decide))
  refine own_on (X6.baloadBytes hx (j := ((s1 + (kk * (4 : Int32))) + (1 : Int32))) (v := (.int (f (q + 1)))) (by rw [e6]; exact Ar7.1) (State.isArrayOf_alike hZ.alike Ar7.2.1) Ar7.2.2 (own_in S7 hj7 (by omega)) (hj7.2.symm ▸ H7 _ (by omega)) (g := (mkF m 43 #[.val (.ref a), .val (.int kk), .val (.int (s1 + (kk * (4 : Int32)))), .val (.int (f q)), .val (.int (1 : Int32))] [(.int ((s1 + (kk * (4 : Int32))) + (1 : Int32))), (.ref bt), (.int ((f q) <<< ((8 : Int32) &&& 31)))])) rfl rfl (hb hby d5_43)) ?_
  show OwnGo p e below s _ _ _ (T6.setTop (mkF m 44 #[.val (.ref a), .val (.int kk), .val (.int (s1 + (kk * (4 : Int32)))), .val (.int (f q)), .val (.int (1 : Int32))] [(.int (f (q + 1))), (.int ((f q) <<< ((8 : Int32) &&& 31)))]))
  refine own_on (fun t k => XS.sipush X6.here hx rfl (hb hby d5_44) k) ?_
  show OwnGo p e below s _ _ _ (T6.setTop (mkF m 47 #[.val (.ref a), .val (.int kk), .val (.int (s1 + (kk * (4 : Int32)))), .val (.int (f q)), .val (.int (1 : Int32))] [(.int (255 : Int32)), (.int (f (q + 1))), (.int ((f q) <<< ((8 : Int32) &&& 31)))]))
  refine own_on (fun t k => XS.iand X6.here hx rfl (hb hby d5_47) rfl k) ?_
  show OwnGo p e below s _ _ _ (T6.setTop (mkF m 48 #[.val (.ref a), .val (.int kk), .val (.int (s1 + (kk * (4 : Int32)))), .val (.int (f q)), .val (.int (1 : Int32))] [(.int ((f (q + 1)) &&& (255 : Int32))), (.int ((f q) <<< ((8 : Int32) &&& 31)))]))
  refine own_on (fun t k => XS.ior X6.here hx rfl (hb hby d5_48) rfl k) ?_
  show OwnGo p e below s _ _ _ (T6.setTop (mkF m 49 #[.val (.ref a), .val (.int kk), .val (.int (s1 + (kk * (4 : Int32)))), .val (.int (f q)), .val (.int (1 : Int32))] [(.int (((f q) <<< ((8 : Int32) &&& 31)) ||| ((f (q + 1)) &&& (255 : Int32))))]))
  refine own_on (fun t k => XS.istoreN X6.here hx rfl (hb hby d5_49) rfl (l' := #[.val (.ref a), .val (.int kk), .val (.int (s1 + (kk * (4 : Int32)))), .val (.int (((f q) <<< ((8 : Int32) &&& 31)) ||| ((f (q + 1)) &&& (255 : Int32)))), .val (.int (1 : Int32))]) rfl k) ?_
  show OwnGo p e below s _ _ _ (T6.setTop (mkF m 50 #[.val (.ref a), .val (.int kk), .val (.int (s1 + (kk * (4 : Int32)))), .val (.int (((f q) <<< ((8 : Int32) &&& 31)) ||| ((f (q + 1)) &&& (255 : Int32)))), .val (.int (1 : Int32))] []))
  refine own_on (fun t k => XS.iinc X6.here hx rfl (hb hby d5_50) rfl (l' := #[.val (.ref a), .val (.int kk), .val (.int (s1 + (kk * (4 : Int32)))), .val (.int (((f q) <<< ((8 : Int32) &&& 31)) ||| ((f (q + 1)) &&& (255 : Int32)))), .val (.int (2 : Int32))]) rfl k) ?_
  show OwnGo p e below s _ _ _ (T6.setTop (mkF m 53 #[.val (.ref a), .val (.int kk), .val (.int (s1 + (kk * (4 : Int32)))), .val (.int (((f q) <<< ((8 : Int32) &&& 31)) ||| ((f (q + 1)) &&& (255 : Int32)))), .val (.int (2 : Int32))] []))
  refine own_on (fun t k => XS.goto X6.here hx rfl (pc0 := 53) (pc' := 22) rfl (hb hby d5_53) (by decide) (by decide) k) ?_
  show OwnGo p e below s _ _ _ (T6.setTop (mkF m 22 #[.val (.ref a), .val (.int kk), .val (.int (s1 + (kk * (4 : Int32)))), .val (.int (((f q) <<< ((8 : Int32) &&& 31)) ||| ((f (q + 1)) &&& (255 : Int32)))), .val (.int (2 : Int32))] []))
  refine own_on (fun t k => XS.iload X6.here hx rfl (hb hby d5_22) rfl k) ?_
  show OwnGo p e below s _ _ _ (T6.setTop (mkF m 24 #[.val (.ref a), .val (.int kk), .val (.int (s1 + (kk * (4 : Int32)))), .val (.int (((f q) <<< ((8 : Int32) &&& 31)) ||| ((f (q + 1)) &&& (255 : Int32)))), .val (.int (2 : Int32))] [(.int (2 : Int32))]))
  refine own_on (fun t k => XS.aloadN X6.here hx rfl (hb hby d5_24) rfl rfl k) ?_
  show OwnGo p e below s _ _ _ (T6.setTop (mkF m 25 #[.val (.ref a), .val (.int kk), .val (.int (s1 + (kk * (4 : Int32)))), .val (.int (((f q) <<< ((8 : Int32) &&& 31)) ||| ((f (q + 1)) &&& (255 : Int32)))), .val (.int (2 : Int32))] [(.ref a), (.int (2 : Int32))]))
  obtain ⟨T8, X8, e8, st8⟩ := getF X6 hx hZ hown (host := "") (Or.inl (w24 hw)) Via.refl e6 P2 (g := (mkF m 25 #[.val (.ref a), .val (.int kk), .val (.int (s1 + (kk * (4 : Int32)))), .val (.int (((f q) <<< ((8 : Int32) &&& 31)) ||| ((f (q + 1)) &&& (255 : Int32)))), .val (.int (2 : Int32))] [(.ref a), (.int (2 : Int32))])) rfl rfl (hb hby d5_25)
  refine own_on st8 ?_
  show OwnGo p e below s _ _ _ (T8.setTop (mkF m 28 #[.val (.ref a), .val (.int kk), .val (.int (s1 + (kk * (4 : Int32)))), .val (.int (((f q) <<< ((8 : Int32) &&& 31)) ||| ((f (q + 1)) &&& (255 : Int32)))), .val (.int (2 : Int32))] [(.int (4 : Int32)), (.int (2 : Int32))]))
  refine own_on (fun t k => XS.icmpNo X8.here hx rfl (hb hby d5_28) rfl (tlt (by decide : (2 : Int32) < (4 : Int32))).2.1 k) ?_
  show OwnGo p e below s _ _ _ (T8.setTop (mkF m 31 #[.val (.ref a), .val (.int kk), .val (.int (s1 + (kk * (4 : Int32)))), .val (.int (((f q) <<< ((8 : Int32) &&& 31)) ||| ((f (q + 1)) &&& (255 : Int32)))), .val (.int (2 : Int32))] []))
  refine own_on (fun t k => XS.iloadN X8.here hx rfl (hb hby d5_31) rfl k) ?_
  show OwnGo p e below s _ _ _ (T8.setTop (mkF m 32 #[.val (.ref a), .val (.int kk), .val (.int (s1 + (kk * (4 : Int32)))), .val (.int (((f q) <<< ((8 : Int32) &&& 31)) ||| ((f (q + 1)) &&& (255 : Int32)))), .val (.int (2 : Int32))] [(.int (((f q) <<< ((8 : Int32) &&& 31)) ||| ((f (q + 1)) &&& (255 : Int32))))]))
  refine own_on (fun t k => XS.bipush X8.here hx rfl (hb hby d5_32) k) ?_
  show OwnGo p e below s _ _ _ (T8.setTop (mkF m 34 #[.val (.ref a), .val (.int kk), .val (.int (s1 + (kk * (4 : Int32)))), .val (.int (((f q) <<< ((8 : Int32) &&& 31)) ||| ((f (q + 1)) &&& (255 : Int32)))), .val (.int (2 : Int32))] [(.int (8 : Int32)), (.int (((f q) <<< ((8 : Int32) &&& 31)) ||| ((f (q + 1)) &&& (255 : Int32))))]))
  refine own_on (fun t k => XS.ishl X8.here hx rfl (hb hby d5_34) rfl k) ?_
  show OwnGo p e below s _ _ _ (T8.setTop (mkF m 35 #[.val (.ref a), .val (.int kk), .val (.int (s1 + (kk * (4 : Int32)))), .val (.int (((f q) <<< ((8 : Int32) &&& 31)) ||| ((f (q + 1)) &&& (255 : Int32)))), .val (.int (2 : Int32))] [(.int ((((f q) <<< ((8 : Int32) &&& 31)) ||| ((f (q + 1)) &&& (255 : Int32))) <<< ((8 : Int32) &&& 31)))]))
  refine own_on (fun t k => XS.aloadN X8.here hx rfl (hb hby d5_35) rfl rfl k) ?_
  show OwnGo p e below s _ _ _ (T8.setTop (mkF m 36 #[.val (.ref a), .val (.int kk), .val (.int (s1 + (kk * (4 : Int32)))), .val (.int (((f q) <<< ((8 : Int32) &&& 31)) ||| ((f (q + 1)) &&& (255 : Int32)))), .val (.int (2 : Int32))] [(.ref a), (.int ((((f q) <<< ((8 : Int32) &&& 31)) ||| ((f (q + 1)) &&& (255 : Int32))) <<< ((8 : Int32) &&& 31)))]))
  obtain ⟨T9, X9, e9, st9⟩ := getF X8 hx hZ hown (host := "") (Or.inl (w20 hw)) Via.refl e8 P1 (g := (mkF m 36 #[.val (.ref a), .val (.int kk), .val (.int (s1 + (kk * (4 : Int32)))), .val (.int (((f q) <<< ((8 : Int32) &&& 31)) ||| ((f (q + 1)) &&& (255 : Int32)))), .val (.int (2 : Int32))] [(.ref a), (.int ((((f q) <<< ((8 : Int32) &&& 31)) ||| ((f (q + 1)) &&& (255 : Int32))) <<< ((8 : Int32) &&& 31)))])) rfl rfl (hb hby d5_36)
  refine own_on st9 ?_
  show OwnGo p e below s _ _ _ (T9.setTop (mkF m 39 #[.val (.ref a), .val (.int kk), .val (.int (s1 + (kk * (4 : Int32)))), .val (.int (((f q) <<< ((8 : Int32) &&& 31)) ||| ((f (q + 1)) &&& (255 : Int32)))), .val (.int (2 : Int32))] [(.ref bt), (.int ((((f q) <<< ((8 : Int32) &&& 31)) ||| ((f (q + 1)) &&& (255 : Int32))) <<< ((8 : Int32) &&& 31)))]))
  refine own_on (fun t k => XS.iloadN X9.here hx rfl (hb hby d5_39) rfl k) ?_
  show OwnGo p e below s _ _ _ (T9.setTop (mkF m 40 #[.val (.ref a), .val (.int kk), .val (.int (s1 + (kk * (4 : Int32)))), .val (.int (((f q) <<< ((8 : Int32) &&& 31)) ||| ((f (q + 1)) &&& (255 : Int32)))), .val (.int (2 : Int32))] [(.int (s1 + (kk * (4 : Int32)))), (.ref bt), (.int ((((f q) <<< ((8 : Int32) &&& 31)) ||| ((f (q + 1)) &&& (255 : Int32))) <<< ((8 : Int32) &&& 31)))]))
  refine own_on (fun t k => XS.iload X9.here hx rfl (hb hby d5_40) rfl k) ?_
  show OwnGo p e below s _ _ _ (T9.setTop (mkF m 42 #[.val (.ref a), .val (.int kk), .val (.int (s1 + (kk * (4 : Int32)))), .val (.int (((f q) <<< ((8 : Int32) &&& 31)) ||| ((f (q + 1)) &&& (255 : Int32)))), .val (.int (2 : Int32))] [(.int (2 : Int32)), (.int (s1 + (kk * (4 : Int32)))), (.ref bt), (.int ((((f q) <<< ((8 : Int32) &&& 31)) ||| ((f (q + 1)) &&& (255 : Int32))) <<< ((8 : Int32) &&& 31)))]))
  refine own_on (fun t k => XS.iadd X9.here hx rfl (hb hby d5_42) rfl k) ?_
  show OwnGo p e below s _ _ _ (T9.setTop (mkF m 43 #[.val (.ref a), .val (.int kk), .val (.int (s1 + (kk * (4 : Int32)))), .val (.int (((f q) <<< ((8 : Int32) &&& 31)) ||| ((f (q + 1)) &&& (255 : Int32)))), .val (.int (2 : Int32))] [(.int ((s1 + (kk * (4 : Int32))) + (2 : Int32))), (.ref bt), (.int ((((f q) <<< ((8 : Int32) &&& 31)) ||| ((f (q + 1)) &&& (255 : Int32))) <<< ((8 : Int32) &&& 31)))]))
  obtain ⟨cl10, Ar10, S10, H10⟩ := id P5
  have hj10 : ¬ ((s1 + (kk * (4 : Int32))) + (2 : Int32)) < 0 ∧ (((s1 + (kk * (4 : Int32))) + (2 : Int32))).toNatClampNeg = (q + 2) := own_ix (own_add P6 (by omega) (k := 2) (by decide) (by decide))
  refine own_on (X9.baloadBytes hx (j := ((s1 + (kk * (4 : Int32))) + (2 : Int32))) (v := (.int (f (q + 2)))) (by rw [e9]; exact Ar10.1) (State.isArrayOf_alike hZ.alike Ar10.2.1) Ar10.2.2 (own_in S10 hj10 (by omega)) (hj10.2.symm ▸ H10 _ (by omega)) (g := (mkF m 43 #[.val (.ref a), .val (.int kk), .val (.int (s1 + (kk * (4 : Int32)))), .val (.int (((f q) <<< ((8 : Int32) &&& 31)) ||| ((f (q + 1)) &&& (255 : Int32)))), .val (.int (2 : Int32))] [(.int ((s1 + (kk * (4 : Int32))) + (2 : Int32))), (.ref bt), (.int ((((f q) <<< ((8 : Int32) &&& 31)) ||| ((f (q + 1)) &&& (255 : Int32))) <<< ((8 : Int32) &&& 31)))])) rfl rfl (hb hby d5_43)) ?_
  show OwnGo p e below s _ _ _ (T9.setTop (mkF m 44 #[.val (.ref a), .val (.int kk), .val (.int (s1 + (kk * (4 : Int32)))), .val (.int (((f q) <<< ((8 : Int32) &&& 31)) ||| ((f (q + 1)) &&& (255 : Int32)))), .val (.int (2 : Int32))] [(.int (f (q + 2))), (.int ((((f q) <<< ((8 : Int32) &&& 31)) ||| ((f (q + 1)) &&& (255 : Int32))) <<< ((8 : Int32) &&& 31)))]))
  refine own_on (fun t k => XS.sipush X9.here hx rfl (hb hby d5_44) k) ?_
  show OwnGo p e below s _ _ _ (T9.setTop (mkF m 47 #[.val (.ref a), .val (.int kk), .val (.int (s1 + (kk * (4 : Int32)))), .val (.int (((f q) <<< ((8 : Int32) &&& 31)) ||| ((f (q + 1)) &&& (255 : Int32)))), .val (.int (2 : Int32))] [(.int (255 : Int32)), (.int (f (q + 2))), (.int ((((f q) <<< ((8 : Int32) &&& 31)) ||| ((f (q + 1)) &&& (255 : Int32))) <<< ((8 : Int32) &&& 31)))]))
  refine own_on (fun t k => XS.iand X9.here hx rfl (hb hby d5_47) rfl k) ?_
  show OwnGo p e below s _ _ _ (T9.setTop (mkF m 48 #[.val (.ref a), .val (.int kk), .val (.int (s1 + (kk * (4 : Int32)))), .val (.int (((f q) <<< ((8 : Int32) &&& 31)) ||| ((f (q + 1)) &&& (255 : Int32)))), .val (.int (2 : Int32))] [(.int ((f (q + 2)) &&& (255 : Int32))), (.int ((((f q) <<< ((8 : Int32) &&& 31)) ||| ((f (q + 1)) &&& (255 : Int32))) <<< ((8 : Int32) &&& 31)))]))
  refine own_on (fun t k => XS.ior X9.here hx rfl (hb hby d5_48) rfl k) ?_
  show OwnGo p e below s _ _ _ (T9.setTop (mkF m 49 #[.val (.ref a), .val (.int kk), .val (.int (s1 + (kk * (4 : Int32)))), .val (.int (((f q) <<< ((8 : Int32) &&& 31)) ||| ((f (q + 1)) &&& (255 : Int32)))), .val (.int (2 : Int32))] [(.int (((((f q) <<< ((8 : Int32) &&& 31)) ||| ((f (q + 1)) &&& (255 : Int32))) <<< ((8 : Int32) &&& 31)) ||| ((f (q + 2)) &&& (255 : Int32))))]))
  refine own_on (fun t k => XS.istoreN X9.here hx rfl (hb hby d5_49) rfl (l' := #[.val (.ref a), .val (.int kk), .val (.int (s1 + (kk * (4 : Int32)))), .val (.int (((((f q) <<< ((8 : Int32) &&& 31)) ||| ((f (q + 1)) &&& (255 : Int32))) <<< ((8 : Int32) &&& 31)) ||| ((f (q + 2)) &&& (255 : Int32)))), .val (.int (2 : Int32))]) rfl k) ?_
  show OwnGo p e below s _ _ _ (T9.setTop (mkF m 50 #[.val (.ref a), .val (.int kk), .val (.int (s1 + (kk * (4 : Int32)))), .val (.int (((((f q) <<< ((8 : Int32) &&& 31)) ||| ((f (q + 1)) &&& (255 : Int32))) <<< ((8 : Int32) &&& 31)) ||| ((f (q + 2)) &&& (255 : Int32)))), .val (.int (2 : Int32))] []))
  refine own_on (fun t k => XS.iinc X9.here hx rfl (hb hby d5_50) rfl (l' := #[.val (.ref a), .val (.int kk), .val (.int (s1 + (kk * (4 : Int32)))), .val (.int (((((f q) <<< ((8 : Int32) &&& 31)) ||| ((f (q + 1)) &&& (255 : Int32))) <<< ((8 : Int32) &&& 31)) ||| ((f (q + 2)) &&& (255 : Int32)))), .val (.int (3 : Int32))]) rfl k) ?_
  show OwnGo p e below s _ _ _ (T9.setTop (mkF m 53 #[.val (.ref a), .val (.int kk), .val (.int (s1 + (kk * (4 : Int32)))), .val (.int (((((f q) <<< ((8 : Int32) &&& 31)) ||| ((f (q + 1)) &&& (255 : Int32))) <<< ((8 : Int32) &&& 31)) ||| ((f (q + 2)) &&& (255 : Int32)))), .val (.int (3 : Int32))] []))
  refine own_on (fun t k => XS.goto X9.here hx rfl (pc0 := 53) (pc' := 22) rfl (hb hby d5_53) (by decide) (by decide) k) ?_
  show OwnGo p e below s _ _ _ (T9.setTop (mkF m 22 #[.val (.ref a), .val (.int kk), .val (.int (s1 + (kk * (4 : Int32)))), .val (.int (((((f q) <<< ((8 : Int32) &&& 31)) ||| ((f (q + 1)) &&& (255 : Int32))) <<< ((8 : Int32) &&& 31)) ||| ((f (q + 2)) &&& (255 : Int32)))), .val (.int (3 : Int32))] []))
  refine own_on (fun t k => XS.iload X9.here hx rfl (hb hby d5_22) rfl k) ?_
  show OwnGo p e below s _ _ _ (T9.setTop (mkF m 24 #[.val (.ref a), .val (.int kk), .val (.int (s1 + (kk * (4 : Int32)))), .val (.int (((((f q) <<< ((8 : Int32) &&& 31)) ||| ((f (q + 1)) &&& (255 : Int32))) <<< ((8 : Int32) &&& 31)) ||| ((f (q + 2)) &&& (255 : Int32)))), .val (.int (3 : Int32))] [(.int (3 : Int32))]))
  refine own_on (fun t k => XS.aloadN X9.here hx rfl (hb hby d5_24) rfl rfl k) ?_
  show OwnGo p e below s _ _ _ (T9.setTop (mkF m 25 #[.val (.ref a), .val (.int kk), .val (.int (s1 + (kk * (4 : Int32)))), .val (.int (((((f q) <<< ((8 : Int32) &&& 31)) ||| ((f (q + 1)) &&& (255 : Int32))) <<< ((8 : Int32) &&& 31)) ||| ((f (q + 2)) &&& (255 : Int32)))), .val (.int (3 : Int32))] [(.ref a), (.int (3 : Int32))]))
  obtain ⟨T11, X11, e11, st11⟩ := getF X9 hx hZ hown (host := "") (Or.inl (w24 hw)) Via.refl e9 P2 (g := (mkF m 25 #[.val (.ref a), .val (.int kk), .val (.int (s1 + (kk * (4 : Int32)))), .val (.int (((((f q) <<< ((8 : Int32) &&& 31)) ||| ((f (q + 1)) &&& (255 : Int32))) <<< ((8 : Int32) &&& 31)) ||| ((f (q + 2)) &&& (255 : Int32)))), .val (.int (3 : Int32))] [(.ref a), (.int (3 : Int32))])) rfl rfl (hb hby d5_25)
  refine own_on st11 ?_
  show OwnGo p e below s _ _ _ (T11.setTop (mkF m 28 #[.val (.ref a), .val (.int kk), .val (.int (s1 + (kk * (4 : Int32)))), .val (.int (((((f q) <<< ((8 : Int32) &&& 31)) ||| ((f (q + 1)) &&& (255 : Int32))) <<< ((8 : Int32) &&& 31)) ||| ((f (q + 2)) &&& (255 : Int32)))), .val (.int (3 : Int32))] [(.int (4 : Int32)), (.int (3 : Int32))]))
  refine own_on (fun t k => XS.icmpNo X11.here hx rfl (hb hby d5_28) rfl (tlt (by decide : (3 : Int32) < (4 : Int32))).2.1 k) ?_
  show OwnGo p e below s _ _ _ (T11.setTop (mkF m 31 #[.val (.ref a), .val (.int kk), .val (.int (s1 + (kk * (4 : Int32)))), .val (.int (((((f q) <<< ((8 : Int32) &&& 31)) ||| ((f (q + 1)) &&& (255 : Int32))) <<< ((8 : Int32) &&& 31)) ||| ((f (q + 2)) &&& (255 : Int32)))), .val (.int (3 : Int32))] []))
  refine own_on (fun t k => XS.iloadN X11.here hx rfl (hb hby d5_31) rfl k) ?_
  show OwnGo p e below s _ _ _ (T11.setTop (mkF m 32 #[.val (.ref a), .val (.int kk), .val (.int (s1 + (kk * (4 : Int32)))), .val (.int (((((f q) <<< ((8 : Int32) &&& 31)) ||| ((f (q + 1)) &&& (255 : Int32))) <<< ((8 : Int32) &&& 31)) ||| ((f (q + 2)) &&& (255 : Int32)))), .val (.int (3 : Int32))] [(.int (((((f q) <<< ((8 : Int32) &&& 31)) ||| ((f (q + 1)) &&& (255 : Int32))) <<< ((8 : Int32) &&& 31)) ||| ((f (q + 2)) &&& (255 : Int32))))]))
  refine own_on (fun t k => XS.bipush X11.here hx rfl (hb hby d5_32) k) ?_
  show OwnGo p e below s _ _ _ (T11.setTop (mkF m 34 #[.val (.ref a), .val (.int kk), .val (.int (s1 + (kk * (4 : Int32)))), .val (.int (((((f q) <<< ((8 : Int32) &&& 31)) ||| ((f (q + 1)) &&& (255 : Int32))) <<< ((8 : Int32) &&& 31)) ||| ((f (q + 2)) &&& (255 : Int32)))), .val (.int (3 : Int32))] [(.int (8 : Int32)), (.int (((((f q) <<< ((8 : Int32) &&& 31)) ||| ((f (q + 1)) &&& (255 : Int32))) <<< ((8 : Int32) &&& 31)) ||| ((f (q + 2)) &&& (255 : Int32))))]))
  refine own_on (fun t k => XS.ishl X11.here hx rfl (hb hby d5_34) rfl k) ?_
  show OwnGo p e below s _ _ _ (T11.setTop (mkF m 35 #[.val (.ref a), .val (.int kk), .val (.int (s1 + (kk * (4 : Int32)))), .val (.int (((((f q) <<< ((8 : Int32) &&& 31)) ||| ((f (q + 1)) &&& (255 : Int32))) <<< ((8 : Int32) &&& 31)) ||| ((f (q + 2)) &&& (255 : Int32)))), .val (.int (3 : Int32))] [(.int ((((((f q) <<< ((8 : Int32) &&& 31)) ||| ((f (q + 1)) &&& (255 : Int32))) <<< ((8 : Int32) &&& 31)) ||| ((f (q + 2)) &&& (255 : Int32))) <<< ((8 : Int32) &&& 31)))]))
  refine own_on (fun t k => XS.aloadN X11.here hx rfl (hb hby d5_35) rfl rfl k) ?_
  show OwnGo p e below s _ _ _ (T11.setTop (mkF m 36 #[.val (.ref a), .val (.int kk), .val (.int (s1 + (kk * (4 : Int32)))), .val (.int (((((f q) <<< ((8 : Int32) &&& 31)) ||| ((f (q + 1)) &&& (255 : Int32))) <<< ((8 : Int32) &&& 31)) ||| ((f (q + 2)) &&& (255 : Int32)))), .val (.int (3 : Int32))] [(.ref a), (.int ((((((f q) <<< ((8 : Int32) &&& 31)) ||| ((f (q + 1)) &&& (255 : Int32))) <<< ((8 : Int32) &&& 31)) ||| ((f (q + 2)) &&& (255 : Int32))) <<< ((8 : Int32) &&& 31)))]))
  obtain ⟨T12, X12, e12, st12⟩ := getF X11 hx hZ hown (host := "") (Or.inl (w20 hw)) Via.refl e11 P1 (g := (mkF m 36 #[.val (.ref a), .val (.int kk), .val (.int (s1 + (kk * (4 : Int32)))), .val (.int (((((f q) <<< ((8 : Int32) &&& 31)) ||| ((f (q + 1)) &&& (255 : Int32))) <<< ((8 : Int32) &&& 31)) ||| ((f (q + 2)) &&& (255 : Int32)))), .val (.int (3 : Int32))] [(.ref a), (.int ((((((f q) <<< ((8 : Int32) &&& 31)) ||| ((f (q + 1)) &&& (255 : Int32))) <<< ((8 : Int32) &&& 31)) ||| ((f (q + 2)) &&& (255 : Int32))) <<< ((8 : Int32) &&& 31)))])) rfl rfl (hb hby d5_36)
  refine own_on st12 ?_
  show OwnGo p e below s _ _ _ (T12.setTop (mkF m 39 #[.val (.ref a), .val (.int kk), .val (.int (s1 + (kk * (4 : Int32)))), .val (.int (((((f q) <<< ((8 : Int32) &&& 31)) ||| ((f (q + 1)) &&& (255 : Int32))) <<< ((8 : Int32) &&& 31)) ||| ((f (q + 2)) &&& (255 : Int32)))), .val (.int (3 : Int32))] [(.ref bt), (.int ((((((f q) <<< ((8 : Int32) &&& 31)) ||| ((f (q + 1)) &&& (255 : Int32))) <<< ((8 : Int32) &&& 31)) ||| ((f (q + 2)) &&& (255 : Int32))) <<< ((8 : Int32) &&& 31)))]))
  refine own_on (fun t k => XS.iloadN X12.here hx rfl (hb hby d5_39) rfl k) ?_
  show OwnGo p e below s _ _ _ (T12.setTop (mkF m 40 #[.val (.ref a), .val (.int kk), .val (.int (s1 + (kk * (4 : Int32)))), .val (.int (((((f q) <<< ((8 : Int32) &&& 31)) ||| ((f (q + 1)) &&& (255 : Int32))) <<< ((8 : Int32) &&& 31)) ||| ((f (q + 2)) &&& (255 : Int32)))), .val (.int (3 : Int32))] [(.int (s1 + (kk * (4 : Int32)))), (.ref bt), (.int ((((((f q) <<< ((8 : Int32) &&& 31)) ||| ((f (q + 1)) &&& (255 : Int32))) <<< ((8 : Int32) &&& 31)) ||| ((f (q + 2)) &&& (255 : Int32))) <<< ((8 : Int32) &&& 31)))]))
  refine own_on (fun t k => XS.iload X12.here hx rfl (hb hby d5_40) rfl k) ?_
  show OwnGo p e below s _ _ _ (T12.setTop (mkF m 42 #[.val (.ref a), .val (.int kk), .val (.int (s1 + (kk * (4 : Int32)))), .val (.int (((((f q) <<< ((8 : Int32) &&& 31)) ||| ((f (q + 1)) &&& (255 : Int32))) <<< ((8 : Int32) &&& 31)) ||| ((f (q + 2)) &&& (255 : Int32)))), .val (.int (3 : Int32))] [(.int (3 : Int32)), (.int (s1 + (kk * (4 : Int32)))), (.ref bt), (.int ((((((f q) <<< ((8 : Int32) &&& 31)) ||| ((f (q + 1)) &&& (255 : Int32))) <<< ((8 : Int32) &&& 31)) ||| ((f (q + 2)) &&& (255 : Int32))) <<< ((8 : Int32) &&& 31)))]))
  refine own_on (fun t k => XS.iadd X12.here hx rfl (hb hby d5_42) rfl k) ?_
  show OwnGo p e below s _ _ _ (T12.setTop (mkF m 43 #[.val (.ref a), .val (.int kk), .val (.int (s1 + (kk * (4 : Int32)))), .val (.int (((((f q) <<< ((8 : Int32) &&& 31)) ||| ((f (q + 1)) &&& (255 : Int32))) <<< ((8 : Int32) &&& 31)) ||| ((f (q + 2)) &&& (255 : Int32)))), .val (.int (3 : Int32))] [(.int ((s1 + (kk * (4 : Int32))) + (3 : Int32))), (.ref bt), (.int ((((((f q) <<< ((8 : Int32) &&& 31)) ||| ((f (q + 1)) &&& (255 : Int32))) <<< ((8 : Int32) &&& 31)) ||| ((f (q + 2)) &&& (255 : Int32))) <<< ((8 : Int32) &&& 31)))]))
  obtain ⟨cl13, Ar13, S13, H13⟩ := id P5
  have hj13 : ¬ ((s1 + (kk * (4 : Int32))) + (3 : Int32)) < 0 ∧ (((s1 + (kk * (4 : Int32))) + (3 : Int32))).toNatClampNeg = (q + 3) := own_ix (own_add P6 (by omega) (k := 3) (by decide) (by decide))
  refine own_on (X12.baloadBytes hx (j := ((s1 + (kk * (4 : Int32))) + (3 : Int32))) (v := (.int (f (q + 3)))) (by rw [e12]; exact Ar13.1) (State.isArrayOf_alike hZ.alike Ar13.2.1) Ar13.2.2 (own_in S13 hj13 (by omega)) (hj13.2.symm ▸ H13 _ (by omega)) (g := (mkF m 43 #[.val (.ref a), .val (.int kk), .val (.int (s1 + (kk * (4 : Int32)))), .val (.int (((((f q) <<< ((8 : Int32) &&& 31)) ||| ((f (q + 1)) &&& (255 : Int32))) <<< ((8 : Int32) &&& 31)) ||| ((f (q + 2)) &&& (255 : Int32)))), .val (.int (3 : Int32))] [(.int ((s1 + (kk * (4 : Int32))) + (3 : Int32))), (.ref bt), (.int ((((((f q) <<< ((8 : Int32) &&& 31)) ||| ((f (q + 1)) &&& (255 : Int32))) <<< ((8 : Int32) &&& 31)) ||| ((f (q + 2)) &&& (255 : Int32))) <<< ((8 : Int32) &&& 31)))])) rfl rfl (hb hby d5_43)) ?_
  show OwnGo p e below s _ _ _ (T12.setTop (mkF m 44 #[.val (.ref a), .val (.int kk), .val (.int (s1 + (kk * (4 : Int32)))), .val (.int (((((f q) <<< ((8 : Int32) &&& 31)) ||| ((f (q + 1)) &&& (255 : Int32))) <<< ((8 : Int32) &&& 31)) ||| ((f (q + 2)) &&& (255 : Int32)))), .val (.int (3 : Int32))] [(.int (f (q + 3))), (.int ((((((f q) <<< ((8 : Int32) &&& 31)) ||| ((f (q + 1)) &&& (255 : Int32))) <<< ((8 : Int32) &&& 31)) ||| ((f (q + 2)) &&& (255 : Int32))) <<< ((8 : Int32) &&& 31)))]))
  refine own_on (fun t k => XS.sipush X12.here hx rfl (hb hby d5_44) k) ?_
  show OwnGo p e below s _ _ _ (T12.setTop (mkF m 47 #[.val (.ref a), .val (.int kk), .val (.int (s1 + (kk * (4 : Int32)))), .val (.int (((((f q) <<< ((8 : Int32) &&& 31)) ||| ((f (q + 1)) &&& (255 : Int32))) <<< ((8 : Int32) &&& 31)) ||| ((f (q + 2)) &&& (255 : Int32)))), .val (.int (3 : Int32))] [(.int (255 : Int32)), (.int (f (q + 3))), (.int ((((((f q) <<< ((8 : Int32) &&& 31)) ||| ((f (q + 1)) &&& (255 : Int32))) <<< ((8 : Int32) &&& 31)) ||| ((f (q + 2)) &&& (255 : Int32))) <<< ((8 : Int32) &&& 31)))]))
  refine own_on (fun t k => XS.iand X12.here hx rfl (hb hby d5_47) rfl k) ?_
  show OwnGo p e below s _ _ _ (T12.setTop (mkF m 48 #[.val (.ref a), .val (.int kk), .val (.int (s1 + (kk * (4 : Int32)))), .val (.int (((((f q) <<< ((8 : Int32) &&& 31)) ||| ((f (q + 1)) &&& (255 : Int32))) <<< ((8 : Int32) &&& 31)) ||| ((f (q + 2)) &&& (255 : Int32)))), .val (.int (3 : Int32))] [(.int ((f (q + 3)) &&& (255 : Int32))), (.int ((((((f q) <<< ((8 : Int32) &&& 31)) ||| ((f (q + 1)) &&& (255 : Int32))) <<< ((8 : Int32) &&& 31)) ||| ((f (q + 2)) &&& (255 : Int32))) <<< ((8 : Int32) &&& 31)))]))
  refine own_on (fun t k => XS.ior X12.here hx rfl (hb hby d5_48) rfl k) ?_
  show OwnGo p e below s _ _ _ (T12.setTop (mkF m 49 #[.val (.ref a), .val (.int kk), .val (.int (s1 + (kk * (4 : Int32)))), .val (.int (((((f q) <<< ((8 : Int32) &&& 31)) ||| ((f (q + 1)) &&& (255 : Int32))) <<< ((8 : Int32) &&& 31)) ||| ((f (q + 2)) &&& (255 : Int32)))), .val (.int (3 : Int32))] [(.int (((((((f q) <<< ((8 : Int32) &&& 31)) ||| ((f (q + 1)) &&& (255 : Int32))) <<< ((8 : Int32) &&& 31)) ||| ((f (q + 2)) &&& (255 : Int32))) <<< ((8 : Int32) &&& 31)) ||| ((f (q + 3)) &&& (255 : Int32))))]))
  refine own_on (fun t k => XS.istoreN X12.here hx rfl (hb hby d5_49) rfl (l' := #[.val (.ref a), .val (.int kk), .val (.int (s1 + (kk * (4 : Int32)))), .val (.int (((((((f q) <<< ((8 : Int32) &&& 31)) ||| ((f (q + 1)) &&& (255 : Int32))) <<< ((8 : Int32) &&& 31)) ||| ((f (q + 2)) &&& (255 : Int32))) <<< ((8 : Int32) &&& 31)) ||| ((f (q + 3)) &&& (255 : Int32)))), .val (.int (3 : Int32))]) rfl k) ?_
  show OwnGo p e below s _ _ _ (T12.setTop (mkF m 50 #[.val (.ref a), .val (.int kk), .val (.int (s1 + (kk * (4 : Int32)))), .val (.int (((((((f q) <<< ((8 : Int32) &&& 31)) ||| ((f (q + 1)) &&& (255 : Int32))) <<< ((8 : Int32) &&& 31)) ||| ((f (q + 2)) &&& (255 : Int32))) <<< ((8 : Int32) &&& 31)) ||| ((f (q + 3)) &&& (255 : Int32)))), .val (.int (3 : Int32))] []))
  refine own_on (fun t k => XS.iinc X12.here hx rfl (hb hby d5_50) rfl (l' := #[.val (.ref a), .val (.int kk), .val (.int (s1 + (kk * (4 : Int32)))), .val (.int (((((((f q) <<< ((8 : Int32) &&& 31)) ||| ((f (q + 1)) &&& (255 : Int32))) <<< ((8 : Int32) &&& 31)) ||| ((f (q + 2)) &&& (255 : Int32))) <<< ((8 : Int32) &&& 31)) ||| ((f (q + 3)) &&& (255 : Int32)))), .val (.int (4 : Int32))]) rfl k) ?_
  show OwnGo p e below s _ _ _ (T12.setTop (mkF m 53 #[.val (.ref a), .val (.int kk), .val (.int (s1 + (kk * (4 : Int32)))), .val (.int (((((((f q) <<< ((8 : Int32) &&& 31)) ||| ((f (q + 1)) &&& (255 : Int32))) <<< ((8 : Int32) &&& 31)) ||| ((f (q + 2)) &&& (255 : Int32))) <<< ((8 : Int32) &&& 31)) ||| ((f (q + 3)) &&& (255 : Int32)))), .val (.int (4 : Int32))] []))
  refine own_on (fun t k => XS.goto X12.here hx rfl (pc0 := 53) (pc' := 22) rfl (hb hby d5_53) (by decide) (by decide) k) ?_
  show OwnGo p e below s _ _ _ (T12.setTop (mkF m 22 #[.val (.ref a), .val (.int kk), .val (.int (s1 + (kk * (4 : Int32)))), .val (.int (((((((f q) <<< ((8 : Int32) &&& 31)) ||| ((f (q + 1)) &&& (255 : Int32))) <<< ((8 : Int32) &&& 31)) ||| ((f (q + 2)) &&& (255 : Int32))) <<< ((8 : Int32) &&& 31)) ||| ((f (q + 3)) &&& (255 : Int32)))), .val (.int (4 : Int32))] []))
  refine own_on (fun t k => XS.iload X12.here hx rfl (hb hby d5_22) rfl k) ?_
  show OwnGo p e below s _ _ _ (T12.setTop (mkF m 24 #[.val (.ref a), .val (.int kk), .val (.int (s1 + (kk * (4 : Int32)))), .val (.int (((((((f q) <<< ((8 : Int32) &&& 31)) ||| ((f (q + 1)) &&& (255 : Int32))) <<< ((8 : Int32) &&& 31)) ||| ((f (q + 2)) &&& (255 : Int32))) <<< ((8 : Int32) &&& 31)) ||| ((f (q + 3)) &&& (255 : Int32)))), .val (.int (4 : Int32))] [(.int (4 : Int32))]))
  refine own_on (fun t k => XS.aloadN X12.here hx rfl (hb hby d5_24) rfl rfl k) ?_
  show OwnGo p e below s _ _ _ (T12.setTop (mkF m 25 #[.val (.ref a), .val (.int kk), .val (.int (s1 + (kk * (4 : Int32)))), .val (.int (((((((f q) <<< ((8 : Int32) &&& 31)) ||| ((f (q + 1)) &&& (255 : Int32))) <<< ((8 : Int32) &&& 31)) ||| ((f (q + 2)) &&& (255 : Int32))) <<< ((8 : Int32) &&& 31)) ||| ((f (q + 3)) &&& (255 : Int32)))), .val (.int (4 : Int32))] [(.ref a), (.int (4 : Int32))]))
  obtain ⟨T14, X14, e14, st14⟩ := getF X12 hx hZ hown (host := "") (Or.inl (w24 hw)) Via.refl e12 P2 (g := (mkF m 25 #[.val (.ref a), .val (.int kk), .val (.int (s1 + (kk * (4 : Int32)))), .val (.int (((((((f q) <<< ((8 : Int32) &&& 31)) ||| ((f (q + 1)) &&& (255 : Int32))) <<< ((8 : Int32) &&& 31)) ||| ((f (q + 2)) &&& (255 : Int32))) <<< ((8 : Int32) &&& 31)) ||| ((f (q + 3)) &&& (255 : Int32)))), .val (.int (4 : Int32))] [(.ref a), (.int (4 : Int32))])) rfl rfl (hb hby d5_25)
  refine own_on st14 ?_
  show OwnGo p e below s _ _ _ (T14.setTop (mkF m 28 #[.val (.ref a), .val (.int kk), .val (.int (s1 + (kk * (4 : Int32)))), .val (.int (((((((f q) <<< ((8 : Int32) &&& 31)) ||| ((f (q + 1)) &&& (255 : Int32))) <<< ((8 : Int32) &&& 31)) ||| ((f (q + 2)) &&& (255 : Int32))) <<< ((8 : Int32) &&& 31)) ||| ((f (q + 3)) &&& (255 : Int32)))), .val (.int (4 : Int32))] [(.int (4 : Int32)), (.int (4 : Int32))]))
  refine own_on (fun t k => XS.icmpYes X14.here hx rfl (pc0 := 28) (pc' := 56) rfl (hb hby d5_28) rfl (flt (by decide : ¬ ((4 : Int32) < (4 : Int32)))).2.1 (by decide) (by decide) k) ?_
  show OwnGo p e below s _ _ _ (T14.setTop (mkF m 56 #[.val (.ref a), .val (.int kk), .val (.int (s1 + (kk * (4 : Int32)))), .val (.int (((((((f q) <<< ((8 : Int32) &&& 31)) ||| ((f (q + 1)) &&& (255 : Int32))) <<< ((8 : Int32) &&& 31)) ||| ((f (q + 2)) &&& (255 : Int32))) <<< ((8 : Int32) &&& 31)) ||| ((f (q + 3)) &&& (255 : Int32)))), .val (.int (4 : Int32))] []))
  refine own_on (fun t k => XS.iloadN X14.here hx rfl (hb hby d5_56) rfl k) ?_
  show OwnGo p e below s _ _ _ (T14.setTop (mkF m 57 #[.val (.ref a), .val (.int kk), .val (.int (s1 + (kk * (4 : Int32)))), .val (.int (((((((f q) <<< ((8 : Int32) &&& 31)) ||| ((f (q + 1)) &&& (255 : Int32))) <<< ((8 : Int32) &&& 31)) ||| ((f (q + 2)) &&& (255 : Int32))) <<< ((8 : Int32) &&& 31)) ||| ((f (q + 3)) &&& (255 : Int32)))), .val (.int (4 : Int32))] [(.int (((((((f q) <<< ((8 : Int32) &&& 31)) ||| ((f (q + 1)) &&& (255 : Int32))) <<< ((8 : Int32) &&& 31)) ||| ((f (q + 2)) &&& (255 : Int32))) <<< ((8 : Int32) &&& 31)) ||| ((f (q + 3)) &&& (255 : Int32))))]))
  refine own_on (fun t k => XS.aloadN X14.here hx rfl (hb hby d5_57) rfl rfl k) ?_
  show OwnGo p e below s _ _ _ (T14.setTop (mkF m 58 #[.val (.ref a), .val (.int kk), .val (.int (s1 + (kk * (4 : Int32)))), .val (.int (((((((f q) <<< ((8 : Int32) &&& 31)) ||| ((f (q + 1)) &&& (255 : Int32))) <<< ((8 : Int32) &&& 31)) ||| ((f (q + 2)) &&& (255 : Int32))) <<< ((8 : Int32) &&& 31)) ||| ((f (q + 3)) &&& (255 : Int32)))), .val (.int (4 : Int32))] [(.ref a), (.int (((((((f q) <<< ((8 : Int32) &&& 31)) ||| ((f (q + 1)) &&& (255 : Int32))) <<< ((8 : Int32) &&& 31)) ||| ((f (q + 2)) &&& (255 : Int32))) <<< ((8 : Int32) &&& 31)) ||| ((f (q + 3)) &&& (255 : Int32))))]))
  obtain ⟨T15, X15, e15, st15⟩ := getF X14 hx hZ hown (host := "") (Or.inl (w31 hw)) Via.refl e14 P4 (g := (mkF m 58 #[.val (.ref a), .val (.int kk), .val (.int (s1 + (kk * (4 : Int32)))), .val (.int (((((((f q) <<< ((8 : Int32) &&& 31)) ||| ((f (q + 1)) &&& (255 : Int32))) <<< ((8 : Int32) &&& 31)) ||| ((f (q + 2)) &&& (255 : Int32))) <<< ((8 : Int32) &&& 31)) ||| ((f (q + 3)) &&& (255 : Int32)))), .val (.int (4 : Int32))] [(.ref a), (.int (((((((f q) <<< ((8 : Int32) &&& 31)) ||| ((f (q + 1)) &&& (255 : Int32))) <<< ((8 : Int32) &&& 31)) ||| ((f (q + 2)) &&& (255 : Int32))) <<< ((8 : Int32) &&& 31)) ||| ((f (q + 3)) &&& (255 : Int32))))])) rfl rfl (hb hby d5_58)
  refine own_on st15 ?_
  show OwnGo p e below s _ _ _ (T15.setTop (mkF m 61 #[.val (.ref a), .val (.int kk), .val (.int (s1 + (kk * (4 : Int32)))), .val (.int (((((((f q) <<< ((8 : Int32) &&& 31)) ||| ((f (q + 1)) &&& (255 : Int32))) <<< ((8 : Int32) &&& 31)) ||| ((f (q + 2)) &&& (255 : Int32))) <<< ((8 : Int32) &&& 31)) ||| ((f (q + 3)) &&& (255 : Int32)))), .val (.int (4 : Int32))] [(.int (2147483647 : Int32)), (.int (((((((f q) <<< ((8 : Int32) &&& 31)) ||| ((f (q + 1)) &&& (255 : Int32))) <<< ((8 : Int32) &&& 31)) ||| ((f (q + 2)) &&& (255 : Int32))) <<< ((8 : Int32) &&& 31)) ||| ((f (q + 3)) &&& (255 : Int32))))]))
  by_cases qn : (((((((f q) <<< ((8 : Int32) &&& 31)) ||| ((f (q + 1)) &&& (255 : Int32))) <<< ((8 : Int32) &&& 31)) ||| ((f (q + 2)) &&& (255 : Int32))) <<< ((8 : Int32) &&& 31)) ||| ((f (q + 3)) &&& (255 : Int32))) = (2147483647 : Int32)
  · refine own_on (fun t k => XS.icmpNo X15.here hx rfl (hb hby d5_61) rfl (teq qn).2 k) ?_
    show OwnGo p e below s _ _ _ (T15.setTop (mkF m 64 #[.val (.ref a), .val (.int kk), .val (.int (s1 + (kk * (4 : Int32)))), .val (.int (((((((f q) <<< ((8 : Int32) &&& 31)) ||| ((f (q + 1)) &&& (255 : Int32))) <<< ((8 : Int32) &&& 31)) ||| ((f (q + 2)) &&& (255 : Int32))) <<< ((8 : Int32) &&& 31)) ||| ((f (q + 3)) &&& (255 : Int32)))), .val (.int (4 : Int32))] []))
    refine own_on (X15.ldcInt hx hown (mvT hZ (w38 hw)) (g := (mkF m 64 #[.val (.ref a), .val (.int kk), .val (.int (s1 + (kk * (4 : Int32)))), .val (.int (((((((f q) <<< ((8 : Int32) &&& 31)) ||| ((f (q + 1)) &&& (255 : Int32))) <<< ((8 : Int32) &&& 31)) ||| ((f (q + 2)) &&& (255 : Int32))) <<< ((8 : Int32) &&& 31)) ||| ((f (q + 3)) &&& (255 : Int32)))), .val (.int (4 : Int32))] [])) rfl (hb hby d5_64)) ?_
    show OwnGo p e below s _ _ _ (T15.setTop (mkF m 66 #[.val (.ref a), .val (.int kk), .val (.int (s1 + (kk * (4 : Int32)))), .val (.int (((((((f q) <<< ((8 : Int32) &&& 31)) ||| ((f (q + 1)) &&& (255 : Int32))) <<< ((8 : Int32) &&& 31)) ||| ((f (q + 2)) &&& (255 : Int32))) <<< ((8 : Int32) &&& 31)) ||| ((f (q + 3)) &&& (255 : Int32)))), .val (.int (4 : Int32))] [(.int (2147483647 : Int32))]))
    refine own_on (fun t k => XS.goto X15.here hx rfl (pc0 := 66) (pc' := 70) rfl (hb hby d5_66) (by decide) (by decide) k) ?_
    show OwnGo p e below s _ _ _ (T15.setTop (mkF m 70 #[.val (.ref a), .val (.int kk), .val (.int (s1 + (kk * (4 : Int32)))), .val (.int (((((((f q) <<< ((8 : Int32) &&& 31)) ||| ((f (q + 1)) &&& (255 : Int32))) <<< ((8 : Int32) &&& 31)) ||| ((f (q + 2)) &&& (255 : Int32))) <<< ((8 : Int32) &&& 31)) ||| ((f (q + 3)) &&& (255 : Int32)))), .val (.int (4 : Int32))] [(.int (2147483647 : Int32))]))
    exact own_retI X15 hx hlk Bd.returns (hb hby d5_70) e15 ⟨(congrArg (fun z => some (Value.int z)) (by simp [own_r, *])), N0, rfl⟩ (by decide) (by decide)
  · refine own_on (fun t k => XS.icmpYes X15.here hx rfl (pc0 := 61) (pc' := 69) rfl (hb hby d5_61) rfl (feq qn).2 (by decide) (by decide) k) ?_
    show OwnGo p e below s _ _ _ (T15.setTop (mkF m 69 #[.val (.ref a), .val (.int kk), .val (.int (s1 + (kk * (4 : Int32)))), .val (.int (((((((f q) <<< ((8 : Int32) &&& 31)) ||| ((f (q + 1)) &&& (255 : Int32))) <<< ((8 : Int32) &&& 31)) ||| ((f (q + 2)) &&& (255 : Int32))) <<< ((8 : Int32) &&& 31)) ||| ((f (q + 3)) &&& (255 : Int32)))), .val (.int (4 : Int32))] []))
    refine own_on (fun t k => XS.iloadN X15.here hx rfl (hb hby d5_69) rfl k) ?_
    show OwnGo p e below s _ _ _ (T15.setTop (mkF m 70 #[.val (.ref a), .val (.int kk), .val (.int (s1 + (kk * (4 : Int32)))), .val (.int (((((((f q) <<< ((8 : Int32) &&& 31)) ||| ((f (q + 1)) &&& (255 : Int32))) <<< ((8 : Int32) &&& 31)) ||| ((f (q + 2)) &&& (255 : Int32))) <<< ((8 : Int32) &&& 31)) ||| ((f (q + 3)) &&& (255 : Int32)))), .val (.int (4 : Int32))] [(.int (((((((f q) <<< ((8 : Int32) &&& 31)) ||| ((f (q + 1)) &&& (255 : Int32))) <<< ((8 : Int32) &&& 31)) ||| ((f (q + 2)) &&& (255 : Int32))) <<< ((8 : Int32) &&& 31)) ||| ((f (q + 3)) &&& (255 : Int32))))]))
    exact own_retI X15 hx hlk Bd.returns (hb hby d5_70) e15 ⟨(congrArg (fun z => some (Value.int z)) (by simp [own_r, *])), N0, rfl⟩ (by decide) (by decide)
theorem ef_0 (m : MethodId) (vv : Int32) (sel : Int32) (fil : Int32)  : entryFrame m #[(.int vv), (.int sel), (.int fil)] maxLocals = mkF m 0 #[.val (.int vv), .val (.int sel), .val (.int fil), .unset, .unset, .unset, .unset, .unset, .unset, .unset, .unset, .unset] [] := by first | (simp [entryFrame, mkF, argsToLocals, Value.category, maxLocals]; done) | rfl
def Q0 (Z : State) (vv : Int32) (sel : Int32) (fil : Int32) (h0 : Heap) (n0 : Nat) (v_ : Option Value) (h_ : Heap) (L_ : List Loc) : Prop := v_ = some (.int (1 : Int32)) ∧ Fr n0 L_ ∧ Keep h0 h_ []
set_option maxRecDepth 65536 in
set_option maxHeartbeats 40000000 in
theorem rm0 (l : Launch) (Z : State) (a0 : Array Value) (hw : ∀ d ∈ tables_1, d.before a0 Z = true) (ws : List Jvm.Cond) (vv : Int32) (sel : Int32) (fil : Int32) (h0 : Heap) (n0 : Nat) (Z0 : n0 ≤ h0.size)  :
    MetFree l x (head1 (Jvm.Cond.code x code maxLocals ret :: ws) room_1) (fun A_ U => A_ = #[(.int vv), (.int sel), (.int fil)] ∧ Z.Warmed39 U.vm ∧ U.heap = h0) (fun _ _ _ _ _ => True) (fun _ U_ o_ U'_ => ∃ v_ L_, o_ = .returned v_ ∧ Q0 Z vv sel fil h0 n0 v_ U'_.heap L_ ∧ FrameEnd U_ o_ U'_ L_ room_1.cells room_1.slots) := by
  refine MetFree.of_bodySF (plainFor_of_name pn_1) hisR ?_
  intro p e s m args below meth c s₁ Bd hml0 hP hK
  obtain ⟨rfl, hZ, hh⟩ := hP
  have hx := Bd.exec
  have hby := Bd.bytes
  have hml : c.maxLocals = 12 := hml0
  have hown : s.vm.findClass "org/tempochart/zone/PackedZoneEntryPinLaw" = some m.cls := findClass_of_methodNamed Bd.named
  have hnm := (name_of_methodNamed Bd.named Bd.method).1
  have hlk : meth.locks = false := Bd.notSynchronized
  have X0 : Stand p l e room_1 s m #[(.int vv), (.int sel), (.int fil)] below meth c s₁ [] 0 0 := Stand.of_body Bd
  have e0 : s₁.heap = h0 := by rw [← hh, Bd.state]; rfl
  have N0 := Fr.nil n0
  have K0 : Keep h0 h0 [] := Keep.refl _ _
  refine own_cast (ef_0 m vv sel fil) ?_
  show OwnGo p e below s (Q0 Z vv sel fil h0 n0) room_1.cells room_1.slots (s₁.setTop (mkF m 0 #[.val (.int vv), .val (.int sel), .val (.int fil), .unset, .unset, .unset, .unset, .unset, .unset, .unset, .unset, .unset] []))
  refine own_on (fun t k => XS.iloadN X0.here hx rfl (hb hby at_0) rfl k) ?_
  show OwnGo p e below s _ _ _ (s₁.setTop (mkF m 1 #[.val (.int vv), .val (.int sel), .val (.int fil), .unset, .unset, .unset, .unset, .unset, .unset, .unset, .unset, .unset] [(.int sel)]))
  refine own_on (fun t k => XS.iconst X0.here hx rfl (hb hby at_1) k) ?_
  show OwnGo p e below s _ _ _ (s₁.setTop (mkF m 2 #[.val (.int vv), .val (.int sel), .val (.int fil), .unset, .unset, .unset, .unset, .unset, .unset, .unset, .unset, .unset] [(.int (3 : Int32)), (.int sel)]))
  refine own_on (fun t k => XS.iand X0.here hx rfl (hb hby at_2) rfl k) ?_
  show OwnGo p e below s _ _ _ (s₁.setTop (mkF m 3 #[.val (.int vv), .val (.int sel), .val (.int fil), .unset, .unset, .unset, .unset, .unset, .unset, .unset, .unset, .unset] [(.int (sel &&& (3 : Int32)))]))
  refine own_on (fun t k => XS.istoreN X0.here hx rfl (hb hby at_3) rfl (l' := #[.val (.int vv), .val (.int sel), .val (.int fil), .val (.int (sel &&& (3 : Int32))), .unset, .unset, .unset, .unset, .unset, .unset, .unset, .unset]) rfl k) ?_
  show OwnGo p e below s _ _ _ (s₁.setTop (mkF m 4 #[.val (.int vv), .val (.int sel), .val (.int fil), .val (.int (sel &&& (3 : Int32))), .unset, .unset, .unset, .unset, .unset, .unset, .unset, .unset] []))
  refine own_on (fun t k => XS.iloadN X0.here hx rfl (hb hby at_4) rfl k) ?_
  show OwnGo p e below s _ _ _ (s₁.setTop (mkF m 5 #[.val (.int vv), .val (.int sel), .val (.int fil), .val (.int (sel &&& (3 : Int32))), .unset, .unset, .unset, .unset, .unset, .unset, .unset, .unset] [(.int sel)]))
  refine own_on (fun t k => XS.iconst X0.here hx rfl (hb hby at_5) k) ?_
  show OwnGo p e below s _ _ _ (s₁.setTop (mkF m 6 #[.val (.int vv), .val (.int sel), .val (.int fil), .val (.int (sel &&& (3 : Int32))), .unset, .unset, .unset, .unset, .unset, .unset, .unset, .unset] [(.int (2 : Int32)), (.int sel)]))
  refine own_on (fun t k => XS.iushr X0.here hx rfl (hb hby at_6) rfl k) ?_
  show OwnGo p e below s _ _ _ (s₁.setTop (mkF m 7 #[.val (.int vv), .val (.int sel), .val (.int fil), .val (.int (sel &&& (3 : Int32))), .unset, .unset, .unset, .unset, .unset, .unset, .unset, .unset] [(.int ((sel.toUInt32 >>> ((2 : Int32) &&& 31).toUInt32).toInt32))]))
  refine own_on (fun t k => XS.iconst X0.here hx rfl (hb hby at_7) k) ?_
  show OwnGo p e below s _ _ _ (s₁.setTop (mkF m 8 #[.val (.int vv), .val (.int sel), .val (.int fil), .val (.int (sel &&& (3 : Int32))), .unset, .unset, .unset, .unset, .unset, .unset, .unset, .unset] [(.int (3 : Int32)), (.int ((sel.toUInt32 >>> ((2 : Int32) &&& 31).toUInt32).toInt32))]))
  refine own_on (fun t k => XS.iand X0.here hx rfl (hb hby at_8) rfl k) ?_
  show OwnGo p e below s _ _ _ (s₁.setTop (mkF m 9 #[.val (.int vv), .val (.int sel), .val (.int fil), .val (.int (sel &&& (3 : Int32))), .unset, .unset, .unset, .unset, .unset, .unset, .unset, .unset] [(.int (((sel.toUInt32 >>> ((2 : Int32) &&& 31).toUInt32).toInt32) &&& (3 : Int32)))]))
  refine own_on (fun t k => XS.istore X0.here hx rfl (hb hby at_9) rfl (l' := #[.val (.int vv), .val (.int sel), .val (.int fil), .val (.int (sel &&& (3 : Int32))), .val (.int (((sel.toUInt32 >>> ((2 : Int32) &&& 31).toUInt32).toInt32) &&& (3 : Int32))), .unset, .unset, .unset, .unset, .unset, .unset, .unset]) rfl k) ?_
  show OwnGo p e below s _ _ _ (s₁.setTop (mkF m 11 #[.val (.int vv), .val (.int sel), .val (.int fil), .val (.int (sel &&& (3 : Int32))), .val (.int (((sel.toUInt32 >>> ((2 : Int32) &&& 31).toUInt32).toInt32) &&& (3 : Int32))), .unset, .unset, .unset, .unset, .unset, .unset, .unset] []))
  refine own_on (fun t k => XS.iload X0.here hx rfl (hb hby at_11) rfl k) ?_
  show OwnGo p e below s _ _ _ (s₁.setTop (mkF m 13 #[.val (.int vv), .val (.int sel), .val (.int fil), .val (.int (sel &&& (3 : Int32))), .val (.int (((sel.toUInt32 >>> ((2 : Int32) &&& 31).toUInt32).toInt32) &&& (3 : Int32))), .unset, .unset, .unset, .unset, .unset, .unset, .unset] [(.int (((sel.toUInt32 >>> ((2 : Int32) &&& 31).toUInt32).toInt32) &&& (3 : Int32)))]))
  by_cases q0 : (((sel.toUInt32 >>> ((2 : Int32) &&& 31).toUInt32).toInt32) &&& (3 : Int32)) = (0 : Int32)
  · refine own_on (fun t k => XS.ifNo X0.here hx rfl (hb hby at_13) rfl ((if0 _ _).trans (teq q0).2) k) ?_
    show OwnGo p e below s _ _ _ (s₁.setTop (mkF m 16 #[.val (.int vv), .val (.int sel), .val (.int fil), .val (.int (sel &&& (3 : Int32))), .val (.int (((sel.toUInt32 >>> ((2 : Int32) &&& 31).toUInt32).toInt32) &&& (3 : Int32))), .unset, .unset, .unset, .unset, .unset, .unset, .unset] []))
    refine own_on (fun t k => XS.iconst X0.here hx rfl (hb hby at_16) k) ?_
    show OwnGo p e below s _ _ _ (s₁.setTop (mkF m 17 #[.val (.int vv), .val (.int sel), .val (.int fil), .val (.int (sel &&& (3 : Int32))), .val (.int (((sel.toUInt32 >>> ((2 : Int32) &&& 31).toUInt32).toInt32) &&& (3 : Int32))), .unset, .unset, .unset, .unset, .unset, .unset, .unset] [(.int (1 : Int32))]))
    refine own_on (fun t k => XS.goto X0.here hx rfl (pc0 := 17) (pc' := 31) rfl (hb hby at_17) (by decide) (by decide) k) ?_
    show OwnGo p e below s _ _ _ (s₁.setTop (mkF m 31 #[.val (.int vv), .val (.int sel), .val (.int fil), .val (.int (sel &&& (3 : Int32))), .val (.int (((sel.toUInt32 >>> ((2 : Int32) &&& 31).toUInt32).toInt32) &&& (3 : Int32))), .unset, .unset, .unset, .unset, .unset, .unset, .unset] [(.int (1 : Int32))]))
    refine own_on (fun t k => XS.istore X0.here hx rfl (hb hby at_31) rfl (l' := #[.val (.int vv), .val (.int sel), .val (.int fil), .val (.int (sel &&& (3 : Int32))), .val (.int (((sel.toUInt32 >>> ((2 : Int32) &&& 31).toUInt32).toInt32) &&& (3 : Int32))), .val (.int (1 : Int32)), .unset, .unset, .unset, .unset, .unset, .unset]) rfl k) ?_
    show OwnGo p e below s _ _ _ (s₁.setTop (mkF m 33 #[.val (.int vv), .val (.int sel), .val (.int fil), .val (.int (sel &&& (3 : Int32))), .val (.int (((sel.toUInt32 >>> ((2 : Int32) &&& 31).toUInt32).toInt32) &&& (3 : Int32))), .val (.int (1 : Int32)), .unset, .unset, .unset, .unset, .unset, .unset] []))
    refine own_on (fun t k => XS.iloadN X0.here hx rfl (hb hby at_33) rfl k) ?_
    show OwnGo p e below s _ _ _ (s₁.setTop (mkF m 34 #[.val (.int vv), .val (.int sel), .val (.int fil), .val (.int (sel &&& (3 : Int32))), .val (.int (((sel.toUInt32 >>> ((2 : Int32) &&& 31).toUInt32).toInt32) &&& (3 : Int32))), .val (.int (1 : Int32)), .unset, .unset, .unset, .unset, .unset, .unset] [(.int sel)]))
    refine own_on (fun t k => XS.iconst X0.here hx rfl (hb hby at_34) k) ?_
    show OwnGo p e below s _ _ _ (s₁.setTop (mkF m 35 #[.val (.int vv), .val (.int sel), .val (.int fil), .val (.int (sel &&& (3 : Int32))), .val (.int (((sel.toUInt32 >>> ((2 : Int32) &&& 31).toUInt32).toInt32) &&& (3 : Int32))), .val (.int (1 : Int32)), .unset, .unset, .unset, .unset, .unset, .unset] [(.int (4 : Int32)), (.int sel)]))
    refine own_on (fun t k => XS.iushr X0.here hx rfl (hb hby at_35) rfl k) ?_
    show OwnGo p e below s _ _ _ (s₁.setTop (mkF m 36 #[.val (.int vv), .val (.int sel), .val (.int fil), .val (.int (sel &&& (3 : Int32))), .val (.int (((sel.toUInt32 >>> ((2 : Int32) &&& 31).toUInt32).toInt32) &&& (3 : Int32))), .val (.int (1 : Int32)), .unset, .unset, .unset, .unset, .unset, .unset] [(.int ((sel.toUInt32 >>> ((4 : Int32) &&& 31).toUInt32).toInt32))]))
    refine own_on (fun t k => XS.iconst X0.here hx rfl (hb hby at_36) k) ?_
    show OwnGo p e below s _ _ _ (s₁.setTop (mkF m 37 #[.val (.int vv), .val (.int sel), .val (.int fil), .val (.int (sel &&& (3 : Int32))), .val (.int (((sel.toUInt32 >>> ((2 : Int32) &&& 31).toUInt32).toInt32) &&& (3 : Int32))), .val (.int (1 : Int32)), .unset, .unset, .unset, .unset, .unset, .unset] [(.int (3 : Int32)), (.int ((sel.toUInt32 >>> ((4 : Int32) &&& 31).toUInt32).toInt32))]))
    refine own_on (fun t k => XS.iand X0.here hx rfl (hb hby at_37) rfl k) ?_
    show OwnGo p e below s _ _ _ (s₁.setTop (mkF m 38 #[.val (.int vv), .val (.int sel), .val (.int fil), .val (.int (sel &&& (3 : Int32))), .val (.int (((sel.toUInt32 >>> ((2 : Int32) &&& 31).toUInt32).toInt32) &&& (3 : Int32))), .val (.int (1 : Int32)), .unset, .unset, .unset, .unset, .unset, .unset] [(.int (((sel.toUInt32 >>> ((4 : Int32) &&& 31).toUInt32).toInt32) &&& (3 : Int32)))]))
    refine own_on (fun t k => XS.istore X0.here hx rfl (hb hby at_38) rfl (l' := #[.val (.int vv), .val (.int sel), .val (.int fil), .val (.int (sel &&& (3 : Int32))), .val (.int (((sel.toUInt32 >>> ((2 : Int32) &&& 31).toUInt32).toInt32) &&& (3 : Int32))), .val (.int (1 : Int32)), .val (.int (((sel.toUInt32 >>> ((4 : Int32) &&& 31).toUInt32).toInt32) &&& (3 : Int32))), .unset, .unset, .unset, .unset, .unset]) rfl k) ?_
    show OwnGo p e below s _ _ _ (s₁.setTop (mkF m 40 #[.val (.int vv), .val (.int sel), .val (.int fil), .val (.int (sel &&& (3 : Int32))), .val (.int (((sel.toUInt32 >>> ((2 : Int32) &&& 31).toUInt32).toInt32) &&& (3 : Int32))), .val (.int (1 : Int32)), .val (.int (((sel.toUInt32 >>> ((4 : Int32) &&& 31).toUInt32).toInt32) &&& (3 : Int32))), .unset, .unset, .unset, .unset, .unset] []))
    obtain ⟨st, hst⟩ : ∃ z : Int32, z = (((sel.toUInt32 >>> ((4 : Int32) &&& 31).toUInt32).toInt32) &&& (3 : Int32)) := ⟨_, rfl⟩
    rw [show (((sel.toUInt32 >>> ((4 : Int32) &&& 31).toUInt32).toInt32) &&& (3 : Int32)) = st from hst.symm]
    show OwnGo p e below s _ _ _ (s₁.setTop (mkF m 40 #[.val (.int vv), .val (.int sel), .val (.int fil), .val (.int (sel &&& (3 : Int32))), .val (.int (((sel.toUInt32 >>> ((2 : Int32) &&& 31).toUInt32).toInt32) &&& (3 : Int32))), .val (.int (1 : Int32)), .val (.int st), .unset, .unset, .unset, .unset, .unset] []))
    obtain ⟨sN, hS0, hS⟩ := own_m3 hst
    obtain ⟨kk, hkk⟩ : ∃ z : Int32, z = (sel &&& (3 : Int32)) := ⟨_, rfl⟩
    rw [show (sel &&& (3 : Int32)) = kk from hkk.symm]
    show OwnGo p e below s _ _ _ (s₁.setTop (mkF m 40 #[.val (.int vv), .val (.int sel), .val (.int fil), .val (.int kk), .val (.int (((sel.toUInt32 >>> ((2 : Int32) &&& 31).toUInt32).toInt32) &&& (3 : Int32))), .val (.int (1 : Int32)), .val (.int st), .unset, .unset, .unset, .unset, .unset] []))
    obtain ⟨kN, hK0, hK⟩ := own_m3 hkk
    refine own_on (fun t k => XS.iloadN X0.here hx rfl (hb hby at_40) rfl k) ?_
    show OwnGo p e below s _ _ _ (s₁.setTop (mkF m 41 #[.val (.int vv), .val (.int sel), .val (.int fil), .val (.int kk), .val (.int (((sel.toUInt32 >>> ((2 : Int32) &&& 31).toUInt32).toInt32) &&& (3 : Int32))), .val (.int (1 : Int32)), .val (.int st), .unset, .unset, .unset, .unset, .unset] [(.int fil)]))
    refine own_on (fun t k => XS.i2b X0.here hx rfl (hb hby at_41) rfl k) ?_
    show OwnGo p e below s _ _ _ (s₁.setTop (mkF m 42 #[.val (.int vv), .val (.int sel), .val (.int fil), .val (.int kk), .val (.int (((sel.toUInt32 >>> ((2 : Int32) &&& 31).toUInt32).toInt32) &&& (3 : Int32))), .val (.int (1 : Int32)), .val (.int st), .unset, .unset, .unset, .unset, .unset] [(.int (fil.toInt8.toInt32))]))
    refine own_on (fun t k => XS.istore X0.here hx rfl (hb hby at_42) rfl (l' := #[.val (.int vv), .val (.int sel), .val (.int fil), .val (.int kk), .val (.int (((sel.toUInt32 >>> ((2 : Int32) &&& 31).toUInt32).toInt32) &&& (3 : Int32))), .val (.int (1 : Int32)), .val (.int st), .val (.int (fil.toInt8.toInt32)), .unset, .unset, .unset, .unset]) rfl k) ?_
    show OwnGo p e below s _ _ _ (s₁.setTop (mkF m 44 #[.val (.int vv), .val (.int sel), .val (.int fil), .val (.int kk), .val (.int (((sel.toUInt32 >>> ((2 : Int32) &&& 31).toUInt32).toInt32) &&& (3 : Int32))), .val (.int (1 : Int32)), .val (.int st), .val (.int (fil.toInt8.toInt32)), .unset, .unset, .unset, .unset] []))
    refine own_on (fun t k => XS.bipush X0.here hx rfl (hb hby at_44) k) ?_
    show OwnGo p e below s _ _ _ (s₁.setTop (mkF m 46 #[.val (.int vv), .val (.int sel), .val (.int fil), .val (.int kk), .val (.int (((sel.toUInt32 >>> ((2 : Int32) &&& 31).toUInt32).toInt32) &&& (3 : Int32))), .val (.int (1 : Int32)), .val (.int st), .val (.int (fil.toInt8.toInt32)), .unset, .unset, .unset, .unset] [(.int (24 : Int32))]))
    obtain ⟨T1, h1, k1, X1, e1, E1, A1, st1⟩ := newP (aty := .byte) X0 hx hZ (w0 hw) e0 (g := (mkF m 46 #[.val (.int vv), .val (.int sel), .val (.int fil), .val (.int kk), .val (.int (((sel.toUInt32 >>> ((2 : Int32) &&& 31).toUInt32).toInt32) &&& (3 : Int32))), .val (.int (1 : Int32)), .val (.int st), .val (.int (fil.toInt8.toInt32)), .unset, .unset, .unset, .unset] [(.int (24 : Int32))])) rfl (hb hby at_46) rfl (by decide) (cap := 24) (by decide) (by decide) (by decide) (by decide)
    obtain ⟨b1, g1⟩ : ∃ z, z = h0.size := ⟨_, rfl⟩
    rw [← g1] at A1 st1
    have g2 : n0 ≤ b1 := Nat.le_trans Z0 (Nat.le_of_eq g1.symm)
    have z3 : h0.size ≤ b1 := Nat.le_trans K0.1 (Nat.le_of_eq g1.symm)
    have V1 : OwnArf Z h1 b1 .byte 24 (fun _ => 0) := OwnArf.new A1 rfl rfl
    have Z1 : n0 ≤ h1.size := Nat.le_trans Z0 E1.1
    have K1 : Keep h0 h1 [] := K0.ext E1
    refine own_on st1 ?_
    show OwnGo p e below s _ _ _ (T1.setTop (mkF m 48 #[.val (.int vv), .val (.int sel), .val (.int fil), .val (.int kk), .val (.int (((sel.toUInt32 >>> ((2 : Int32) &&& 31).toUInt32).toInt32) &&& (3 : Int32))), .val (.int (1 : Int32)), .val (.int st), .val (.int (fil.toInt8.toInt32)), .unset, .unset, .unset, .unset] [(.ref b1)]))
    refine own_on (fun t k => XS.dup X1.here hx rfl (hb hby at_48) rfl rfl k) ?_
    show OwnGo p e below s _ _ _ (T1.setTop (mkF m 49 #[.val (.int vv), .val (.int sel), .val (.int fil), .val (.int kk), .val (.int (((sel.toUInt32 >>> ((2 : Int32) &&& 31).toUInt32).toInt32) &&& (3 : Int32))), .val (.int (1 : Int32)), .val (.int st), .val (.int (fil.toInt8.toInt32)), .unset, .unset, .unset, .unset] [(.ref b1), (.ref b1)]))
    refine own_on (fun t k => XS.iconst X1.here hx rfl (hb hby at_49) k) ?_
    show OwnGo p e below s _ _ _ (T1.setTop (mkF m 50 #[.val (.int vv), .val (.int sel), .val (.int fil), .val (.int kk), .val (.int (((sel.toUInt32 >>> ((2 : Int32) &&& 31).toUInt32).toInt32) &&& (3 : Int32))), .val (.int (1 : Int32)), .val (.int st), .val (.int (fil.toInt8.toInt32)), .unset, .unset, .unset, .unset] [(.int (0 : Int32)), (.ref b1), (.ref b1)]))
    refine own_on (fun t k => XS.iload X1.here hx rfl (hb hby at_50) rfl k) ?_
    show OwnGo p e below s _ _ _ (T1.setTop (mkF m 52 #[.val (.int vv), .val (.int sel), .val (.int fil), .val (.int kk), .val (.int (((sel.toUInt32 >>> ((2 : Int32) &&& 31).toUInt32).toInt32) &&& (3 : Int32))), .val (.int (1 : Int32)), .val (.int st), .val (.int (fil.toInt8.toInt32)), .unset, .unset, .unset, .unset] [(.int (fil.toInt8.toInt32)), (.int (0 : Int32)), (.ref b1), (.ref b1)]))
    obtain ⟨cl4, Ar4, S4, H4⟩ := id V1
    have hj4 : ¬ (0 : Int32) < 0 ∧ ((0 : Int32)).toNatClampNeg = 0 := (by decide)
    obtain ⟨T5, h5, X5, e5, W5, st5⟩ := stB X1 hx hZ e1 Ar4 (j := (0 : Int32)) (own_in S4 hj4 (by decide)) (g := (mkF m 52 #[.val (.int vv), .val (.int sel), .val (.int fil), .val (.int kk), .val (.int (((sel.toUInt32 >>> ((2 : Int32) &&& 31).toUInt32).toInt32) &&& (3 : Int32))), .val (.int (1 : Int32)), .val (.int st), .val (.int (fil.toInt8.toInt32)), .unset, .unset, .unset, .unset] [(.int (fil.toInt8.toInt32)), (.int (0 : Int32)), (.ref b1), (.ref b1)])) rfl rfl (hb hby at_52)
    have V5 : OwnArf Z h5 b1 .byte 24 (own_upd (fun _ => 0) 0 (nar .byte (fil.toInt8.toInt32))) := OwnArf.set Ar4 S4 H4 W5 hj4.2
    have V5' : OwnArf Z h5 b1 .byte 24 (own_fl 1 (nar .byte (fil.toInt8.toInt32))) := V5.congr (own_fl_0 _)
    have N5 := Fr.snoc X5 N0 g2
    have Z5 : n0 ≤ h5.size := Nat.le_trans Z1 (Keep.of_wr W5).1
    have K5 : Keep h0 h5 [] := K1.wr W5 (Or.inr z3)
    refine own_on st5 ?_
    show OwnGo p e below s _ _ _ (T5.setTop (mkF m 53 #[.val (.int vv), .val (.int sel), .val (.int fil), .val (.int kk), .val (.int (((sel.toUInt32 >>> ((2 : Int32) &&& 31).toUInt32).toInt32) &&& (3 : Int32))), .val (.int (1 : Int32)), .val (.int st), .val (.int (fil.toInt8.toInt32)), .unset, .unset, .unset, .unset] [(.ref b1)]))
    refine own_on (fun t k => XS.dup X5.here hx rfl (hb hby at_53) rfl rfl k) ?_
    show OwnGo p e below s _ _ _ (T5.setTop (mkF m 54 #[.val (.int vv), .val (.int sel), .val (.int fil), .val (.int kk), .val (.int (((sel.toUInt32 >>> ((2 : Int32) &&& 31).toUInt32).toInt32) &&& (3 : Int32))), .val (.int (1 : Int32)), .val (.int st), .val (.int (fil.toInt8.toInt32)), .unset, .unset, .unset, .unset] [(.ref b1), (.ref b1)]))
    refine own_on (fun t k => XS.iconst X5.here hx rfl (hb hby at_54) k) ?_
    show OwnGo p e below s _ _ _ (T5.setTop (mkF m 55 #[.val (.int vv), .val (.int sel), .val (.int fil), .val (.int kk), .val (.int (((sel.toUInt32 >>> ((2 : Int32) &&& 31).toUInt32).toInt32) &&& (3 : Int32))), .val (.int (1 : Int32)), .val (.int st), .val (.int (fil.toInt8.toInt32)), .unset, .unset, .unset, .unset] [(.int (1 : Int32)), (.ref b1), (.ref b1)]))
    refine own_on (fun t k => XS.iload X5.here hx rfl (hb hby at_55) rfl k) ?_
    show OwnGo p e below s _ _ _ (T5.setTop (mkF m 57 #[.val (.int vv), .val (.int sel), .val (.int fil), .val (.int kk), .val (.int (((sel.toUInt32 >>> ((2 : Int32) &&& 31).toUInt32).toInt32) &&& (3 : Int32))), .val (.int (1 : Int32)), .val (.int st), .val (.int (fil.toInt8.toInt32)), .unset, .unset, .unset, .unset] [(.int (fil.toInt8.toInt32)), (.int (1 : Int32)), (.ref b1), (.ref b1)]))
    obtain ⟨cl6, Ar6, S6, H6⟩ := id V5'
    have hj6 : ¬ (1 : Int32) < 0 ∧ ((1 : Int32)).toNatClampNeg = 1 := (by decide)
    obtain ⟨T7, h7, X7, e7, W7, st7⟩ := stB X5 hx hZ e5 Ar6 (j := (1 : Int32)) (own_in S6 hj6 (by decide)) (g := (mkF m 57 #[.val (.int vv), .val (.int sel), .val (.int fil), .val (.int kk), .val (.int (((sel.toUInt32 >>> ((2 : Int32) &&& 31).toUInt32).toInt32) &&& (3 : Int32))), .val (.int (1 : Int32)), .val (.int st), .val (.int (fil.toInt8.toInt32)), .unset, .unset, .unset, .unset] [(.int (fil.toInt8.toInt32)), (.int (1 : Int32)), (.ref b1), (.ref b1)])) rfl rfl (hb hby at_57)
    have V7 : OwnArf Z h7 b1 .byte 24 (own_upd (own_fl 1 (nar .byte (fil.toInt8.toInt32))) 1 (nar .byte (fil.toInt8.toInt32))) := OwnArf.set Ar6 S6 H6 W7 hj6.2
    have V7' : OwnArf Z h7 b1 .byte 24 (own_fl 2 (nar .byte (fil.toInt8.toInt32))) := V7.congr (own_fl_up 1 _)
    have N7 := Fr.snoc X7 N5 g2
    have Z7 : n0 ≤ h7.size := Nat.le_trans Z5 (Keep.of_wr W7).1
    have K7 : Keep h0 h7 [] := K5.wr W7 (Or.inr z3)
    refine own_on st7 ?_
    show OwnGo p e below s _ _ _ (T7.setTop (mkF m 58 #[.val (.int vv), .val (.int sel), .val (.int fil), .val (.int kk), .val (.int (((sel.toUInt32 >>> ((2 : Int32) &&& 31).toUInt32).toInt32) &&& (3 : Int32))), .val (.int (1 : Int32)), .val (.int st), .val (.int (fil.toInt8.toInt32)), .unset, .unset, .unset, .unset] [(.ref b1)]))
    refine own_on (fun t k => XS.dup X7.here hx rfl (hb hby at_58) rfl rfl k) ?_
    show OwnGo p e below s _ _ _ (T7.setTop (mkF m 59 #[.val (.int vv), .val (.int sel), .val (.int fil), .val (.int kk), .val (.int (((sel.toUInt32 >>> ((2 : Int32) &&& 31).toUInt32).toInt32) &&& (3 : Int32))), .val (.int (1 : Int32)), .val (.int st), .val (.int (fil.toInt8.toInt32)), .unset, .unset, .unset, .unset] [(.ref b1), (.ref b1)]))
    refine own_on (fun t k => XS.iconst X7.here hx rfl (hb hby at_59) k) ?_
    show OwnGo p e below s _ _ _ (T7.setTop (mkF m 60 #[.val (.int vv), .val (.int sel), .val (.int fil), .val (.int kk), .val (.int (((sel.toUInt32 >>> ((2 : Int32) &&& 31).toUInt32).toInt32) &&& (3 : Int32))), .val (.int (1 : Int32)), .val (.int st), .val (.int (fil.toInt8.toInt32)), .unset, .unset, .unset, .unset] [(.int (2 : Int32)), (.ref b1), (.ref b1)]))
    refine own_on (fun t k => XS.iload X7.here hx rfl (hb hby at_60) rfl k) ?_
    show OwnGo p e below s _ _ _ (T7.setTop (mkF m 62 #[.val (.int vv), .val (.int sel), .val (.int fil), .val (.int kk), .val (.int (((sel.toUInt32 >>> ((2 : Int32) &&& 31).toUInt32).toInt32) &&& (3 : Int32))), .val (.int (1 : Int32)), .val (.int st), .val (.int (fil.toInt8.toInt32)), .unset, .unset, .unset, .unset] [(.int (fil.toInt8.toInt32)), (.int (2 : Int32)), (.ref b1), (.ref b1)]))
    obtain ⟨cl8, Ar8, S8, H8⟩ := id V7'
    have hj8 : ¬ (2 : Int32) < 0 ∧ ((2 : Int32)).toNatClampNeg = 2 := (by decide)
    obtain ⟨T9, h9, X9, e9, W9, st9⟩ := stB X7 hx hZ e7 Ar8 (j := (2 : Int32)) (own_in S8 hj8 (by decide)) (g := (mkF m 62 #[.val (.int vv), .val (.int sel), .val (.int fil), .val (.int kk), .val (.int (((sel.toUInt32 >>> ((2 : Int32) &&& 31).toUInt32).toInt32) &&& (3 : Int32))), .val (.int (1 : Int32)), .val (.int st), .val (.int (fil.toInt8.toInt32)), .unset, .unset, .unset, .unset] [(.int (fil.toInt8.toInt32)), (.int (2 : Int32)), (.ref b1), (.ref b1)])) rfl rfl (hb hby at_62)
    have V9 : OwnArf Z h9 b1 .byte 24 (own_upd (own_fl 2 (nar .byte (fil.toInt8.toInt32))) 2 (nar .byte (fil.toInt8.toInt32))) := OwnArf.set Ar8 S8 H8 W9 hj8.2
    have V9' : OwnArf Z h9 b1 .byte 24 (own_fl 3 (nar .byte (fil.toInt8.toInt32))) := V9.congr (own_fl_up 2 _)
    have N9 := Fr.snoc X9 N7 g2
    have Z9 : n0 ≤ h9.size := Nat.le_trans Z7 (Keep.of_wr W9).1
    have K9 : Keep h0 h9 [] := K7.wr W9 (Or.inr z3)
    refine own_on st9 ?_
    show OwnGo p e below s _ _ _ (T9.setTop (mkF m 63 #[.val (.int vv), .val (.int sel), .val (.int fil), .val (.int kk), .val (.int (((sel.toUInt32 >>> ((2 : Int32) &&& 31).toUInt32).toInt32) &&& (3 : Int32))), .val (.int (1 : Int32)), .val (.int st), .val (.int (fil.toInt8.toInt32)), .unset, .unset, .unset, .unset] [(.ref b1)]))
    refine own_on (fun t k => XS.dup X9.here hx rfl (hb hby at_63) rfl rfl k) ?_
    show OwnGo p e below s _ _ _ (T9.setTop (mkF m 64 #[.val (.int vv), .val (.int sel), .val (.int fil), .val (.int kk), .val (.int (((sel.toUInt32 >>> ((2 : Int32) &&& 31).toUInt32).toInt32) &&& (3 : Int32))), .val (.int (1 : Int32)), .val (.int st), .val (.int (fil.toInt8.toInt32)), .unset, .unset, .unset, .unset] [(.ref b1), (.ref b1)]))
    refine own_on (fun t k => XS.iconst X9.here hx rfl (hb hby at_64) k) ?_
    show OwnGo p e below s _ _ _ (T9.setTop (mkF m 65 #[.val (.int vv), .val (.int sel), .val (.int fil), .val (.int kk), .val (.int (((sel.toUInt32 >>> ((2 : Int32) &&& 31).toUInt32).toInt32) &&& (3 : Int32))), .val (.int (1 : Int32)), .val (.int st), .val (.int (fil.toInt8.toInt32)), .unset, .unset, .unset, .unset] [(.int (3 : Int32)), (.ref b1), (.ref b1)]))
    refine own_on (fun t k => XS.iload X9.here hx rfl (hb hby at_65) rfl k) ?_
    show OwnGo p e below s _ _ _ (T9.setTop (mkF m 67 #[.val (.int vv), .val (.int sel), .val (.int fil), .val (.int kk), .val (.int (((sel.toUInt32 >>> ((2 : Int32) &&& 31).toUInt32).toInt32) &&& (3 : Int32))), .val (.int (1 : Int32)), .val (.int st), .val (.int (fil.toInt8.toInt32)), .unset, .unset, .unset, .unset] [(.int (fil.toInt8.toInt32)), (.int (3 : Int32)), (.ref b1), (.ref b1)]))
    obtain ⟨cl10, Ar10, S10, H10⟩ := id V9'
    have hj10 : ¬ (3 : Int32) < 0 ∧ ((3 : Int32)).toNatClampNeg = 3 := (by decide)
    obtain ⟨T11, h11, X11, e11, W11, st11⟩ := stB X9 hx hZ e9 Ar10 (j := (3 : Int32)) (own_in S10 hj10 (by decide)) (g := (mkF m 67 #[.val (.int vv), .val (.int sel), .val (.int fil), .val (.int kk), .val (.int (((sel.toUInt32 >>> ((2 : Int32) &&& 31).toUInt32).toInt32) &&& (3 : Int32))), .val (.int (1 : Int32)), .val (.int st), .val (.int (fil.toInt8.toInt32)), .unset, .unset, .unset, .unset] [(.int (fil.toInt8.toInt32)), (.int (3 : Int32)), (.ref b1), (.ref b1)])) rfl rfl (hb hby at_67)
    have V11 : OwnArf Z h11 b1 .byte 24 (own_upd (own_fl 3 (nar .byte (fil.toInt8.toInt32))) 3 (nar .byte (fil.toInt8.toInt32))) := OwnArf.set Ar10 S10 H10 W11 hj10.2
    have V11' : OwnArf Z h11 b1 .byte 24 (own_fl 4 (nar .byte (fil.toInt8.toInt32))) := V11.congr (own_fl_up 3 _)
    have N11 := Fr.snoc X11 N9 g2
    have Z11 : n0 ≤ h11.size := Nat.le_trans Z9 (Keep.of_wr W11).1
    have K11 : Keep h0 h11 [] := K9.wr W11 (Or.inr z3)
    refine own_on st11 ?_
    show OwnGo p e below s _ _ _ (T11.setTop (mkF m 68 #[.val (.int vv), .val (.int sel), .val (.int fil), .val (.int kk), .val (.int (((sel.toUInt32 >>> ((2 : Int32) &&& 31).toUInt32).toInt32) &&& (3 : Int32))), .val (.int (1 : Int32)), .val (.int st), .val (.int (fil.toInt8.toInt32)), .unset, .unset, .unset, .unset] [(.ref b1)]))
    refine own_on (fun t k => XS.dup X11.here hx rfl (hb hby at_68) rfl rfl k) ?_
    show OwnGo p e below s _ _ _ (T11.setTop (mkF m 69 #[.val (.int vv), .val (.int sel), .val (.int fil), .val (.int kk), .val (.int (((sel.toUInt32 >>> ((2 : Int32) &&& 31).toUInt32).toInt32) &&& (3 : Int32))), .val (.int (1 : Int32)), .val (.int st), .val (.int (fil.toInt8.toInt32)), .unset, .unset, .unset, .unset] [(.ref b1), (.ref b1)]))
    refine own_on (fun t k => XS.iconst X11.here hx rfl (hb hby at_69) k) ?_
    show OwnGo p e below s _ _ _ (T11.setTop (mkF m 70 #[.val (.int vv), .val (.int sel), .val (.int fil), .val (.int kk), .val (.int (((sel.toUInt32 >>> ((2 : Int32) &&& 31).toUInt32).toInt32) &&& (3 : Int32))), .val (.int (1 : Int32)), .val (.int st), .val (.int (fil.toInt8.toInt32)), .unset, .unset, .unset, .unset] [(.int (4 : Int32)), (.ref b1), (.ref b1)]))
    refine own_on (fun t k => XS.iload X11.here hx rfl (hb hby at_70) rfl k) ?_
    show OwnGo p e below s _ _ _ (T11.setTop (mkF m 72 #[.val (.int vv), .val (.int sel), .val (.int fil), .val (.int kk), .val (.int (((sel.toUInt32 >>> ((2 : Int32) &&& 31).toUInt32).toInt32) &&& (3 : Int32))), .val (.int (1 : Int32)), .val (.int st), .val (.int (fil.toInt8.toInt32)), .unset, .unset, .unset, .unset] [(.int (fil.toInt8.toInt32)), (.int (4 : Int32)), (.ref b1), (.ref b1)]))
    obtain ⟨cl12, Ar12, S12, H12⟩ := id V11'
    have hj12 : ¬ (4 : Int32) < 0 ∧ ((4 : Int32)).toNatClampNeg = 4 := (by decide)
    obtain ⟨T13, h13, X13, e13, W13, st13⟩ := stB X11 hx hZ e11 Ar12 (j := (4 : Int32)) (own_in S12 hj12 (by decide)) (g := (mkF m 72 #[.val (.int vv), .val (.int sel), .val (.int fil), .val (.int kk), .val (.int (((sel.toUInt32 >>> ((2 : Int32) &&& 31).toUInt32).toInt32) &&& (3 : Int32))), .val (.int (1 : Int32)), .val (.int st), .val (.int (fil.toInt8.toInt32)), .unset, .unset, .unset, .unset] [(.int (fil.toInt8.toInt32)), (.int (4 : Int32)), (.ref b1), (.ref b1)])) rfl rfl (hb hby at_72)
    have V13 : OwnArf Z h13 b1 .byte 24 (own_upd (own_fl 4 (nar .byte (fil.toInt8.toInt32))) 4 (nar .byte (fil.toInt8.toInt32))) := OwnArf.set Ar12 S12 H12 W13 hj12.2
    have V13' : OwnArf Z h13 b1 .byte 24 (own_fl 5 (nar .byte (fil.toInt8.toInt32))) := V13.congr (own_fl_up 4 _)
    have N13 := Fr.snoc X13 N11 g2
    have Z13 : n0 ≤ h13.size := Nat.le_trans Z11 (Keep.of_wr W13).1
    have K13 : Keep h0 h13 [] := K11.wr W13 (Or.inr z3)
    refine own_on st13 ?_
    show OwnGo p e below s _ _ _ (T13.setTop (mkF m 73 #[.val (.int vv), .val (.int sel), .val (.int fil), .val (.int kk), .val (.int (((sel.toUInt32 >>> ((2 : Int32) &&& 31).toUInt32).toInt32) &&& (3 : Int32))), .val (.int (1 : Int32)), .val (.int st), .val (.int (fil.toInt8.toInt32)), .unset, .unset, .unset, .unset] [(.ref b1)]))
    refine own_on (fun t k => XS.dup X13.here hx rfl (hb hby at_73) rfl rfl k) ?_
    show OwnGo p e below s _ _ _ (T13.setTop (mkF m 74 #[.val (.int vv), .val (.int sel), .val (.int fil), .val (.int kk), .val (.int (((sel.toUInt32 >>> ((2 : Int32) &&& 31).toUInt32).toInt32) &&& (3 : Int32))), .val (.int (1 : Int32)), .val (.int st), .val (.int (fil.toInt8.toInt32)), .unset, .unset, .unset, .unset] [(.ref b1), (.ref b1)]))
    refine own_on (fun t k => XS.iconst X13.here hx rfl (hb hby at_74) k) ?_
    show OwnGo p e below s _ _ _ (T13.setTop (mkF m 75 #[.val (.int vv), .val (.int sel), .val (.int fil), .val (.int kk), .val (.int (((sel.toUInt32 >>> ((2 : Int32) &&& 31).toUInt32).toInt32) &&& (3 : Int32))), .val (.int (1 : Int32)), .val (.int st), .val (.int (fil.toInt8.toInt32)), .unset, .unset, .unset, .unset] [(.int (5 : Int32)), (.ref b1), (.ref b1)]))
    refine own_on (fun t k => XS.iload X13.here hx rfl (hb hby at_75) rfl k) ?_
    show OwnGo p e below s _ _ _ (T13.setTop (mkF m 77 #[.val (.int vv), .val (.int sel), .val (.int fil), .val (.int kk), .val (.int (((sel.toUInt32 >>> ((2 : Int32) &&& 31).toUInt32).toInt32) &&& (3 : Int32))), .val (.int (1 : Int32)), .val (.int st), .val (.int (fil.toInt8.toInt32)), .unset, .unset, .unset, .unset] [(.int (fil.toInt8.toInt32)), (.int (5 : Int32)), (.ref b1), (.ref b1)]))
    obtain ⟨cl14, Ar14, S14, H14⟩ := id V13'
    have hj14 : ¬ (5 : Int32) < 0 ∧ ((5 : Int32)).toNatClampNeg = 5 := (by decide)
    obtain ⟨T15, h15, X15, e15, W15, st15⟩ := stB X13 hx hZ e13 Ar14 (j := (5 : Int32)) (own_in S14 hj14 (by decide)) (g := (mkF m 77 #[.val (.int vv), .val (.int sel), .val (.int fil), .val (.int kk), .val (.int (((sel.toUInt32 >>> ((2 : Int32) &&& 31).toUInt32).toInt32) &&& (3 : Int32))), .val (.int (1 : Int32)), .val (.int st), .val (.int (fil.toInt8.toInt32)), .unset, .unset, .unset, .unset] [(.int (fil.toInt8.toInt32)), (.int (5 : Int32)), (.ref b1), (.ref b1)])) rfl rfl (hb hby at_77)
    have V15 : OwnArf Z h15 b1 .byte 24 (own_upd (own_fl 5 (nar .byte (fil.toInt8.toInt32))) 5 (nar .byte (fil.toInt8.toInt32))) := OwnArf.set Ar14 S14 H14 W15 hj14.2
    have V15' : OwnArf Z h15 b1 .byte 24 (own_fl 6 (nar .byte (fil.toInt8.toInt32))) := V15.congr (own_fl_up 5 _)
    have N15 := Fr.snoc X15 N13 g2
    have Z15 : n0 ≤ h15.size := Nat.le_trans Z13 (Keep.of_wr W15).1
    have K15 : Keep h0 h15 [] := K13.wr W15 (Or.inr z3)
    refine own_on st15 ?_
    show OwnGo p e below s _ _ _ (T15.setTop (mkF m 78 #[.val (.int vv), .val (.int sel), .val (.int fil), .val (.int kk), .val (.int (((sel.toUInt32 >>> ((2 : Int32) &&& 31).toUInt32).toInt32) &&& (3 : Int32))), .val (.int (1 : Int32)), .val (.int st), .val (.int (fil.toInt8.toInt32)), .unset, .unset, .unset, .unset] [(.ref b1)]))
    refine own_on (fun t k => XS.dup X15.here hx rfl (hb hby at_78) rfl rfl k) ?_
    show OwnGo p e below s _ _ _ (T15.setTop (mkF m 79 #[.val (.int vv), .val (.int sel), .val (.int fil), .val (.int kk), .val (.int (((sel.toUInt32 >>> ((2 : Int32) &&& 31).toUInt32).toInt32) &&& (3 : Int32))), .val (.int (1 : Int32)), .val (.int st), .val (.int (fil.toInt8.toInt32)), .unset, .unset, .unset, .unset] [(.ref b1), (.ref b1)]))
    refine own_on (fun t k => XS.bipush X15.here hx rfl (hb hby at_79) k) ?_
    show OwnGo p e below s _ _ _ (T15.setTop (mkF m 81 #[.val (.int vv), .val (.int sel), .val (.int fil), .val (.int kk), .val (.int (((sel.toUInt32 >>> ((2 : Int32) &&& 31).toUInt32).toInt32) &&& (3 : Int32))), .val (.int (1 : Int32)), .val (.int st), .val (.int (fil.toInt8.toInt32)), .unset, .unset, .unset, .unset] [(.int (6 : Int32)), (.ref b1), (.ref b1)]))
    refine own_on (fun t k => XS.iload X15.here hx rfl (hb hby at_81) rfl k) ?_
    show OwnGo p e below s _ _ _ (T15.setTop (mkF m 83 #[.val (.int vv), .val (.int sel), .val (.int fil), .val (.int kk), .val (.int (((sel.toUInt32 >>> ((2 : Int32) &&& 31).toUInt32).toInt32) &&& (3 : Int32))), .val (.int (1 : Int32)), .val (.int st), .val (.int (fil.toInt8.toInt32)), .unset, .unset, .unset, .unset] [(.int (fil.toInt8.toInt32)), (.int (6 : Int32)), (.ref b1), (.ref b1)]))
    obtain ⟨cl16, Ar16, S16, H16⟩ := id V15'
    have hj16 : ¬ (6 : Int32) < 0 ∧ ((6 : Int32)).toNatClampNeg = 6 := (by decide)
    obtain ⟨T17, h17, X17, e17, W17, st17⟩ := stB X15 hx hZ e15 Ar16 (j := (6 : Int32)) (own_in S16 hj16 (by decide)) (g := (mkF m 83 #[.val (.int vv), .val (.int sel), .val (.int fil), .val (.int kk), .val (.int (((sel.toUInt32 >>> ((2 : Int32) &&& 31).toUInt32).toInt32) &&& (3 : Int32))), .val (.int (1 : Int32)), .val (.int st), .val (.int (fil.toInt8.toInt32)), .unset, .unset, .unset, .unset] [(.int (fil.toInt8.toInt32)), (.int (6 : Int32)), (.ref b1), (.ref b1)])) rfl rfl (hb hby at_83)
    have V17 : OwnArf Z h17 b1 .byte 24 (own_upd (own_fl 6 (nar .byte (fil.toInt8.toInt32))) 6 (nar .byte (fil.toInt8.toInt32))) := OwnArf.set Ar16 S16 H16 W17 hj16.2
    have V17' : OwnArf Z h17 b1 .byte 24 (own_fl 7 (nar .byte (fil.toInt8.toInt32))) := V17.congr (own_fl_up 6 _)
    have N17 := Fr.snoc X17 N15 g2
    have Z17 : n0 ≤ h17.size := Nat.le_trans Z15 (Keep.of_wr W17).1
    have K17 : Keep h0 h17 [] := K15.wr W17 (Or.inr z3)
    refine own_on st17 ?_
    show OwnGo p e below s _ _ _ (T17.setTop (mkF m 84 #[.val (.int vv), .val (.int sel), .val (.int fil), .val (.int kk), .val (.int (((sel.toUInt32 >>> ((2 : Int32) &&& 31).toUInt32).toInt32) &&& (3 : Int32))), .val (.int (1 : Int32)), .val (.int st), .val (.int (fil.toInt8.toInt32)), .unset, .unset, .unset, .unset] [(.ref b1)]))
    refine own_on (fun t k => XS.dup X17.here hx rfl (hb hby at_84) rfl rfl k) ?_
    show OwnGo p e below s _ _ _ (T17.setTop (mkF m 85 #[.val (.int vv), .val (.int sel), .val (.int fil), .val (.int kk), .val (.int (((sel.toUInt32 >>> ((2 : Int32) &&& 31).toUInt32).toInt32) &&& (3 : Int32))), .val (.int (1 : Int32)), .val (.int st), .val (.int (fil.toInt8.toInt32)), .unset, .unset, .unset, .unset] [(.ref b1), (.ref b1)]))
    refine own_on (fun t k => XS.bipush X17.here hx rfl (hb hby at_85) k) ?_
    show OwnGo p e below s _ _ _ (T17.setTop (mkF m 87 #[.val (.int vv), .val (.int sel), .val (.int fil), .val (.int kk), .val (.int (((sel.toUInt32 >>> ((2 : Int32) &&& 31).toUInt32).toInt32) &&& (3 : Int32))), .val (.int (1 : Int32)), .val (.int st), .val (.int (fil.toInt8.toInt32)), .unset, .unset, .unset, .unset] [(.int (7 : Int32)), (.ref b1), (.ref b1)]))
    refine own_on (fun t k => XS.iload X17.here hx rfl (hb hby at_87) rfl k) ?_
    show OwnGo p e below s _ _ _ (T17.setTop (mkF m 89 #[.val (.int vv), .val (.int sel), .val (.int fil), .val (.int kk), .val (.int (((sel.toUInt32 >>> ((2 : Int32) &&& 31).toUInt32).toInt32) &&& (3 : Int32))), .val (.int (1 : Int32)), .val (.int st), .val (.int (fil.toInt8.toInt32)), .unset, .unset, .unset, .unset] [(.int (fil.toInt8.toInt32)), (.int (7 : Int32)), (.ref b1), (.ref b1)]))
    obtain ⟨cl18, Ar18, S18, H18⟩ := id V17'
    have hj18 : ¬ (7 : Int32) < 0 ∧ ((7 : Int32)).toNatClampNeg = 7 := (by decide)
    obtain ⟨T19, h19, X19, e19, W19, st19⟩ := stB X17 hx hZ e17 Ar18 (j := (7 : Int32)) (own_in S18 hj18 (by decide)) (g := (mkF m 89 #[.val (.int vv), .val (.int sel), .val (.int fil), .val (.int kk), .val (.int (((sel.toUInt32 >>> ((2 : Int32) &&& 31).toUInt32).toInt32) &&& (3 : Int32))), .val (.int (1 : Int32)), .val (.int st), .val (.int (fil.toInt8.toInt32)), .unset, .unset, .unset, .unset] [(.int (fil.toInt8.toInt32)), (.int (7 : Int32)), (.ref b1), (.ref b1)])) rfl rfl (hb hby at_89)
    have V19 : OwnArf Z h19 b1 .byte 24 (own_upd (own_fl 7 (nar .byte (fil.toInt8.toInt32))) 7 (nar .byte (fil.toInt8.toInt32))) := OwnArf.set Ar18 S18 H18 W19 hj18.2
    have V19' : OwnArf Z h19 b1 .byte 24 (own_fl 8 (nar .byte (fil.toInt8.toInt32))) := V19.congr (own_fl_up 7 _)
    have N19 := Fr.snoc X19 N17 g2
    have Z19 : n0 ≤ h19.size := Nat.le_trans Z17 (Keep.of_wr W19).1
    have K19 : Keep h0 h19 [] := K17.wr W19 (Or.inr z3)
    refine own_on st19 ?_
    show OwnGo p e below s _ _ _ (T19.setTop (mkF m 90 #[.val (.int vv), .val (.int sel), .val (.int fil), .val (.int kk), .val (.int (((sel.toUInt32 >>> ((2 : Int32) &&& 31).toUInt32).toInt32) &&& (3 : Int32))), .val (.int (1 : Int32)), .val (.int st), .val (.int (fil.toInt8.toInt32)), .unset, .unset, .unset, .unset] [(.ref b1)]))
    refine own_on (fun t k => XS.dup X19.here hx rfl (hb hby at_90) rfl rfl k) ?_
    show OwnGo p e below s _ _ _ (T19.setTop (mkF m 91 #[.val (.int vv), .val (.int sel), .val (.int fil), .val (.int kk), .val (.int (((sel.toUInt32 >>> ((2 : Int32) &&& 31).toUInt32).toInt32) &&& (3 : Int32))), .val (.int (1 : Int32)), .val (.int st), .val (.int (fil.toInt8.toInt32)), .unset, .unset, .unset, .unset] [(.ref b1), (.ref b1)]))
    refine own_on (fun t k => XS.bipush X19.here hx rfl (hb hby at_91) k) ?_
    show OwnGo p e below s _ _ _ (T19.setTop (mkF m 93 #[.val (.int vv), .val (.int sel), .val (.int fil), .val (.int kk), .val (.int (((sel.toUInt32 >>> ((2 : Int32) &&& 31).toUInt32).toInt32) &&& (3 : Int32))), .val (.int (1 : Int32)), .val (.int st), .val (.int (fil.toInt8.toInt32)), .unset, .unset, .unset, .unset] [(.int (8 : Int32)), (.ref b1), (.ref b1)]))
    refine own_on (fun t k => XS.iload X19.here hx rfl (hb hby at_93) rfl k) ?_
    show OwnGo p e below s _ _ _ (T19.setTop (mkF m 95 #[.val (.int vv), .val (.int sel), .val (.int fil), .val (.int kk), .val (.int (((sel.toUInt32 >>> ((2 : Int32) &&& 31).toUInt32).toInt32) &&& (3 : Int32))), .val (.int (1 : Int32)), .val (.int st), .val (.int (fil.toInt8.toInt32)), .unset, .unset, .unset, .unset] [(.int (fil.toInt8.toInt32)), (.int (8 : Int32)), (.ref b1), (.ref b1)]))
    obtain ⟨cl20, Ar20, S20, H20⟩ := id V19'
    have hj20 : ¬ (8 : Int32) < 0 ∧ ((8 : Int32)).toNatClampNeg = 8 := (by decide)
    obtain ⟨T21, h21, X21, e21, W21, st21⟩ := stB X19 hx hZ e19 Ar20 (j := (8 : Int32)) (own_in S20 hj20 (by decide)) (g := (mkF m 95 #[.val (.int vv), .val (.int sel), .val (.int fil), .val (.int kk), .val (.int (((sel.toUInt32 >>> ((2 : Int32) &&& 31).toUInt32).toInt32) &&& (3 : Int32))), .val (.int (1 : Int32)), .val (.int st), .val (.int (fil.toInt8.toInt32)), .unset, .unset, .unset, .unset] [(.int (fil.toInt8.toInt32)), (.int (8 : Int32)), (.ref b1), (.ref b1)])) rfl rfl (hb hby at_95)
    have V21 : OwnArf Z h21 b1 .byte 24 (own_upd (own_fl 8 (nar .byte (fil.toInt8.toInt32))) 8 (nar .byte (fil.toInt8.toInt32))) := OwnArf.set Ar20 S20 H20 W21 hj20.2
    have V21' : OwnArf Z h21 b1 .byte 24 (own_fl 9 (nar .byte (fil.toInt8.toInt32))) := V21.congr (own_fl_up 8 _)
    have N21 := Fr.snoc X21 N19 g2
    have Z21 : n0 ≤ h21.size := Nat.le_trans Z19 (Keep.of_wr W21).1
    have K21 : Keep h0 h21 [] := K19.wr W21 (Or.inr z3)
    refine own_on st21 ?_
    show OwnGo p e below s _ _ _ (T21.setTop (mkF m 96 #[.val (.int vv), .val (.int sel), .val (.int fil), .val (.int kk), .val (.int (((sel.toUInt32 >>> ((2 : Int32) &&& 31).toUInt32).toInt32) &&& (3 : Int32))), .val (.int (1 : Int32)), .val (.int st), .val (.int (fil.toInt8.toInt32)), .unset, .unset, .unset, .unset] [(.ref b1)]))
    refine own_on (fun t k => XS.dup X21.here hx rfl (hb hby at_96) rfl rfl k) ?_
    show OwnGo p e below s _ _ _ (T21.setTop (mkF m 97 #[.val (.int vv), .val (.int sel), .val (.int fil), .val (.int kk), .val (.int (((sel.toUInt32 >>> ((2 : Int32) &&& 31).toUInt32).toInt32) &&& (3 : Int32))), .val (.int (1 : Int32)), .val (.int st), .val (.int (fil.toInt8.toInt32)), .unset, .unset, .unset, .unset] [(.ref b1), (.ref b1)]))
    refine own_on (fun t k => XS.bipush X21.here hx rfl (hb hby at_97) k) ?_
    show OwnGo p e below s _ _ _ (T21.setTop (mkF m 99 #[.val (.int vv), .val (.int sel), .val (.int fil), .val (.int kk), .val (.int (((sel.toUInt32 >>> ((2 : Int32) &&& 31).toUInt32).toInt32) &&& (3 : Int32))), .val (.int (1 : Int32)), .val (.int st), .val (.int (fil.toInt8.toInt32)), .unset, .unset, .unset, .unset] [(.int (9 : Int32)), (.ref b1), (.ref b1)]))
    refine own_on (fun t k => XS.iload X21.here hx rfl (hb hby at_99) rfl k) ?_
    show OwnGo p e below s _ _ _ (T21.setTop (mkF m 101 #[.val (.int vv), .val (.int sel), .val (.int fil), .val (.int kk), .val (.int (((sel.toUInt32 >>> ((2 : Int32) &&& 31).toUInt32).toInt32) &&& (3 : Int32))), .val (.int (1 : Int32)), .val (.int st), .val (.int (fil.toInt8.toInt32)), .unset, .unset, .unset, .unset] [(.int (fil.toInt8.toInt32)), (.int (9 : Int32)), (.ref b1), (.ref b1)]))
    obtain ⟨cl22, Ar22, S22, H22⟩ := id V21'
    have hj22 : ¬ (9 : Int32) < 0 ∧ ((9 : Int32)).toNatClampNeg = 9 := (by decide)
    obtain ⟨T23, h23, X23, e23, W23, st23⟩ := stB X21 hx hZ e21 Ar22 (j := (9 : Int32)) (own_in S22 hj22 (by decide)) (g := (mkF m 101 #[.val (.int vv), .val (.int sel), .val (.int fil), .val (.int kk), .val (.int (((sel.toUInt32 >>> ((2 : Int32) &&& 31).toUInt32).toInt32) &&& (3 : Int32))), .val (.int (1 : Int32)), .val (.int st), .val (.int (fil.toInt8.toInt32)), .unset, .unset, .unset, .unset] [(.int (fil.toInt8.toInt32)), (.int (9 : Int32)), (.ref b1), (.ref b1)])) rfl rfl (hb hby at_101)
    have V23 : OwnArf Z h23 b1 .byte 24 (own_upd (own_fl 9 (nar .byte (fil.toInt8.toInt32))) 9 (nar .byte (fil.toInt8.toInt32))) := OwnArf.set Ar22 S22 H22 W23 hj22.2
    have V23' : OwnArf Z h23 b1 .byte 24 (own_fl 10 (nar .byte (fil.toInt8.toInt32))) := V23.congr (own_fl_up 9 _)
    have N23 := Fr.snoc X23 N21 g2
    have Z23 : n0 ≤ h23.size := Nat.le_trans Z21 (Keep.of_wr W23).1
    have K23 : Keep h0 h23 [] := K21.wr W23 (Or.inr z3)
    refine own_on st23 ?_
    show OwnGo p e below s _ _ _ (T23.setTop (mkF m 102 #[.val (.int vv), .val (.int sel), .val (.int fil), .val (.int kk), .val (.int (((sel.toUInt32 >>> ((2 : Int32) &&& 31).toUInt32).toInt32) &&& (3 : Int32))), .val (.int (1 : Int32)), .val (.int st), .val (.int (fil.toInt8.toInt32)), .unset, .unset, .unset, .unset] [(.ref b1)]))
    refine own_on (fun t k => XS.dup X23.here hx rfl (hb hby at_102) rfl rfl k) ?_
    show OwnGo p e below s _ _ _ (T23.setTop (mkF m 103 #[.val (.int vv), .val (.int sel), .val (.int fil), .val (.int kk), .val (.int (((sel.toUInt32 >>> ((2 : Int32) &&& 31).toUInt32).toInt32) &&& (3 : Int32))), .val (.int (1 : Int32)), .val (.int st), .val (.int (fil.toInt8.toInt32)), .unset, .unset, .unset, .unset] [(.ref b1), (.ref b1)]))
    refine own_on (fun t k => XS.bipush X23.here hx rfl (hb hby at_103) k) ?_
    show OwnGo p e below s _ _ _ (T23.setTop (mkF m 105 #[.val (.int vv), .val (.int sel), .val (.int fil), .val (.int kk), .val (.int (((sel.toUInt32 >>> ((2 : Int32) &&& 31).toUInt32).toInt32) &&& (3 : Int32))), .val (.int (1 : Int32)), .val (.int st), .val (.int (fil.toInt8.toInt32)), .unset, .unset, .unset, .unset] [(.int (10 : Int32)), (.ref b1), (.ref b1)]))
    refine own_on (fun t k => XS.iload X23.here hx rfl (hb hby at_105) rfl k) ?_
    show OwnGo p e below s _ _ _ (T23.setTop (mkF m 107 #[.val (.int vv), .val (.int sel), .val (.int fil), .val (.int kk), .val (.int (((sel.toUInt32 >>> ((2 : Int32) &&& 31).toUInt32).toInt32) &&& (3 : Int32))), .val (.int (1 : Int32)), .val (.int st), .val (.int (fil.toInt8.toInt32)), .unset, .unset, .unset, .unset] [(.int (fil.toInt8.toInt32)), (.int (10 : Int32)), (.ref b1), (.ref b1)]))
    obtain ⟨cl24, Ar24, S24, H24⟩ := id V23'
    have hj24 : ¬ (10 : Int32) < 0 ∧ ((10 : Int32)).toNatClampNeg = 10 := (by decide)
    obtain ⟨T25, h25, X25, e25, W25, st25⟩ := stB X23 hx hZ e23 Ar24 (j := (10 : Int32)) (own_in S24 hj24 (by decide)) (g := (mkF m 107 #[.val (.int vv), .val (.int sel), .val (.int fil), .val (.int kk), .val (.int (((sel.toUInt32 >>> ((2 : Int32) &&& 31).toUInt32).toInt32) &&& (3 : Int32))), .val (.int (1 : Int32)), .val (.int st), .val (.int (fil.toInt8.toInt32)), .unset, .unset, .unset, .unset] [(.int (fil.toInt8.toInt32)), (.int (10 : Int32)), (.ref b1), (.ref b1)])) rfl rfl (hb hby at_107)
    have V25 : OwnArf Z h25 b1 .byte 24 (own_upd (own_fl 10 (nar .byte (fil.toInt8.toInt32))) 10 (nar .byte (fil.toInt8.toInt32))) := OwnArf.set Ar24 S24 H24 W25 hj24.2
    have V25' : OwnArf Z h25 b1 .byte 24 (own_fl 11 (nar .byte (fil.toInt8.toInt32))) := V25.congr (own_fl_up 10 _)
    have N25 := Fr.snoc X25 N23 g2
    have Z25 : n0 ≤ h25.size := Nat.le_trans Z23 (Keep.of_wr W25).1
    have K25 : Keep h0 h25 [] := K23.wr W25 (Or.inr z3)
    refine own_on st25 ?_
    show OwnGo p e below s _ _ _ (T25.setTop (mkF m 108 #[.val (.int vv), .val (.int sel), .val (.int fil), .val (.int kk), .val (.int (((sel.toUInt32 >>> ((2 : Int32) &&& 31).toUInt32).toInt32) &&& (3 : Int32))), .val (.int (1 : Int32)), .val (.int st), .val (.int (fil.toInt8.toInt32)), .unset, .unset, .unset, .unset] [(.ref b1)]))
    refine own_on (fun t k => XS.dup X25.here hx rfl (hb hby at_108) rfl rfl k) ?_
    show OwnGo p e below s _ _ _ (T25.setTop (mkF m 109 #[.val (.int vv), .val (.int sel), .val (.int fil), .val (.int kk), .val (.int (((sel.toUInt32 >>> ((2 : Int32) &&& 31).toUInt32).toInt32) &&& (3 : Int32))), .val (.int (1 : Int32)), .val (.int st), .val (.int (fil.toInt8.toInt32)), .unset, .unset, .unset, .unset] [(.ref b1), (.ref b1)]))
    refine own_on (fun t k => XS.bipush X25.here hx rfl (hb hby at_109) k) ?_
    show OwnGo p e below s _ _ _ (T25.setTop (mkF m 111 #[.val (.int vv), .val (.int sel), .val (.int fil), .val (.int kk), .val (.int (((sel.toUInt32 >>> ((2 : Int32) &&& 31).toUInt32).toInt32) &&& (3 : Int32))), .val (.int (1 : Int32)), .val (.int st), .val (.int (fil.toInt8.toInt32)), .unset, .unset, .unset, .unset] [(.int (11 : Int32)), (.ref b1), (.ref b1)]))
    refine own_on (fun t k => XS.iload X25.here hx rfl (hb hby at_111) rfl k) ?_
    show OwnGo p e below s _ _ _ (T25.setTop (mkF m 113 #[.val (.int vv), .val (.int sel), .val (.int fil), .val (.int kk), .val (.int (((sel.toUInt32 >>> ((2 : Int32) &&& 31).toUInt32).toInt32) &&& (3 : Int32))), .val (.int (1 : Int32)), .val (.int st), .val (.int (fil.toInt8.toInt32)), .unset, .unset, .unset, .unset] [(.int (fil.toInt8.toInt32)), (.int (11 : Int32)), (.ref b1), (.ref b1)]))
    obtain ⟨cl26, Ar26, S26, H26⟩ := id V25'
    have hj26 : ¬ (11 : Int32) < 0 ∧ ((11 : Int32)).toNatClampNeg = 11 := (by decide)
    obtain ⟨T27, h27, X27, e27, W27, st27⟩ := stB X25 hx hZ e25 Ar26 (j := (11 : Int32)) (own_in S26 hj26 (by decide)) (g := (mkF m 113 #[.val (.int vv), .val (.int sel), .val (.int fil), .val (.int kk), .val (.int (((sel.toUInt32 >>> ((2 : Int32) &&& 31).toUInt32).toInt32) &&& (3 : Int32))), .val (.int (1 : Int32)), .val (.int st), .val (.int (fil.toInt8.toInt32)), .unset, .unset, .unset, .unset] [(.int (fil.toInt8.toInt32)), (.int (11 : Int32)), (.ref b1), (.ref b1)])) rfl rfl (hb hby at_113)
    have V27 : OwnArf Z h27 b1 .byte 24 (own_upd (own_fl 11 (nar .byte (fil.toInt8.toInt32))) 11 (nar .byte (fil.toInt8.toInt32))) := OwnArf.set Ar26 S26 H26 W27 hj26.2
    have V27' : OwnArf Z h27 b1 .byte 24 (own_fl 12 (nar .byte (fil.toInt8.toInt32))) := V27.congr (own_fl_up 11 _)
    have N27 := Fr.snoc X27 N25 g2
    have Z27 : n0 ≤ h27.size := Nat.le_trans Z25 (Keep.of_wr W27).1
    have K27 : Keep h0 h27 [] := K25.wr W27 (Or.inr z3)
    refine own_on st27 ?_
    show OwnGo p e below s _ _ _ (T27.setTop (mkF m 114 #[.val (.int vv), .val (.int sel), .val (.int fil), .val (.int kk), .val (.int (((sel.toUInt32 >>> ((2 : Int32) &&& 31).toUInt32).toInt32) &&& (3 : Int32))), .val (.int (1 : Int32)), .val (.int st), .val (.int (fil.toInt8.toInt32)), .unset, .unset, .unset, .unset] [(.ref b1)]))
    refine own_on (fun t k => XS.dup X27.here hx rfl (hb hby at_114) rfl rfl k) ?_
    show OwnGo p e below s _ _ _ (T27.setTop (mkF m 115 #[.val (.int vv), .val (.int sel), .val (.int fil), .val (.int kk), .val (.int (((sel.toUInt32 >>> ((2 : Int32) &&& 31).toUInt32).toInt32) &&& (3 : Int32))), .val (.int (1 : Int32)), .val (.int st), .val (.int (fil.toInt8.toInt32)), .unset, .unset, .unset, .unset] [(.ref b1), (.ref b1)]))
    refine own_on (fun t k => XS.bipush X27.here hx rfl (hb hby at_115) k) ?_
    show OwnGo p e below s _ _ _ (T27.setTop (mkF m 117 #[.val (.int vv), .val (.int sel), .val (.int fil), .val (.int kk), .val (.int (((sel.toUInt32 >>> ((2 : Int32) &&& 31).toUInt32).toInt32) &&& (3 : Int32))), .val (.int (1 : Int32)), .val (.int st), .val (.int (fil.toInt8.toInt32)), .unset, .unset, .unset, .unset] [(.int (12 : Int32)), (.ref b1), (.ref b1)]))
    refine own_on (fun t k => XS.iload X27.here hx rfl (hb hby at_117) rfl k) ?_
    show OwnGo p e below s _ _ _ (T27.setTop (mkF m 119 #[.val (.int vv), .val (.int sel), .val (.int fil), .val (.int kk), .val (.int (((sel.toUInt32 >>> ((2 : Int32) &&& 31).toUInt32).toInt32) &&& (3 : Int32))), .val (.int (1 : Int32)), .val (.int st), .val (.int (fil.toInt8.toInt32)), .unset, .unset, .unset, .unset] [(.int (fil.toInt8.toInt32)), (.int (12 : Int32)), (.ref b1), (.ref b1)]))
    obtain ⟨cl28, Ar28, S28, H28⟩ := id V27'
    have hj28 : ¬ (12 : Int32) < 0 ∧ ((12 : Int32)).toNatClampNeg = 12 := (by decide)
    obtain ⟨T29, h29, X29, e29, W29, st29⟩ := stB X27 hx hZ e27 Ar28 (j := (12 : Int32)) (own_in S28 hj28 (by decide)) (g := (mkF m 119 #[.val (.int vv), .val (.int sel), .val (.int fil), .val (.int kk), .val (.int (((sel.toUInt32 >>> ((2 : Int32) &&& 31).toUInt32).toInt32) &&& (3 : Int32))), .val (.int (1 : Int32)), .val (.int st), .val (.int (fil.toInt8.toInt32)), .unset, .unset, .unset, .unset] [(.int (fil.toInt8.toInt32)), (.int (12 : Int32)), (.ref b1), (.ref b1)])) rfl rfl (hb hby at_119)
    have V29 : OwnArf Z h29 b1 .byte 24 (own_upd (own_fl 12 (nar .byte (fil.toInt8.toInt32))) 12 (nar .byte (fil.toInt8.toInt32))) := OwnArf.set Ar28 S28 H28 W29 hj28.2
    have V29' : OwnArf Z h29 b1 .byte 24 (own_fl 13 (nar .byte (fil.toInt8.toInt32))) := V29.congr (own_fl_up 12 _)
    have N29 := Fr.snoc X29 N27 g2
    have Z29 : n0 ≤ h29.size := Nat.le_trans Z27 (Keep.of_wr W29).1
    have K29 : Keep h0 h29 [] := K27.wr W29 (Or.inr z3)
    refine own_on st29 ?_
    show OwnGo p e below s _ _ _ (T29.setTop (mkF m 120 #[.val (.int vv), .val (.int sel), .val (.int fil), .val (.int kk), .val (.int (((sel.toUInt32 >>> ((2 : Int32) &&& 31).toUInt32).toInt32) &&& (3 : Int32))), .val (.int (1 : Int32)), .val (.int st), .val (.int (fil.toInt8.toInt32)), .unset, .unset, .unset, .unset] [(.ref b1)]))
    refine own_on (fun t k => XS.dup X29.here hx rfl (hb hby at_120) rfl rfl k) ?_
    show OwnGo p e below s _ _ _ (T29.setTop (mkF m 121 #[.val (.int vv), .val (.int sel), .val (.int fil), .val (.int kk), .val (.int (((sel.toUInt32 >>> ((2 : Int32) &&& 31).toUInt32).toInt32) &&& (3 : Int32))), .val (.int (1 : Int32)), .val (.int st), .val (.int (fil.toInt8.toInt32)), .unset, .unset, .unset, .unset] [(.ref b1), (.ref b1)]))
    refine own_on (fun t k => XS.bipush X29.here hx rfl (hb hby at_121) k) ?_
    show OwnGo p e below s _ _ _ (T29.setTop (mkF m 123 #[.val (.int vv), .val (.int sel), .val (.int fil), .val (.int kk), .val (.int (((sel.toUInt32 >>> ((2 : Int32) &&& 31).toUInt32).toInt32) &&& (3 : Int32))), .val (.int (1 : Int32)), .val (.int st), .val (.int (fil.toInt8.toInt32)), .unset, .unset, .unset, .unset] [(.int (13 : Int32)), (.ref b1), (.ref b1)]))
    refine own_on (fun t k => XS.iload X29.here hx rfl (hb hby at_123) rfl k) ?_
    show OwnGo p e below s _ _ _ (T29.setTop (mkF m 125 #[.val (.int vv), .val (.int sel), .val (.int fil), .val (.int kk), .val (.int (((sel.toUInt32 >>> ((2 : Int32) &&& 31).toUInt32).toInt32) &&& (3 : Int32))), .val (.int (1 : Int32)), .val (.int st), .val (.int (fil.toInt8.toInt32)), .unset, .unset, .unset, .unset] [(.int (fil.toInt8.toInt32)), (.int (13 : Int32)), (.ref b1), (.ref b1)]))
    obtain ⟨cl30, Ar30, S30, H30⟩ := id V29'
    have hj30 : ¬ (13 : Int32) < 0 ∧ ((13 : Int32)).toNatClampNeg = 13 := (by decide)
    obtain ⟨T31, h31, X31, e31, W31, st31⟩ := stB X29 hx hZ e29 Ar30 (j := (13 : Int32)) (own_in S30 hj30 (by decide)) (g := (mkF m 125 #[.val (.int vv), .val (.int sel), .val (.int fil), .val (.int kk), .val (.int (((sel.toUInt32 >>> ((2 : Int32) &&& 31).toUInt32).toInt32) &&& (3 : Int32))), .val (.int (1 : Int32)), .val (.int st), .val (.int (fil.toInt8.toInt32)), .unset, .unset, .unset, .unset] [(.int (fil.toInt8.toInt32)), (.int (13 : Int32)), (.ref b1), (.ref b1)])) rfl rfl (hb hby at_125)
    have V31 : OwnArf Z h31 b1 .byte 24 (own_upd (own_fl 13 (nar .byte (fil.toInt8.toInt32))) 13 (nar .byte (fil.toInt8.toInt32))) := OwnArf.set Ar30 S30 H30 W31 hj30.2
    have V31' : OwnArf Z h31 b1 .byte 24 (own_fl 14 (nar .byte (fil.toInt8.toInt32))) := V31.congr (own_fl_up 13 _)
    have N31 := Fr.snoc X31 N29 g2
    have Z31 : n0 ≤ h31.size := Nat.le_trans Z29 (Keep.of_wr W31).1
    have K31 : Keep h0 h31 [] := K29.wr W31 (Or.inr z3)
    refine own_on st31 ?_
    show OwnGo p e below s _ _ _ (T31.setTop (mkF m 126 #[.val (.int vv), .val (.int sel), .val (.int fil), .val (.int kk), .val (.int (((sel.toUInt32 >>> ((2 : Int32) &&& 31).toUInt32).toInt32) &&& (3 : Int32))), .val (.int (1 : Int32)), .val (.int st), .val (.int (fil.toInt8.toInt32)), .unset, .unset, .unset, .unset] [(.ref b1)]))
    refine own_on (fun t k => XS.dup X31.here hx rfl (hb hby at_126) rfl rfl k) ?_
    show OwnGo p e below s _ _ _ (T31.setTop (mkF m 127 #[.val (.int vv), .val (.int sel), .val (.int fil), .val (.int kk), .val (.int (((sel.toUInt32 >>> ((2 : Int32) &&& 31).toUInt32).toInt32) &&& (3 : Int32))), .val (.int (1 : Int32)), .val (.int st), .val (.int (fil.toInt8.toInt32)), .unset, .unset, .unset, .unset] [(.ref b1), (.ref b1)]))
    refine own_on (fun t k => XS.bipush X31.here hx rfl (hb hby at_127) k) ?_
    show OwnGo p e below s _ _ _ (T31.setTop (mkF m 129 #[.val (.int vv), .val (.int sel), .val (.int fil), .val (.int kk), .val (.int (((sel.toUInt32 >>> ((2 : Int32) &&& 31).toUInt32).toInt32) &&& (3 : Int32))), .val (.int (1 : Int32)), .val (.int st), .val (.int (fil.toInt8.toInt32)), .unset, .unset, .unset, .unset] [(.int (14 : Int32)), (.ref b1), (.ref b1)]))
    refine own_on (fun t k => XS.iload X31.here hx rfl (hb hby at_129) rfl k) ?_
    show OwnGo p e below s _ _ _ (T31.setTop (mkF m 131 #[.val (.int vv), .val (.int sel), .val (.int fil), .val (.int kk), .val (.int (((sel.toUInt32 >>> ((2 : Int32) &&& 31).toUInt32).toInt32) &&& (3 : Int32))), .val (.int (1 : Int32)), .val (.int st), .val (.int (fil.toInt8.toInt32)), .unset, .unset, .unset, .unset] [(.int (fil.toInt8.toInt32)), (.int (14 : Int32)), (.ref b1), (.ref b1)]))
    obtain ⟨cl32, Ar32, S32, H32⟩ := id V31'
    have hj32 : ¬ (14 : Int32) < 0 ∧ ((14 : Int32)).toNatClampNeg = 14 := (by decide)
    obtain ⟨T33, h33, X33, e33, W33, st33⟩ := stB X31 hx hZ e31 Ar32 (j := (14 : Int32)) (own_in S32 hj32 (by decide)) (g := (mkF m 131 #[.val (.int vv), .val (.int sel), .val (.int fil), .val (.int kk), .val (.int (((sel.toUInt32 >>> ((2 : Int32) &&& 31).toUInt32).toInt32) &&& (3 : Int32))), .val (.int (1 : Int32)), .val (.int st), .val (.int (fil.toInt8.toInt32)), .unset, .unset, .unset, .unset] [(.int (fil.toInt8.toInt32)), (.int (14 : Int32)), (.ref b1), (.ref b1)])) rfl rfl (hb hby at_131)
    have V33 : OwnArf Z h33 b1 .byte 24 (own_upd (own_fl 14 (nar .byte (fil.toInt8.toInt32))) 14 (nar .byte (fil.toInt8.toInt32))) := OwnArf.set Ar32 S32 H32 W33 hj32.2
    have V33' : OwnArf Z h33 b1 .byte 24 (own_fl 15 (nar .byte (fil.toInt8.toInt32))) := V33.congr (own_fl_up 14 _)
    have N33 := Fr.snoc X33 N31 g2
    have Z33 : n0 ≤ h33.size := Nat.le_trans Z31 (Keep.of_wr W33).1
    have K33 : Keep h0 h33 [] := K31.wr W33 (Or.inr z3)
    refine own_on st33 ?_
    show OwnGo p e below s _ _ _ (T33.setTop (mkF m 132 #[.val (.int vv), .val (.int sel), .val (.int fil), .val (.int kk), .val (.int (((sel.toUInt32 >>> ((2 : Int32) &&& 31).toUInt32).toInt32) &&& (3 : Int32))), .val (.int (1 : Int32)), .val (.int st), .val (.int (fil.toInt8.toInt32)), .unset, .unset, .unset, .unset] [(.ref b1)]))
    refine own_on (fun t k => XS.dup X33.here hx rfl (hb hby at_132) rfl rfl k) ?_
    show OwnGo p e below s _ _ _ (T33.setTop (mkF m 133 #[.val (.int vv), .val (.int sel), .val (.int fil), .val (.int kk), .val (.int (((sel.toUInt32 >>> ((2 : Int32) &&& 31).toUInt32).toInt32) &&& (3 : Int32))), .val (.int (1 : Int32)), .val (.int st), .val (.int (fil.toInt8.toInt32)), .unset, .unset, .unset, .unset] [(.ref b1), (.ref b1)]))
    refine own_on (fun t k => XS.bipush X33.here hx rfl (hb hby at_133) k) ?_
    show OwnGo p e below s _ _ _ (T33.setTop (mkF m 135 #[.val (.int vv), .val (.int sel), .val (.int fil), .val (.int kk), .val (.int (((sel.toUInt32 >>> ((2 : Int32) &&& 31).toUInt32).toInt32) &&& (3 : Int32))), .val (.int (1 : Int32)), .val (.int st), .val (.int (fil.toInt8.toInt32)), .unset, .unset, .unset, .unset] [(.int (15 : Int32)), (.ref b1), (.ref b1)]))
    refine own_on (fun t k => XS.iload X33.here hx rfl (hb hby at_135) rfl k) ?_
    show OwnGo p e below s _ _ _ (T33.setTop (mkF m 137 #[.val (.int vv), .val (.int sel), .val (.int fil), .val (.int kk), .val (.int (((sel.toUInt32 >>> ((2 : Int32) &&& 31).toUInt32).toInt32) &&& (3 : Int32))), .val (.int (1 : Int32)), .val (.int st), .val (.int (fil.toInt8.toInt32)), .unset, .unset, .unset, .unset] [(.int (fil.toInt8.toInt32)), (.int (15 : Int32)), (.ref b1), (.ref b1)]))
    obtain ⟨cl34, Ar34, S34, H34⟩ := id V33'
    have hj34 : ¬ (15 : Int32) < 0 ∧ ((15 : Int32)).toNatClampNeg = 15 := (by decide)
    obtain ⟨T35, h35, X35, e35, W35, st35⟩ := stB X33 hx hZ e33 Ar34 (j := (15 : Int32)) (own_in S34 hj34 (by decide)) (g := (mkF m 137 #[.val (.int vv), .val (.int sel), .val (.int fil), .val (.int kk), .val (.int (((sel.toUInt32 >>> ((2 : Int32) &&& 31).toUInt32).toInt32) &&& (3 : Int32))), .val (.int (1 : Int32)), .val (.int st), .val (.int (fil.toInt8.toInt32)), .unset, .unset, .unset, .unset] [(.int (fil.toInt8.toInt32)), (.int (15 : Int32)), (.ref b1), (.ref b1)])) rfl rfl (hb hby at_137)
    have V35 : OwnArf Z h35 b1 .byte 24 (own_upd (own_fl 15 (nar .byte (fil.toInt8.toInt32))) 15 (nar .byte (fil.toInt8.toInt32))) := OwnArf.set Ar34 S34 H34 W35 hj34.2
    have V35' : OwnArf Z h35 b1 .byte 24 (own_fl 16 (nar .byte (fil.toInt8.toInt32))) := V35.congr (own_fl_up 15 _)
    have N35 := Fr.snoc X35 N33 g2
    have Z35 : n0 ≤ h35.size := Nat.le_trans Z33 (Keep.of_wr W35).1
    have K35 : Keep h0 h35 [] := K33.wr W35 (Or.inr z3)
    refine own_on st35 ?_
    show OwnGo p e below s _ _ _ (T35.setTop (mkF m 138 #[.val (.int vv), .val (.int sel), .val (.int fil), .val (.int kk), .val (.int (((sel.toUInt32 >>> ((2 : Int32) &&& 31).toUInt32).toInt32) &&& (3 : Int32))), .val (.int (1 : Int32)), .val (.int st), .val (.int (fil.toInt8.toInt32)), .unset, .unset, .unset, .unset] [(.ref b1)]))
    refine own_on (fun t k => XS.dup X35.here hx rfl (hb hby at_138) rfl rfl k) ?_
    show OwnGo p e below s _ _ _ (T35.setTop (mkF m 139 #[.val (.int vv), .val (.int sel), .val (.int fil), .val (.int kk), .val (.int (((sel.toUInt32 >>> ((2 : Int32) &&& 31).toUInt32).toInt32) &&& (3 : Int32))), .val (.int (1 : Int32)), .val (.int st), .val (.int (fil.toInt8.toInt32)), .unset, .unset, .unset, .unset] [(.ref b1), (.ref b1)]))
    refine own_on (fun t k => XS.bipush X35.here hx rfl (hb hby at_139) k) ?_
    show OwnGo p e below s _ _ _ (T35.setTop (mkF m 141 #[.val (.int vv), .val (.int sel), .val (.int fil), .val (.int kk), .val (.int (((sel.toUInt32 >>> ((2 : Int32) &&& 31).toUInt32).toInt32) &&& (3 : Int32))), .val (.int (1 : Int32)), .val (.int st), .val (.int (fil.toInt8.toInt32)), .unset, .unset, .unset, .unset] [(.int (16 : Int32)), (.ref b1), (.ref b1)]))
    refine own_on (fun t k => XS.iload X35.here hx rfl (hb hby at_141) rfl k) ?_
    show OwnGo p e below s _ _ _ (T35.setTop (mkF m 143 #[.val (.int vv), .val (.int sel), .val (.int fil), .val (.int kk), .val (.int (((sel.toUInt32 >>> ((2 : Int32) &&& 31).toUInt32).toInt32) &&& (3 : Int32))), .val (.int (1 : Int32)), .val (.int st), .val (.int (fil.toInt8.toInt32)), .unset, .unset, .unset, .unset] [(.int (fil.toInt8.toInt32)), (.int (16 : Int32)), (.ref b1), (.ref b1)]))
    obtain ⟨cl36, Ar36, S36, H36⟩ := id V35'
    have hj36 : ¬ (16 : Int32) < 0 ∧ ((16 : Int32)).toNatClampNeg = 16 := (by decide)
    obtain ⟨T37, h37, X37, e37, W37, st37⟩ := stB X35 hx hZ e35 Ar36 (j := (16 : Int32)) (own_in S36 hj36 (by decide)) (g := (mkF m 143 #[.val (.int vv), .val (.int sel), .val (.int fil), .val (.int kk), .val (.int (((sel.toUInt32 >>> ((2 : Int32) &&& 31).toUInt32).toInt32) &&& (3 : Int32))), .val (.int (1 : Int32)), .val (.int st), .val (.int (fil.toInt8.toInt32)), .unset, .unset, .unset, .unset] [(.int (fil.toInt8.toInt32)), (.int (16 : Int32)), (.ref b1), (.ref b1)])) rfl rfl (hb hby at_143)
    have V37 : OwnArf Z h37 b1 .byte 24 (own_upd (own_fl 16 (nar .byte (fil.toInt8.toInt32))) 16 (nar .byte (fil.toInt8.toInt32))) := OwnArf.set Ar36 S36 H36 W37 hj36.2
    have V37' : OwnArf Z h37 b1 .byte 24 (own_fl 17 (nar .byte (fil.toInt8.toInt32))) := V37.congr (own_fl_up 16 _)
    have N37 := Fr.snoc X37 N35 g2
    have Z37 : n0 ≤ h37.size := Nat.le_trans Z35 (Keep.of_wr W37).1
    have K37 : Keep h0 h37 [] := K35.wr W37 (Or.inr z3)
    refine own_on st37 ?_
    show OwnGo p e below s _ _ _ (T37.setTop (mkF m 144 #[.val (.int vv), .val (.int sel), .val (.int fil), .val (.int kk), .val (.int (((sel.toUInt32 >>> ((2 : Int32) &&& 31).toUInt32).toInt32) &&& (3 : Int32))), .val (.int (1 : Int32)), .val (.int st), .val (.int (fil.toInt8.toInt32)), .unset, .unset, .unset, .unset] [(.ref b1)]))
    refine own_on (fun t k => XS.dup X37.here hx rfl (hb hby at_144) rfl rfl k) ?_
    show OwnGo p e below s _ _ _ (T37.setTop (mkF m 145 #[.val (.int vv), .val (.int sel), .val (.int fil), .val (.int kk), .val (.int (((sel.toUInt32 >>> ((2 : Int32) &&& 31).toUInt32).toInt32) &&& (3 : Int32))), .val (.int (1 : Int32)), .val (.int st), .val (.int (fil.toInt8.toInt32)), .unset, .unset, .unset, .unset] [(.ref b1), (.ref b1)]))
    refine own_on (fun t k => XS.bipush X37.here hx rfl (hb hby at_145) k) ?_
    show OwnGo p e below s _ _ _ (T37.setTop (mkF m 147 #[.val (.int vv), .val (.int sel), .val (.int fil), .val (.int kk), .val (.int (((sel.toUInt32 >>> ((2 : Int32) &&& 31).toUInt32).toInt32) &&& (3 : Int32))), .val (.int (1 : Int32)), .val (.int st), .val (.int (fil.toInt8.toInt32)), .unset, .unset, .unset, .unset] [(.int (17 : Int32)), (.ref b1), (.ref b1)]))
    refine own_on (fun t k => XS.iload X37.here hx rfl (hb hby at_147) rfl k) ?_
    show OwnGo p e below s _ _ _ (T37.setTop (mkF m 149 #[.val (.int vv), .val (.int sel), .val (.int fil), .val (.int kk), .val (.int (((sel.toUInt32 >>> ((2 : Int32) &&& 31).toUInt32).toInt32) &&& (3 : Int32))), .val (.int (1 : Int32)), .val (.int st), .val (.int (fil.toInt8.toInt32)), .unset, .unset, .unset, .unset] [(.int (fil.toInt8.toInt32)), (.int (17 : Int32)), (.ref b1), (.ref b1)]))
    obtain ⟨cl38, Ar38, S38, H38⟩ := id V37'
    have hj38 : ¬ (17 : Int32) < 0 ∧ ((17 : Int32)).toNatClampNeg = 17 := (by decide)
    obtain ⟨T39, h39, X39, e39, W39, st39⟩ := stB X37 hx hZ e37 Ar38 (j := (17 : Int32)) (own_in S38 hj38 (by decide)) (g := (mkF m 149 #[.val (.int vv), .val (.int sel), .val (.int fil), .val (.int kk), .val (.int (((sel.toUInt32 >>> ((2 : Int32) &&& 31).toUInt32).toInt32) &&& (3 : Int32))), .val (.int (1 : Int32)), .val (.int st), .val (.int (fil.toInt8.toInt32)), .unset, .unset, .unset, .unset] [(.int (fil.toInt8.toInt32)), (.int (17 : Int32)), (.ref b1), (.ref b1)])) rfl rfl (hb hby at_149)
    have V39 : OwnArf Z h39 b1 .byte 24 (own_upd (own_fl 17 (nar .byte (fil.toInt8.toInt32))) 17 (nar .byte (fil.toInt8.toInt32))) := OwnArf.set Ar38 S38 H38 W39 hj38.2
    have V39' : OwnArf Z h39 b1 .byte 24 (own_fl 18 (nar .byte (fil.toInt8.toInt32))) := V39.congr (own_fl_up 17 _)
    have N39 := Fr.snoc X39 N37 g2
    have Z39 : n0 ≤ h39.size := Nat.le_trans Z37 (Keep.of_wr W39).1
    have K39 : Keep h0 h39 [] := K37.wr W39 (Or.inr z3)
    refine own_on st39 ?_
    show OwnGo p e below s _ _ _ (T39.setTop (mkF m 150 #[.val (.int vv), .val (.int sel), .val (.int fil), .val (.int kk), .val (.int (((sel.toUInt32 >>> ((2 : Int32) &&& 31).toUInt32).toInt32) &&& (3 : Int32))), .val (.int (1 : Int32)), .val (.int st), .val (.int (fil.toInt8.toInt32)), .unset, .unset, .unset, .unset] [(.ref b1)]))
    refine own_on (fun t k => XS.dup X39.here hx rfl (hb hby at_150) rfl rfl k) ?_
    show OwnGo p e below s _ _ _ (T39.setTop (mkF m 151 #[.val (.int vv), .val (.int sel), .val (.int fil), .val (.int kk), .val (.int (((sel.toUInt32 >>> ((2 : Int32) &&& 31).toUInt32).toInt32) &&& (3 : Int32))), .val (.int (1 : Int32)), .val (.int st), .val (.int (fil.toInt8.toInt32)), .unset, .unset, .unset, .unset] [(.ref b1), (.ref b1)]))
    refine own_on (fun t k => XS.bipush X39.here hx rfl (hb hby at_151) k) ?_
    show OwnGo p e below s _ _ _ (T39.setTop (mkF m 153 #[.val (.int vv), .val (.int sel), .val (.int fil), .val (.int kk), .val (.int (((sel.toUInt32 >>> ((2 : Int32) &&& 31).toUInt32).toInt32) &&& (3 : Int32))), .val (.int (1 : Int32)), .val (.int st), .val (.int (fil.toInt8.toInt32)), .unset, .unset, .unset, .unset] [(.int (18 : Int32)), (.ref b1), (.ref b1)]))
    refine own_on (fun t k => XS.iload X39.here hx rfl (hb hby at_153) rfl k) ?_
    show OwnGo p e below s _ _ _ (T39.setTop (mkF m 155 #[.val (.int vv), .val (.int sel), .val (.int fil), .val (.int kk), .val (.int (((sel.toUInt32 >>> ((2 : Int32) &&& 31).toUInt32).toInt32) &&& (3 : Int32))), .val (.int (1 : Int32)), .val (.int st), .val (.int (fil.toInt8.toInt32)), .unset, .unset, .unset, .unset] [(.int (fil.toInt8.toInt32)), (.int (18 : Int32)), (.ref b1), (.ref b1)]))
    obtain ⟨cl40, Ar40, S40, H40⟩ := id V39'
    have hj40 : ¬ (18 : Int32) < 0 ∧ ((18 : Int32)).toNatClampNeg = 18 := (by decide)
    obtain ⟨T41, h41, X41, e41, W41, st41⟩ := stB X39 hx hZ e39 Ar40 (j := (18 : Int32)) (own_in S40 hj40 (by decide)) (g := (mkF m 155 #[.val (.int vv), .val (.int sel), .val (.int fil), .val (.int kk), .val (.int (((sel.toUInt32 >>> ((2 : Int32) &&& 31).toUInt32).toInt32) &&& (3 : Int32))), .val (.int (1 : Int32)), .val (.int st), .val (.int (fil.toInt8.toInt32)), .unset, .unset, .unset, .unset] [(.int (fil.toInt8.toInt32)), (.int (18 : Int32)), (.ref b1), (.ref b1)])) rfl rfl (hb hby at_155)
    have V41 : OwnArf Z h41 b1 .byte 24 (own_upd (own_fl 18 (nar .byte (fil.toInt8.toInt32))) 18 (nar .byte (fil.toInt8.toInt32))) := OwnArf.set Ar40 S40 H40 W41 hj40.2
    have V41' : OwnArf Z h41 b1 .byte 24 (own_fl 19 (nar .byte (fil.toInt8.toInt32))) := V41.congr (own_fl_up 18 _)
    have N41 := Fr.snoc X41 N39 g2
    have Z41 : n0 ≤ h41.size := Nat.le_trans Z39 (Keep.of_wr W41).1
    have K41 : Keep h0 h41 [] := K39.wr W41 (Or.inr z3)
    refine own_on st41 ?_
    show OwnGo p e below s _ _ _ (T41.setTop (mkF m 156 #[.val (.int vv), .val (.int sel), .val (.int fil), .val (.int kk), .val (.int (((sel.toUInt32 >>> ((2 : Int32) &&& 31).toUInt32).toInt32) &&& (3 : Int32))), .val (.int (1 : Int32)), .val (.int st), .val (.int (fil.toInt8.toInt32)), .unset, .unset, .unset, .unset] [(.ref b1)]))
    refine own_on (fun t k => XS.dup X41.here hx rfl (hb hby at_156) rfl rfl k) ?_
    show OwnGo p e below s _ _ _ (T41.setTop (mkF m 157 #[.val (.int vv), .val (.int sel), .val (.int fil), .val (.int kk), .val (.int (((sel.toUInt32 >>> ((2 : Int32) &&& 31).toUInt32).toInt32) &&& (3 : Int32))), .val (.int (1 : Int32)), .val (.int st), .val (.int (fil.toInt8.toInt32)), .unset, .unset, .unset, .unset] [(.ref b1), (.ref b1)]))
    refine own_on (fun t k => XS.bipush X41.here hx rfl (hb hby at_157) k) ?_
    show OwnGo p e below s _ _ _ (T41.setTop (mkF m 159 #[.val (.int vv), .val (.int sel), .val (.int fil), .val (.int kk), .val (.int (((sel.toUInt32 >>> ((2 : Int32) &&& 31).toUInt32).toInt32) &&& (3 : Int32))), .val (.int (1 : Int32)), .val (.int st), .val (.int (fil.toInt8.toInt32)), .unset, .unset, .unset, .unset] [(.int (19 : Int32)), (.ref b1), (.ref b1)]))
    refine own_on (fun t k => XS.iload X41.here hx rfl (hb hby at_159) rfl k) ?_
    show OwnGo p e below s _ _ _ (T41.setTop (mkF m 161 #[.val (.int vv), .val (.int sel), .val (.int fil), .val (.int kk), .val (.int (((sel.toUInt32 >>> ((2 : Int32) &&& 31).toUInt32).toInt32) &&& (3 : Int32))), .val (.int (1 : Int32)), .val (.int st), .val (.int (fil.toInt8.toInt32)), .unset, .unset, .unset, .unset] [(.int (fil.toInt8.toInt32)), (.int (19 : Int32)), (.ref b1), (.ref b1)]))
    obtain ⟨cl42, Ar42, S42, H42⟩ := id V41'
    have hj42 : ¬ (19 : Int32) < 0 ∧ ((19 : Int32)).toNatClampNeg = 19 := (by decide)
    obtain ⟨T43, h43, X43, e43, W43, st43⟩ := stB X41 hx hZ e41 Ar42 (j := (19 : Int32)) (own_in S42 hj42 (by decide)) (g := (mkF m 161 #[.val (.int vv), .val (.int sel), .val (.int fil), .val (.int kk), .val (.int (((sel.toUInt32 >>> ((2 : Int32) &&& 31).toUInt32).toInt32) &&& (3 : Int32))), .val (.int (1 : Int32)), .val (.int st), .val (.int (fil.toInt8.toInt32)), .unset, .unset, .unset, .unset] [(.int (fil.toInt8.toInt32)), (.int (19 : Int32)), (.ref b1), (.ref b1)])) rfl rfl (hb hby at_161)
    have V43 : OwnArf Z h43 b1 .byte 24 (own_upd (own_fl 19 (nar .byte (fil.toInt8.toInt32))) 19 (nar .byte (fil.toInt8.toInt32))) := OwnArf.set Ar42 S42 H42 W43 hj42.2
    have V43' : OwnArf Z h43 b1 .byte 24 (own_fl 20 (nar .byte (fil.toInt8.toInt32))) := V43.congr (own_fl_up 19 _)
    have N43 := Fr.snoc X43 N41 g2
    have Z43 : n0 ≤ h43.size := Nat.le_trans Z41 (Keep.of_wr W43).1
    have K43 : Keep h0 h43 [] := K41.wr W43 (Or.inr z3)
    refine own_on st43 ?_
    show OwnGo p e below s _ _ _ (T43.setTop (mkF m 162 #[.val (.int vv), .val (.int sel), .val (.int fil), .val (.int kk), .val (.int (((sel.toUInt32 >>> ((2 : Int32) &&& 31).toUInt32).toInt32) &&& (3 : Int32))), .val (.int (1 : Int32)), .val (.int st), .val (.int (fil.toInt8.toInt32)), .unset, .unset, .unset, .unset] [(.ref b1)]))
    refine own_on (fun t k => XS.dup X43.here hx rfl (hb hby at_162) rfl rfl k) ?_
    show OwnGo p e below s _ _ _ (T43.setTop (mkF m 163 #[.val (.int vv), .val (.int sel), .val (.int fil), .val (.int kk), .val (.int (((sel.toUInt32 >>> ((2 : Int32) &&& 31).toUInt32).toInt32) &&& (3 : Int32))), .val (.int (1 : Int32)), .val (.int st), .val (.int (fil.toInt8.toInt32)), .unset, .unset, .unset, .unset] [(.ref b1), (.ref b1)]))
    refine own_on (fun t k => XS.bipush X43.here hx rfl (hb hby at_163) k) ?_
    show OwnGo p e below s _ _ _ (T43.setTop (mkF m 165 #[.val (.int vv), .val (.int sel), .val (.int fil), .val (.int kk), .val (.int (((sel.toUInt32 >>> ((2 : Int32) &&& 31).toUInt32).toInt32) &&& (3 : Int32))), .val (.int (1 : Int32)), .val (.int st), .val (.int (fil.toInt8.toInt32)), .unset, .unset, .unset, .unset] [(.int (20 : Int32)), (.ref b1), (.ref b1)]))
    refine own_on (fun t k => XS.iload X43.here hx rfl (hb hby at_165) rfl k) ?_
    show OwnGo p e below s _ _ _ (T43.setTop (mkF m 167 #[.val (.int vv), .val (.int sel), .val (.int fil), .val (.int kk), .val (.int (((sel.toUInt32 >>> ((2 : Int32) &&& 31).toUInt32).toInt32) &&& (3 : Int32))), .val (.int (1 : Int32)), .val (.int st), .val (.int (fil.toInt8.toInt32)), .unset, .unset, .unset, .unset] [(.int (fil.toInt8.toInt32)), (.int (20 : Int32)), (.ref b1), (.ref b1)]))
    obtain ⟨cl44, Ar44, S44, H44⟩ := id V43'
    have hj44 : ¬ (20 : Int32) < 0 ∧ ((20 : Int32)).toNatClampNeg = 20 := (by decide)
    obtain ⟨T45, h45, X45, e45, W45, st45⟩ := stB X43 hx hZ e43 Ar44 (j := (20 : Int32)) (own_in S44 hj44 (by decide)) (g := (mkF m 167 #[.val (.int vv), .val (.int sel), .val (.int fil), .val (.int kk), .val (.int (((sel.toUInt32 >>> ((2 : Int32) &&& 31).toUInt32).toInt32) &&& (3 : Int32))), .val (.int (1 : Int32)), .val (.int st), .val (.int (fil.toInt8.toInt32)), .unset, .unset, .unset, .unset] [(.int (fil.toInt8.toInt32)), (.int (20 : Int32)), (.ref b1), (.ref b1)])) rfl rfl (hb hby at_167)
    have V45 : OwnArf Z h45 b1 .byte 24 (own_upd (own_fl 20 (nar .byte (fil.toInt8.toInt32))) 20 (nar .byte (fil.toInt8.toInt32))) := OwnArf.set Ar44 S44 H44 W45 hj44.2
    have V45' : OwnArf Z h45 b1 .byte 24 (own_fl 21 (nar .byte (fil.toInt8.toInt32))) := V45.congr (own_fl_up 20 _)
    have N45 := Fr.snoc X45 N43 g2
    have Z45 : n0 ≤ h45.size := Nat.le_trans Z43 (Keep.of_wr W45).1
    have K45 : Keep h0 h45 [] := K43.wr W45 (Or.inr z3)
    refine own_on st45 ?_
    show OwnGo p e below s _ _ _ (T45.setTop (mkF m 168 #[.val (.int vv), .val (.int sel), .val (.int fil), .val (.int kk), .val (.int (((sel.toUInt32 >>> ((2 : Int32) &&& 31).toUInt32).toInt32) &&& (3 : Int32))), .val (.int (1 : Int32)), .val (.int st), .val (.int (fil.toInt8.toInt32)), .unset, .unset, .unset, .unset] [(.ref b1)]))
    refine own_on (fun t k => XS.dup X45.here hx rfl (hb hby at_168) rfl rfl k) ?_
    show OwnGo p e below s _ _ _ (T45.setTop (mkF m 169 #[.val (.int vv), .val (.int sel), .val (.int fil), .val (.int kk), .val (.int (((sel.toUInt32 >>> ((2 : Int32) &&& 31).toUInt32).toInt32) &&& (3 : Int32))), .val (.int (1 : Int32)), .val (.int st), .val (.int (fil.toInt8.toInt32)), .unset, .unset, .unset, .unset] [(.ref b1), (.ref b1)]))
    refine own_on (fun t k => XS.bipush X45.here hx rfl (hb hby at_169) k) ?_
    show OwnGo p e below s _ _ _ (T45.setTop (mkF m 171 #[.val (.int vv), .val (.int sel), .val (.int fil), .val (.int kk), .val (.int (((sel.toUInt32 >>> ((2 : Int32) &&& 31).toUInt32).toInt32) &&& (3 : Int32))), .val (.int (1 : Int32)), .val (.int st), .val (.int (fil.toInt8.toInt32)), .unset, .unset, .unset, .unset] [(.int (21 : Int32)), (.ref b1), (.ref b1)]))
    refine own_on (fun t k => XS.iload X45.here hx rfl (hb hby at_171) rfl k) ?_
    show OwnGo p e below s _ _ _ (T45.setTop (mkF m 173 #[.val (.int vv), .val (.int sel), .val (.int fil), .val (.int kk), .val (.int (((sel.toUInt32 >>> ((2 : Int32) &&& 31).toUInt32).toInt32) &&& (3 : Int32))), .val (.int (1 : Int32)), .val (.int st), .val (.int (fil.toInt8.toInt32)), .unset, .unset, .unset, .unset] [(.int (fil.toInt8.toInt32)), (.int (21 : Int32)), (.ref b1), (.ref b1)]))
    obtain ⟨cl46, Ar46, S46, H46⟩ := id V45'
    have hj46 : ¬ (21 : Int32) < 0 ∧ ((21 : Int32)).toNatClampNeg = 21 := (by decide)
    obtain ⟨T47, h47, X47, e47, W47, st47⟩ := stB X45 hx hZ e45 Ar46 (j := (21 : Int32)) (own_in S46 hj46 (by decide)) (g := (mkF m 173 #[.val (.int vv), .val (.int sel), .val (.int fil), .val (.int kk), .val (.int (((sel.toUInt32 >>> ((2 : Int32) &&& 31).toUInt32).toInt32) &&& (3 : Int32))), .val (.int (1 : Int32)), .val (.int st), .val (.int (fil.toInt8.toInt32)), .unset, .unset, .unset, .unset] [(.int (fil.toInt8.toInt32)), (.int (21 : Int32)), (.ref b1), (.ref b1)])) rfl rfl (hb hby at_173)
    have V47 : OwnArf Z h47 b1 .byte 24 (own_upd (own_fl 21 (nar .byte (fil.toInt8.toInt32))) 21 (nar .byte (fil.toInt8.toInt32))) := OwnArf.set Ar46 S46 H46 W47 hj46.2
    have V47' : OwnArf Z h47 b1 .byte 24 (own_fl 22 (nar .byte (fil.toInt8.toInt32))) := V47.congr (own_fl_up 21 _)
    have N47 := Fr.snoc X47 N45 g2
    have Z47 : n0 ≤ h47.size := Nat.le_trans Z45 (Keep.of_wr W47).1
    have K47 : Keep h0 h47 [] := K45.wr W47 (Or.inr z3)
    refine own_on st47 ?_
    show OwnGo p e below s _ _ _ (T47.setTop (mkF m 174 #[.val (.int vv), .val (.int sel), .val (.int fil), .val (.int kk), .val (.int (((sel.toUInt32 >>> ((2 : Int32) &&& 31).toUInt32).toInt32) &&& (3 : Int32))), .val (.int (1 : Int32)), .val (.int st), .val (.int (fil.toInt8.toInt32)), .unset, .unset, .unset, .unset] [(.ref b1)]))
    refine own_on (fun t k => XS.dup X47.here hx rfl (hb hby at_174) rfl rfl k) ?_
    show OwnGo p e below s _ _ _ (T47.setTop (mkF m 175 #[.val (.int vv), .val (.int sel), .val (.int fil), .val (.int kk), .val (.int (((sel.toUInt32 >>> ((2 : Int32) &&& 31).toUInt32).toInt32) &&& (3 : Int32))), .val (.int (1 : Int32)), .val (.int st), .val (.int (fil.toInt8.toInt32)), .unset, .unset, .unset, .unset] [(.ref b1), (.ref b1)]))
    refine own_on (fun t k => XS.bipush X47.here hx rfl (hb hby at_175) k) ?_
    show OwnGo p e below s _ _ _ (T47.setTop (mkF m 177 #[.val (.int vv), .val (.int sel), .val (.int fil), .val (.int kk), .val (.int (((sel.toUInt32 >>> ((2 : Int32) &&& 31).toUInt32).toInt32) &&& (3 : Int32))), .val (.int (1 : Int32)), .val (.int st), .val (.int (fil.toInt8.toInt32)), .unset, .unset, .unset, .unset] [(.int (22 : Int32)), (.ref b1), (.ref b1)]))
    refine own_on (fun t k => XS.iload X47.here hx rfl (hb hby at_177) rfl k) ?_
    show OwnGo p e below s _ _ _ (T47.setTop (mkF m 179 #[.val (.int vv), .val (.int sel), .val (.int fil), .val (.int kk), .val (.int (((sel.toUInt32 >>> ((2 : Int32) &&& 31).toUInt32).toInt32) &&& (3 : Int32))), .val (.int (1 : Int32)), .val (.int st), .val (.int (fil.toInt8.toInt32)), .unset, .unset, .unset, .unset] [(.int (fil.toInt8.toInt32)), (.int (22 : Int32)), (.ref b1), (.ref b1)]))
    obtain ⟨cl48, Ar48, S48, H48⟩ := id V47'
    have hj48 : ¬ (22 : Int32) < 0 ∧ ((22 : Int32)).toNatClampNeg = 22 := (by decide)
    obtain ⟨T49, h49, X49, e49, W49, st49⟩ := stB X47 hx hZ e47 Ar48 (j := (22 : Int32)) (own_in S48 hj48 (by decide)) (g := (mkF m 179 #[.val (.int vv), .val (.int sel), .val (.int fil), .val (.int kk), .val (.int (((sel.toUInt32 >>> ((2 : Int32) &&& 31).toUInt32).toInt32) &&& (3 : Int32))), .val (.int (1 : Int32)), .val (.int st), .val (.int (fil.toInt8.toInt32)), .unset, .unset, .unset, .unset] [(.int (fil.toInt8.toInt32)), (.int (22 : Int32)), (.ref b1), (.ref b1)])) rfl rfl (hb hby at_179)
    have V49 : OwnArf Z h49 b1 .byte 24 (own_upd (own_fl 22 (nar .byte (fil.toInt8.toInt32))) 22 (nar .byte (fil.toInt8.toInt32))) := OwnArf.set Ar48 S48 H48 W49 hj48.2
    have V49' : OwnArf Z h49 b1 .byte 24 (own_fl 23 (nar .byte (fil.toInt8.toInt32))) := V49.congr (own_fl_up 22 _)
    have N49 := Fr.snoc X49 N47 g2
    have Z49 : n0 ≤ h49.size := Nat.le_trans Z47 (Keep.of_wr W49).1
    have K49 : Keep h0 h49 [] := K47.wr W49 (Or.inr z3)
    refine own_on st49 ?_
    show OwnGo p e below s _ _ _ (T49.setTop (mkF m 180 #[.val (.int vv), .val (.int sel), .val (.int fil), .val (.int kk), .val (.int (((sel.toUInt32 >>> ((2 : Int32) &&& 31).toUInt32).toInt32) &&& (3 : Int32))), .val (.int (1 : Int32)), .val (.int st), .val (.int (fil.toInt8.toInt32)), .unset, .unset, .unset, .unset] [(.ref b1)]))
    refine own_on (fun t k => XS.dup X49.here hx rfl (hb hby at_180) rfl rfl k) ?_
    show OwnGo p e below s _ _ _ (T49.setTop (mkF m 181 #[.val (.int vv), .val (.int sel), .val (.int fil), .val (.int kk), .val (.int (((sel.toUInt32 >>> ((2 : Int32) &&& 31).toUInt32).toInt32) &&& (3 : Int32))), .val (.int (1 : Int32)), .val (.int st), .val (.int (fil.toInt8.toInt32)), .unset, .unset, .unset, .unset] [(.ref b1), (.ref b1)]))
    refine own_on (fun t k => XS.bipush X49.here hx rfl (hb hby at_181) k) ?_
    show OwnGo p e below s _ _ _ (T49.setTop (mkF m 183 #[.val (.int vv), .val (.int sel), .val (.int fil), .val (.int kk), .val (.int (((sel.toUInt32 >>> ((2 : Int32) &&& 31).toUInt32).toInt32) &&& (3 : Int32))), .val (.int (1 : Int32)), .val (.int st), .val (.int (fil.toInt8.toInt32)), .unset, .unset, .unset, .unset] [(.int (23 : Int32)), (.ref b1), (.ref b1)]))
    refine own_on (fun t k => XS.iload X49.here hx rfl (hb hby at_183) rfl k) ?_
    show OwnGo p e below s _ _ _ (T49.setTop (mkF m 185 #[.val (.int vv), .val (.int sel), .val (.int fil), .val (.int kk), .val (.int (((sel.toUInt32 >>> ((2 : Int32) &&& 31).toUInt32).toInt32) &&& (3 : Int32))), .val (.int (1 : Int32)), .val (.int st), .val (.int (fil.toInt8.toInt32)), .unset, .unset, .unset, .unset] [(.int (fil.toInt8.toInt32)), (.int (23 : Int32)), (.ref b1), (.ref b1)]))
    obtain ⟨cl50, Ar50, S50, H50⟩ := id V49'
    have hj50 : ¬ (23 : Int32) < 0 ∧ ((23 : Int32)).toNatClampNeg = 23 := (by decide)
    obtain ⟨T51, h51, X51, e51, W51, st51⟩ := stB X49 hx hZ e49 Ar50 (j := (23 : Int32)) (own_in S50 hj50 (by decide)) (g := (mkF m 185 #[.val (.int vv), .val (.int sel), .val (.int fil), .val (.int kk), .val (.int (((sel.toUInt32 >>> ((2 : Int32) &&& 31).toUInt32).toInt32) &&& (3 : Int32))), .val (.int (1 : Int32)), .val (.int st), .val (.int (fil.toInt8.toInt32)), .unset, .unset, .unset, .unset] [(.int (fil.toInt8.toInt32)), (.int (23 : Int32)), (.ref b1), (.ref b1)])) rfl rfl (hb hby at_185)
    have V51 : OwnArf Z h51 b1 .byte 24 (own_upd (own_fl 23 (nar .byte (fil.toInt8.toInt32))) 23 (nar .byte (fil.toInt8.toInt32))) := OwnArf.set Ar50 S50 H50 W51 hj50.2
    have V51' : OwnArf Z h51 b1 .byte 24 (own_fl 24 (nar .byte (fil.toInt8.toInt32))) := V51.congr (own_fl_up 23 _)
    have N51 := Fr.snoc X51 N49 g2
    have Z51 : n0 ≤ h51.size := Nat.le_trans Z49 (Keep.of_wr W51).1
    have K51 : Keep h0 h51 [] := K49.wr W51 (Or.inr z3)
    refine own_on st51 ?_
    show OwnGo p e below s _ _ _ (T51.setTop (mkF m 186 #[.val (.int vv), .val (.int sel), .val (.int fil), .val (.int kk), .val (.int (((sel.toUInt32 >>> ((2 : Int32) &&& 31).toUInt32).toInt32) &&& (3 : Int32))), .val (.int (1 : Int32)), .val (.int st), .val (.int (fil.toInt8.toInt32)), .unset, .unset, .unset, .unset] [(.ref b1)]))
    refine own_on (fun t k => XS.astore X51.here hx rfl (hb hby at_186) rfl rfl (l' := #[.val (.int vv), .val (.int sel), .val (.int fil), .val (.int kk), .val (.int (((sel.toUInt32 >>> ((2 : Int32) &&& 31).toUInt32).toInt32) &&& (3 : Int32))), .val (.int (1 : Int32)), .val (.int st), .val (.int (fil.toInt8.toInt32)), .val (.ref b1), .unset, .unset, .unset]) rfl k) ?_
    show OwnGo p e below s _ _ _ (T51.setTop (mkF m 188 #[.val (.int vv), .val (.int sel), .val (.int fil), .val (.int kk), .val (.int (((sel.toUInt32 >>> ((2 : Int32) &&& 31).toUInt32).toInt32) &&& (3 : Int32))), .val (.int (1 : Int32)), .val (.int st), .val (.int (fil.toInt8.toInt32)), .val (.ref b1), .unset, .unset, .unset] []))
    refine own_on (fun t k => XS.aload X51.here hx rfl (hb hby at_188) rfl rfl k) ?_
    show OwnGo p e below s _ _ _ (T51.setTop (mkF m 190 #[.val (.int vv), .val (.int sel), .val (.int fil), .val (.int kk), .val (.int (((sel.toUInt32 >>> ((2 : Int32) &&& 31).toUInt32).toInt32) &&& (3 : Int32))), .val (.int (1 : Int32)), .val (.int st), .val (.int (fil.toInt8.toInt32)), .val (.ref b1), .unset, .unset, .unset] [(.ref b1)]))
    refine own_on (fun t k => XS.iload X51.here hx rfl (hb hby at_190) rfl k) ?_
    show OwnGo p e below s _ _ _ (T51.setTop (mkF m 192 #[.val (.int vv), .val (.int sel), .val (.int fil), .val (.int kk), .val (.int (((sel.toUInt32 >>> ((2 : Int32) &&& 31).toUInt32).toInt32) &&& (3 : Int32))), .val (.int (1 : Int32)), .val (.int st), .val (.int (fil.toInt8.toInt32)), .val (.ref b1), .unset, .unset, .unset] [(.int st), (.ref b1)]))
    refine own_on (fun t k => XS.iload X51.here hx rfl (hb hby at_192) rfl k) ?_
    show OwnGo p e below s _ _ _ (T51.setTop (mkF m 194 #[.val (.int vv), .val (.int sel), .val (.int fil), .val (.int kk), .val (.int (((sel.toUInt32 >>> ((2 : Int32) &&& 31).toUInt32).toInt32) &&& (3 : Int32))), .val (.int (1 : Int32)), .val (.int st), .val (.int (fil.toInt8.toInt32)), .val (.ref b1), .unset, .unset, .unset] [(.int (1 : Int32)), (.int st), (.ref b1)]))
    refine own_on (fun t k => XS.i2b X51.here hx rfl (hb hby at_194) rfl k) ?_
    show OwnGo p e below s _ _ _ (T51.setTop (mkF m 195 #[.val (.int vv), .val (.int sel), .val (.int fil), .val (.int kk), .val (.int (((sel.toUInt32 >>> ((2 : Int32) &&& 31).toUInt32).toInt32) &&& (3 : Int32))), .val (.int (1 : Int32)), .val (.int st), .val (.int (fil.toInt8.toInt32)), .val (.ref b1), .unset, .unset, .unset] [(.int ((1 : Int32).toInt8.toInt32)), (.int st), (.ref b1)]))
    obtain ⟨cl52, Ar52, S52, H52⟩ := id V51'
    have hj52 : ¬ st < 0 ∧ (st).toNatClampNeg = sN := own_ix hS
    obtain ⟨T53, h53, X53, e53, W53, st53⟩ := stB X51 hx hZ e51 Ar52 (j := st) (own_in S52 hj52 (by omega)) (g := (mkF m 195 #[.val (.int vv), .val (.int sel), .val (.int fil), .val (.int kk), .val (.int (((sel.toUInt32 >>> ((2 : Int32) &&& 31).toUInt32).toInt32) &&& (3 : Int32))), .val (.int (1 : Int32)), .val (.int st), .val (.int (fil.toInt8.toInt32)), .val (.ref b1), .unset, .unset, .unset] [(.int ((1 : Int32).toInt8.toInt32)), (.int st), (.ref b1)])) rfl rfl (hb hby at_195)
    have V53 : OwnArf Z h53 b1 .byte 24 (own_upd (own_fl 24 (nar .byte (fil.toInt8.toInt32))) sN (nar .byte ((1 : Int32).toInt8.toInt32))) := OwnArf.set Ar52 S52 H52 W53 hj52.2
    have N53 := Fr.snoc X53 N51 g2
    have Z53 : n0 ≤ h53.size := Nat.le_trans Z51 (Keep.of_wr W53).1
    have K53 : Keep h0 h53 [] := K51.wr W53 (Or.inr z3)
    refine own_on st53 ?_
    show OwnGo p e below s _ _ _ (T53.setTop (mkF m 196 #[.val (.int vv), .val (.int sel), .val (.int fil), .val (.int kk), .val (.int (((sel.toUInt32 >>> ((2 : Int32) &&& 31).toUInt32).toInt32) &&& (3 : Int32))), .val (.int (1 : Int32)), .val (.int st), .val (.int (fil.toInt8.toInt32)), .val (.ref b1), .unset, .unset, .unset] []))
    have hP : ((st + (1 : Int32)) + (kk * (1 : Int32))).toInt = (((sN + 1 + kN * 1) : Nat) : Int) := own_p hS hK hS0 hK0 1 (by decide) (by decide)
    refine own_on (fun t k => XS.iload X53.here hx rfl (hb hby at_196) rfl k) ?_
    show OwnGo p e below s _ _ _ (T53.setTop (mkF m 198 #[.val (.int vv), .val (.int sel), .val (.int fil), .val (.int kk), .val (.int (((sel.toUInt32 >>> ((2 : Int32) &&& 31).toUInt32).toInt32) &&& (3 : Int32))), .val (.int (1 : Int32)), .val (.int st), .val (.int (fil.toInt8.toInt32)), .val (.ref b1), .unset, .unset, .unset] [(.int st)]))
    refine own_on (fun t k => XS.iconst X53.here hx rfl (hb hby at_198) k) ?_
    show OwnGo p e below s _ _ _ (T53.setTop (mkF m 199 #[.val (.int vv), .val (.int sel), .val (.int fil), .val (.int kk), .val (.int (((sel.toUInt32 >>> ((2 : Int32) &&& 31).toUInt32).toInt32) &&& (3 : Int32))), .val (.int (1 : Int32)), .val (.int st), .val (.int (fil.toInt8.toInt32)), .val (.ref b1), .unset, .unset, .unset] [(.int (1 : Int32)), (.int st)]))
    refine own_on (fun t k => XS.iadd X53.here hx rfl (hb hby at_199) rfl k) ?_
    show OwnGo p e below s _ _ _ (T53.setTop (mkF m 200 #[.val (.int vv), .val (.int sel), .val (.int fil), .val (.int kk), .val (.int (((sel.toUInt32 >>> ((2 : Int32) &&& 31).toUInt32).toInt32) &&& (3 : Int32))), .val (.int (1 : Int32)), .val (.int st), .val (.int (fil.toInt8.toInt32)), .val (.ref b1), .unset, .unset, .unset] [(.int (st + (1 : Int32)))]))
    refine own_on (fun t k => XS.iloadN X53.here hx rfl (hb hby at_200) rfl k) ?_
    show OwnGo p e below s _ _ _ (T53.setTop (mkF m 201 #[.val (.int vv), .val (.int sel), .val (.int fil), .val (.int kk), .val (.int (((sel.toUInt32 >>> ((2 : Int32) &&& 31).toUInt32).toInt32) &&& (3 : Int32))), .val (.int (1 : Int32)), .val (.int st), .val (.int (fil.toInt8.toInt32)), .val (.ref b1), .unset, .unset, .unset] [(.int kk), (.int (st + (1 : Int32)))]))
    refine own_on (fun t k => XS.iload X53.here hx rfl (hb hby at_201) rfl k) ?_
    show OwnGo p e below s _ _ _ (T53.setTop (mkF m 203 #[.val (.int vv), .val (.int sel), .val (.int fil), .val (.int kk), .val (.int (((sel.toUInt32 >>> ((2 : Int32) &&& 31).toUInt32).toInt32) &&& (3 : Int32))), .val (.int (1 : Int32)), .val (.int st), .val (.int (fil.toInt8.toInt32)), .val (.ref b1), .unset, .unset, .unset] [(.int (1 : Int32)), (.int kk), (.int (st + (1 : Int32)))]))
    refine own_on (fun t k => XS.imul X53.here hx rfl (hb hby at_203) rfl k) ?_
    show OwnGo p e below s _ _ _ (T53.setTop (mkF m 204 #[.val (.int vv), .val (.int sel), .val (.int fil), .val (.int kk), .val (.int (((sel.toUInt32 >>> ((2 : Int32) &&& 31).toUInt32).toInt32) &&& (3 : Int32))), .val (.int (1 : Int32)), .val (.int st), .val (.int (fil.toInt8.toInt32)), .val (.ref b1), .unset, .unset, .unset] [(.int (kk * (1 : Int32))), (.int (st + (1 : Int32)))]))
    refine own_on (fun t k => XS.iadd X53.here hx rfl (hb hby at_204) rfl k) ?_
    show OwnGo p e below s _ _ _ (T53.setTop (mkF m 205 #[.val (.int vv), .val (.int sel), .val (.int fil), .val (.int kk), .val (.int (((sel.toUInt32 >>> ((2 : Int32) &&& 31).toUInt32).toInt32) &&& (3 : Int32))), .val (.int (1 : Int32)), .val (.int st), .val (.int (fil.toInt8.toInt32)), .val (.ref b1), .unset, .unset, .unset] [(.int ((st + (1 : Int32)) + (kk * (1 : Int32))))]))
    refine own_on (fun t k => XS.istore X53.here hx rfl (hb hby at_205) rfl (l' := #[.val (.int vv), .val (.int sel), .val (.int fil), .val (.int kk), .val (.int (((sel.toUInt32 >>> ((2 : Int32) &&& 31).toUInt32).toInt32) &&& (3 : Int32))), .val (.int (1 : Int32)), .val (.int st), .val (.int (fil.toInt8.toInt32)), .val (.ref b1), .val (.int ((st + (1 : Int32)) + (kk * (1 : Int32)))), .unset, .unset]) rfl k) ?_
    show OwnGo p e below s _ _ _ (T53.setTop (mkF m 207 #[.val (.int vv), .val (.int sel), .val (.int fil), .val (.int kk), .val (.int (((sel.toUInt32 >>> ((2 : Int32) &&& 31).toUInt32).toInt32) &&& (3 : Int32))), .val (.int (1 : Int32)), .val (.int st), .val (.int (fil.toInt8.toInt32)), .val (.ref b1), .val (.int ((st + (1 : Int32)) + (kk * (1 : Int32)))), .unset, .unset] []))
    refine own_on (fun t k => XS.iload X53.here hx rfl (hb hby at_207) rfl k) ?_
    show OwnGo p e below s _ _ _ (T53.setTop (mkF m 209 #[.val (.int vv), .val (.int sel), .val (.int fil), .val (.int kk), .val (.int (((sel.toUInt32 >>> ((2 : Int32) &&& 31).toUInt32).toInt32) &&& (3 : Int32))), .val (.int (1 : Int32)), .val (.int st), .val (.int (fil.toInt8.toInt32)), .val (.ref b1), .val (.int ((st + (1 : Int32)) + (kk * (1 : Int32)))), .unset, .unset] [(.int (1 : Int32))]))
    refine own_on (fun t k => XS.iconst X53.here hx rfl (hb hby at_209) k) ?_
    show OwnGo p e below s _ _ _ (T53.setTop (mkF m 210 #[.val (.int vv), .val (.int sel), .val (.int fil), .val (.int kk), .val (.int (((sel.toUInt32 >>> ((2 : Int32) &&& 31).toUInt32).toInt32) &&& (3 : Int32))), .val (.int (1 : Int32)), .val (.int st), .val (.int (fil.toInt8.toInt32)), .val (.ref b1), .val (.int ((st + (1 : Int32)) + (kk * (1 : Int32)))), .unset, .unset] [(.int (1 : Int32)), (.int (1 : Int32))]))
    refine own_on (fun t k => XS.icmpNo X53.here hx rfl (hb hby at_210) rfl (teq (by decide : (1 : Int32) = (1 : Int32))).2 k) ?_
    show OwnGo p e below s _ _ _ (T53.setTop (mkF m 213 #[.val (.int vv), .val (.int sel), .val (.int fil), .val (.int kk), .val (.int (((sel.toUInt32 >>> ((2 : Int32) &&& 31).toUInt32).toInt32) &&& (3 : Int32))), .val (.int (1 : Int32)), .val (.int st), .val (.int (fil.toInt8.toInt32)), .val (.ref b1), .val (.int ((st + (1 : Int32)) + (kk * (1 : Int32)))), .unset, .unset] []))
    refine own_on (fun t k => XS.aload X53.here hx rfl (hb hby at_213) rfl rfl k) ?_
    show OwnGo p e below s _ _ _ (T53.setTop (mkF m 215 #[.val (.int vv), .val (.int sel), .val (.int fil), .val (.int kk), .val (.int (((sel.toUInt32 >>> ((2 : Int32) &&& 31).toUInt32).toInt32) &&& (3 : Int32))), .val (.int (1 : Int32)), .val (.int st), .val (.int (fil.toInt8.toInt32)), .val (.ref b1), .val (.int ((st + (1 : Int32)) + (kk * (1 : Int32)))), .unset, .unset] [(.ref b1)]))
    refine own_on (fun t k => XS.iload X53.here hx rfl (hb hby at_215) rfl k) ?_
    show OwnGo p e below s _ _ _ (T53.setTop (mkF m 217 #[.val (.int vv), .val (.int sel), .val (.int fil), .val (.int kk), .val (.int (((sel.toUInt32 >>> ((2 : Int32) &&& 31).toUInt32).toInt32) &&& (3 : Int32))), .val (.int (1 : Int32)), .val (.int st), .val (.int (fil.toInt8.toInt32)), .val (.ref b1), .val (.int ((st + (1 : Int32)) + (kk * (1 : Int32)))), .unset, .unset] [(.int ((st + (1 : Int32)) + (kk * (1 : Int32)))), (.ref b1)]))
    refine own_on (fun t k => XS.iloadN X53.here hx rfl (hb hby at_217) rfl k) ?_
    show OwnGo p e below s _ _ _ (T53.setTop (mkF m 218 #[.val (.int vv), .val (.int sel), .val (.int fil), .val (.int kk), .val (.int (((sel.toUInt32 >>> ((2 : Int32) &&& 31).toUInt32).toInt32) &&& (3 : Int32))), .val (.int (1 : Int32)), .val (.int st), .val (.int (fil.toInt8.toInt32)), .val (.ref b1), .val (.int ((st + (1 : Int32)) + (kk * (1 : Int32)))), .unset, .unset] [(.int vv), (.int ((st + (1 : Int32)) + (kk * (1 : Int32)))), (.ref b1)]))
    refine own_on (fun t k => XS.i2b X53.here hx rfl (hb hby at_218) rfl k) ?_
    show OwnGo p e below s _ _ _ (T53.setTop (mkF m 219 #[.val (.int vv), .val (.int sel), .val (.int fil), .val (.int kk), .val (.int (((sel.toUInt32 >>> ((2 : Int32) &&& 31).toUInt32).toInt32) &&& (3 : Int32))), .val (.int (1 : Int32)), .val (.int st), .val (.int (fil.toInt8.toInt32)), .val (.ref b1), .val (.int ((st + (1 : Int32)) + (kk * (1 : Int32)))), .unset, .unset] [(.int (vv.toInt8.toInt32)), (.int ((st + (1 : Int32)) + (kk * (1 : Int32)))), (.ref b1)]))
    obtain ⟨cl54, Ar54, S54, H54⟩ := id V53
    have hj54 : ¬ ((st + (1 : Int32)) + (kk * (1 : Int32))) < 0 ∧ (((st + (1 : Int32)) + (kk * (1 : Int32)))).toNatClampNeg = (sN + 1 + kN * 1) := own_ix hP
    obtain ⟨T55, h55, X55, e55, W55, st55⟩ := stB X53 hx hZ e53 Ar54 (j := ((st + (1 : Int32)) + (kk * (1 : Int32)))) (own_in S54 hj54 (by omega)) (g := (mkF m 219 #[.val (.int vv), .val (.int sel), .val (.int fil), .val (.int kk), .val (.int (((sel.toUInt32 >>> ((2 : Int32) &&& 31).toUInt32).toInt32) &&& (3 : Int32))), .val (.int (1 : Int32)), .val (.int st), .val (.int (fil.toInt8.toInt32)), .val (.ref b1), .val (.int ((st + (1 : Int32)) + (kk * (1 : Int32)))), .unset, .unset] [(.int (vv.toInt8.toInt32)), (.int ((st + (1 : Int32)) + (kk * (1 : Int32)))), (.ref b1)])) rfl rfl (hb hby at_219)
    have V55 : OwnArf Z h55 b1 .byte 24 (own_upd (own_upd (own_fl 24 (nar .byte (fil.toInt8.toInt32))) sN (nar .byte ((1 : Int32).toInt8.toInt32))) (sN + 1 + kN * 1) (nar .byte (vv.toInt8.toInt32))) := OwnArf.set Ar54 S54 H54 W55 hj54.2
    have N55 := Fr.snoc X55 N53 g2
    have Z55 : n0 ≤ h55.size := Nat.le_trans Z53 (Keep.of_wr W55).1
    have K55 : Keep h0 h55 [] := K53.wr W55 (Or.inr z3)
    refine own_on st55 ?_
    show OwnGo p e below s _ _ _ (T55.setTop (mkF m 220 #[.val (.int vv), .val (.int sel), .val (.int fil), .val (.int kk), .val (.int (((sel.toUInt32 >>> ((2 : Int32) &&& 31).toUInt32).toInt32) &&& (3 : Int32))), .val (.int (1 : Int32)), .val (.int st), .val (.int (fil.toInt8.toInt32)), .val (.ref b1), .val (.int ((st + (1 : Int32)) + (kk * (1 : Int32)))), .unset, .unset] []))
    refine own_on (fun t k => XS.iloadN X55.here hx rfl (hb hby at_220) rfl k) ?_
    show OwnGo p e below s _ _ _ (T55.setTop (mkF m 221 #[.val (.int vv), .val (.int sel), .val (.int fil), .val (.int kk), .val (.int (((sel.toUInt32 >>> ((2 : Int32) &&& 31).toUInt32).toInt32) &&& (3 : Int32))), .val (.int (1 : Int32)), .val (.int st), .val (.int (fil.toInt8.toInt32)), .val (.ref b1), .val (.int ((st + (1 : Int32)) + (kk * (1 : Int32)))), .unset, .unset] [(.int vv)]))
    refine own_on (fun t k => XS.i2b X55.here hx rfl (hb hby at_221) rfl k) ?_
    show OwnGo p e below s _ _ _ (T55.setTop (mkF m 222 #[.val (.int vv), .val (.int sel), .val (.int fil), .val (.int kk), .val (.int (((sel.toUInt32 >>> ((2 : Int32) &&& 31).toUInt32).toInt32) &&& (3 : Int32))), .val (.int (1 : Int32)), .val (.int st), .val (.int (fil.toInt8.toInt32)), .val (.ref b1), .val (.int ((st + (1 : Int32)) + (kk * (1 : Int32)))), .unset, .unset] [(.int (vv.toInt8.toInt32))]))
    refine own_on (fun t k => XS.istore X55.here hx rfl (hb hby at_222) rfl (l' := #[.val (.int vv), .val (.int sel), .val (.int fil), .val (.int kk), .val (.int (((sel.toUInt32 >>> ((2 : Int32) &&& 31).toUInt32).toInt32) &&& (3 : Int32))), .val (.int (1 : Int32)), .val (.int st), .val (.int (fil.toInt8.toInt32)), .val (.ref b1), .val (.int ((st + (1 : Int32)) + (kk * (1 : Int32)))), .unset, .val (.int (vv.toInt8.toInt32))]) rfl k) ?_
    show OwnGo p e below s _ _ _ (T55.setTop (mkF m 224 #[.val (.int vv), .val (.int sel), .val (.int fil), .val (.int kk), .val (.int (((sel.toUInt32 >>> ((2 : Int32) &&& 31).toUInt32).toInt32) &&& (3 : Int32))), .val (.int (1 : Int32)), .val (.int st), .val (.int (fil.toInt8.toInt32)), .val (.ref b1), .val (.int ((st + (1 : Int32)) + (kk * (1 : Int32)))), .unset, .val (.int (vv.toInt8.toInt32))] []))
    refine own_on (fun t k => XS.iload X55.here hx rfl (hb hby at_224) rfl k) ?_
    show OwnGo p e below s _ _ _ (T55.setTop (mkF m 226 #[.val (.int vv), .val (.int sel), .val (.int fil), .val (.int kk), .val (.int (((sel.toUInt32 >>> ((2 : Int32) &&& 31).toUInt32).toInt32) &&& (3 : Int32))), .val (.int (1 : Int32)), .val (.int st), .val (.int (fil.toInt8.toInt32)), .val (.ref b1), .val (.int ((st + (1 : Int32)) + (kk * (1 : Int32)))), .unset, .val (.int (vv.toInt8.toInt32))] [(.int (vv.toInt8.toInt32))]))
    refine own_on (fun t k => XS.bipush X55.here hx rfl (hb hby at_226) k) ?_
    show OwnGo p e below s _ _ _ (T55.setTop (mkF m 228 #[.val (.int vv), .val (.int sel), .val (.int fil), .val (.int kk), .val (.int (((sel.toUInt32 >>> ((2 : Int32) &&& 31).toUInt32).toInt32) &&& (3 : Int32))), .val (.int (1 : Int32)), .val (.int st), .val (.int (fil.toInt8.toInt32)), .val (.ref b1), .val (.int ((st + (1 : Int32)) + (kk * (1 : Int32)))), .unset, .val (.int (vv.toInt8.toInt32))] [(.int (127 : Int32)), (.int (vv.toInt8.toInt32))]))
    by_cases qe : (vv.toInt8.toInt32) = (127 : Int32)
    · refine own_on (fun t k => XS.icmpNo X55.here hx rfl (hb hby at_228) rfl (teq qe).2 k) ?_
      show OwnGo p e below s _ _ _ (T55.setTop (mkF m 231 #[.val (.int vv), .val (.int sel), .val (.int fil), .val (.int kk), .val (.int (((sel.toUInt32 >>> ((2 : Int32) &&& 31).toUInt32).toInt32) &&& (3 : Int32))), .val (.int (1 : Int32)), .val (.int st), .val (.int (fil.toInt8.toInt32)), .val (.ref b1), .val (.int ((st + (1 : Int32)) + (kk * (1 : Int32)))), .unset, .val (.int (vv.toInt8.toInt32))] []))
      refine own_on (X55.ldcInt hx hown (mvT hZ (w39 hw)) (g := (mkF m 231 #[.val (.int vv), .val (.int sel), .val (.int fil), .val (.int kk), .val (.int (((sel.toUInt32 >>> ((2 : Int32) &&& 31).toUInt32).toInt32) &&& (3 : Int32))), .val (.int (1 : Int32)), .val (.int st), .val (.int (fil.toInt8.toInt32)), .val (.ref b1), .val (.int ((st + (1 : Int32)) + (kk * (1 : Int32)))), .unset, .val (.int (vv.toInt8.toInt32))] [])) rfl (hb hby at_231)) ?_
      show OwnGo p e below s _ _ _ (T55.setTop (mkF m 233 #[.val (.int vv), .val (.int sel), .val (.int fil), .val (.int kk), .val (.int (((sel.toUInt32 >>> ((2 : Int32) &&& 31).toUInt32).toInt32) &&& (3 : Int32))), .val (.int (1 : Int32)), .val (.int st), .val (.int (fil.toInt8.toInt32)), .val (.ref b1), .val (.int ((st + (1 : Int32)) + (kk * (1 : Int32)))), .unset, .val (.int (vv.toInt8.toInt32))] [(.int (2147483647 : Int32))]))
      refine own_on (fun t k => XS.goto X55.here hx rfl (pc0 := 233) (pc' := 238) rfl (hb hby at_233) (by decide) (by decide) k) ?_
      show OwnGo p e below s _ _ _ (T55.setTop (mkF m 238 #[.val (.int vv), .val (.int sel), .val (.int fil), .val (.int kk), .val (.int (((sel.toUInt32 >>> ((2 : Int32) &&& 31).toUInt32).toInt32) &&& (3 : Int32))), .val (.int (1 : Int32)), .val (.int st), .val (.int (fil.toInt8.toInt32)), .val (.ref b1), .val (.int ((st + (1 : Int32)) + (kk * (1 : Int32)))), .unset, .val (.int (vv.toInt8.toInt32))] [(.int (2147483647 : Int32))]))
      refine own_on (fun t k => XS.istore X55.here hx rfl (hb hby at_238) rfl (l' := #[.val (.int vv), .val (.int sel), .val (.int fil), .val (.int kk), .val (.int (((sel.toUInt32 >>> ((2 : Int32) &&& 31).toUInt32).toInt32) &&& (3 : Int32))), .val (.int (1 : Int32)), .val (.int st), .val (.int (fil.toInt8.toInt32)), .val (.ref b1), .val (.int ((st + (1 : Int32)) + (kk * (1 : Int32)))), .val (.int (2147483647 : Int32)), .val (.int (vv.toInt8.toInt32))]) rfl k) ?_
      show OwnGo p e below s _ _ _ (T55.setTop (mkF m 240 #[.val (.int vv), .val (.int sel), .val (.int fil), .val (.int kk), .val (.int (((sel.toUInt32 >>> ((2 : Int32) &&& 31).toUInt32).toInt32) &&& (3 : Int32))), .val (.int (1 : Int32)), .val (.int st), .val (.int (fil.toInt8.toInt32)), .val (.ref b1), .val (.int ((st + (1 : Int32)) + (kk * (1 : Int32)))), .val (.int (2147483647 : Int32)), .val (.int (vv.toInt8.toInt32))] []))
      refine own_on (fun t k => XS.goto X55.here hx rfl (pc0 := 240) (pc' := 338) rfl (hb hby at_240) (by decide) (by decide) k) ?_
      show OwnGo p e below s _ _ _ (T55.setTop (mkF m 338 #[.val (.int vv), .val (.int sel), .val (.int fil), .val (.int kk), .val (.int (((sel.toUInt32 >>> ((2 : Int32) &&& 31).toUInt32).toInt32) &&& (3 : Int32))), .val (.int (1 : Int32)), .val (.int st), .val (.int (fil.toInt8.toInt32)), .val (.ref b1), .val (.int ((st + (1 : Int32)) + (kk * (1 : Int32)))), .val (.int (2147483647 : Int32)), .val (.int (vv.toInt8.toInt32))] []))
      obtain ⟨T56, h56, X56, e56, E56, A56, D56, u56, st56⟩ := newO X55 hx hZ hown (w1 hw) (w2 hw) (w3 hw) e55 (g := (mkF m 338 #[.val (.int vv), .val (.int sel), .val (.int fil), .val (.int kk), .val (.int (((sel.toUInt32 >>> ((2 : Int32) &&& 31).toUInt32).toInt32) &&& (3 : Int32))), .val (.int (1 : Int32)), .val (.int st), .val (.int (fil.toInt8.toInt32)), .val (.ref b1), .val (.int ((st + (1 : Int32)) + (kk * (1 : Int32)))), .val (.int (2147483647 : Int32)), .val (.int (vv.toInt8.toInt32))] [])) rfl (hb hby at_338) (by decide) (by decide)
      obtain ⟨b56, g56⟩ : ∃ z, z = h55.size := ⟨_, rfl⟩
      rw [← g56] at A56 D56 st56
      have ne57 : b1 ≠ b56 := Nat.ne_of_lt (Nat.lt_of_lt_of_le V55.lt (Nat.le_of_eq g56.symm))
      have g58 : n0 ≤ b56 := Nat.le_trans Z55 (Nat.le_of_eq g56.symm)
      have z59 : h0.size ≤ b56 := Nat.le_trans K55.1 (Nat.le_of_eq g56.symm)
      have Z56 : n0 ≤ h56.size := Nat.le_trans Z55 E56.1
      have K56 : Keep h0 h56 [] := K55.ext E56
      have F56_failedRow : Fld Z h56 b56 "org/tempochart/zone/PackedZone" "failedRow" "[I" .null := D56 (Or.inr (w12 hw)) (ty := (.array .int)) (by decide)
      have F56_failedColumn : Fld Z h56 b56 "org/tempochart/zone/PackedZone" "failedColumn" "[I" .null := D56 (Or.inr (w14 hw)) (ty := (.array .int)) (by decide)
      have F56_bytes : Fld Z h56 b56 "org/tempochart/zone/PackedZone" "bytes" "[B" .null := D56 (Or.inl (w21 hw)) (ty := (.array .byte)) (by decide)
      have F56_dimension : Fld Z h56 b56 "org/tempochart/zone/PackedZone" "dimension" "I" (.int (0 : Int32)) := D56 (Or.inl (w23 hw)) (ty := .int) (by decide)
      have F56_width : Fld Z h56 b56 "org/tempochart/zone/PackedZone" "width" "I" (.int (0 : Int32)) := D56 (Or.inl (w25 hw)) (ty := .int) (by decide)
      have F56_first : Fld Z h56 b56 "org/tempochart/zone/PackedZone" "first" "I" (.int (0 : Int32)) := D56 (Or.inl (w27 hw)) (ty := .int) (by decide)
      have F56_none : Fld Z h56 b56 "org/tempochart/zone/PackedZone" "none" "I" (.int (0 : Int32)) := D56 (Or.inl (w32 hw)) (ty := .int) (by decide)
      refine own_on st56 ?_
      show OwnGo p e below s _ _ _ (T56.setTop (mkF m 341 #[.val (.int vv), .val (.int sel), .val (.int fil), .val (.int kk), .val (.int (((sel.toUInt32 >>> ((2 : Int32) &&& 31).toUInt32).toInt32) &&& (3 : Int32))), .val (.int (1 : Int32)), .val (.int st), .val (.int (fil.toInt8.toInt32)), .val (.ref b1), .val (.int ((st + (1 : Int32)) + (kk * (1 : Int32)))), .val (.int (2147483647 : Int32)), .val (.int (vv.toInt8.toInt32))] [(.ref b56)]))
      refine own_on (fun t k => XS.dup X56.here hx rfl (hb hby at_341) rfl rfl k) ?_
      show OwnGo p e below s _ _ _ (T56.setTop (mkF m 342 #[.val (.int vv), .val (.int sel), .val (.int fil), .val (.int kk), .val (.int (((sel.toUInt32 >>> ((2 : Int32) &&& 31).toUInt32).toInt32) &&& (3 : Int32))), .val (.int (1 : Int32)), .val (.int st), .val (.int (fil.toInt8.toInt32)), .val (.ref b1), .val (.int ((st + (1 : Int32)) + (kk * (1 : Int32)))), .val (.int (2147483647 : Int32)), .val (.int (vv.toInt8.toInt32))] [(.ref b56), (.ref b56)]))
      obtain ⟨_, _, ⟨T60, L60, k60, n60⟩, -, X60, ⟨Lc60, hQ60, l60, y60, z60⟩, st60⟩ := X56.specialBack hx (y := (⟨"org/tempochart/zone/PackedZone", "<init>", "()V"⟩ : MethodName)) rfl hown (mvT hZ (w4 hw)) (mvT hZ (w5 hw)) (mvT hZ (w6 hw)) (by decide) (backOf (W := 1) (rm1 l Z a0 hw [] b56 .null (.int (0 : Int32)) (.int (0 : Int32)) (.int (0 : Int32)) (.int (0 : Int32)) .null .null h56 n0 Z56 A56 F56_failedRow F56_failedColumn g58 F56_bytes F56_dimension F56_width F56_first F56_none) hZ (w6 hw) (w3 hw) (by decide) (by decide)) (g := (mkF m 342 #[.val (.int vv), .val (.int sel), .val (.int fil), .val (.int kk), .val (.int (((sel.toUInt32 >>> ((2 : Int32) &&& 31).toUInt32).toInt32) &&& (3 : Int32))), .val (.int (1 : Int32)), .val (.int st), .val (.int (fil.toInt8.toInt32)), .val (.ref b1), .val (.int ((st + (1 : Int32)) + (kk * (1 : Int32)))), .val (.int (2147483647 : Int32)), .val (.int (vv.toInt8.toInt32))] [(.ref b56), (.ref b56)])) rfl (by rw [hml]; rfl) (Steps.refl _) (a := b56) (argsL := []) (rest := [(.ref b56)]) (lenOf pd_1 rfl) rfl (by show 2 * 0 + _ ≤ _; exact Nat.le_of_eq rfl) (hb hby at_342) (fun _ _ => ⟨rfl, e56, (by decide : 2 + 2 ≤ _), (by decide : 31 + 4 ≤ _)⟩)
      dsimp only [Pt.U, Pt.locs, Pt.cells, Pt.slots] at X60 l60 y60 z60 st60 hQ60
      replace X60 := own_num (c' := 4) (n' := 35) X60 l60 (y60.trans rfl) (z60.trans rfl)
      obtain ⟨rfl, N60q, K60q, c60_0, c60_1, c60_2, c60_3, c60_4, c60_5⟩ := hQ60
      have N60 := Fr.app N55 N60q
      have Z60 : n0 ≤ T60.heap.size := Nat.le_trans Z56 K60q.1
      have K60 : Keep h0 T60.heap [] := K56.trans K60q (allS (P := fun x => x ∈ [] ∨ h0.size ≤ x) (Or.inr z59) all0)
      refine own_tr st60 ?_
      show OwnGo p e below s _ _ _ (T60.setTop (mkF m 345 #[.val (.int vv), .val (.int sel), .val (.int fil), .val (.int kk), .val (.int (((sel.toUInt32 >>> ((2 : Int32) &&& 31).toUInt32).toInt32) &&& (3 : Int32))), .val (.int (1 : Int32)), .val (.int st), .val (.int (fil.toInt8.toInt32)), .val (.ref b1), .val (.int ((st + (1 : Int32)) + (kk * (1 : Int32)))), .val (.int (2147483647 : Int32)), .val (.int (vv.toInt8.toInt32))] [(.ref b56)]))
      refine own_on (fun t k => XS.aload X60.here hx rfl (hb hby at_345) rfl rfl k) ?_
      show OwnGo p e below s _ _ _ (T60.setTop (mkF m 347 #[.val (.int vv), .val (.int sel), .val (.int fil), .val (.int kk), .val (.int (((sel.toUInt32 >>> ((2 : Int32) &&& 31).toUInt32).toInt32) &&& (3 : Int32))), .val (.int (1 : Int32)), .val (.int st), .val (.int (fil.toInt8.toInt32)), .val (.ref b1), .val (.int ((st + (1 : Int32)) + (kk * (1 : Int32)))), .val (.int (2147483647 : Int32)), .val (.int (vv.toInt8.toInt32))] [(.ref b1), (.ref b56)]))
      refine own_on (fun t k => XS.iload X60.here hx rfl (hb hby at_347) rfl k) ?_
      show OwnGo p e below s _ _ _ (T60.setTop (mkF m 349 #[.val (.int vv), .val (.int sel), .val (.int fil), .val (.int kk), .val (.int (((sel.toUInt32 >>> ((2 : Int32) &&& 31).toUInt32).toInt32) &&& (3 : Int32))), .val (.int (1 : Int32)), .val (.int st), .val (.int (fil.toInt8.toInt32)), .val (.ref b1), .val (.int ((st + (1 : Int32)) + (kk * (1 : Int32)))), .val (.int (2147483647 : Int32)), .val (.int (vv.toInt8.toInt32))] [(.int st), (.ref b1), (.ref b56)]))
      refine own_on (fun t k => XS.iconst X60.here hx rfl (hb hby at_349) k) ?_
      show OwnGo p e below s _ _ _ (T60.setTop (mkF m 350 #[.val (.int vv), .val (.int sel), .val (.int fil), .val (.int kk), .val (.int (((sel.toUInt32 >>> ((2 : Int32) &&& 31).toUInt32).toInt32) &&& (3 : Int32))), .val (.int (1 : Int32)), .val (.int st), .val (.int (fil.toInt8.toInt32)), .val (.ref b1), .val (.int ((st + (1 : Int32)) + (kk * (1 : Int32)))), .val (.int (2147483647 : Int32)), .val (.int (vv.toInt8.toInt32))] [(.int (2 : Int32)), (.int st), (.ref b1), (.ref b56)]))
      have f61 : OwnArf Z h56 b1 .byte 24 (own_upd (own_upd (own_fl 24 (nar .byte (fil.toInt8.toInt32))) sN (nar .byte ((1 : Int32).toInt8.toInt32))) (sN + 1 + kN * 1) (nar .byte (vv.toInt8.toInt32))) := V55.ext E56
      have f62 : OwnArf Z T60.heap b1 .byte 24 (own_upd (own_upd (own_fl 24 (nar .byte (fil.toInt8.toInt32))) sN (nar .byte ((1 : Int32).toInt8.toInt32))) (sN + 1 + kN * 1) (nar .byte (vv.toInt8.toInt32))) := f61.keep K60q (ninS ne57 nin0)
      obtain ⟨cq63, kq63, q63a, q63b, q63c⟩ := isOf hZ rfl c60_0
      obtain ⟨_, _, ⟨T63, L63, k63, n63⟩, -, X63, ⟨Lc63, hQ63, l63, y63, z63⟩, st63⟩ := X60.virtualBack hx (y := (⟨"org/tempochart/zone/PackedZone", "at", "([BII)Lorg/tempochart/zone/PackedZone;"⟩ : MethodName)) (z := (⟨"org/tempochart/zone/PackedZone", "at", "([BII)Lorg/tempochart/zone/PackedZone;"⟩ : MethodName)) hown (mvT hZ (w15 hw)) (mvT hZ (w16 hw)) (notFace_of_selects (args := #[]) (mvT hZ (w18 hw))) (mvT hZ (w18 hw)) (mvT hZ (w17 hw)) (by decide) (backOf (W := 0) (rm3 l Z a0 hw [] b56 b1 st (2 : Int32) .null (.int (0 : Int32)) (.int (0 : Int32)) (.int (0 : Int32)) (.int (0 : Int32)) (own_upd (own_upd (own_fl 24 (nar .byte (fil.toInt8.toInt32))) sN (nar .byte ((1 : Int32).toInt8.toInt32))) (sN + 1 + kN * 1) (nar .byte (vv.toInt8.toInt32))) sN T60.heap n0 Z60 c60_0 c60_1 c60_2 c60_3 c60_4 c60_5 g58 f62 ne57 hS hS0) hZ (w19 hw) (w3 hw) (by decide) (by decide)) q63a q63c (g := (mkF m 350 #[.val (.int vv), .val (.int sel), .val (.int fil), .val (.int kk), .val (.int (((sel.toUInt32 >>> ((2 : Int32) &&& 31).toUInt32).toInt32) &&& (3 : Int32))), .val (.int (1 : Int32)), .val (.int st), .val (.int (fil.toInt8.toInt32)), .val (.ref b1), .val (.int ((st + (1 : Int32)) + (kk * (1 : Int32)))), .val (.int (2147483647 : Int32)), .val (.int (vv.toInt8.toInt32))] [(.int (2 : Int32)), (.int st), (.ref b1), (.ref b56)])) rfl (by rw [hml]; rfl) (Steps.refl _) (argsL := [(.ref b1), (.int st), (.int (2 : Int32))]) (rest := []) (lenOf pd_2 rfl) rfl (by show 2 * 0 + _ ≤ _; exact Nat.le_of_eq rfl) (hb hby at_350) (fun _ _ => ⟨rfl, rfl, (by decide : 4 + 0 ≤ _), (by decide : 35 + 0 ≤ _)⟩)
      dsimp only [Pt.U, Pt.locs, Pt.cells, Pt.slots] at X63 l63 y63 z63 st63 hQ63
      replace X63 := own_num (c' := 4) (n' := 35) X63 l63 (y63.trans rfl) (z63.trans rfl)
      obtain ⟨rfl, N63q, K63q, c63_0, c63_1, c63_2, c63_3, c63_4⟩ := hQ63
      have N63 := Fr.app N60 N63q
      have Z63 : n0 ≤ T63.heap.size := Nat.le_trans Z60 K63q.1
      have K63 : Keep h0 T63.heap [] := K60.trans K63q (allS (P := fun x => x ∈ [] ∨ h0.size ≤ x) (Or.inr z59) all0)
      refine own_tr st63 ?_
      show OwnGo p e below s _ _ _ (T63.setTop (mkF m 353 #[.val (.int vv), .val (.int sel), .val (.int fil), .val (.int kk), .val (.int (((sel.toUInt32 >>> ((2 : Int32) &&& 31).toUInt32).toInt32) &&& (3 : Int32))), .val (.int (1 : Int32)), .val (.int st), .val (.int (fil.toInt8.toInt32)), .val (.ref b1), .val (.int ((st + (1 : Int32)) + (kk * (1 : Int32)))), .val (.int (2147483647 : Int32)), .val (.int (vv.toInt8.toInt32))] [(.ref b56)]))
      have hf1 : ((own_upd (own_upd (own_fl 24 (nar .byte (fil.toInt8.toInt32))) sN (nar .byte ((1 : Int32).toInt8.toInt32))) (sN + 1 + kN * 1) (nar .byte (vv.toInt8.toInt32))) sN) = (1 : Int32) := by rw [own_miss _ _ _ (by omega), own_hit]; decide
      rw [hf1] at c63_2
      rw [hf1, show own_none 1 = (127 : Int32) from by decide] at c63_4
      have hP16 : (sN + 1 + kN * 1) ≤ 16 := by omega
      refine own_on (fun t k => XS.astore X63.here hx rfl (hb hby at_353) rfl rfl (l' := #[.val (.int vv), .val (.int sel), .val (.int fil), .val (.int kk), .val (.int (((sel.toUInt32 >>> ((2 : Int32) &&& 31).toUInt32).toInt32) &&& (3 : Int32))), .val (.int (1 : Int32)), .val (.int st), .val (.int (fil.toInt8.toInt32)), .val (.ref b1), .val (.int ((st + (1 : Int32)) + (kk * (1 : Int32)))), .val (.int (2147483647 : Int32)), .val (.ref b56)]) rfl k) ?_
      show OwnGo p e below s _ _ _ (T63.setTop (mkF m 355 #[.val (.int vv), .val (.int sel), .val (.int fil), .val (.int kk), .val (.int (((sel.toUInt32 >>> ((2 : Int32) &&& 31).toUInt32).toInt32) &&& (3 : Int32))), .val (.int (1 : Int32)), .val (.int st), .val (.int (fil.toInt8.toInt32)), .val (.ref b1), .val (.int ((st + (1 : Int32)) + (kk * (1 : Int32)))), .val (.int (2147483647 : Int32)), .val (.ref b56)] []))
      refine own_on (fun t k => XS.aload X63.here hx rfl (hb hby at_355) rfl rfl k) ?_
      show OwnGo p e below s _ _ _ (T63.setTop (mkF m 357 #[.val (.int vv), .val (.int sel), .val (.int fil), .val (.int kk), .val (.int (((sel.toUInt32 >>> ((2 : Int32) &&& 31).toUInt32).toInt32) &&& (3 : Int32))), .val (.int (1 : Int32)), .val (.int st), .val (.int (fil.toInt8.toInt32)), .val (.ref b1), .val (.int ((st + (1 : Int32)) + (kk * (1 : Int32)))), .val (.int (2147483647 : Int32)), .val (.ref b56)] [(.ref b56)]))
      refine own_on (fun t k => XS.iloadN X63.here hx rfl (hb hby at_357) rfl k) ?_
      show OwnGo p e below s _ _ _ (T63.setTop (mkF m 358 #[.val (.int vv), .val (.int sel), .val (.int fil), .val (.int kk), .val (.int (((sel.toUInt32 >>> ((2 : Int32) &&& 31).toUInt32).toInt32) &&& (3 : Int32))), .val (.int (1 : Int32)), .val (.int st), .val (.int (fil.toInt8.toInt32)), .val (.ref b1), .val (.int ((st + (1 : Int32)) + (kk * (1 : Int32)))), .val (.int (2147483647 : Int32)), .val (.ref b56)] [(.int kk), (.ref b56)]))
      have f64 : OwnArf Z T63.heap b1 .byte 24 (own_upd (own_upd (own_fl 24 (nar .byte (fil.toInt8.toInt32))) sN (nar .byte ((1 : Int32).toInt8.toInt32))) (sN + 1 + kN * 1) (nar .byte (vv.toInt8.toInt32))) := f62.keep K63q (ninS ne57 nin0)
      obtain ⟨cq65, kq65, q65a, q65b, q65c⟩ := isOf hZ rfl c63_0
      obtain ⟨_, _, ⟨T65, L65, k65, n65⟩, -, X65, ⟨Lc65, hQ65, l65, y65, z65⟩, st65⟩ := X63.virtualBack hx (y := (⟨"org/tempochart/zone/PackedZone", "entry", "(I)I"⟩ : MethodName)) (z := (⟨"org/tempochart/zone/PackedZone", "entry", "(I)I"⟩ : MethodName)) hown (mvT hZ (w33 hw)) (mvT hZ (w34 hw)) (notFace_of_selects (args := #[]) (mvT hZ (w36 hw))) (mvT hZ (w36 hw)) (mvT hZ (w35 hw)) (by decide) (backOf (W := 0) (rmen1 l Z a0 hw [] b56 kk b1 (st + (1 : Int32)) (own_upd (own_upd (own_fl 24 (nar .byte (fil.toInt8.toInt32))) sN (nar .byte ((1 : Int32).toInt8.toInt32))) (sN + 1 + kN * 1) (nar .byte (vv.toInt8.toInt32))) (sN + 1 + kN * 1) T63.heap n0 Z63 c63_0 c63_1 c63_2 c63_3 c63_4 f64 hP hP16) hZ (w37 hw) (w3 hw) (by decide) (by decide)) q65a q65c (g := (mkF m 358 #[.val (.int vv), .val (.int sel), .val (.int fil), .val (.int kk), .val (.int (((sel.toUInt32 >>> ((2 : Int32) &&& 31).toUInt32).toInt32) &&& (3 : Int32))), .val (.int (1 : Int32)), .val (.int st), .val (.int (fil.toInt8.toInt32)), .val (.ref b1), .val (.int ((st + (1 : Int32)) + (kk * (1 : Int32)))), .val (.int (2147483647 : Int32)), .val (.ref b56)] [(.int kk), (.ref b56)])) rfl (by rw [hml]; rfl) (Steps.refl _) (argsL := [(.int kk)]) (rest := []) (lenOf pd_0 rfl) rfl (by show 2 * 0 + _ ≤ _; exact Nat.le_of_eq rfl) (hb hby at_358) (fun _ _ => ⟨rfl, rfl, (by decide : 4 + 0 ≤ _), (by decide : 35 + 0 ≤ _)⟩)
      dsimp only [Pt.U, Pt.locs, Pt.cells, Pt.slots] at X65 l65 y65 z65 st65 hQ65
      replace X65 := own_num (c' := 4) (n' := 35) X65 l65 (y65.trans rfl) (z65.trans rfl)
      obtain ⟨rfl, N65q, e65⟩ := hQ65
      have N65 := Fr.app N63 N65q
      refine own_tr st65 ?_
      show OwnGo p e below s _ _ _ (T65.setTop (mkF m 361 #[.val (.int vv), .val (.int sel), .val (.int fil), .val (.int kk), .val (.int (((sel.toUInt32 >>> ((2 : Int32) &&& 31).toUInt32).toInt32) &&& (3 : Int32))), .val (.int (1 : Int32)), .val (.int st), .val (.int (fil.toInt8.toInt32)), .val (.ref b1), .val (.int ((st + (1 : Int32)) + (kk * (1 : Int32)))), .val (.int (2147483647 : Int32)), .val (.ref b56)] [(.int (own_r 127 ((own_upd (own_upd (own_fl 24 (nar .byte (fil.toInt8.toInt32))) sN (nar .byte ((1 : Int32).toInt8.toInt32))) (sN + 1 + kN * 1) (nar .byte (vv.toInt8.toInt32))) (sN + 1 + kN * 1))))]))
      refine own_on (fun t k => XS.iload X65.here hx rfl (hb hby at_361) rfl k) ?_
      show OwnGo p e below s _ _ _ (T65.setTop (mkF m 363 #[.val (.int vv), .val (.int sel), .val (.int fil), .val (.int kk), .val (.int (((sel.toUInt32 >>> ((2 : Int32) &&& 31).toUInt32).toInt32) &&& (3 : Int32))), .val (.int (1 : Int32)), .val (.int st), .val (.int (fil.toInt8.toInt32)), .val (.ref b1), .val (.int ((st + (1 : Int32)) + (kk * (1 : Int32)))), .val (.int (2147483647 : Int32)), .val (.ref b56)] [(.int (2147483647 : Int32)), (.int (own_r 127 ((own_upd (own_upd (own_fl 24 (nar .byte (fil.toInt8.toInt32))) sN (nar .byte ((1 : Int32).toInt8.toInt32))) (sN + 1 + kN * 1) (nar .byte (vv.toInt8.toInt32))) (sN + 1 + kN * 1))))]))
      refine own_on (fun t k => XS.icmpNo X65.here hx rfl (hb hby at_363) rfl (teq (by
                rw [show (own_upd (own_upd (own_fl 24 (nar .byte (fil.toInt8.toInt32))) sN (nar .byte ((1 : Int32).toInt8.toInt32))) (sN + 1 + kN * 1) (nar .byte (vv.toInt8.toInt32))) (sN + 1 + kN * 1) = _ from (by rw [own_hit])]
                simp only [own_nb]
                simp [own_r, qe] : (own_r 127 ((own_upd (own_upd (own_fl 24 (nar .byte (fil.toInt8.toInt32))) sN (nar .byte ((1 : Int32).toInt8.toInt32))) (sN + 1 + kN * 1) (nar .byte (vv.toInt8.toInt32))) (sN + 1 + kN * 1))) = (2147483647 : Int32))).2 k) ?_
      show OwnGo p e below s _ _ _ (T65.setTop (mkF m 366 #[.val (.int vv), .val (.int sel), .val (.int fil), .val (.int kk), .val (.int (((sel.toUInt32 >>> ((2 : Int32) &&& 31).toUInt32).toInt32) &&& (3 : Int32))), .val (.int (1 : Int32)), .val (.int st), .val (.int (fil.toInt8.toInt32)), .val (.ref b1), .val (.int ((st + (1 : Int32)) + (kk * (1 : Int32)))), .val (.int (2147483647 : Int32)), .val (.ref b56)] []))
      refine own_on (fun t k => XS.iconst X65.here hx rfl (hb hby at_366) k) ?_
      show OwnGo p e below s _ _ _ (T65.setTop (mkF m 367 #[.val (.int vv), .val (.int sel), .val (.int fil), .val (.int kk), .val (.int (((sel.toUInt32 >>> ((2 : Int32) &&& 31).toUInt32).toInt32) &&& (3 : Int32))), .val (.int (1 : Int32)), .val (.int st), .val (.int (fil.toInt8.toInt32)), .val (.ref b1), .val (.int ((st + (1 : Int32)) + (kk * (1 : Int32)))), .val (.int (2147483647 : Int32)), .val (.ref b56)] [(.int (1 : Int32))]))
      refine own_on (fun t k => XS.goto X65.here hx rfl (pc0 := 367) (pc' := 371) rfl (hb hby at_367) (by decide) (by decide) k) ?_
      show OwnGo p e below s _ _ _ (T65.setTop (mkF m 371 #[.val (.int vv), .val (.int sel), .val (.int fil), .val (.int kk), .val (.int (((sel.toUInt32 >>> ((2 : Int32) &&& 31).toUInt32).toInt32) &&& (3 : Int32))), .val (.int (1 : Int32)), .val (.int st), .val (.int (fil.toInt8.toInt32)), .val (.ref b1), .val (.int ((st + (1 : Int32)) + (kk * (1 : Int32)))), .val (.int (2147483647 : Int32)), .val (.ref b56)] [(.int (1 : Int32))]))
      exact own_retN X65 hx hlk (t := .boolean) Bd.returns (by simp) (hb hby at_371) e65 ⟨rfl, N65, K63⟩ (by decide) (by decide)
    · refine own_on (fun t k => XS.icmpYes X55.here hx rfl (pc0 := 228) (pc' := 236) rfl (hb hby at_228) rfl (feq qe).2 (by decide) (by decide) k) ?_
      show OwnGo p e below s _ _ _ (T55.setTop (mkF m 236 #[.val (.int vv), .val (.int sel), .val (.int fil), .val (.int kk), .val (.int (((sel.toUInt32 >>> ((2 : Int32) &&& 31).toUInt32).toInt32) &&& (3 : Int32))), .val (.int (1 : Int32)), .val (.int st), .val (.int (fil.toInt8.toInt32)), .val (.ref b1), .val (.int ((st + (1 : Int32)) + (kk * (1 : Int32)))), .unset, .val (.int (vv.toInt8.toInt32))] []))
      refine own_on (fun t k => XS.iload X55.here hx rfl (hb hby at_236) rfl k) ?_
      show OwnGo p e below s _ _ _ (T55.setTop (mkF m 238 #[.val (.int vv), .val (.int sel), .val (.int fil), .val (.int kk), .val (.int (((sel.toUInt32 >>> ((2 : Int32) &&& 31).toUInt32).toInt32) &&& (3 : Int32))), .val (.int (1 : Int32)), .val (.int st), .val (.int (fil.toInt8.toInt32)), .val (.ref b1), .val (.int ((st + (1 : Int32)) + (kk * (1 : Int32)))), .unset, .val (.int (vv.toInt8.toInt32))] [(.int (vv.toInt8.toInt32))]))
      refine own_on (fun t k => XS.istore X55.here hx rfl (hb hby at_238) rfl (l' := #[.val (.int vv), .val (.int sel), .val (.int fil), .val (.int kk), .val (.int (((sel.toUInt32 >>> ((2 : Int32) &&& 31).toUInt32).toInt32) &&& (3 : Int32))), .val (.int (1 : Int32)), .val (.int st), .val (.int (fil.toInt8.toInt32)), .val (.ref b1), .val (.int ((st + (1 : Int32)) + (kk * (1 : Int32)))), .val (.int (vv.toInt8.toInt32)), .val (.int (vv.toInt8.toInt32))]) rfl k) ?_
      show OwnGo p e below s _ _ _ (T55.setTop (mkF m 240 #[.val (.int vv), .val (.int sel), .val (.int fil), .val (.int kk), .val (.int (((sel.toUInt32 >>> ((2 : Int32) &&& 31).toUInt32).toInt32) &&& (3 : Int32))), .val (.int (1 : Int32)), .val (.int st), .val (.int (fil.toInt8.toInt32)), .val (.ref b1), .val (.int ((st + (1 : Int32)) + (kk * (1 : Int32)))), .val (.int (vv.toInt8.toInt32)), .val (.int (vv.toInt8.toInt32))] []))
      refine own_on (fun t k => XS.goto X55.here hx rfl (pc0 := 240) (pc' := 338) rfl (hb hby at_240) (by decide) (by decide) k) ?_
      show OwnGo p e below s _ _ _ (T55.setTop (mkF m 338 #[.val (.int vv), .val (.int sel), .val (.int fil), .val (.int kk), .val (.int (((sel.toUInt32 >>> ((2 : Int32) &&& 31).toUInt32).toInt32) &&& (3 : Int32))), .val (.int (1 : Int32)), .val (.int st), .val (.int (fil.toInt8.toInt32)), .val (.ref b1), .val (.int ((st + (1 : Int32)) + (kk * (1 : Int32)))), .val (.int (vv.toInt8.toInt32)), .val (.int (vv.toInt8.toInt32))] []))
      obtain ⟨T66, h66, X66, e66, E66, A66, D66, u66, st66⟩ := newO X55 hx hZ hown (w1 hw) (w2 hw) (w3 hw) e55 (g := (mkF m 338 #[.val (.int vv), .val (.int sel), .val (.int fil), .val (.int kk), .val (.int (((sel.toUInt32 >>> ((2 : Int32) &&& 31).toUInt32).toInt32) &&& (3 : Int32))), .val (.int (1 : Int32)), .val (.int st), .val (.int (fil.toInt8.toInt32)), .val (.ref b1), .val (.int ((st + (1 : Int32)) + (kk * (1 : Int32)))), .val (.int (vv.toInt8.toInt32)), .val (.int (vv.toInt8.toInt32))] [])) rfl (hb hby at_338) (by decide) (by decide)
      obtain ⟨b66, g66⟩ : ∃ z, z = h55.size := ⟨_, rfl⟩
      rw [← g66] at A66 D66 st66
      have ne67 : b1 ≠ b66 := Nat.ne_of_lt (Nat.lt_of_lt_of_le V55.lt (Nat.le_of_eq g66.symm))
      have g68 : n0 ≤ b66 := Nat.le_trans Z55 (Nat.le_of_eq g66.symm)
      have z69 : h0.size ≤ b66 := Nat.le_trans K55.1 (Nat.le_of_eq g66.symm)
      have Z66 : n0 ≤ h66.size := Nat.le_trans Z55 E66.1
      have K66 : Keep h0 h66 [] := K55.ext E66
      have F66_failedRow : Fld Z h66 b66 "org/tempochart/zone/PackedZone" "failedRow" "[I" .null := D66 (Or.inr (w12 hw)) (ty := (.array .int)) (by decide)
      have F66_failedColumn : Fld Z h66 b66 "org/tempochart/zone/PackedZone" "failedColumn" "[I" .null := D66 (Or.inr (w14 hw)) (ty := (.array .int)) (by decide)
      have F66_bytes : Fld Z h66 b66 "org/tempochart/zone/PackedZone" "bytes" "[B" .null := D66 (Or.inl (w21 hw)) (ty := (.array .byte)) (by decide)
      have F66_dimension : Fld Z h66 b66 "org/tempochart/zone/PackedZone" "dimension" "I" (.int (0 : Int32)) := D66 (Or.inl (w23 hw)) (ty := .int) (by decide)
      have F66_width : Fld Z h66 b66 "org/tempochart/zone/PackedZone" "width" "I" (.int (0 : Int32)) := D66 (Or.inl (w25 hw)) (ty := .int) (by decide)
      have F66_first : Fld Z h66 b66 "org/tempochart/zone/PackedZone" "first" "I" (.int (0 : Int32)) := D66 (Or.inl (w27 hw)) (ty := .int) (by decide)
      have F66_none : Fld Z h66 b66 "org/tempochart/zone/PackedZone" "none" "I" (.int (0 : Int32)) := D66 (Or.inl (w32 hw)) (ty := .int) (by decide)
      refine own_on st66 ?_
      show OwnGo p e below s _ _ _ (T66.setTop (mkF m 341 #[.val (.int vv), .val (.int sel), .val (.int fil), .val (.int kk), .val (.int (((sel.toUInt32 >>> ((2 : Int32) &&& 31).toUInt32).toInt32) &&& (3 : Int32))), .val (.int (1 : Int32)), .val (.int st), .val (.int (fil.toInt8.toInt32)), .val (.ref b1), .val (.int ((st + (1 : Int32)) + (kk * (1 : Int32)))), .val (.int (vv.toInt8.toInt32)), .val (.int (vv.toInt8.toInt32))] [(.ref b66)]))
      refine own_on (fun t k => XS.dup X66.here hx rfl (hb hby at_341) rfl rfl k) ?_
      show OwnGo p e below s _ _ _ (T66.setTop (mkF m 342 #[.val (.int vv), .val (.int sel), .val (.int fil), .val (.int kk), .val (.int (((sel.toUInt32 >>> ((2 : Int32) &&& 31).toUInt32).toInt32) &&& (3 : Int32))), .val (.int (1 : Int32)), .val (.int st), .val (.int (fil.toInt8.toInt32)), .val (.ref b1), .val (.int ((st + (1 : Int32)) + (kk * (1 : Int32)))), .val (.int (vv.toInt8.toInt32)), .val (.int (vv.toInt8.toInt32))] [(.ref b66), (.ref b66)]))
      obtain ⟨_, _, ⟨T70, L70, k70, n70⟩, -, X70, ⟨Lc70, hQ70, l70, y70, z70⟩, st70⟩ := X66.specialBack hx (y := (⟨"org/tempochart/zone/PackedZone", "<init>", "()V"⟩ : MethodName)) rfl hown (mvT hZ (w4 hw)) (mvT hZ (w5 hw)) (mvT hZ (w6 hw)) (by decide) (backOf (W := 1) (rm1 l Z a0 hw [] b66 .null (.int (0 : Int32)) (.int (0 : Int32)) (.int (0 : Int32)) (.int (0 : Int32)) .null .null h66 n0 Z66 A66 F66_failedRow F66_failedColumn g68 F66_bytes F66_dimension F66_width F66_first F66_none) hZ (w6 hw) (w3 hw) (by decide) (by decide)) (g := (mkF m 342 #[.val (.int vv), .val (.int sel), .val (.int fil), .val (.int kk), .val (.int (((sel.toUInt32 >>> ((2 : Int32) &&& 31).toUInt32).toInt32) &&& (3 : Int32))), .val (.int (1 : Int32)), .val (.int st), .val (.int (fil.toInt8.toInt32)), .val (.ref b1), .val (.int ((st + (1 : Int32)) + (kk * (1 : Int32)))), .val (.int (vv.toInt8.toInt32)), .val (.int (vv.toInt8.toInt32))] [(.ref b66), (.ref b66)])) rfl (by rw [hml]; rfl) (Steps.refl _) (a := b66) (argsL := []) (rest := [(.ref b66)]) (lenOf pd_1 rfl) rfl (by show 2 * 0 + _ ≤ _; exact Nat.le_of_eq rfl) (hb hby at_342) (fun _ _ => ⟨rfl, e66, (by decide : 2 + 2 ≤ _), (by decide : 31 + 4 ≤ _)⟩)
      dsimp only [Pt.U, Pt.locs, Pt.cells, Pt.slots] at X70 l70 y70 z70 st70 hQ70
      replace X70 := own_num (c' := 4) (n' := 35) X70 l70 (y70.trans rfl) (z70.trans rfl)
      obtain ⟨rfl, N70q, K70q, c70_0, c70_1, c70_2, c70_3, c70_4, c70_5⟩ := hQ70
      have N70 := Fr.app N55 N70q
      have Z70 : n0 ≤ T70.heap.size := Nat.le_trans Z66 K70q.1
      have K70 : Keep h0 T70.heap [] := K66.trans K70q (allS (P := fun x => x ∈ [] ∨ h0.size ≤ x) (Or.inr z69) all0)
      refine own_tr st70 ?_
      show OwnGo p e below s _ _ _ (T70.setTop (mkF m 345 #[.val (.int vv), .val (.int sel), .val (.int fil), .val (.int kk), .val (.int (((sel.toUInt32 >>> ((2 : Int32) &&& 31).toUInt32).toInt32) &&& (3 : Int32))), .val (.int (1 : Int32)), .val (.int st), .val (.int (fil.toInt8.toInt32)), .val (.ref b1), .val (.int ((st + (1 : Int32)) + (kk * (1 : Int32)))), .val (.int (vv.toInt8.toInt32)), .val (.int (vv.toInt8.toInt32))] [(.ref b66)]))
      refine own_on (fun t k => XS.aload X70.here hx rfl (hb hby at_345) rfl rfl k) ?_
      show OwnGo p e below s _ _ _ (T70.setTop (mkF m 347 #[.val (.int vv), .val (.int sel), .val (.int fil), .val (.int kk), .val (.int (((sel.toUInt32 >>> ((2 : Int32) &&& 31).toUInt32).toInt32) &&& (3 : Int32))), .val (.int (1 : Int32)), .val (.int st), .val (.int (fil.toInt8.toInt32)), .val (.ref b1), .val (.int ((st + (1 : Int32)) + (kk * (1 : Int32)))), .val (.int (vv.toInt8.toInt32)), .val (.int (vv.toInt8.toInt32))] [(.ref b1), (.ref b66)]))
      refine own_on (fun t k => XS.iload X70.here hx rfl (hb hby at_347) rfl k) ?_
      show OwnGo p e below s _ _ _ (T70.setTop (mkF m 349 #[.val (.int vv), .val (.int sel), .val (.int fil), .val (.int kk), .val (.int (((sel.toUInt32 >>> ((2 : Int32) &&& 31).toUInt32).toInt32) &&& (3 : Int32))), .val (.int (1 : Int32)), .val (.int st), .val (.int (fil.toInt8.toInt32)), .val (.ref b1), .val (.int ((st + (1 : Int32)) + (kk * (1 : Int32)))), .val (.int (vv.toInt8.toInt32)), .val (.int (vv.toInt8.toInt32))] [(.int st), (.ref b1), (.ref b66)]))
      refine own_on (fun t k => XS.iconst X70.here hx rfl (hb hby at_349) k) ?_
      show OwnGo p e below s _ _ _ (T70.setTop (mkF m 350 #[.val (.int vv), .val (.int sel), .val (.int fil), .val (.int kk), .val (.int (((sel.toUInt32 >>> ((2 : Int32) &&& 31).toUInt32).toInt32) &&& (3 : Int32))), .val (.int (1 : Int32)), .val (.int st), .val (.int (fil.toInt8.toInt32)), .val (.ref b1), .val (.int ((st + (1 : Int32)) + (kk * (1 : Int32)))), .val (.int (vv.toInt8.toInt32)), .val (.int (vv.toInt8.toInt32))] [(.int (2 : Int32)), (.int st), (.ref b1), (.ref b66)]))
      have f71 : OwnArf Z h66 b1 .byte 24 (own_upd (own_upd (own_fl 24 (nar .byte (fil.toInt8.toInt32))) sN (nar .byte ((1 : Int32).toInt8.toInt32))) (sN + 1 + kN * 1) (nar .byte (vv.toInt8.toInt32))) := V55.ext E66
      have f72 : OwnArf Z T70.heap b1 .byte 24 (own_upd (own_upd (own_fl 24 (nar .byte (fil.toInt8.toInt32))) sN (nar .byte ((1 : Int32).toInt8.toInt32))) (sN + 1 + kN * 1) (nar .byte (vv.toInt8.toInt32))) := f71.keep K70q (ninS ne67 nin0)
      obtain ⟨cq73, kq73, q73a, q73b, q73c⟩ := isOf hZ rfl c70_0
      obtain ⟨_, _, ⟨T73, L73, k73, n73⟩, -, X73, ⟨Lc73, hQ73, l73, y73, z73⟩, st73⟩ := X70.virtualBack hx (y := (⟨"org/tempochart/zone/PackedZone", "at", "([BII)Lorg/tempochart/zone/PackedZone;"⟩ : MethodName)) (z := (⟨"org/tempochart/zone/PackedZone", "at", "([BII)Lorg/tempochart/zone/PackedZone;"⟩ : MethodName)) hown (mvT hZ (w15 hw)) (mvT hZ (w16 hw)) (notFace_of_selects (args := #[]) (mvT hZ (w18 hw))) (mvT hZ (w18 hw)) (mvT hZ (w17 hw)) (by decide) (backOf (W := 0) (rm3 l Z a0 hw [] b66 b1 st (2 : Int32) .null (.int (0 : Int32)) (.int (0 : Int32)) (.int (0 : Int32)) (.int (0 : Int32)) (own_upd (own_upd (own_fl 24 (nar .byte (fil.toInt8.toInt32))) sN (nar .byte ((1 : Int32).toInt8.toInt32))) (sN + 1 + kN * 1) (nar .byte (vv.toInt8.toInt32))) sN T70.heap n0 Z70 c70_0 c70_1 c70_2 c70_3 c70_4 c70_5 g68 f72 ne67 hS hS0) hZ (w19 hw) (w3 hw) (by decide) (by decide)) q73a q73c (g := (mkF m 350 #[.val (.int vv), .val (.int sel), .val (.int fil), .val (.int kk), .val (.int (((sel.toUInt32 >>> ((2 : Int32) &&& 31).toUInt32).toInt32) &&& (3 : Int32))), .val (.int (1 : Int32)), .val (.int st), .val (.int (fil.toInt8.toInt32)), .val (.ref b1), .val (.int ((st + (1 : Int32)) + (kk * (1 : Int32)))), .val (.int (vv.toInt8.toInt32)), .val (.int (vv.toInt8.toInt32))] [(.int (2 : Int32)), (.int st), (.ref b1), (.ref b66)])) rfl (by rw [hml]; rfl) (Steps.refl _) (argsL := [(.ref b1), (.int st), (.int (2 : Int32))]) (rest := []) (lenOf pd_2 rfl) rfl (by show 2 * 0 + _ ≤ _; exact Nat.le_of_eq rfl) (hb hby at_350) (fun _ _ => ⟨rfl, rfl, (by decide : 4 + 0 ≤ _), (by decide : 35 + 0 ≤ _)⟩)
      dsimp only [Pt.U, Pt.locs, Pt.cells, Pt.slots] at X73 l73 y73 z73 st73 hQ73
      replace X73 := own_num (c' := 4) (n' := 35) X73 l73 (y73.trans rfl) (z73.trans rfl)
      obtain ⟨rfl, N73q, K73q, c73_0, c73_1, c73_2, c73_3, c73_4⟩ := hQ73
      have N73 := Fr.app N70 N73q
      have Z73 : n0 ≤ T73.heap.size := Nat.le_trans Z70 K73q.1
      have K73 : Keep h0 T73.heap [] := K70.trans K73q (allS (P := fun x => x ∈ [] ∨ h0.size ≤ x) (Or.inr z69) all0)
      refine own_tr st73 ?_
      show OwnGo p e below s _ _ _ (T73.setTop (mkF m 353 #[.val (.int vv), .val (.int sel), .val (.int fil), .val (.int kk), .val (.int (((sel.toUInt32 >>> ((2 : Int32) &&& 31).toUInt32).toInt32) &&& (3 : Int32))), .val (.int (1 : Int32)), .val (.int st), .val (.int (fil.toInt8.toInt32)), .val (.ref b1), .val (.int ((st + (1 : Int32)) + (kk * (1 : Int32)))), .val (.int (vv.toInt8.toInt32)), .val (.int (vv.toInt8.toInt32))] [(.ref b66)]))
      have hf1 : ((own_upd (own_upd (own_fl 24 (nar .byte (fil.toInt8.toInt32))) sN (nar .byte ((1 : Int32).toInt8.toInt32))) (sN + 1 + kN * 1) (nar .byte (vv.toInt8.toInt32))) sN) = (1 : Int32) := by rw [own_miss _ _ _ (by omega), own_hit]; decide
      rw [hf1] at c73_2
      rw [hf1, show own_none 1 = (127 : Int32) from by decide] at c73_4
      have hP16 : (sN + 1 + kN * 1) ≤ 16 := by omega
      refine own_on (fun t k => XS.astore X73.here hx rfl (hb hby at_353) rfl rfl (l' := #[.val (.int vv), .val (.int sel), .val (.int fil), .val (.int kk), .val (.int (((sel.toUInt32 >>> ((2 : Int32) &&& 31).toUInt32).toInt32) &&& (3 : Int32))), .val (.int (1 : Int32)), .val (.int st), .val (.int (fil.toInt8.toInt32)), .val (.ref b1), .val (.int ((st + (1 : Int32)) + (kk * (1 : Int32)))), .val (.int (vv.toInt8.toInt32)), .val (.ref b66)]) rfl k) ?_
      show OwnGo p e below s _ _ _ (T73.setTop (mkF m 355 #[.val (.int vv), .val (.int sel), .val (.int fil), .val (.int kk), .val (.int (((sel.toUInt32 >>> ((2 : Int32) &&& 31).toUInt32).toInt32) &&& (3 : Int32))), .val (.int (1 : Int32)), .val (.int st), .val (.int (fil.toInt8.toInt32)), .val (.ref b1), .val (.int ((st + (1 : Int32)) + (kk * (1 : Int32)))), .val (.int (vv.toInt8.toInt32)), .val (.ref b66)] []))
      refine own_on (fun t k => XS.aload X73.here hx rfl (hb hby at_355) rfl rfl k) ?_
      show OwnGo p e below s _ _ _ (T73.setTop (mkF m 357 #[.val (.int vv), .val (.int sel), .val (.int fil), .val (.int kk), .val (.int (((sel.toUInt32 >>> ((2 : Int32) &&& 31).toUInt32).toInt32) &&& (3 : Int32))), .val (.int (1 : Int32)), .val (.int st), .val (.int (fil.toInt8.toInt32)), .val (.ref b1), .val (.int ((st + (1 : Int32)) + (kk * (1 : Int32)))), .val (.int (vv.toInt8.toInt32)), .val (.ref b66)] [(.ref b66)]))
      refine own_on (fun t k => XS.iloadN X73.here hx rfl (hb hby at_357) rfl k) ?_
      show OwnGo p e below s _ _ _ (T73.setTop (mkF m 358 #[.val (.int vv), .val (.int sel), .val (.int fil), .val (.int kk), .val (.int (((sel.toUInt32 >>> ((2 : Int32) &&& 31).toUInt32).toInt32) &&& (3 : Int32))), .val (.int (1 : Int32)), .val (.int st), .val (.int (fil.toInt8.toInt32)), .val (.ref b1), .val (.int ((st + (1 : Int32)) + (kk * (1 : Int32)))), .val (.int (vv.toInt8.toInt32)), .val (.ref b66)] [(.int kk), (.ref b66)]))
      have f74 : OwnArf Z T73.heap b1 .byte 24 (own_upd (own_upd (own_fl 24 (nar .byte (fil.toInt8.toInt32))) sN (nar .byte ((1 : Int32).toInt8.toInt32))) (sN + 1 + kN * 1) (nar .byte (vv.toInt8.toInt32))) := f72.keep K73q (ninS ne67 nin0)
      obtain ⟨cq75, kq75, q75a, q75b, q75c⟩ := isOf hZ rfl c73_0
      obtain ⟨_, _, ⟨T75, L75, k75, n75⟩, -, X75, ⟨Lc75, hQ75, l75, y75, z75⟩, st75⟩ := X73.virtualBack hx (y := (⟨"org/tempochart/zone/PackedZone", "entry", "(I)I"⟩ : MethodName)) (z := (⟨"org/tempochart/zone/PackedZone", "entry", "(I)I"⟩ : MethodName)) hown (mvT hZ (w33 hw)) (mvT hZ (w34 hw)) (notFace_of_selects (args := #[]) (mvT hZ (w36 hw))) (mvT hZ (w36 hw)) (mvT hZ (w35 hw)) (by decide) (backOf (W := 0) (rmen1 l Z a0 hw [] b66 kk b1 (st + (1 : Int32)) (own_upd (own_upd (own_fl 24 (nar .byte (fil.toInt8.toInt32))) sN (nar .byte ((1 : Int32).toInt8.toInt32))) (sN + 1 + kN * 1) (nar .byte (vv.toInt8.toInt32))) (sN + 1 + kN * 1) T73.heap n0 Z73 c73_0 c73_1 c73_2 c73_3 c73_4 f74 hP hP16) hZ (w37 hw) (w3 hw) (by decide) (by decide)) q75a q75c (g := (mkF m 358 #[.val (.int vv), .val (.int sel), .val (.int fil), .val (.int kk), .val (.int (((sel.toUInt32 >>> ((2 : Int32) &&& 31).toUInt32).toInt32) &&& (3 : Int32))), .val (.int (1 : Int32)), .val (.int st), .val (.int (fil.toInt8.toInt32)), .val (.ref b1), .val (.int ((st + (1 : Int32)) + (kk * (1 : Int32)))), .val (.int (vv.toInt8.toInt32)), .val (.ref b66)] [(.int kk), (.ref b66)])) rfl (by rw [hml]; rfl) (Steps.refl _) (argsL := [(.int kk)]) (rest := []) (lenOf pd_0 rfl) rfl (by show 2 * 0 + _ ≤ _; exact Nat.le_of_eq rfl) (hb hby at_358) (fun _ _ => ⟨rfl, rfl, (by decide : 4 + 0 ≤ _), (by decide : 35 + 0 ≤ _)⟩)
      dsimp only [Pt.U, Pt.locs, Pt.cells, Pt.slots] at X75 l75 y75 z75 st75 hQ75
      replace X75 := own_num (c' := 4) (n' := 35) X75 l75 (y75.trans rfl) (z75.trans rfl)
      obtain ⟨rfl, N75q, e75⟩ := hQ75
      have N75 := Fr.app N73 N75q
      refine own_tr st75 ?_
      show OwnGo p e below s _ _ _ (T75.setTop (mkF m 361 #[.val (.int vv), .val (.int sel), .val (.int fil), .val (.int kk), .val (.int (((sel.toUInt32 >>> ((2 : Int32) &&& 31).toUInt32).toInt32) &&& (3 : Int32))), .val (.int (1 : Int32)), .val (.int st), .val (.int (fil.toInt8.toInt32)), .val (.ref b1), .val (.int ((st + (1 : Int32)) + (kk * (1 : Int32)))), .val (.int (vv.toInt8.toInt32)), .val (.ref b66)] [(.int (own_r 127 ((own_upd (own_upd (own_fl 24 (nar .byte (fil.toInt8.toInt32))) sN (nar .byte ((1 : Int32).toInt8.toInt32))) (sN + 1 + kN * 1) (nar .byte (vv.toInt8.toInt32))) (sN + 1 + kN * 1))))]))
      refine own_on (fun t k => XS.iload X75.here hx rfl (hb hby at_361) rfl k) ?_
      show OwnGo p e below s _ _ _ (T75.setTop (mkF m 363 #[.val (.int vv), .val (.int sel), .val (.int fil), .val (.int kk), .val (.int (((sel.toUInt32 >>> ((2 : Int32) &&& 31).toUInt32).toInt32) &&& (3 : Int32))), .val (.int (1 : Int32)), .val (.int st), .val (.int (fil.toInt8.toInt32)), .val (.ref b1), .val (.int ((st + (1 : Int32)) + (kk * (1 : Int32)))), .val (.int (vv.toInt8.toInt32)), .val (.ref b66)] [(.int (vv.toInt8.toInt32)), (.int (own_r 127 ((own_upd (own_upd (own_fl 24 (nar .byte (fil.toInt8.toInt32))) sN (nar .byte ((1 : Int32).toInt8.toInt32))) (sN + 1 + kN * 1) (nar .byte (vv.toInt8.toInt32))) (sN + 1 + kN * 1))))]))
      refine own_on (fun t k => XS.icmpNo X75.here hx rfl (hb hby at_363) rfl (teq (by
                rw [show (own_upd (own_upd (own_fl 24 (nar .byte (fil.toInt8.toInt32))) sN (nar .byte ((1 : Int32).toInt8.toInt32))) (sN + 1 + kN * 1) (nar .byte (vv.toInt8.toInt32))) (sN + 1 + kN * 1) = _ from (by rw [own_hit])]
                simp only [own_nb]
                simp [own_r, qe] : (own_r 127 ((own_upd (own_upd (own_fl 24 (nar .byte (fil.toInt8.toInt32))) sN (nar .byte ((1 : Int32).toInt8.toInt32))) (sN + 1 + kN * 1) (nar .byte (vv.toInt8.toInt32))) (sN + 1 + kN * 1))) = (vv.toInt8.toInt32))).2 k) ?_
      show OwnGo p e below s _ _ _ (T75.setTop (mkF m 366 #[.val (.int vv), .val (.int sel), .val (.int fil), .val (.int kk), .val (.int (((sel.toUInt32 >>> ((2 : Int32) &&& 31).toUInt32).toInt32) &&& (3 : Int32))), .val (.int (1 : Int32)), .val (.int st), .val (.int (fil.toInt8.toInt32)), .val (.ref b1), .val (.int ((st + (1 : Int32)) + (kk * (1 : Int32)))), .val (.int (vv.toInt8.toInt32)), .val (.ref b66)] []))
      refine own_on (fun t k => XS.iconst X75.here hx rfl (hb hby at_366) k) ?_
      show OwnGo p e below s _ _ _ (T75.setTop (mkF m 367 #[.val (.int vv), .val (.int sel), .val (.int fil), .val (.int kk), .val (.int (((sel.toUInt32 >>> ((2 : Int32) &&& 31).toUInt32).toInt32) &&& (3 : Int32))), .val (.int (1 : Int32)), .val (.int st), .val (.int (fil.toInt8.toInt32)), .val (.ref b1), .val (.int ((st + (1 : Int32)) + (kk * (1 : Int32)))), .val (.int (vv.toInt8.toInt32)), .val (.ref b66)] [(.int (1 : Int32))]))
      refine own_on (fun t k => XS.goto X75.here hx rfl (pc0 := 367) (pc' := 371) rfl (hb hby at_367) (by decide) (by decide) k) ?_
      show OwnGo p e below s _ _ _ (T75.setTop (mkF m 371 #[.val (.int vv), .val (.int sel), .val (.int fil), .val (.int kk), .val (.int (((sel.toUInt32 >>> ((2 : Int32) &&& 31).toUInt32).toInt32) &&& (3 : Int32))), .val (.int (1 : Int32)), .val (.int st), .val (.int (fil.toInt8.toInt32)), .val (.ref b1), .val (.int ((st + (1 : Int32)) + (kk * (1 : Int32)))), .val (.int (vv.toInt8.toInt32)), .val (.ref b66)] [(.int (1 : Int32))]))
      exact own_retN X75 hx hlk (t := .boolean) Bd.returns (by simp) (hb hby at_371) e75 ⟨rfl, N75, K73⟩ (by decide) (by decide)
  · refine own_on (fun t k => XS.ifYes X0.here hx rfl (pc0 := 13) (pc' := 20) rfl (hb hby at_13) rfl ((if0 _ _).trans (feq q0).2) (by decide) (by decide) k) ?_
    show OwnGo p e below s _ _ _ (s₁.setTop (mkF m 20 #[.val (.int vv), .val (.int sel), .val (.int fil), .val (.int (sel &&& (3 : Int32))), .val (.int (((sel.toUInt32 >>> ((2 : Int32) &&& 31).toUInt32).toInt32) &&& (3 : Int32))), .unset, .unset, .unset, .unset, .unset, .unset, .unset] []))
    refine own_on (fun t k => XS.iload X0.here hx rfl (hb hby at_20) rfl k) ?_
    show OwnGo p e below s _ _ _ (s₁.setTop (mkF m 22 #[.val (.int vv), .val (.int sel), .val (.int fil), .val (.int (sel &&& (3 : Int32))), .val (.int (((sel.toUInt32 >>> ((2 : Int32) &&& 31).toUInt32).toInt32) &&& (3 : Int32))), .unset, .unset, .unset, .unset, .unset, .unset, .unset] [(.int (((sel.toUInt32 >>> ((2 : Int32) &&& 31).toUInt32).toInt32) &&& (3 : Int32)))]))
    refine own_on (fun t k => XS.iconst X0.here hx rfl (hb hby at_22) k) ?_
    show OwnGo p e below s _ _ _ (s₁.setTop (mkF m 23 #[.val (.int vv), .val (.int sel), .val (.int fil), .val (.int (sel &&& (3 : Int32))), .val (.int (((sel.toUInt32 >>> ((2 : Int32) &&& 31).toUInt32).toInt32) &&& (3 : Int32))), .unset, .unset, .unset, .unset, .unset, .unset, .unset] [(.int (1 : Int32)), (.int (((sel.toUInt32 >>> ((2 : Int32) &&& 31).toUInt32).toInt32) &&& (3 : Int32)))]))
    by_cases q1 : (((sel.toUInt32 >>> ((2 : Int32) &&& 31).toUInt32).toInt32) &&& (3 : Int32)) = (1 : Int32)
    · refine own_on (fun t k => XS.icmpNo X0.here hx rfl (hb hby at_23) rfl (teq q1).2 k) ?_
      show OwnGo p e below s _ _ _ (s₁.setTop (mkF m 26 #[.val (.int vv), .val (.int sel), .val (.int fil), .val (.int (sel &&& (3 : Int32))), .val (.int (((sel.toUInt32 >>> ((2 : Int32) &&& 31).toUInt32).toInt32) &&& (3 : Int32))), .unset, .unset, .unset, .unset, .unset, .unset, .unset] []))
      refine own_on (fun t k => XS.iconst X0.here hx rfl (hb hby at_26) k) ?_
      show OwnGo p e below s _ _ _ (s₁.setTop (mkF m 27 #[.val (.int vv), .val (.int sel), .val (.int fil), .val (.int (sel &&& (3 : Int32))), .val (.int (((sel.toUInt32 >>> ((2 : Int32) &&& 31).toUInt32).toInt32) &&& (3 : Int32))), .unset, .unset, .unset, .unset, .unset, .unset, .unset] [(.int (2 : Int32))]))
      refine own_on (fun t k => XS.goto X0.here hx rfl (pc0 := 27) (pc' := 31) rfl (hb hby at_27) (by decide) (by decide) k) ?_
      show OwnGo p e below s _ _ _ (s₁.setTop (mkF m 31 #[.val (.int vv), .val (.int sel), .val (.int fil), .val (.int (sel &&& (3 : Int32))), .val (.int (((sel.toUInt32 >>> ((2 : Int32) &&& 31).toUInt32).toInt32) &&& (3 : Int32))), .unset, .unset, .unset, .unset, .unset, .unset, .unset] [(.int (2 : Int32))]))
      refine own_on (fun t k => XS.istore X0.here hx rfl (hb hby at_31) rfl (l' := #[.val (.int vv), .val (.int sel), .val (.int fil), .val (.int (sel &&& (3 : Int32))), .val (.int (((sel.toUInt32 >>> ((2 : Int32) &&& 31).toUInt32).toInt32) &&& (3 : Int32))), .val (.int (2 : Int32)), .unset, .unset, .unset, .unset, .unset, .unset]) rfl k) ?_
      show OwnGo p e below s _ _ _ (s₁.setTop (mkF m 33 #[.val (.int vv), .val (.int sel), .val (.int fil), .val (.int (sel &&& (3 : Int32))), .val (.int (((sel.toUInt32 >>> ((2 : Int32) &&& 31).toUInt32).toInt32) &&& (3 : Int32))), .val (.int (2 : Int32)), .unset, .unset, .unset, .unset, .unset, .unset] []))
      refine own_on (fun t k => XS.iloadN X0.here hx rfl (hb hby at_33) rfl k) ?_
      show OwnGo p e below s _ _ _ (s₁.setTop (mkF m 34 #[.val (.int vv), .val (.int sel), .val (.int fil), .val (.int (sel &&& (3 : Int32))), .val (.int (((sel.toUInt32 >>> ((2 : Int32) &&& 31).toUInt32).toInt32) &&& (3 : Int32))), .val (.int (2 : Int32)), .unset, .unset, .unset, .unset, .unset, .unset] [(.int sel)]))
      refine own_on (fun t k => XS.iconst X0.here hx rfl (hb hby at_34) k) ?_
      show OwnGo p e below s _ _ _ (s₁.setTop (mkF m 35 #[.val (.int vv), .val (.int sel), .val (.int fil), .val (.int (sel &&& (3 : Int32))), .val (.int (((sel.toUInt32 >>> ((2 : Int32) &&& 31).toUInt32).toInt32) &&& (3 : Int32))), .val (.int (2 : Int32)), .unset, .unset, .unset, .unset, .unset, .unset] [(.int (4 : Int32)), (.int sel)]))
      refine own_on (fun t k => XS.iushr X0.here hx rfl (hb hby at_35) rfl k) ?_
      show OwnGo p e below s _ _ _ (s₁.setTop (mkF m 36 #[.val (.int vv), .val (.int sel), .val (.int fil), .val (.int (sel &&& (3 : Int32))), .val (.int (((sel.toUInt32 >>> ((2 : Int32) &&& 31).toUInt32).toInt32) &&& (3 : Int32))), .val (.int (2 : Int32)), .unset, .unset, .unset, .unset, .unset, .unset] [(.int ((sel.toUInt32 >>> ((4 : Int32) &&& 31).toUInt32).toInt32))]))
      refine own_on (fun t k => XS.iconst X0.here hx rfl (hb hby at_36) k) ?_
      show OwnGo p e below s _ _ _ (s₁.setTop (mkF m 37 #[.val (.int vv), .val (.int sel), .val (.int fil), .val (.int (sel &&& (3 : Int32))), .val (.int (((sel.toUInt32 >>> ((2 : Int32) &&& 31).toUInt32).toInt32) &&& (3 : Int32))), .val (.int (2 : Int32)), .unset, .unset, .unset, .unset, .unset, .unset] [(.int (3 : Int32)), (.int ((sel.toUInt32 >>> ((4 : Int32) &&& 31).toUInt32).toInt32))]))
      refine own_on (fun t k => XS.iand X0.here hx rfl (hb hby at_37) rfl k) ?_
      show OwnGo p e below s _ _ _ (s₁.setTop (mkF m 38 #[.val (.int vv), .val (.int sel), .val (.int fil), .val (.int (sel &&& (3 : Int32))), .val (.int (((sel.toUInt32 >>> ((2 : Int32) &&& 31).toUInt32).toInt32) &&& (3 : Int32))), .val (.int (2 : Int32)), .unset, .unset, .unset, .unset, .unset, .unset] [(.int (((sel.toUInt32 >>> ((4 : Int32) &&& 31).toUInt32).toInt32) &&& (3 : Int32)))]))
      refine own_on (fun t k => XS.istore X0.here hx rfl (hb hby at_38) rfl (l' := #[.val (.int vv), .val (.int sel), .val (.int fil), .val (.int (sel &&& (3 : Int32))), .val (.int (((sel.toUInt32 >>> ((2 : Int32) &&& 31).toUInt32).toInt32) &&& (3 : Int32))), .val (.int (2 : Int32)), .val (.int (((sel.toUInt32 >>> ((4 : Int32) &&& 31).toUInt32).toInt32) &&& (3 : Int32))), .unset, .unset, .unset, .unset, .unset]) rfl k) ?_
      show OwnGo p e below s _ _ _ (s₁.setTop (mkF m 40 #[.val (.int vv), .val (.int sel), .val (.int fil), .val (.int (sel &&& (3 : Int32))), .val (.int (((sel.toUInt32 >>> ((2 : Int32) &&& 31).toUInt32).toInt32) &&& (3 : Int32))), .val (.int (2 : Int32)), .val (.int (((sel.toUInt32 >>> ((4 : Int32) &&& 31).toUInt32).toInt32) &&& (3 : Int32))), .unset, .unset, .unset, .unset, .unset] []))
      obtain ⟨st, hst⟩ : ∃ z : Int32, z = (((sel.toUInt32 >>> ((4 : Int32) &&& 31).toUInt32).toInt32) &&& (3 : Int32)) := ⟨_, rfl⟩
      rw [show (((sel.toUInt32 >>> ((4 : Int32) &&& 31).toUInt32).toInt32) &&& (3 : Int32)) = st from hst.symm]
      show OwnGo p e below s _ _ _ (s₁.setTop (mkF m 40 #[.val (.int vv), .val (.int sel), .val (.int fil), .val (.int (sel &&& (3 : Int32))), .val (.int (((sel.toUInt32 >>> ((2 : Int32) &&& 31).toUInt32).toInt32) &&& (3 : Int32))), .val (.int (2 : Int32)), .val (.int st), .unset, .unset, .unset, .unset, .unset] []))
      obtain ⟨sN, hS0, hS⟩ := own_m3 hst
      obtain ⟨kk, hkk⟩ : ∃ z : Int32, z = (sel &&& (3 : Int32)) := ⟨_, rfl⟩
      rw [show (sel &&& (3 : Int32)) = kk from hkk.symm]
      show OwnGo p e below s _ _ _ (s₁.setTop (mkF m 40 #[.val (.int vv), .val (.int sel), .val (.int fil), .val (.int kk), .val (.int (((sel.toUInt32 >>> ((2 : Int32) &&& 31).toUInt32).toInt32) &&& (3 : Int32))), .val (.int (2 : Int32)), .val (.int st), .unset, .unset, .unset, .unset, .unset] []))
      obtain ⟨kN, hK0, hK⟩ := own_m3 hkk
      refine own_on (fun t k => XS.iloadN X0.here hx rfl (hb hby at_40) rfl k) ?_
      show OwnGo p e below s _ _ _ (s₁.setTop (mkF m 41 #[.val (.int vv), .val (.int sel), .val (.int fil), .val (.int kk), .val (.int (((sel.toUInt32 >>> ((2 : Int32) &&& 31).toUInt32).toInt32) &&& (3 : Int32))), .val (.int (2 : Int32)), .val (.int st), .unset, .unset, .unset, .unset, .unset] [(.int fil)]))
      refine own_on (fun t k => XS.i2b X0.here hx rfl (hb hby at_41) rfl k) ?_
      show OwnGo p e below s _ _ _ (s₁.setTop (mkF m 42 #[.val (.int vv), .val (.int sel), .val (.int fil), .val (.int kk), .val (.int (((sel.toUInt32 >>> ((2 : Int32) &&& 31).toUInt32).toInt32) &&& (3 : Int32))), .val (.int (2 : Int32)), .val (.int st), .unset, .unset, .unset, .unset, .unset] [(.int (fil.toInt8.toInt32))]))
      refine own_on (fun t k => XS.istore X0.here hx rfl (hb hby at_42) rfl (l' := #[.val (.int vv), .val (.int sel), .val (.int fil), .val (.int kk), .val (.int (((sel.toUInt32 >>> ((2 : Int32) &&& 31).toUInt32).toInt32) &&& (3 : Int32))), .val (.int (2 : Int32)), .val (.int st), .val (.int (fil.toInt8.toInt32)), .unset, .unset, .unset, .unset]) rfl k) ?_
      show OwnGo p e below s _ _ _ (s₁.setTop (mkF m 44 #[.val (.int vv), .val (.int sel), .val (.int fil), .val (.int kk), .val (.int (((sel.toUInt32 >>> ((2 : Int32) &&& 31).toUInt32).toInt32) &&& (3 : Int32))), .val (.int (2 : Int32)), .val (.int st), .val (.int (fil.toInt8.toInt32)), .unset, .unset, .unset, .unset] []))
      refine own_on (fun t k => XS.bipush X0.here hx rfl (hb hby at_44) k) ?_
      show OwnGo p e below s _ _ _ (s₁.setTop (mkF m 46 #[.val (.int vv), .val (.int sel), .val (.int fil), .val (.int kk), .val (.int (((sel.toUInt32 >>> ((2 : Int32) &&& 31).toUInt32).toInt32) &&& (3 : Int32))), .val (.int (2 : Int32)), .val (.int st), .val (.int (fil.toInt8.toInt32)), .unset, .unset, .unset, .unset] [(.int (24 : Int32))]))
      obtain ⟨T76, h76, k76, X76, e76, E76, A76, st76⟩ := newP (aty := .byte) X0 hx hZ (w0 hw) e0 (g := (mkF m 46 #[.val (.int vv), .val (.int sel), .val (.int fil), .val (.int kk), .val (.int (((sel.toUInt32 >>> ((2 : Int32) &&& 31).toUInt32).toInt32) &&& (3 : Int32))), .val (.int (2 : Int32)), .val (.int st), .val (.int (fil.toInt8.toInt32)), .unset, .unset, .unset, .unset] [(.int (24 : Int32))])) rfl (hb hby at_46) rfl (by decide) (cap := 24) (by decide) (by decide) (by decide) (by decide)
      obtain ⟨b76, g76⟩ : ∃ z, z = h0.size := ⟨_, rfl⟩
      rw [← g76] at A76 st76
      have g77 : n0 ≤ b76 := Nat.le_trans Z0 (Nat.le_of_eq g76.symm)
      have z78 : h0.size ≤ b76 := Nat.le_trans K0.1 (Nat.le_of_eq g76.symm)
      have V76 : OwnArf Z h76 b76 .byte 24 (fun _ => 0) := OwnArf.new A76 rfl rfl
      have Z76 : n0 ≤ h76.size := Nat.le_trans Z0 E76.1
      have K76 : Keep h0 h76 [] := K0.ext E76
      refine own_on st76 ?_
      show OwnGo p e below s _ _ _ (T76.setTop (mkF m 48 #[.val (.int vv), .val (.int sel), .val (.int fil), .val (.int kk), .val (.int (((sel.toUInt32 >>> ((2 : Int32) &&& 31).toUInt32).toInt32) &&& (3 : Int32))), .val (.int (2 : Int32)), .val (.int st), .val (.int (fil.toInt8.toInt32)), .unset, .unset, .unset, .unset] [(.ref b76)]))
      refine own_on (fun t k => XS.dup X76.here hx rfl (hb hby at_48) rfl rfl k) ?_
      show OwnGo p e below s _ _ _ (T76.setTop (mkF m 49 #[.val (.int vv), .val (.int sel), .val (.int fil), .val (.int kk), .val (.int (((sel.toUInt32 >>> ((2 : Int32) &&& 31).toUInt32).toInt32) &&& (3 : Int32))), .val (.int (2 : Int32)), .val (.int st), .val (.int (fil.toInt8.toInt32)), .unset, .unset, .unset, .unset] [(.ref b76), (.ref b76)]))
      refine own_on (fun t k => XS.iconst X76.here hx rfl (hb hby at_49) k) ?_
      show OwnGo p e below s _ _ _ (T76.setTop (mkF m 50 #[.val (.int vv), .val (.int sel), .val (.int fil), .val (.int kk), .val (.int (((sel.toUInt32 >>> ((2 : Int32) &&& 31).toUInt32).toInt32) &&& (3 : Int32))), .val (.int (2 : Int32)), .val (.int st), .val (.int (fil.toInt8.toInt32)), .unset, .unset, .unset, .unset] [(.int (0 : Int32)), (.ref b76), (.ref b76)]))
      refine own_on (fun t k => XS.iload X76.here hx rfl (hb hby at_50) rfl k) ?_
      show OwnGo p e below s _ _ _ (T76.setTop (mkF m 52 #[.val (.int vv), .val (.int sel), .val (.int fil), .val (.int kk), .val (.int (((sel.toUInt32 >>> ((2 : Int32) &&& 31).toUInt32).toInt32) &&& (3 : Int32))), .val (.int (2 : Int32)), .val (.int st), .val (.int (fil.toInt8.toInt32)), .unset, .unset, .unset, .unset] [(.int (fil.toInt8.toInt32)), (.int (0 : Int32)), (.ref b76), (.ref b76)]))
      obtain ⟨cl79, Ar79, S79, H79⟩ := id V76
      have hj79 : ¬ (0 : Int32) < 0 ∧ ((0 : Int32)).toNatClampNeg = 0 := (by decide)
      obtain ⟨T80, h80, X80, e80, W80, st80⟩ := stB X76 hx hZ e76 Ar79 (j := (0 : Int32)) (own_in S79 hj79 (by decide)) (g := (mkF m 52 #[.val (.int vv), .val (.int sel), .val (.int fil), .val (.int kk), .val (.int (((sel.toUInt32 >>> ((2 : Int32) &&& 31).toUInt32).toInt32) &&& (3 : Int32))), .val (.int (2 : Int32)), .val (.int st), .val (.int (fil.toInt8.toInt32)), .unset, .unset, .unset, .unset] [(.int (fil.toInt8.toInt32)), (.int (0 : Int32)), (.ref b76), (.ref b76)])) rfl rfl (hb hby at_52)
      have V80 : OwnArf Z h80 b76 .byte 24 (own_upd (fun _ => 0) 0 (nar .byte (fil.toInt8.toInt32))) := OwnArf.set Ar79 S79 H79 W80 hj79.2
      have V80' : OwnArf Z h80 b76 .byte 24 (own_fl 1 (nar .byte (fil.toInt8.toInt32))) := V80.congr (own_fl_0 _)
      have N80 := Fr.snoc X80 N0 g77
      have Z80 : n0 ≤ h80.size := Nat.le_trans Z76 (Keep.of_wr W80).1
      have K80 : Keep h0 h80 [] := K76.wr W80 (Or.inr z78)
      refine own_on st80 ?_
      show OwnGo p e below s _ _ _ (T80.setTop (mkF m 53 #[.val (.int vv), .val (.int sel), .val (.int fil), .val (.int kk), .val (.int (((sel.toUInt32 >>> ((2 : Int32) &&& 31).toUInt32).toInt32) &&& (3 : Int32))), .val (.int (2 : Int32)), .val (.int st), .val (.int (fil.toInt8.toInt32)), .unset, .unset, .unset, .unset] [(.ref b76)]))
      refine own_on (fun t k => XS.dup X80.here hx rfl (hb hby at_53) rfl rfl k) ?_
      show OwnGo p e below s _ _ _ (T80.setTop (mkF m 54 #[.val (.int vv), .val (.int sel), .val (.int fil), .val (.int kk), .val (.int (((sel.toUInt32 >>> ((2 : Int32) &&& 31).toUInt32).toInt32) &&& (3 : Int32))), .val (.int (2 : Int32)), .val (.int st), .val (.int (fil.toInt8.toInt32)), .unset, .unset, .unset, .unset] [(.ref b76), (.ref b76)]))
      refine own_on (fun t k => XS.iconst X80.here hx rfl (hb hby at_54) k) ?_
      show OwnGo p e below s _ _ _ (T80.setTop (mkF m 55 #[.val (.int vv), .val (.int sel), .val (.int fil), .val (.int kk), .val (.int (((sel.toUInt32 >>> ((2 : Int32) &&& 31).toUInt32).toInt32) &&& (3 : Int32))), .val (.int (2 : Int32)), .val (.int st), .val (.int (fil.toInt8.toInt32)), .unset, .unset, .unset, .unset] [(.int (1 : Int32)), (.ref b76), (.ref b76)]))
      refine own_on (fun t k => XS.iload X80.here hx rfl (hb hby at_55) rfl k) ?_
      show OwnGo p e below s _ _ _ (T80.setTop (mkF m 57 #[.val (.int vv), .val (.int sel), .val (.int fil), .val (.int kk), .val (.int (((sel.toUInt32 >>> ((2 : Int32) &&& 31).toUInt32).toInt32) &&& (3 : Int32))), .val (.int (2 : Int32)), .val (.int st), .val (.int (fil.toInt8.toInt32)), .unset, .unset, .unset, .unset] [(.int (fil.toInt8.toInt32)), (.int (1 : Int32)), (.ref b76), (.ref b76)]))
      obtain ⟨cl81, Ar81, S81, H81⟩ := id V80'
      have hj81 : ¬ (1 : Int32) < 0 ∧ ((1 : Int32)).toNatClampNeg = 1 := (by decide)
      obtain ⟨T82, h82, X82, e82, W82, st82⟩ := stB X80 hx hZ e80 Ar81 (j := (1 : Int32)) (own_in S81 hj81 (by decide)) (g := (mkF m 57 #[.val (.int vv), .val (.int sel), .val (.int fil), .val (.int kk), .val (.int (((sel.toUInt32 >>> ((2 : Int32) &&& 31).toUInt32).toInt32) &&& (3 : Int32))), .val (.int (2 : Int32)), .val (.int st), .val (.int (fil.toInt8.toInt32)), .unset, .unset, .unset, .unset] [(.int (fil.toInt8.toInt32)), (.int (1 : Int32)), (.ref b76), (.ref b76)])) rfl rfl (hb hby at_57)
      have V82 : OwnArf Z h82 b76 .byte 24 (own_upd (own_fl 1 (nar .byte (fil.toInt8.toInt32))) 1 (nar .byte (fil.toInt8.toInt32))) := OwnArf.set Ar81 S81 H81 W82 hj81.2
      have V82' : OwnArf Z h82 b76 .byte 24 (own_fl 2 (nar .byte (fil.toInt8.toInt32))) := V82.congr (own_fl_up 1 _)
      have N82 := Fr.snoc X82 N80 g77
      have Z82 : n0 ≤ h82.size := Nat.le_trans Z80 (Keep.of_wr W82).1
      have K82 : Keep h0 h82 [] := K80.wr W82 (Or.inr z78)
      refine own_on st82 ?_
      show OwnGo p e below s _ _ _ (T82.setTop (mkF m 58 #[.val (.int vv), .val (.int sel), .val (.int fil), .val (.int kk), .val (.int (((sel.toUInt32 >>> ((2 : Int32) &&& 31).toUInt32).toInt32) &&& (3 : Int32))), .val (.int (2 : Int32)), .val (.int st), .val (.int (fil.toInt8.toInt32)), .unset, .unset, .unset, .unset] [(.ref b76)]))
      refine own_on (fun t k => XS.dup X82.here hx rfl (hb hby at_58) rfl rfl k) ?_
      show OwnGo p e below s _ _ _ (T82.setTop (mkF m 59 #[.val (.int vv), .val (.int sel), .val (.int fil), .val (.int kk), .val (.int (((sel.toUInt32 >>> ((2 : Int32) &&& 31).toUInt32).toInt32) &&& (3 : Int32))), .val (.int (2 : Int32)), .val (.int st), .val (.int (fil.toInt8.toInt32)), .unset, .unset, .unset, .unset] [(.ref b76), (.ref b76)]))
      refine own_on (fun t k => XS.iconst X82.here hx rfl (hb hby at_59) k) ?_
      show OwnGo p e below s _ _ _ (T82.setTop (mkF m 60 #[.val (.int vv), .val (.int sel), .val (.int fil), .val (.int kk), .val (.int (((sel.toUInt32 >>> ((2 : Int32) &&& 31).toUInt32).toInt32) &&& (3 : Int32))), .val (.int (2 : Int32)), .val (.int st), .val (.int (fil.toInt8.toInt32)), .unset, .unset, .unset, .unset] [(.int (2 : Int32)), (.ref b76), (.ref b76)]))
      refine own_on (fun t k => XS.iload X82.here hx rfl (hb hby at_60) rfl k) ?_
      show OwnGo p e below s _ _ _ (T82.setTop (mkF m 62 #[.val (.int vv), .val (.int sel), .val (.int fil), .val (.int kk), .val (.int (((sel.toUInt32 >>> ((2 : Int32) &&& 31).toUInt32).toInt32) &&& (3 : Int32))), .val (.int (2 : Int32)), .val (.int st), .val (.int (fil.toInt8.toInt32)), .unset, .unset, .unset, .unset] [(.int (fil.toInt8.toInt32)), (.int (2 : Int32)), (.ref b76), (.ref b76)]))
      obtain ⟨cl83, Ar83, S83, H83⟩ := id V82'
      have hj83 : ¬ (2 : Int32) < 0 ∧ ((2 : Int32)).toNatClampNeg = 2 := (by decide)
      obtain ⟨T84, h84, X84, e84, W84, st84⟩ := stB X82 hx hZ e82 Ar83 (j := (2 : Int32)) (own_in S83 hj83 (by decide)) (g := (mkF m 62 #[.val (.int vv), .val (.int sel), .val (.int fil), .val (.int kk), .val (.int (((sel.toUInt32 >>> ((2 : Int32) &&& 31).toUInt32).toInt32) &&& (3 : Int32))), .val (.int (2 : Int32)), .val (.int st), .val (.int (fil.toInt8.toInt32)), .unset, .unset, .unset, .unset] [(.int (fil.toInt8.toInt32)), (.int (2 : Int32)), (.ref b76), (.ref b76)])) rfl rfl (hb hby at_62)
      have V84 : OwnArf Z h84 b76 .byte 24 (own_upd (own_fl 2 (nar .byte (fil.toInt8.toInt32))) 2 (nar .byte (fil.toInt8.toInt32))) := OwnArf.set Ar83 S83 H83 W84 hj83.2
      have V84' : OwnArf Z h84 b76 .byte 24 (own_fl 3 (nar .byte (fil.toInt8.toInt32))) := V84.congr (own_fl_up 2 _)
      have N84 := Fr.snoc X84 N82 g77
      have Z84 : n0 ≤ h84.size := Nat.le_trans Z82 (Keep.of_wr W84).1
      have K84 : Keep h0 h84 [] := K82.wr W84 (Or.inr z78)
      refine own_on st84 ?_
      show OwnGo p e below s _ _ _ (T84.setTop (mkF m 63 #[.val (.int vv), .val (.int sel), .val (.int fil), .val (.int kk), .val (.int (((sel.toUInt32 >>> ((2 : Int32) &&& 31).toUInt32).toInt32) &&& (3 : Int32))), .val (.int (2 : Int32)), .val (.int st), .val (.int (fil.toInt8.toInt32)), .unset, .unset, .unset, .unset] [(.ref b76)]))
      refine own_on (fun t k => XS.dup X84.here hx rfl (hb hby at_63) rfl rfl k) ?_
      show OwnGo p e below s _ _ _ (T84.setTop (mkF m 64 #[.val (.int vv), .val (.int sel), .val (.int fil), .val (.int kk), .val (.int (((sel.toUInt32 >>> ((2 : Int32) &&& 31).toUInt32).toInt32) &&& (3 : Int32))), .val (.int (2 : Int32)), .val (.int st), .val (.int (fil.toInt8.toInt32)), .unset, .unset, .unset, .unset] [(.ref b76), (.ref b76)]))
      refine own_on (fun t k => XS.iconst X84.here hx rfl (hb hby at_64) k) ?_
      show OwnGo p e below s _ _ _ (T84.setTop (mkF m 65 #[.val (.int vv), .val (.int sel), .val (.int fil), .val (.int kk), .val (.int (((sel.toUInt32 >>> ((2 : Int32) &&& 31).toUInt32).toInt32) &&& (3 : Int32))), .val (.int (2 : Int32)), .val (.int st), .val (.int (fil.toInt8.toInt32)), .unset, .unset, .unset, .unset] [(.int (3 : Int32)), (.ref b76), (.ref b76)]))
      refine own_on (fun t k => XS.iload X84.here hx rfl (hb hby at_65) rfl k) ?_
      show OwnGo p e below s _ _ _ (T84.setTop (mkF m 67 #[.val (.int vv), .val (.int sel), .val (.int fil), .val (.int kk), .val (.int (((sel.toUInt32 >>> ((2 : Int32) &&& 31).toUInt32).toInt32) &&& (3 : Int32))), .val (.int (2 : Int32)), .val (.int st), .val (.int (fil.toInt8.toInt32)), .unset, .unset, .unset, .unset] [(.int (fil.toInt8.toInt32)), (.int (3 : Int32)), (.ref b76), (.ref b76)]))
      obtain ⟨cl85, Ar85, S85, H85⟩ := id V84'
      have hj85 : ¬ (3 : Int32) < 0 ∧ ((3 : Int32)).toNatClampNeg = 3 := (by decide)
      obtain ⟨T86, h86, X86, e86, W86, st86⟩ := stB X84 hx hZ e84 Ar85 (j := (3 : Int32)) (own_in S85 hj85 (by decide)) (g := (mkF m 67 #[.val (.int vv), .val (.int sel), .val (.int fil), .val (.int kk), .val (.int (((sel.toUInt32 >>> ((2 : Int32) &&& 31).toUInt32).toInt32) &&& (3 : Int32))), .val (.int (2 : Int32)), .val (.int st), .val (.int (fil.toInt8.toInt32)), .unset, .unset, .unset, .unset] [(.int (fil.toInt8.toInt32)), (.int (3 : Int32)), (.ref b76), (.ref b76)])) rfl rfl (hb hby at_67)
      have V86 : OwnArf Z h86 b76 .byte 24 (own_upd (own_fl 3 (nar .byte (fil.toInt8.toInt32))) 3 (nar .byte (fil.toInt8.toInt32))) := OwnArf.set Ar85 S85 H85 W86 hj85.2
      have V86' : OwnArf Z h86 b76 .byte 24 (own_fl 4 (nar .byte (fil.toInt8.toInt32))) := V86.congr (own_fl_up 3 _)
      have N86 := Fr.snoc X86 N84 g77
      have Z86 : n0 ≤ h86.size := Nat.le_trans Z84 (Keep.of_wr W86).1
      have K86 : Keep h0 h86 [] := K84.wr W86 (Or.inr z78)
      refine own_on st86 ?_
      show OwnGo p e below s _ _ _ (T86.setTop (mkF m 68 #[.val (.int vv), .val (.int sel), .val (.int fil), .val (.int kk), .val (.int (((sel.toUInt32 >>> ((2 : Int32) &&& 31).toUInt32).toInt32) &&& (3 : Int32))), .val (.int (2 : Int32)), .val (.int st), .val (.int (fil.toInt8.toInt32)), .unset, .unset, .unset, .unset] [(.ref b76)]))
      refine own_on (fun t k => XS.dup X86.here hx rfl (hb hby at_68) rfl rfl k) ?_
      show OwnGo p e below s _ _ _ (T86.setTop (mkF m 69 #[.val (.int vv), .val (.int sel), .val (.int fil), .val (.int kk), .val (.int (((sel.toUInt32 >>> ((2 : Int32) &&& 31).toUInt32).toInt32) &&& (3 : Int32))), .val (.int (2 : Int32)), .val (.int st), .val (.int (fil.toInt8.toInt32)), .unset, .unset, .unset, .unset] [(.ref b76), (.ref b76)]))
      refine own_on (fun t k => XS.iconst X86.here hx rfl (hb hby at_69) k) ?_
      show OwnGo p e below s _ _ _ (T86.setTop (mkF m 70 #[.val (.int vv), .val (.int sel), .val (.int fil), .val (.int kk), .val (.int (((sel.toUInt32 >>> ((2 : Int32) &&& 31).toUInt32).toInt32) &&& (3 : Int32))), .val (.int (2 : Int32)), .val (.int st), .val (.int (fil.toInt8.toInt32)), .unset, .unset, .unset, .unset] [(.int (4 : Int32)), (.ref b76), (.ref b76)]))
      refine own_on (fun t k => XS.iload X86.here hx rfl (hb hby at_70) rfl k) ?_
      show OwnGo p e below s _ _ _ (T86.setTop (mkF m 72 #[.val (.int vv), .val (.int sel), .val (.int fil), .val (.int kk), .val (.int (((sel.toUInt32 >>> ((2 : Int32) &&& 31).toUInt32).toInt32) &&& (3 : Int32))), .val (.int (2 : Int32)), .val (.int st), .val (.int (fil.toInt8.toInt32)), .unset, .unset, .unset, .unset] [(.int (fil.toInt8.toInt32)), (.int (4 : Int32)), (.ref b76), (.ref b76)]))
      obtain ⟨cl87, Ar87, S87, H87⟩ := id V86'
      have hj87 : ¬ (4 : Int32) < 0 ∧ ((4 : Int32)).toNatClampNeg = 4 := (by decide)
      obtain ⟨T88, h88, X88, e88, W88, st88⟩ := stB X86 hx hZ e86 Ar87 (j := (4 : Int32)) (own_in S87 hj87 (by decide)) (g := (mkF m 72 #[.val (.int vv), .val (.int sel), .val (.int fil), .val (.int kk), .val (.int (((sel.toUInt32 >>> ((2 : Int32) &&& 31).toUInt32).toInt32) &&& (3 : Int32))), .val (.int (2 : Int32)), .val (.int st), .val (.int (fil.toInt8.toInt32)), .unset, .unset, .unset, .unset] [(.int (fil.toInt8.toInt32)), (.int (4 : Int32)), (.ref b76), (.ref b76)])) rfl rfl (hb hby at_72)
      have V88 : OwnArf Z h88 b76 .byte 24 (own_upd (own_fl 4 (nar .byte (fil.toInt8.toInt32))) 4 (nar .byte (fil.toInt8.toInt32))) := OwnArf.set Ar87 S87 H87 W88 hj87.2
      have V88' : OwnArf Z h88 b76 .byte 24 (own_fl 5 (nar .byte (fil.toInt8.toInt32))) := V88.congr (own_fl_up 4 _)
      have N88 := Fr.snoc X88 N86 g77
      have Z88 : n0 ≤ h88.size := Nat.le_trans Z86 (Keep.of_wr W88).1
      have K88 : Keep h0 h88 [] := K86.wr W88 (Or.inr z78)
      refine own_on st88 ?_
      show OwnGo p e below s _ _ _ (T88.setTop (mkF m 73 #[.val (.int vv), .val (.int sel), .val (.int fil), .val (.int kk), .val (.int (((sel.toUInt32 >>> ((2 : Int32) &&& 31).toUInt32).toInt32) &&& (3 : Int32))), .val (.int (2 : Int32)), .val (.int st), .val (.int (fil.toInt8.toInt32)), .unset, .unset, .unset, .unset] [(.ref b76)]))
      refine own_on (fun t k => XS.dup X88.here hx rfl (hb hby at_73) rfl rfl k) ?_
      show OwnGo p e below s _ _ _ (T88.setTop (mkF m 74 #[.val (.int vv), .val (.int sel), .val (.int fil), .val (.int kk), .val (.int (((sel.toUInt32 >>> ((2 : Int32) &&& 31).toUInt32).toInt32) &&& (3 : Int32))), .val (.int (2 : Int32)), .val (.int st), .val (.int (fil.toInt8.toInt32)), .unset, .unset, .unset, .unset] [(.ref b76), (.ref b76)]))
      refine own_on (fun t k => XS.iconst X88.here hx rfl (hb hby at_74) k) ?_
      show OwnGo p e below s _ _ _ (T88.setTop (mkF m 75 #[.val (.int vv), .val (.int sel), .val (.int fil), .val (.int kk), .val (.int (((sel.toUInt32 >>> ((2 : Int32) &&& 31).toUInt32).toInt32) &&& (3 : Int32))), .val (.int (2 : Int32)), .val (.int st), .val (.int (fil.toInt8.toInt32)), .unset, .unset, .unset, .unset] [(.int (5 : Int32)), (.ref b76), (.ref b76)]))
      refine own_on (fun t k => XS.iload X88.here hx rfl (hb hby at_75) rfl k) ?_
      show OwnGo p e below s _ _ _ (T88.setTop (mkF m 77 #[.val (.int vv), .val (.int sel), .val (.int fil), .val (.int kk), .val (.int (((sel.toUInt32 >>> ((2 : Int32) &&& 31).toUInt32).toInt32) &&& (3 : Int32))), .val (.int (2 : Int32)), .val (.int st), .val (.int (fil.toInt8.toInt32)), .unset, .unset, .unset, .unset] [(.int (fil.toInt8.toInt32)), (.int (5 : Int32)), (.ref b76), (.ref b76)]))
      obtain ⟨cl89, Ar89, S89, H89⟩ := id V88'
      have hj89 : ¬ (5 : Int32) < 0 ∧ ((5 : Int32)).toNatClampNeg = 5 := (by decide)
      obtain ⟨T90, h90, X90, e90, W90, st90⟩ := stB X88 hx hZ e88 Ar89 (j := (5 : Int32)) (own_in S89 hj89 (by decide)) (g := (mkF m 77 #[.val (.int vv), .val (.int sel), .val (.int fil), .val (.int kk), .val (.int (((sel.toUInt32 >>> ((2 : Int32) &&& 31).toUInt32).toInt32) &&& (3 : Int32))), .val (.int (2 : Int32)), .val (.int st), .val (.int (fil.toInt8.toInt32)), .unset, .unset, .unset, .unset] [(.int (fil.toInt8.toInt32)), (.int (5 : Int32)), (.ref b76), (.ref b76)])) rfl rfl (hb hby at_77)
      have V90 : OwnArf Z h90 b76 .byte 24 (own_upd (own_fl 5 (nar .byte (fil.toInt8.toInt32))) 5 (nar .byte (fil.toInt8.toInt32))) := OwnArf.set Ar89 S89 H89 W90 hj89.2
      have V90' : OwnArf Z h90 b76 .byte 24 (own_fl 6 (nar .byte (fil.toInt8.toInt32))) := V90.congr (own_fl_up 5 _)
      have N90 := Fr.snoc X90 N88 g77
      have Z90 : n0 ≤ h90.size := Nat.le_trans Z88 (Keep.of_wr W90).1
      have K90 : Keep h0 h90 [] := K88.wr W90 (Or.inr z78)
      refine own_on st90 ?_
      show OwnGo p e below s _ _ _ (T90.setTop (mkF m 78 #[.val (.int vv), .val (.int sel), .val (.int fil), .val (.int kk), .val (.int (((sel.toUInt32 >>> ((2 : Int32) &&& 31).toUInt32).toInt32) &&& (3 : Int32))), .val (.int (2 : Int32)), .val (.int st), .val (.int (fil.toInt8.toInt32)), .unset, .unset, .unset, .unset] [(.ref b76)]))
      refine own_on (fun t k => XS.dup X90.here hx rfl (hb hby at_78) rfl rfl k) ?_
      show OwnGo p e below s _ _ _ (T90.setTop (mkF m 79 #[.val (.int vv), .val (.int sel), .val (.int fil), .val (.int kk), .val (.int (((sel.toUInt32 >>> ((2 : Int32) &&& 31).toUInt32).toInt32) &&& (3 : Int32))), .val (.int (2 : Int32)), .val (.int st), .val (.int (fil.toInt8.toInt32)), .unset, .unset, .unset, .unset] [(.ref b76), (.ref b76)]))
      refine own_on (fun t k => XS.bipush X90.here hx rfl (hb hby at_79) k) ?_
      show OwnGo p e below s _ _ _ (T90.setTop (mkF m 81 #[.val (.int vv), .val (.int sel), .val (.int fil), .val (.int kk), .val (.int (((sel.toUInt32 >>> ((2 : Int32) &&& 31).toUInt32).toInt32) &&& (3 : Int32))), .val (.int (2 : Int32)), .val (.int st), .val (.int (fil.toInt8.toInt32)), .unset, .unset, .unset, .unset] [(.int (6 : Int32)), (.ref b76), (.ref b76)]))
      refine own_on (fun t k => XS.iload X90.here hx rfl (hb hby at_81) rfl k) ?_
      show OwnGo p e below s _ _ _ (T90.setTop (mkF m 83 #[.val (.int vv), .val (.int sel), .val (.int fil), .val (.int kk), .val (.int (((sel.toUInt32 >>> ((2 : Int32) &&& 31).toUInt32).toInt32) &&& (3 : Int32))), .val (.int (2 : Int32)), .val (.int st), .val (.int (fil.toInt8.toInt32)), .unset, .unset, .unset, .unset] [(.int (fil.toInt8.toInt32)), (.int (6 : Int32)), (.ref b76), (.ref b76)]))
      obtain ⟨cl91, Ar91, S91, H91⟩ := id V90'
      have hj91 : ¬ (6 : Int32) < 0 ∧ ((6 : Int32)).toNatClampNeg = 6 := (by decide)
      obtain ⟨T92, h92, X92, e92, W92, st92⟩ := stB X90 hx hZ e90 Ar91 (j := (6 : Int32)) (own_in S91 hj91 (by decide)) (g := (mkF m 83 #[.val (.int vv), .val (.int sel), .val (.int fil), .val (.int kk), .val (.int (((sel.toUInt32 >>> ((2 : Int32) &&& 31).toUInt32).toInt32) &&& (3 : Int32))), .val (.int (2 : Int32)), .val (.int st), .val (.int (fil.toInt8.toInt32)), .unset, .unset, .unset, .unset] [(.int (fil.toInt8.toInt32)), (.int (6 : Int32)), (.ref b76), (.ref b76)])) rfl rfl (hb hby at_83)
      have V92 : OwnArf Z h92 b76 .byte 24 (own_upd (own_fl 6 (nar .byte (fil.toInt8.toInt32))) 6 (nar .byte (fil.toInt8.toInt32))) := OwnArf.set Ar91 S91 H91 W92 hj91.2
      have V92' : OwnArf Z h92 b76 .byte 24 (own_fl 7 (nar .byte (fil.toInt8.toInt32))) := V92.congr (own_fl_up 6 _)
      have N92 := Fr.snoc X92 N90 g77
      have Z92 : n0 ≤ h92.size := Nat.le_trans Z90 (Keep.of_wr W92).1
      have K92 : Keep h0 h92 [] := K90.wr W92 (Or.inr z78)
      refine own_on st92 ?_
      show OwnGo p e below s _ _ _ (T92.setTop (mkF m 84 #[.val (.int vv), .val (.int sel), .val (.int fil), .val (.int kk), .val (.int (((sel.toUInt32 >>> ((2 : Int32) &&& 31).toUInt32).toInt32) &&& (3 : Int32))), .val (.int (2 : Int32)), .val (.int st), .val (.int (fil.toInt8.toInt32)), .unset, .unset, .unset, .unset] [(.ref b76)]))
      refine own_on (fun t k => XS.dup X92.here hx rfl (hb hby at_84) rfl rfl k) ?_
      show OwnGo p e below s _ _ _ (T92.setTop (mkF m 85 #[.val (.int vv), .val (.int sel), .val (.int fil), .val (.int kk), .val (.int (((sel.toUInt32 >>> ((2 : Int32) &&& 31).toUInt32).toInt32) &&& (3 : Int32))), .val (.int (2 : Int32)), .val (.int st), .val (.int (fil.toInt8.toInt32)), .unset, .unset, .unset, .unset] [(.ref b76), (.ref b76)]))
      refine own_on (fun t k => XS.bipush X92.here hx rfl (hb hby at_85) k) ?_
      show OwnGo p e below s _ _ _ (T92.setTop (mkF m 87 #[.val (.int vv), .val (.int sel), .val (.int fil), .val (.int kk), .val (.int (((sel.toUInt32 >>> ((2 : Int32) &&& 31).toUInt32).toInt32) &&& (3 : Int32))), .val (.int (2 : Int32)), .val (.int st), .val (.int (fil.toInt8.toInt32)), .unset, .unset, .unset, .unset] [(.int (7 : Int32)), (.ref b76), (.ref b76)]))
      refine own_on (fun t k => XS.iload X92.here hx rfl (hb hby at_87) rfl k) ?_
      show OwnGo p e below s _ _ _ (T92.setTop (mkF m 89 #[.val (.int vv), .val (.int sel), .val (.int fil), .val (.int kk), .val (.int (((sel.toUInt32 >>> ((2 : Int32) &&& 31).toUInt32).toInt32) &&& (3 : Int32))), .val (.int (2 : Int32)), .val (.int st), .val (.int (fil.toInt8.toInt32)), .unset, .unset, .unset, .unset] [(.int (fil.toInt8.toInt32)), (.int (7 : Int32)), (.ref b76), (.ref b76)]))
      obtain ⟨cl93, Ar93, S93, H93⟩ := id V92'
      have hj93 : ¬ (7 : Int32) < 0 ∧ ((7 : Int32)).toNatClampNeg = 7 := (by decide)
      obtain ⟨T94, h94, X94, e94, W94, st94⟩ := stB X92 hx hZ e92 Ar93 (j := (7 : Int32)) (own_in S93 hj93 (by decide)) (g := (mkF m 89 #[.val (.int vv), .val (.int sel), .val (.int fil), .val (.int kk), .val (.int (((sel.toUInt32 >>> ((2 : Int32) &&& 31).toUInt32).toInt32) &&& (3 : Int32))), .val (.int (2 : Int32)), .val (.int st), .val (.int (fil.toInt8.toInt32)), .unset, .unset, .unset, .unset] [(.int (fil.toInt8.toInt32)), (.int (7 : Int32)), (.ref b76), (.ref b76)])) rfl rfl (hb hby at_89)
      have V94 : OwnArf Z h94 b76 .byte 24 (own_upd (own_fl 7 (nar .byte (fil.toInt8.toInt32))) 7 (nar .byte (fil.toInt8.toInt32))) := OwnArf.set Ar93 S93 H93 W94 hj93.2
      have V94' : OwnArf Z h94 b76 .byte 24 (own_fl 8 (nar .byte (fil.toInt8.toInt32))) := V94.congr (own_fl_up 7 _)
      have N94 := Fr.snoc X94 N92 g77
      have Z94 : n0 ≤ h94.size := Nat.le_trans Z92 (Keep.of_wr W94).1
      have K94 : Keep h0 h94 [] := K92.wr W94 (Or.inr z78)
      refine own_on st94 ?_
      show OwnGo p e below s _ _ _ (T94.setTop (mkF m 90 #[.val (.int vv), .val (.int sel), .val (.int fil), .val (.int kk), .val (.int (((sel.toUInt32 >>> ((2 : Int32) &&& 31).toUInt32).toInt32) &&& (3 : Int32))), .val (.int (2 : Int32)), .val (.int st), .val (.int (fil.toInt8.toInt32)), .unset, .unset, .unset, .unset] [(.ref b76)]))
      refine own_on (fun t k => XS.dup X94.here hx rfl (hb hby at_90) rfl rfl k) ?_
      show OwnGo p e below s _ _ _ (T94.setTop (mkF m 91 #[.val (.int vv), .val (.int sel), .val (.int fil), .val (.int kk), .val (.int (((sel.toUInt32 >>> ((2 : Int32) &&& 31).toUInt32).toInt32) &&& (3 : Int32))), .val (.int (2 : Int32)), .val (.int st), .val (.int (fil.toInt8.toInt32)), .unset, .unset, .unset, .unset] [(.ref b76), (.ref b76)]))
      refine own_on (fun t k => XS.bipush X94.here hx rfl (hb hby at_91) k) ?_
      show OwnGo p e below s _ _ _ (T94.setTop (mkF m 93 #[.val (.int vv), .val (.int sel), .val (.int fil), .val (.int kk), .val (.int (((sel.toUInt32 >>> ((2 : Int32) &&& 31).toUInt32).toInt32) &&& (3 : Int32))), .val (.int (2 : Int32)), .val (.int st), .val (.int (fil.toInt8.toInt32)), .unset, .unset, .unset, .unset] [(.int (8 : Int32)), (.ref b76), (.ref b76)]))
      refine own_on (fun t k => XS.iload X94.here hx rfl (hb hby at_93) rfl k) ?_
      show OwnGo p e below s _ _ _ (T94.setTop (mkF m 95 #[.val (.int vv), .val (.int sel), .val (.int fil), .val (.int kk), .val (.int (((sel.toUInt32 >>> ((2 : Int32) &&& 31).toUInt32).toInt32) &&& (3 : Int32))), .val (.int (2 : Int32)), .val (.int st), .val (.int (fil.toInt8.toInt32)), .unset, .unset, .unset, .unset] [(.int (fil.toInt8.toInt32)), (.int (8 : Int32)), (.ref b76), (.ref b76)]))
      obtain ⟨cl95, Ar95, S95, H95⟩ := id V94'
      have hj95 : ¬ (8 : Int32) < 0 ∧ ((8 : Int32)).toNatClampNeg = 8 := (by decide)
      obtain ⟨T96, h96, X96, e96, W96, st96⟩ := stB X94 hx hZ e94 Ar95 (j := (8 : Int32)) (own_in S95 hj95 (by decide)) (g := (mkF m 95 #[.val (.int vv), .val (.int sel), .val (.int fil), .val (.int kk), .val (.int (((sel.toUInt32 >>> ((2 : Int32) &&& 31).toUInt32).toInt32) &&& (3 : Int32))), .val (.int (2 : Int32)), .val (.int st), .val (.int (fil.toInt8.toInt32)), .unset, .unset, .unset, .unset] [(.int (fil.toInt8.toInt32)), (.int (8 : Int32)), (.ref b76), (.ref b76)])) rfl rfl (hb hby at_95)
      have V96 : OwnArf Z h96 b76 .byte 24 (own_upd (own_fl 8 (nar .byte (fil.toInt8.toInt32))) 8 (nar .byte (fil.toInt8.toInt32))) := OwnArf.set Ar95 S95 H95 W96 hj95.2
      have V96' : OwnArf Z h96 b76 .byte 24 (own_fl 9 (nar .byte (fil.toInt8.toInt32))) := V96.congr (own_fl_up 8 _)
      have N96 := Fr.snoc X96 N94 g77
      have Z96 : n0 ≤ h96.size := Nat.le_trans Z94 (Keep.of_wr W96).1
      have K96 : Keep h0 h96 [] := K94.wr W96 (Or.inr z78)
      refine own_on st96 ?_
      show OwnGo p e below s _ _ _ (T96.setTop (mkF m 96 #[.val (.int vv), .val (.int sel), .val (.int fil), .val (.int kk), .val (.int (((sel.toUInt32 >>> ((2 : Int32) &&& 31).toUInt32).toInt32) &&& (3 : Int32))), .val (.int (2 : Int32)), .val (.int st), .val (.int (fil.toInt8.toInt32)), .unset, .unset, .unset, .unset] [(.ref b76)]))
      refine own_on (fun t k => XS.dup X96.here hx rfl (hb hby at_96) rfl rfl k) ?_
      show OwnGo p e below s _ _ _ (T96.setTop (mkF m 97 #[.val (.int vv), .val (.int sel), .val (.int fil), .val (.int kk), .val (.int (((sel.toUInt32 >>> ((2 : Int32) &&& 31).toUInt32).toInt32) &&& (3 : Int32))), .val (.int (2 : Int32)), .val (.int st), .val (.int (fil.toInt8.toInt32)), .unset, .unset, .unset, .unset] [(.ref b76), (.ref b76)]))
      refine own_on (fun t k => XS.bipush X96.here hx rfl (hb hby at_97) k) ?_
      show OwnGo p e below s _ _ _ (T96.setTop (mkF m 99 #[.val (.int vv), .val (.int sel), .val (.int fil), .val (.int kk), .val (.int (((sel.toUInt32 >>> ((2 : Int32) &&& 31).toUInt32).toInt32) &&& (3 : Int32))), .val (.int (2 : Int32)), .val (.int st), .val (.int (fil.toInt8.toInt32)), .unset, .unset, .unset, .unset] [(.int (9 : Int32)), (.ref b76), (.ref b76)]))
      refine own_on (fun t k => XS.iload X96.here hx rfl (hb hby at_99) rfl k) ?_
      show OwnGo p e below s _ _ _ (T96.setTop (mkF m 101 #[.val (.int vv), .val (.int sel), .val (.int fil), .val (.int kk), .val (.int (((sel.toUInt32 >>> ((2 : Int32) &&& 31).toUInt32).toInt32) &&& (3 : Int32))), .val (.int (2 : Int32)), .val (.int st), .val (.int (fil.toInt8.toInt32)), .unset, .unset, .unset, .unset] [(.int (fil.toInt8.toInt32)), (.int (9 : Int32)), (.ref b76), (.ref b76)]))
      obtain ⟨cl97, Ar97, S97, H97⟩ := id V96'
      have hj97 : ¬ (9 : Int32) < 0 ∧ ((9 : Int32)).toNatClampNeg = 9 := (by decide)
      obtain ⟨T98, h98, X98, e98, W98, st98⟩ := stB X96 hx hZ e96 Ar97 (j := (9 : Int32)) (own_in S97 hj97 (by decide)) (g := (mkF m 101 #[.val (.int vv), .val (.int sel), .val (.int fil), .val (.int kk), .val (.int (((sel.toUInt32 >>> ((2 : Int32) &&& 31).toUInt32).toInt32) &&& (3 : Int32))), .val (.int (2 : Int32)), .val (.int st), .val (.int (fil.toInt8.toInt32)), .unset, .unset, .unset, .unset] [(.int (fil.toInt8.toInt32)), (.int (9 : Int32)), (.ref b76), (.ref b76)])) rfl rfl (hb hby at_101)
      have V98 : OwnArf Z h98 b76 .byte 24 (own_upd (own_fl 9 (nar .byte (fil.toInt8.toInt32))) 9 (nar .byte (fil.toInt8.toInt32))) := OwnArf.set Ar97 S97 H97 W98 hj97.2
      have V98' : OwnArf Z h98 b76 .byte 24 (own_fl 10 (nar .byte (fil.toInt8.toInt32))) := V98.congr (own_fl_up 9 _)
      have N98 := Fr.snoc X98 N96 g77
      have Z98 : n0 ≤ h98.size := Nat.le_trans Z96 (Keep.of_wr W98).1
      have K98 : Keep h0 h98 [] := K96.wr W98 (Or.inr z78)
      refine own_on st98 ?_
      show OwnGo p e below s _ _ _ (T98.setTop (mkF m 102 #[.val (.int vv), .val (.int sel), .val (.int fil), .val (.int kk), .val (.int (((sel.toUInt32 >>> ((2 : Int32) &&& 31).toUInt32).toInt32) &&& (3 : Int32))), .val (.int (2 : Int32)), .val (.int st), .val (.int (fil.toInt8.toInt32)), .unset, .unset, .unset, .unset] [(.ref b76)]))
      refine own_on (fun t k => XS.dup X98.here hx rfl (hb hby at_102) rfl rfl k) ?_
      show OwnGo p e below s _ _ _ (T98.setTop (mkF m 103 #[.val (.int vv), .val (.int sel), .val (.int fil), .val (.int kk), .val (.int (((sel.toUInt32 >>> ((2 : Int32) &&& 31).toUInt32).toInt32) &&& (3 : Int32))), .val (.int (2 : Int32)), .val (.int st), .val (.int (fil.toInt8.toInt32)), .unset, .unset, .unset, .unset] [(.ref b76), (.ref b76)]))
      refine own_on (fun t k => XS.bipush X98.here hx rfl (hb hby at_103) k) ?_
      show OwnGo p e below s _ _ _ (T98.setTop (mkF m 105 #[.val (.int vv), .val (.int sel), .val (.int fil), .val (.int kk), .val (.int (((sel.toUInt32 >>> ((2 : Int32) &&& 31).toUInt32).toInt32) &&& (3 : Int32))), .val (.int (2 : Int32)), .val (.int st), .val (.int (fil.toInt8.toInt32)), .unset, .unset, .unset, .unset] [(.int (10 : Int32)), (.ref b76), (.ref b76)]))
      refine own_on (fun t k => XS.iload X98.here hx rfl (hb hby at_105) rfl k) ?_
      show OwnGo p e below s _ _ _ (T98.setTop (mkF m 107 #[.val (.int vv), .val (.int sel), .val (.int fil), .val (.int kk), .val (.int (((sel.toUInt32 >>> ((2 : Int32) &&& 31).toUInt32).toInt32) &&& (3 : Int32))), .val (.int (2 : Int32)), .val (.int st), .val (.int (fil.toInt8.toInt32)), .unset, .unset, .unset, .unset] [(.int (fil.toInt8.toInt32)), (.int (10 : Int32)), (.ref b76), (.ref b76)]))
      obtain ⟨cl99, Ar99, S99, H99⟩ := id V98'
      have hj99 : ¬ (10 : Int32) < 0 ∧ ((10 : Int32)).toNatClampNeg = 10 := (by decide)
      obtain ⟨T100, h100, X100, e100, W100, st100⟩ := stB X98 hx hZ e98 Ar99 (j := (10 : Int32)) (own_in S99 hj99 (by decide)) (g := (mkF m 107 #[.val (.int vv), .val (.int sel), .val (.int fil), .val (.int kk), .val (.int (((sel.toUInt32 >>> ((2 : Int32) &&& 31).toUInt32).toInt32) &&& (3 : Int32))), .val (.int (2 : Int32)), .val (.int st), .val (.int (fil.toInt8.toInt32)), .unset, .unset, .unset, .unset] [(.int (fil.toInt8.toInt32)), (.int (10 : Int32)), (.ref b76), (.ref b76)])) rfl rfl (hb hby at_107)
      have V100 : OwnArf Z h100 b76 .byte 24 (own_upd (own_fl 10 (nar .byte (fil.toInt8.toInt32))) 10 (nar .byte (fil.toInt8.toInt32))) := OwnArf.set Ar99 S99 H99 W100 hj99.2
      have V100' : OwnArf Z h100 b76 .byte 24 (own_fl 11 (nar .byte (fil.toInt8.toInt32))) := V100.congr (own_fl_up 10 _)
      have N100 := Fr.snoc X100 N98 g77
      have Z100 : n0 ≤ h100.size := Nat.le_trans Z98 (Keep.of_wr W100).1
      have K100 : Keep h0 h100 [] := K98.wr W100 (Or.inr z78)
      refine own_on st100 ?_
      show OwnGo p e below s _ _ _ (T100.setTop (mkF m 108 #[.val (.int vv), .val (.int sel), .val (.int fil), .val (.int kk), .val (.int (((sel.toUInt32 >>> ((2 : Int32) &&& 31).toUInt32).toInt32) &&& (3 : Int32))), .val (.int (2 : Int32)), .val (.int st), .val (.int (fil.toInt8.toInt32)), .unset, .unset, .unset, .unset] [(.ref b76)]))
      refine own_on (fun t k => XS.dup X100.here hx rfl (hb hby at_108) rfl rfl k) ?_
      show OwnGo p e below s _ _ _ (T100.setTop (mkF m 109 #[.val (.int vv), .val (.int sel), .val (.int fil), .val (.int kk), .val (.int (((sel.toUInt32 >>> ((2 : Int32) &&& 31).toUInt32).toInt32) &&& (3 : Int32))), .val (.int (2 : Int32)), .val (.int st), .val (.int (fil.toInt8.toInt32)), .unset, .unset, .unset, .unset] [(.ref b76), (.ref b76)]))
      refine own_on (fun t k => XS.bipush X100.here hx rfl (hb hby at_109) k) ?_
      show OwnGo p e below s _ _ _ (T100.setTop (mkF m 111 #[.val (.int vv), .val (.int sel), .val (.int fil), .val (.int kk), .val (.int (((sel.toUInt32 >>> ((2 : Int32) &&& 31).toUInt32).toInt32) &&& (3 : Int32))), .val (.int (2 : Int32)), .val (.int st), .val (.int (fil.toInt8.toInt32)), .unset, .unset, .unset, .unset] [(.int (11 : Int32)), (.ref b76), (.ref b76)]))
      refine own_on (fun t k => XS.iload X100.here hx rfl (hb hby at_111) rfl k) ?_
      show OwnGo p e below s _ _ _ (T100.setTop (mkF m 113 #[.val (.int vv), .val (.int sel), .val (.int fil), .val (.int kk), .val (.int (((sel.toUInt32 >>> ((2 : Int32) &&& 31).toUInt32).toInt32) &&& (3 : Int32))), .val (.int (2 : Int32)), .val (.int st), .val (.int (fil.toInt8.toInt32)), .unset, .unset, .unset, .unset] [(.int (fil.toInt8.toInt32)), (.int (11 : Int32)), (.ref b76), (.ref b76)]))
      obtain ⟨cl101, Ar101, S101, H101⟩ := id V100'
      have hj101 : ¬ (11 : Int32) < 0 ∧ ((11 : Int32)).toNatClampNeg = 11 := (by decide)
      obtain ⟨T102, h102, X102, e102, W102, st102⟩ := stB X100 hx hZ e100 Ar101 (j := (11 : Int32)) (own_in S101 hj101 (by decide)) (g := (mkF m 113 #[.val (.int vv), .val (.int sel), .val (.int fil), .val (.int kk), .val (.int (((sel.toUInt32 >>> ((2 : Int32) &&& 31).toUInt32).toInt32) &&& (3 : Int32))), .val (.int (2 : Int32)), .val (.int st), .val (.int (fil.toInt8.toInt32)), .unset, .unset, .unset, .unset] [(.int (fil.toInt8.toInt32)), (.int (11 : Int32)), (.ref b76), (.ref b76)])) rfl rfl (hb hby at_113)
      have V102 : OwnArf Z h102 b76 .byte 24 (own_upd (own_fl 11 (nar .byte (fil.toInt8.toInt32))) 11 (nar .byte (fil.toInt8.toInt32))) := OwnArf.set Ar101 S101 H101 W102 hj101.2
      have V102' : OwnArf Z h102 b76 .byte 24 (own_fl 12 (nar .byte (fil.toInt8.toInt32))) := V102.congr (own_fl_up 11 _)
      have N102 := Fr.snoc X102 N100 g77
      have Z102 : n0 ≤ h102.size := Nat.le_trans Z100 (Keep.of_wr W102).1
      have K102 : Keep h0 h102 [] := K100.wr W102 (Or.inr z78)
      refine own_on st102 ?_
      show OwnGo p e below s _ _ _ (T102.setTop (mkF m 114 #[.val (.int vv), .val (.int sel), .val (.int fil), .val (.int kk), .val (.int (((sel.toUInt32 >>> ((2 : Int32) &&& 31).toUInt32).toInt32) &&& (3 : Int32))), .val (.int (2 : Int32)), .val (.int st), .val (.int (fil.toInt8.toInt32)), .unset, .unset, .unset, .unset] [(.ref b76)]))
      refine own_on (fun t k => XS.dup X102.here hx rfl (hb hby at_114) rfl rfl k) ?_
      show OwnGo p e below s _ _ _ (T102.setTop (mkF m 115 #[.val (.int vv), .val (.int sel), .val (.int fil), .val (.int kk), .val (.int (((sel.toUInt32 >>> ((2 : Int32) &&& 31).toUInt32).toInt32) &&& (3 : Int32))), .val (.int (2 : Int32)), .val (.int st), .val (.int (fil.toInt8.toInt32)), .unset, .unset, .unset, .unset] [(.ref b76), (.ref b76)]))
      refine own_on (fun t k => XS.bipush X102.here hx rfl (hb hby at_115) k) ?_
      show OwnGo p e below s _ _ _ (T102.setTop (mkF m 117 #[.val (.int vv), .val (.int sel), .val (.int fil), .val (.int kk), .val (.int (((sel.toUInt32 >>> ((2 : Int32) &&& 31).toUInt32).toInt32) &&& (3 : Int32))), .val (.int (2 : Int32)), .val (.int st), .val (.int (fil.toInt8.toInt32)), .unset, .unset, .unset, .unset] [(.int (12 : Int32)), (.ref b76), (.ref b76)]))
      refine own_on (fun t k => XS.iload X102.here hx rfl (hb hby at_117) rfl k) ?_
      show OwnGo p e below s _ _ _ (T102.setTop (mkF m 119 #[.val (.int vv), .val (.int sel), .val (.int fil), .val (.int kk), .val (.int (((sel.toUInt32 >>> ((2 : Int32) &&& 31).toUInt32).toInt32) &&& (3 : Int32))), .val (.int (2 : Int32)), .val (.int st), .val (.int (fil.toInt8.toInt32)), .unset, .unset, .unset, .unset] [(.int (fil.toInt8.toInt32)), (.int (12 : Int32)), (.ref b76), (.ref b76)]))
      obtain ⟨cl103, Ar103, S103, H103⟩ := id V102'
      have hj103 : ¬ (12 : Int32) < 0 ∧ ((12 : Int32)).toNatClampNeg = 12 := (by decide)
      obtain ⟨T104, h104, X104, e104, W104, st104⟩ := stB X102 hx hZ e102 Ar103 (j := (12 : Int32)) (own_in S103 hj103 (by decide)) (g := (mkF m 119 #[.val (.int vv), .val (.int sel), .val (.int fil), .val (.int kk), .val (.int (((sel.toUInt32 >>> ((2 : Int32) &&& 31).toUInt32).toInt32) &&& (3 : Int32))), .val (.int (2 : Int32)), .val (.int st), .val (.int (fil.toInt8.toInt32)), .unset, .unset, .unset, .unset] [(.int (fil.toInt8.toInt32)), (.int (12 : Int32)), (.ref b76), (.ref b76)])) rfl rfl (hb hby at_119)
      have V104 : OwnArf Z h104 b76 .byte 24 (own_upd (own_fl 12 (nar .byte (fil.toInt8.toInt32))) 12 (nar .byte (fil.toInt8.toInt32))) := OwnArf.set Ar103 S103 H103 W104 hj103.2
      have V104' : OwnArf Z h104 b76 .byte 24 (own_fl 13 (nar .byte (fil.toInt8.toInt32))) := V104.congr (own_fl_up 12 _)
      have N104 := Fr.snoc X104 N102 g77
      have Z104 : n0 ≤ h104.size := Nat.le_trans Z102 (Keep.of_wr W104).1
      have K104 : Keep h0 h104 [] := K102.wr W104 (Or.inr z78)
      refine own_on st104 ?_
      show OwnGo p e below s _ _ _ (T104.setTop (mkF m 120 #[.val (.int vv), .val (.int sel), .val (.int fil), .val (.int kk), .val (.int (((sel.toUInt32 >>> ((2 : Int32) &&& 31).toUInt32).toInt32) &&& (3 : Int32))), .val (.int (2 : Int32)), .val (.int st), .val (.int (fil.toInt8.toInt32)), .unset, .unset, .unset, .unset] [(.ref b76)]))
      refine own_on (fun t k => XS.dup X104.here hx rfl (hb hby at_120) rfl rfl k) ?_
      show OwnGo p e below s _ _ _ (T104.setTop (mkF m 121 #[.val (.int vv), .val (.int sel), .val (.int fil), .val (.int kk), .val (.int (((sel.toUInt32 >>> ((2 : Int32) &&& 31).toUInt32).toInt32) &&& (3 : Int32))), .val (.int (2 : Int32)), .val (.int st), .val (.int (fil.toInt8.toInt32)), .unset, .unset, .unset, .unset] [(.ref b76), (.ref b76)]))
      refine own_on (fun t k => XS.bipush X104.here hx rfl (hb hby at_121) k) ?_
      show OwnGo p e below s _ _ _ (T104.setTop (mkF m 123 #[.val (.int vv), .val (.int sel), .val (.int fil), .val (.int kk), .val (.int (((sel.toUInt32 >>> ((2 : Int32) &&& 31).toUInt32).toInt32) &&& (3 : Int32))), .val (.int (2 : Int32)), .val (.int st), .val (.int (fil.toInt8.toInt32)), .unset, .unset, .unset, .unset] [(.int (13 : Int32)), (.ref b76), (.ref b76)]))
      refine own_on (fun t k => XS.iload X104.here hx rfl (hb hby at_123) rfl k) ?_
      show OwnGo p e below s _ _ _ (T104.setTop (mkF m 125 #[.val (.int vv), .val (.int sel), .val (.int fil), .val (.int kk), .val (.int (((sel.toUInt32 >>> ((2 : Int32) &&& 31).toUInt32).toInt32) &&& (3 : Int32))), .val (.int (2 : Int32)), .val (.int st), .val (.int (fil.toInt8.toInt32)), .unset, .unset, .unset, .unset] [(.int (fil.toInt8.toInt32)), (.int (13 : Int32)), (.ref b76), (.ref b76)]))
      obtain ⟨cl105, Ar105, S105, H105⟩ := id V104'
      have hj105 : ¬ (13 : Int32) < 0 ∧ ((13 : Int32)).toNatClampNeg = 13 := (by decide)
      obtain ⟨T106, h106, X106, e106, W106, st106⟩ := stB X104 hx hZ e104 Ar105 (j := (13 : Int32)) (own_in S105 hj105 (by decide)) (g := (mkF m 125 #[.val (.int vv), .val (.int sel), .val (.int fil), .val (.int kk), .val (.int (((sel.toUInt32 >>> ((2 : Int32) &&& 31).toUInt32).toInt32) &&& (3 : Int32))), .val (.int (2 : Int32)), .val (.int st), .val (.int (fil.toInt8.toInt32)), .unset, .unset, .unset, .unset] [(.int (fil.toInt8.toInt32)), (.int (13 : Int32)), (.ref b76), (.ref b76)])) rfl rfl (hb hby at_125)
      have V106 : OwnArf Z h106 b76 .byte 24 (own_upd (own_fl 13 (nar .byte (fil.toInt8.toInt32))) 13 (nar .byte (fil.toInt8.toInt32))) := OwnArf.set Ar105 S105 H105 W106 hj105.2
      have V106' : OwnArf Z h106 b76 .byte 24 (own_fl 14 (nar .byte (fil.toInt8.toInt32))) := V106.congr (own_fl_up 13 _)
      have N106 := Fr.snoc X106 N104 g77
      have Z106 : n0 ≤ h106.size := Nat.le_trans Z104 (Keep.of_wr W106).1
      have K106 : Keep h0 h106 [] := K104.wr W106 (Or.inr z78)
      refine own_on st106 ?_
      show OwnGo p e below s _ _ _ (T106.setTop (mkF m 126 #[.val (.int vv), .val (.int sel), .val (.int fil), .val (.int kk), .val (.int (((sel.toUInt32 >>> ((2 : Int32) &&& 31).toUInt32).toInt32) &&& (3 : Int32))), .val (.int (2 : Int32)), .val (.int st), .val (.int (fil.toInt8.toInt32)), .unset, .unset, .unset, .unset] [(.ref b76)]))
      refine own_on (fun t k => XS.dup X106.here hx rfl (hb hby at_126) rfl rfl k) ?_
      show OwnGo p e below s _ _ _ (T106.setTop (mkF m 127 #[.val (.int vv), .val (.int sel), .val (.int fil), .val (.int kk), .val (.int (((sel.toUInt32 >>> ((2 : Int32) &&& 31).toUInt32).toInt32) &&& (3 : Int32))), .val (.int (2 : Int32)), .val (.int st), .val (.int (fil.toInt8.toInt32)), .unset, .unset, .unset, .unset] [(.ref b76), (.ref b76)]))
      refine own_on (fun t k => XS.bipush X106.here hx rfl (hb hby at_127) k) ?_
      show OwnGo p e below s _ _ _ (T106.setTop (mkF m 129 #[.val (.int vv), .val (.int sel), .val (.int fil), .val (.int kk), .val (.int (((sel.toUInt32 >>> ((2 : Int32) &&& 31).toUInt32).toInt32) &&& (3 : Int32))), .val (.int (2 : Int32)), .val (.int st), .val (.int (fil.toInt8.toInt32)), .unset, .unset, .unset, .unset] [(.int (14 : Int32)), (.ref b76), (.ref b76)]))
      refine own_on (fun t k => XS.iload X106.here hx rfl (hb hby at_129) rfl k) ?_
      show OwnGo p e below s _ _ _ (T106.setTop (mkF m 131 #[.val (.int vv), .val (.int sel), .val (.int fil), .val (.int kk), .val (.int (((sel.toUInt32 >>> ((2 : Int32) &&& 31).toUInt32).toInt32) &&& (3 : Int32))), .val (.int (2 : Int32)), .val (.int st), .val (.int (fil.toInt8.toInt32)), .unset, .unset, .unset, .unset] [(.int (fil.toInt8.toInt32)), (.int (14 : Int32)), (.ref b76), (.ref b76)]))
      obtain ⟨cl107, Ar107, S107, H107⟩ := id V106'
      have hj107 : ¬ (14 : Int32) < 0 ∧ ((14 : Int32)).toNatClampNeg = 14 := (by decide)
      obtain ⟨T108, h108, X108, e108, W108, st108⟩ := stB X106 hx hZ e106 Ar107 (j := (14 : Int32)) (own_in S107 hj107 (by decide)) (g := (mkF m 131 #[.val (.int vv), .val (.int sel), .val (.int fil), .val (.int kk), .val (.int (((sel.toUInt32 >>> ((2 : Int32) &&& 31).toUInt32).toInt32) &&& (3 : Int32))), .val (.int (2 : Int32)), .val (.int st), .val (.int (fil.toInt8.toInt32)), .unset, .unset, .unset, .unset] [(.int (fil.toInt8.toInt32)), (.int (14 : Int32)), (.ref b76), (.ref b76)])) rfl rfl (hb hby at_131)
      have V108 : OwnArf Z h108 b76 .byte 24 (own_upd (own_fl 14 (nar .byte (fil.toInt8.toInt32))) 14 (nar .byte (fil.toInt8.toInt32))) := OwnArf.set Ar107 S107 H107 W108 hj107.2
      have V108' : OwnArf Z h108 b76 .byte 24 (own_fl 15 (nar .byte (fil.toInt8.toInt32))) := V108.congr (own_fl_up 14 _)
      have N108 := Fr.snoc X108 N106 g77
      have Z108 : n0 ≤ h108.size := Nat.le_trans Z106 (Keep.of_wr W108).1
      have K108 : Keep h0 h108 [] := K106.wr W108 (Or.inr z78)
      refine own_on st108 ?_
      show OwnGo p e below s _ _ _ (T108.setTop (mkF m 132 #[.val (.int vv), .val (.int sel), .val (.int fil), .val (.int kk), .val (.int (((sel.toUInt32 >>> ((2 : Int32) &&& 31).toUInt32).toInt32) &&& (3 : Int32))), .val (.int (2 : Int32)), .val (.int st), .val (.int (fil.toInt8.toInt32)), .unset, .unset, .unset, .unset] [(.ref b76)]))
      refine own_on (fun t k => XS.dup X108.here hx rfl (hb hby at_132) rfl rfl k) ?_
      show OwnGo p e below s _ _ _ (T108.setTop (mkF m 133 #[.val (.int vv), .val (.int sel), .val (.int fil), .val (.int kk), .val (.int (((sel.toUInt32 >>> ((2 : Int32) &&& 31).toUInt32).toInt32) &&& (3 : Int32))), .val (.int (2 : Int32)), .val (.int st), .val (.int (fil.toInt8.toInt32)), .unset, .unset, .unset, .unset] [(.ref b76), (.ref b76)]))
      refine own_on (fun t k => XS.bipush X108.here hx rfl (hb hby at_133) k) ?_
      show OwnGo p e below s _ _ _ (T108.setTop (mkF m 135 #[.val (.int vv), .val (.int sel), .val (.int fil), .val (.int kk), .val (.int (((sel.toUInt32 >>> ((2 : Int32) &&& 31).toUInt32).toInt32) &&& (3 : Int32))), .val (.int (2 : Int32)), .val (.int st), .val (.int (fil.toInt8.toInt32)), .unset, .unset, .unset, .unset] [(.int (15 : Int32)), (.ref b76), (.ref b76)]))
      refine own_on (fun t k => XS.iload X108.here hx rfl (hb hby at_135) rfl k) ?_
      show OwnGo p e below s _ _ _ (T108.setTop (mkF m 137 #[.val (.int vv), .val (.int sel), .val (.int fil), .val (.int kk), .val (.int (((sel.toUInt32 >>> ((2 : Int32) &&& 31).toUInt32).toInt32) &&& (3 : Int32))), .val (.int (2 : Int32)), .val (.int st), .val (.int (fil.toInt8.toInt32)), .unset, .unset, .unset, .unset] [(.int (fil.toInt8.toInt32)), (.int (15 : Int32)), (.ref b76), (.ref b76)]))
      obtain ⟨cl109, Ar109, S109, H109⟩ := id V108'
      have hj109 : ¬ (15 : Int32) < 0 ∧ ((15 : Int32)).toNatClampNeg = 15 := (by decide)
      obtain ⟨T110, h110, X110, e110, W110, st110⟩ := stB X108 hx hZ e108 Ar109 (j := (15 : Int32)) (own_in S109 hj109 (by decide)) (g := (mkF m 137 #[.val (.int vv), .val (.int sel), .val (.int fil), .val (.int kk), .val (.int (((sel.toUInt32 >>> ((2 : Int32) &&& 31).toUInt32).toInt32) &&& (3 : Int32))), .val (.int (2 : Int32)), .val (.int st), .val (.int (fil.toInt8.toInt32)), .unset, .unset, .unset, .unset] [(.int (fil.toInt8.toInt32)), (.int (15 : Int32)), (.ref b76), (.ref b76)])) rfl rfl (hb hby at_137)
      have V110 : OwnArf Z h110 b76 .byte 24 (own_upd (own_fl 15 (nar .byte (fil.toInt8.toInt32))) 15 (nar .byte (fil.toInt8.toInt32))) := OwnArf.set Ar109 S109 H109 W110 hj109.2
      have V110' : OwnArf Z h110 b76 .byte 24 (own_fl 16 (nar .byte (fil.toInt8.toInt32))) := V110.congr (own_fl_up 15 _)
      have N110 := Fr.snoc X110 N108 g77
      have Z110 : n0 ≤ h110.size := Nat.le_trans Z108 (Keep.of_wr W110).1
      have K110 : Keep h0 h110 [] := K108.wr W110 (Or.inr z78)
      refine own_on st110 ?_
      show OwnGo p e below s _ _ _ (T110.setTop (mkF m 138 #[.val (.int vv), .val (.int sel), .val (.int fil), .val (.int kk), .val (.int (((sel.toUInt32 >>> ((2 : Int32) &&& 31).toUInt32).toInt32) &&& (3 : Int32))), .val (.int (2 : Int32)), .val (.int st), .val (.int (fil.toInt8.toInt32)), .unset, .unset, .unset, .unset] [(.ref b76)]))
      refine own_on (fun t k => XS.dup X110.here hx rfl (hb hby at_138) rfl rfl k) ?_
      show OwnGo p e below s _ _ _ (T110.setTop (mkF m 139 #[.val (.int vv), .val (.int sel), .val (.int fil), .val (.int kk), .val (.int (((sel.toUInt32 >>> ((2 : Int32) &&& 31).toUInt32).toInt32) &&& (3 : Int32))), .val (.int (2 : Int32)), .val (.int st), .val (.int (fil.toInt8.toInt32)), .unset, .unset, .unset, .unset] [(.ref b76), (.ref b76)]))
      refine own_on (fun t k => XS.bipush X110.here hx rfl (hb hby at_139) k) ?_
      show OwnGo p e below s _ _ _ (T110.setTop (mkF m 141 #[.val (.int vv), .val (.int sel), .val (.int fil), .val (.int kk), .val (.int (((sel.toUInt32 >>> ((2 : Int32) &&& 31).toUInt32).toInt32) &&& (3 : Int32))), .val (.int (2 : Int32)), .val (.int st), .val (.int (fil.toInt8.toInt32)), .unset, .unset, .unset, .unset] [(.int (16 : Int32)), (.ref b76), (.ref b76)]))
      refine own_on (fun t k => XS.iload X110.here hx rfl (hb hby at_141) rfl k) ?_
      show OwnGo p e below s _ _ _ (T110.setTop (mkF m 143 #[.val (.int vv), .val (.int sel), .val (.int fil), .val (.int kk), .val (.int (((sel.toUInt32 >>> ((2 : Int32) &&& 31).toUInt32).toInt32) &&& (3 : Int32))), .val (.int (2 : Int32)), .val (.int st), .val (.int (fil.toInt8.toInt32)), .unset, .unset, .unset, .unset] [(.int (fil.toInt8.toInt32)), (.int (16 : Int32)), (.ref b76), (.ref b76)]))
      obtain ⟨cl111, Ar111, S111, H111⟩ := id V110'
      have hj111 : ¬ (16 : Int32) < 0 ∧ ((16 : Int32)).toNatClampNeg = 16 := (by decide)
      obtain ⟨T112, h112, X112, e112, W112, st112⟩ := stB X110 hx hZ e110 Ar111 (j := (16 : Int32)) (own_in S111 hj111 (by decide)) (g := (mkF m 143 #[.val (.int vv), .val (.int sel), .val (.int fil), .val (.int kk), .val (.int (((sel.toUInt32 >>> ((2 : Int32) &&& 31).toUInt32).toInt32) &&& (3 : Int32))), .val (.int (2 : Int32)), .val (.int st), .val (.int (fil.toInt8.toInt32)), .unset, .unset, .unset, .unset] [(.int (fil.toInt8.toInt32)), (.int (16 : Int32)), (.ref b76), (.ref b76)])) rfl rfl (hb hby at_143)
      have V112 : OwnArf Z h112 b76 .byte 24 (own_upd (own_fl 16 (nar .byte (fil.toInt8.toInt32))) 16 (nar .byte (fil.toInt8.toInt32))) := OwnArf.set Ar111 S111 H111 W112 hj111.2
      have V112' : OwnArf Z h112 b76 .byte 24 (own_fl 17 (nar .byte (fil.toInt8.toInt32))) := V112.congr (own_fl_up 16 _)
      have N112 := Fr.snoc X112 N110 g77
      have Z112 : n0 ≤ h112.size := Nat.le_trans Z110 (Keep.of_wr W112).1
      have K112 : Keep h0 h112 [] := K110.wr W112 (Or.inr z78)
      refine own_on st112 ?_
      show OwnGo p e below s _ _ _ (T112.setTop (mkF m 144 #[.val (.int vv), .val (.int sel), .val (.int fil), .val (.int kk), .val (.int (((sel.toUInt32 >>> ((2 : Int32) &&& 31).toUInt32).toInt32) &&& (3 : Int32))), .val (.int (2 : Int32)), .val (.int st), .val (.int (fil.toInt8.toInt32)), .unset, .unset, .unset, .unset] [(.ref b76)]))
      refine own_on (fun t k => XS.dup X112.here hx rfl (hb hby at_144) rfl rfl k) ?_
      show OwnGo p e below s _ _ _ (T112.setTop (mkF m 145 #[.val (.int vv), .val (.int sel), .val (.int fil), .val (.int kk), .val (.int (((sel.toUInt32 >>> ((2 : Int32) &&& 31).toUInt32).toInt32) &&& (3 : Int32))), .val (.int (2 : Int32)), .val (.int st), .val (.int (fil.toInt8.toInt32)), .unset, .unset, .unset, .unset] [(.ref b76), (.ref b76)]))
      refine own_on (fun t k => XS.bipush X112.here hx rfl (hb hby at_145) k) ?_
      show OwnGo p e below s _ _ _ (T112.setTop (mkF m 147 #[.val (.int vv), .val (.int sel), .val (.int fil), .val (.int kk), .val (.int (((sel.toUInt32 >>> ((2 : Int32) &&& 31).toUInt32).toInt32) &&& (3 : Int32))), .val (.int (2 : Int32)), .val (.int st), .val (.int (fil.toInt8.toInt32)), .unset, .unset, .unset, .unset] [(.int (17 : Int32)), (.ref b76), (.ref b76)]))
      refine own_on (fun t k => XS.iload X112.here hx rfl (hb hby at_147) rfl k) ?_
      show OwnGo p e below s _ _ _ (T112.setTop (mkF m 149 #[.val (.int vv), .val (.int sel), .val (.int fil), .val (.int kk), .val (.int (((sel.toUInt32 >>> ((2 : Int32) &&& 31).toUInt32).toInt32) &&& (3 : Int32))), .val (.int (2 : Int32)), .val (.int st), .val (.int (fil.toInt8.toInt32)), .unset, .unset, .unset, .unset] [(.int (fil.toInt8.toInt32)), (.int (17 : Int32)), (.ref b76), (.ref b76)]))
      obtain ⟨cl113, Ar113, S113, H113⟩ := id V112'
      have hj113 : ¬ (17 : Int32) < 0 ∧ ((17 : Int32)).toNatClampNeg = 17 := (by decide)
      obtain ⟨T114, h114, X114, e114, W114, st114⟩ := stB X112 hx hZ e112 Ar113 (j := (17 : Int32)) (own_in S113 hj113 (by decide)) (g := (mkF m 149 #[.val (.int vv), .val (.int sel), .val (.int fil), .val (.int kk), .val (.int (((sel.toUInt32 >>> ((2 : Int32) &&& 31).toUInt32).toInt32) &&& (3 : Int32))), .val (.int (2 : Int32)), .val (.int st), .val (.int (fil.toInt8.toInt32)), .unset, .unset, .unset, .unset] [(.int (fil.toInt8.toInt32)), (.int (17 : Int32)), (.ref b76), (.ref b76)])) rfl rfl (hb hby at_149)
      have V114 : OwnArf Z h114 b76 .byte 24 (own_upd (own_fl 17 (nar .byte (fil.toInt8.toInt32))) 17 (nar .byte (fil.toInt8.toInt32))) := OwnArf.set Ar113 S113 H113 W114 hj113.2
      have V114' : OwnArf Z h114 b76 .byte 24 (own_fl 18 (nar .byte (fil.toInt8.toInt32))) := V114.congr (own_fl_up 17 _)
      have N114 := Fr.snoc X114 N112 g77
      have Z114 : n0 ≤ h114.size := Nat.le_trans Z112 (Keep.of_wr W114).1
      have K114 : Keep h0 h114 [] := K112.wr W114 (Or.inr z78)
      refine own_on st114 ?_
      show OwnGo p e below s _ _ _ (T114.setTop (mkF m 150 #[.val (.int vv), .val (.int sel), .val (.int fil), .val (.int kk), .val (.int (((sel.toUInt32 >>> ((2 : Int32) &&& 31).toUInt32).toInt32) &&& (3 : Int32))), .val (.int (2 : Int32)), .val (.int st), .val (.int (fil.toInt8.toInt32)), .unset, .unset, .unset, .unset] [(.ref b76)]))
      refine own_on (fun t k => XS.dup X114.here hx rfl (hb hby at_150) rfl rfl k) ?_
      show OwnGo p e below s _ _ _ (T114.setTop (mkF m 151 #[.val (.int vv), .val (.int sel), .val (.int fil), .val (.int kk), .val (.int (((sel.toUInt32 >>> ((2 : Int32) &&& 31).toUInt32).toInt32) &&& (3 : Int32))), .val (.int (2 : Int32)), .val (.int st), .val (.int (fil.toInt8.toInt32)), .unset, .unset, .unset, .unset] [(.ref b76), (.ref b76)]))
      refine own_on (fun t k => XS.bipush X114.here hx rfl (hb hby at_151) k) ?_
      show OwnGo p e below s _ _ _ (T114.setTop (mkF m 153 #[.val (.int vv), .val (.int sel), .val (.int fil), .val (.int kk), .val (.int (((sel.toUInt32 >>> ((2 : Int32) &&& 31).toUInt32).toInt32) &&& (3 : Int32))), .val (.int (2 : Int32)), .val (.int st), .val (.int (fil.toInt8.toInt32)), .unset, .unset, .unset, .unset] [(.int (18 : Int32)), (.ref b76), (.ref b76)]))
      refine own_on (fun t k => XS.iload X114.here hx rfl (hb hby at_153) rfl k) ?_
      show OwnGo p e below s _ _ _ (T114.setTop (mkF m 155 #[.val (.int vv), .val (.int sel), .val (.int fil), .val (.int kk), .val (.int (((sel.toUInt32 >>> ((2 : Int32) &&& 31).toUInt32).toInt32) &&& (3 : Int32))), .val (.int (2 : Int32)), .val (.int st), .val (.int (fil.toInt8.toInt32)), .unset, .unset, .unset, .unset] [(.int (fil.toInt8.toInt32)), (.int (18 : Int32)), (.ref b76), (.ref b76)]))
      obtain ⟨cl115, Ar115, S115, H115⟩ := id V114'
      have hj115 : ¬ (18 : Int32) < 0 ∧ ((18 : Int32)).toNatClampNeg = 18 := (by decide)
      obtain ⟨T116, h116, X116, e116, W116, st116⟩ := stB X114 hx hZ e114 Ar115 (j := (18 : Int32)) (own_in S115 hj115 (by decide)) (g := (mkF m 155 #[.val (.int vv), .val (.int sel), .val (.int fil), .val (.int kk), .val (.int (((sel.toUInt32 >>> ((2 : Int32) &&& 31).toUInt32).toInt32) &&& (3 : Int32))), .val (.int (2 : Int32)), .val (.int st), .val (.int (fil.toInt8.toInt32)), .unset, .unset, .unset, .unset] [(.int (fil.toInt8.toInt32)), (.int (18 : Int32)), (.ref b76), (.ref b76)])) rfl rfl (hb hby at_155)
      have V116 : OwnArf Z h116 b76 .byte 24 (own_upd (own_fl 18 (nar .byte (fil.toInt8.toInt32))) 18 (nar .byte (fil.toInt8.toInt32))) := OwnArf.set Ar115 S115 H115 W116 hj115.2
      have V116' : OwnArf Z h116 b76 .byte 24 (own_fl 19 (nar .byte (fil.toInt8.toInt32))) := V116.congr (own_fl_up 18 _)
      have N116 := Fr.snoc X116 N114 g77
      have Z116 : n0 ≤ h116.size := Nat.le_trans Z114 (Keep.of_wr W116).1
      have K116 : Keep h0 h116 [] := K114.wr W116 (Or.inr z78)
      refine own_on st116 ?_
      show OwnGo p e below s _ _ _ (T116.setTop (mkF m 156 #[.val (.int vv), .val (.int sel), .val (.int fil), .val (.int kk), .val (.int (((sel.toUInt32 >>> ((2 : Int32) &&& 31).toUInt32).toInt32) &&& (3 : Int32))), .val (.int (2 : Int32)), .val (.int st), .val (.int (fil.toInt8.toInt32)), .unset, .unset, .unset, .unset] [(.ref b76)]))
      refine own_on (fun t k => XS.dup X116.here hx rfl (hb hby at_156) rfl rfl k) ?_
      show OwnGo p e below s _ _ _ (T116.setTop (mkF m 157 #[.val (.int vv), .val (.int sel), .val (.int fil), .val (.int kk), .val (.int (((sel.toUInt32 >>> ((2 : Int32) &&& 31).toUInt32).toInt32) &&& (3 : Int32))), .val (.int (2 : Int32)), .val (.int st), .val (.int (fil.toInt8.toInt32)), .unset, .unset, .unset, .unset] [(.ref b76), (.ref b76)]))
      refine own_on (fun t k => XS.bipush X116.here hx rfl (hb hby at_157) k) ?_
      show OwnGo p e below s _ _ _ (T116.setTop (mkF m 159 #[.val (.int vv), .val (.int sel), .val (.int fil), .val (.int kk), .val (.int (((sel.toUInt32 >>> ((2 : Int32) &&& 31).toUInt32).toInt32) &&& (3 : Int32))), .val (.int (2 : Int32)), .val (.int st), .val (.int (fil.toInt8.toInt32)), .unset, .unset, .unset, .unset] [(.int (19 : Int32)), (.ref b76), (.ref b76)]))
      refine own_on (fun t k => XS.iload X116.here hx rfl (hb hby at_159) rfl k) ?_
      show OwnGo p e below s _ _ _ (T116.setTop (mkF m 161 #[.val (.int vv), .val (.int sel), .val (.int fil), .val (.int kk), .val (.int (((sel.toUInt32 >>> ((2 : Int32) &&& 31).toUInt32).toInt32) &&& (3 : Int32))), .val (.int (2 : Int32)), .val (.int st), .val (.int (fil.toInt8.toInt32)), .unset, .unset, .unset, .unset] [(.int (fil.toInt8.toInt32)), (.int (19 : Int32)), (.ref b76), (.ref b76)]))
      obtain ⟨cl117, Ar117, S117, H117⟩ := id V116'
      have hj117 : ¬ (19 : Int32) < 0 ∧ ((19 : Int32)).toNatClampNeg = 19 := (by decide)
      obtain ⟨T118, h118, X118, e118, W118, st118⟩ := stB X116 hx hZ e116 Ar117 (j := (19 : Int32)) (own_in S117 hj117 (by decide)) (g := (mkF m 161 #[.val (.int vv), .val (.int sel), .val (.int fil), .val (.int kk), .val (.int (((sel.toUInt32 >>> ((2 : Int32) &&& 31).toUInt32).toInt32) &&& (3 : Int32))), .val (.int (2 : Int32)), .val (.int st), .val (.int (fil.toInt8.toInt32)), .unset, .unset, .unset, .unset] [(.int (fil.toInt8.toInt32)), (.int (19 : Int32)), (.ref b76), (.ref b76)])) rfl rfl (hb hby at_161)
      have V118 : OwnArf Z h118 b76 .byte 24 (own_upd (own_fl 19 (nar .byte (fil.toInt8.toInt32))) 19 (nar .byte (fil.toInt8.toInt32))) := OwnArf.set Ar117 S117 H117 W118 hj117.2
      have V118' : OwnArf Z h118 b76 .byte 24 (own_fl 20 (nar .byte (fil.toInt8.toInt32))) := V118.congr (own_fl_up 19 _)
      have N118 := Fr.snoc X118 N116 g77
      have Z118 : n0 ≤ h118.size := Nat.le_trans Z116 (Keep.of_wr W118).1
      have K118 : Keep h0 h118 [] := K116.wr W118 (Or.inr z78)
      refine own_on st118 ?_
      show OwnGo p e below s _ _ _ (T118.setTop (mkF m 162 #[.val (.int vv), .val (.int sel), .val (.int fil), .val (.int kk), .val (.int (((sel.toUInt32 >>> ((2 : Int32) &&& 31).toUInt32).toInt32) &&& (3 : Int32))), .val (.int (2 : Int32)), .val (.int st), .val (.int (fil.toInt8.toInt32)), .unset, .unset, .unset, .unset] [(.ref b76)]))
      refine own_on (fun t k => XS.dup X118.here hx rfl (hb hby at_162) rfl rfl k) ?_
      show OwnGo p e below s _ _ _ (T118.setTop (mkF m 163 #[.val (.int vv), .val (.int sel), .val (.int fil), .val (.int kk), .val (.int (((sel.toUInt32 >>> ((2 : Int32) &&& 31).toUInt32).toInt32) &&& (3 : Int32))), .val (.int (2 : Int32)), .val (.int st), .val (.int (fil.toInt8.toInt32)), .unset, .unset, .unset, .unset] [(.ref b76), (.ref b76)]))
      refine own_on (fun t k => XS.bipush X118.here hx rfl (hb hby at_163) k) ?_
      show OwnGo p e below s _ _ _ (T118.setTop (mkF m 165 #[.val (.int vv), .val (.int sel), .val (.int fil), .val (.int kk), .val (.int (((sel.toUInt32 >>> ((2 : Int32) &&& 31).toUInt32).toInt32) &&& (3 : Int32))), .val (.int (2 : Int32)), .val (.int st), .val (.int (fil.toInt8.toInt32)), .unset, .unset, .unset, .unset] [(.int (20 : Int32)), (.ref b76), (.ref b76)]))
      refine own_on (fun t k => XS.iload X118.here hx rfl (hb hby at_165) rfl k) ?_
      show OwnGo p e below s _ _ _ (T118.setTop (mkF m 167 #[.val (.int vv), .val (.int sel), .val (.int fil), .val (.int kk), .val (.int (((sel.toUInt32 >>> ((2 : Int32) &&& 31).toUInt32).toInt32) &&& (3 : Int32))), .val (.int (2 : Int32)), .val (.int st), .val (.int (fil.toInt8.toInt32)), .unset, .unset, .unset, .unset] [(.int (fil.toInt8.toInt32)), (.int (20 : Int32)), (.ref b76), (.ref b76)]))
      obtain ⟨cl119, Ar119, S119, H119⟩ := id V118'
      have hj119 : ¬ (20 : Int32) < 0 ∧ ((20 : Int32)).toNatClampNeg = 20 := (by decide)
      obtain ⟨T120, h120, X120, e120, W120, st120⟩ := stB X118 hx hZ e118 Ar119 (j := (20 : Int32)) (own_in S119 hj119 (by decide)) (g := (mkF m 167 #[.val (.int vv), .val (.int sel), .val (.int fil), .val (.int kk), .val (.int (((sel.toUInt32 >>> ((2 : Int32) &&& 31).toUInt32).toInt32) &&& (3 : Int32))), .val (.int (2 : Int32)), .val (.int st), .val (.int (fil.toInt8.toInt32)), .unset, .unset, .unset, .unset] [(.int (fil.toInt8.toInt32)), (.int (20 : Int32)), (.ref b76), (.ref b76)])) rfl rfl (hb hby at_167)
      have V120 : OwnArf Z h120 b76 .byte 24 (own_upd (own_fl 20 (nar .byte (fil.toInt8.toInt32))) 20 (nar .byte (fil.toInt8.toInt32))) := OwnArf.set Ar119 S119 H119 W120 hj119.2
      have V120' : OwnArf Z h120 b76 .byte 24 (own_fl 21 (nar .byte (fil.toInt8.toInt32))) := V120.congr (own_fl_up 20 _)
      have N120 := Fr.snoc X120 N118 g77
      have Z120 : n0 ≤ h120.size := Nat.le_trans Z118 (Keep.of_wr W120).1
      have K120 : Keep h0 h120 [] := K118.wr W120 (Or.inr z78)
      refine own_on st120 ?_
      show OwnGo p e below s _ _ _ (T120.setTop (mkF m 168 #[.val (.int vv), .val (.int sel), .val (.int fil), .val (.int kk), .val (.int (((sel.toUInt32 >>> ((2 : Int32) &&& 31).toUInt32).toInt32) &&& (3 : Int32))), .val (.int (2 : Int32)), .val (.int st), .val (.int (fil.toInt8.toInt32)), .unset, .unset, .unset, .unset] [(.ref b76)]))
      refine own_on (fun t k => XS.dup X120.here hx rfl (hb hby at_168) rfl rfl k) ?_
      show OwnGo p e below s _ _ _ (T120.setTop (mkF m 169 #[.val (.int vv), .val (.int sel), .val (.int fil), .val (.int kk), .val (.int (((sel.toUInt32 >>> ((2 : Int32) &&& 31).toUInt32).toInt32) &&& (3 : Int32))), .val (.int (2 : Int32)), .val (.int st), .val (.int (fil.toInt8.toInt32)), .unset, .unset, .unset, .unset] [(.ref b76), (.ref b76)]))
      refine own_on (fun t k => XS.bipush X120.here hx rfl (hb hby at_169) k) ?_
      show OwnGo p e below s _ _ _ (T120.setTop (mkF m 171 #[.val (.int vv), .val (.int sel), .val (.int fil), .val (.int kk), .val (.int (((sel.toUInt32 >>> ((2 : Int32) &&& 31).toUInt32).toInt32) &&& (3 : Int32))), .val (.int (2 : Int32)), .val (.int st), .val (.int (fil.toInt8.toInt32)), .unset, .unset, .unset, .unset] [(.int (21 : Int32)), (.ref b76), (.ref b76)]))
      refine own_on (fun t k => XS.iload X120.here hx rfl (hb hby at_171) rfl k) ?_
      show OwnGo p e below s _ _ _ (T120.setTop (mkF m 173 #[.val (.int vv), .val (.int sel), .val (.int fil), .val (.int kk), .val (.int (((sel.toUInt32 >>> ((2 : Int32) &&& 31).toUInt32).toInt32) &&& (3 : Int32))), .val (.int (2 : Int32)), .val (.int st), .val (.int (fil.toInt8.toInt32)), .unset, .unset, .unset, .unset] [(.int (fil.toInt8.toInt32)), (.int (21 : Int32)), (.ref b76), (.ref b76)]))
      obtain ⟨cl121, Ar121, S121, H121⟩ := id V120'
      have hj121 : ¬ (21 : Int32) < 0 ∧ ((21 : Int32)).toNatClampNeg = 21 := (by decide)
      obtain ⟨T122, h122, X122, e122, W122, st122⟩ := stB X120 hx hZ e120 Ar121 (j := (21 : Int32)) (own_in S121 hj121 (by decide)) (g := (mkF m 173 #[.val (.int vv), .val (.int sel), .val (.int fil), .val (.int kk), .val (.int (((sel.toUInt32 >>> ((2 : Int32) &&& 31).toUInt32).toInt32) &&& (3 : Int32))), .val (.int (2 : Int32)), .val (.int st), .val (.int (fil.toInt8.toInt32)), .unset, .unset, .unset, .unset] [(.int (fil.toInt8.toInt32)), (.int (21 : Int32)), (.ref b76), (.ref b76)])) rfl rfl (hb hby at_173)
      have V122 : OwnArf Z h122 b76 .byte 24 (own_upd (own_fl 21 (nar .byte (fil.toInt8.toInt32))) 21 (nar .byte (fil.toInt8.toInt32))) := OwnArf.set Ar121 S121 H121 W122 hj121.2
      have V122' : OwnArf Z h122 b76 .byte 24 (own_fl 22 (nar .byte (fil.toInt8.toInt32))) := V122.congr (own_fl_up 21 _)
      have N122 := Fr.snoc X122 N120 g77
      have Z122 : n0 ≤ h122.size := Nat.le_trans Z120 (Keep.of_wr W122).1
      have K122 : Keep h0 h122 [] := K120.wr W122 (Or.inr z78)
      refine own_on st122 ?_
      show OwnGo p e below s _ _ _ (T122.setTop (mkF m 174 #[.val (.int vv), .val (.int sel), .val (.int fil), .val (.int kk), .val (.int (((sel.toUInt32 >>> ((2 : Int32) &&& 31).toUInt32).toInt32) &&& (3 : Int32))), .val (.int (2 : Int32)), .val (.int st), .val (.int (fil.toInt8.toInt32)), .unset, .unset, .unset, .unset] [(.ref b76)]))
      refine own_on (fun t k => XS.dup X122.here hx rfl (hb hby at_174) rfl rfl k) ?_
      show OwnGo p e below s _ _ _ (T122.setTop (mkF m 175 #[.val (.int vv), .val (.int sel), .val (.int fil), .val (.int kk), .val (.int (((sel.toUInt32 >>> ((2 : Int32) &&& 31).toUInt32).toInt32) &&& (3 : Int32))), .val (.int (2 : Int32)), .val (.int st), .val (.int (fil.toInt8.toInt32)), .unset, .unset, .unset, .unset] [(.ref b76), (.ref b76)]))
      refine own_on (fun t k => XS.bipush X122.here hx rfl (hb hby at_175) k) ?_
      show OwnGo p e below s _ _ _ (T122.setTop (mkF m 177 #[.val (.int vv), .val (.int sel), .val (.int fil), .val (.int kk), .val (.int (((sel.toUInt32 >>> ((2 : Int32) &&& 31).toUInt32).toInt32) &&& (3 : Int32))), .val (.int (2 : Int32)), .val (.int st), .val (.int (fil.toInt8.toInt32)), .unset, .unset, .unset, .unset] [(.int (22 : Int32)), (.ref b76), (.ref b76)]))
      refine own_on (fun t k => XS.iload X122.here hx rfl (hb hby at_177) rfl k) ?_
      show OwnGo p e below s _ _ _ (T122.setTop (mkF m 179 #[.val (.int vv), .val (.int sel), .val (.int fil), .val (.int kk), .val (.int (((sel.toUInt32 >>> ((2 : Int32) &&& 31).toUInt32).toInt32) &&& (3 : Int32))), .val (.int (2 : Int32)), .val (.int st), .val (.int (fil.toInt8.toInt32)), .unset, .unset, .unset, .unset] [(.int (fil.toInt8.toInt32)), (.int (22 : Int32)), (.ref b76), (.ref b76)]))
      obtain ⟨cl123, Ar123, S123, H123⟩ := id V122'
      have hj123 : ¬ (22 : Int32) < 0 ∧ ((22 : Int32)).toNatClampNeg = 22 := (by decide)
      obtain ⟨T124, h124, X124, e124, W124, st124⟩ := stB X122 hx hZ e122 Ar123 (j := (22 : Int32)) (own_in S123 hj123 (by decide)) (g := (mkF m 179 #[.val (.int vv), .val (.int sel), .val (.int fil), .val (.int kk), .val (.int (((sel.toUInt32 >>> ((2 : Int32) &&& 31).toUInt32).toInt32) &&& (3 : Int32))), .val (.int (2 : Int32)), .val (.int st), .val (.int (fil.toInt8.toInt32)), .unset, .unset, .unset, .unset] [(.int (fil.toInt8.toInt32)), (.int (22 : Int32)), (.ref b76), (.ref b76)])) rfl rfl (hb hby at_179)
      have V124 : OwnArf Z h124 b76 .byte 24 (own_upd (own_fl 22 (nar .byte (fil.toInt8.toInt32))) 22 (nar .byte (fil.toInt8.toInt32))) := OwnArf.set Ar123 S123 H123 W124 hj123.2
      have V124' : OwnArf Z h124 b76 .byte 24 (own_fl 23 (nar .byte (fil.toInt8.toInt32))) := V124.congr (own_fl_up 22 _)
      have N124 := Fr.snoc X124 N122 g77
      have Z124 : n0 ≤ h124.size := Nat.le_trans Z122 (Keep.of_wr W124).1
      have K124 : Keep h0 h124 [] := K122.wr W124 (Or.inr z78)
      refine own_on st124 ?_
      show OwnGo p e below s _ _ _ (T124.setTop (mkF m 180 #[.val (.int vv), .val (.int sel), .val (.int fil), .val (.int kk), .val (.int (((sel.toUInt32 >>> ((2 : Int32) &&& 31).toUInt32).toInt32) &&& (3 : Int32))), .val (.int (2 : Int32)), .val (.int st), .val (.int (fil.toInt8.toInt32)), .unset, .unset, .unset, .unset] [(.ref b76)]))
      refine own_on (fun t k => XS.dup X124.here hx rfl (hb hby at_180) rfl rfl k) ?_
      show OwnGo p e below s _ _ _ (T124.setTop (mkF m 181 #[.val (.int vv), .val (.int sel), .val (.int fil), .val (.int kk), .val (.int (((sel.toUInt32 >>> ((2 : Int32) &&& 31).toUInt32).toInt32) &&& (3 : Int32))), .val (.int (2 : Int32)), .val (.int st), .val (.int (fil.toInt8.toInt32)), .unset, .unset, .unset, .unset] [(.ref b76), (.ref b76)]))
      refine own_on (fun t k => XS.bipush X124.here hx rfl (hb hby at_181) k) ?_
      show OwnGo p e below s _ _ _ (T124.setTop (mkF m 183 #[.val (.int vv), .val (.int sel), .val (.int fil), .val (.int kk), .val (.int (((sel.toUInt32 >>> ((2 : Int32) &&& 31).toUInt32).toInt32) &&& (3 : Int32))), .val (.int (2 : Int32)), .val (.int st), .val (.int (fil.toInt8.toInt32)), .unset, .unset, .unset, .unset] [(.int (23 : Int32)), (.ref b76), (.ref b76)]))
      refine own_on (fun t k => XS.iload X124.here hx rfl (hb hby at_183) rfl k) ?_
      show OwnGo p e below s _ _ _ (T124.setTop (mkF m 185 #[.val (.int vv), .val (.int sel), .val (.int fil), .val (.int kk), .val (.int (((sel.toUInt32 >>> ((2 : Int32) &&& 31).toUInt32).toInt32) &&& (3 : Int32))), .val (.int (2 : Int32)), .val (.int st), .val (.int (fil.toInt8.toInt32)), .unset, .unset, .unset, .unset] [(.int (fil.toInt8.toInt32)), (.int (23 : Int32)), (.ref b76), (.ref b76)]))
      obtain ⟨cl125, Ar125, S125, H125⟩ := id V124'
      have hj125 : ¬ (23 : Int32) < 0 ∧ ((23 : Int32)).toNatClampNeg = 23 := (by decide)
      obtain ⟨T126, h126, X126, e126, W126, st126⟩ := stB X124 hx hZ e124 Ar125 (j := (23 : Int32)) (own_in S125 hj125 (by decide)) (g := (mkF m 185 #[.val (.int vv), .val (.int sel), .val (.int fil), .val (.int kk), .val (.int (((sel.toUInt32 >>> ((2 : Int32) &&& 31).toUInt32).toInt32) &&& (3 : Int32))), .val (.int (2 : Int32)), .val (.int st), .val (.int (fil.toInt8.toInt32)), .unset, .unset, .unset, .unset] [(.int (fil.toInt8.toInt32)), (.int (23 : Int32)), (.ref b76), (.ref b76)])) rfl rfl (hb hby at_185)
      have V126 : OwnArf Z h126 b76 .byte 24 (own_upd (own_fl 23 (nar .byte (fil.toInt8.toInt32))) 23 (nar .byte (fil.toInt8.toInt32))) := OwnArf.set Ar125 S125 H125 W126 hj125.2
      have V126' : OwnArf Z h126 b76 .byte 24 (own_fl 24 (nar .byte (fil.toInt8.toInt32))) := V126.congr (own_fl_up 23 _)
      have N126 := Fr.snoc X126 N124 g77
      have Z126 : n0 ≤ h126.size := Nat.le_trans Z124 (Keep.of_wr W126).1
      have K126 : Keep h0 h126 [] := K124.wr W126 (Or.inr z78)
      refine own_on st126 ?_
      show OwnGo p e below s _ _ _ (T126.setTop (mkF m 186 #[.val (.int vv), .val (.int sel), .val (.int fil), .val (.int kk), .val (.int (((sel.toUInt32 >>> ((2 : Int32) &&& 31).toUInt32).toInt32) &&& (3 : Int32))), .val (.int (2 : Int32)), .val (.int st), .val (.int (fil.toInt8.toInt32)), .unset, .unset, .unset, .unset] [(.ref b76)]))
      refine own_on (fun t k => XS.astore X126.here hx rfl (hb hby at_186) rfl rfl (l' := #[.val (.int vv), .val (.int sel), .val (.int fil), .val (.int kk), .val (.int (((sel.toUInt32 >>> ((2 : Int32) &&& 31).toUInt32).toInt32) &&& (3 : Int32))), .val (.int (2 : Int32)), .val (.int st), .val (.int (fil.toInt8.toInt32)), .val (.ref b76), .unset, .unset, .unset]) rfl k) ?_
      show OwnGo p e below s _ _ _ (T126.setTop (mkF m 188 #[.val (.int vv), .val (.int sel), .val (.int fil), .val (.int kk), .val (.int (((sel.toUInt32 >>> ((2 : Int32) &&& 31).toUInt32).toInt32) &&& (3 : Int32))), .val (.int (2 : Int32)), .val (.int st), .val (.int (fil.toInt8.toInt32)), .val (.ref b76), .unset, .unset, .unset] []))
      refine own_on (fun t k => XS.aload X126.here hx rfl (hb hby at_188) rfl rfl k) ?_
      show OwnGo p e below s _ _ _ (T126.setTop (mkF m 190 #[.val (.int vv), .val (.int sel), .val (.int fil), .val (.int kk), .val (.int (((sel.toUInt32 >>> ((2 : Int32) &&& 31).toUInt32).toInt32) &&& (3 : Int32))), .val (.int (2 : Int32)), .val (.int st), .val (.int (fil.toInt8.toInt32)), .val (.ref b76), .unset, .unset, .unset] [(.ref b76)]))
      refine own_on (fun t k => XS.iload X126.here hx rfl (hb hby at_190) rfl k) ?_
      show OwnGo p e below s _ _ _ (T126.setTop (mkF m 192 #[.val (.int vv), .val (.int sel), .val (.int fil), .val (.int kk), .val (.int (((sel.toUInt32 >>> ((2 : Int32) &&& 31).toUInt32).toInt32) &&& (3 : Int32))), .val (.int (2 : Int32)), .val (.int st), .val (.int (fil.toInt8.toInt32)), .val (.ref b76), .unset, .unset, .unset] [(.int st), (.ref b76)]))
      refine own_on (fun t k => XS.iload X126.here hx rfl (hb hby at_192) rfl k) ?_
      show OwnGo p e below s _ _ _ (T126.setTop (mkF m 194 #[.val (.int vv), .val (.int sel), .val (.int fil), .val (.int kk), .val (.int (((sel.toUInt32 >>> ((2 : Int32) &&& 31).toUInt32).toInt32) &&& (3 : Int32))), .val (.int (2 : Int32)), .val (.int st), .val (.int (fil.toInt8.toInt32)), .val (.ref b76), .unset, .unset, .unset] [(.int (2 : Int32)), (.int st), (.ref b76)]))
      refine own_on (fun t k => XS.i2b X126.here hx rfl (hb hby at_194) rfl k) ?_
      show OwnGo p e below s _ _ _ (T126.setTop (mkF m 195 #[.val (.int vv), .val (.int sel), .val (.int fil), .val (.int kk), .val (.int (((sel.toUInt32 >>> ((2 : Int32) &&& 31).toUInt32).toInt32) &&& (3 : Int32))), .val (.int (2 : Int32)), .val (.int st), .val (.int (fil.toInt8.toInt32)), .val (.ref b76), .unset, .unset, .unset] [(.int ((2 : Int32).toInt8.toInt32)), (.int st), (.ref b76)]))
      obtain ⟨cl127, Ar127, S127, H127⟩ := id V126'
      have hj127 : ¬ st < 0 ∧ (st).toNatClampNeg = sN := own_ix hS
      obtain ⟨T128, h128, X128, e128, W128, st128⟩ := stB X126 hx hZ e126 Ar127 (j := st) (own_in S127 hj127 (by omega)) (g := (mkF m 195 #[.val (.int vv), .val (.int sel), .val (.int fil), .val (.int kk), .val (.int (((sel.toUInt32 >>> ((2 : Int32) &&& 31).toUInt32).toInt32) &&& (3 : Int32))), .val (.int (2 : Int32)), .val (.int st), .val (.int (fil.toInt8.toInt32)), .val (.ref b76), .unset, .unset, .unset] [(.int ((2 : Int32).toInt8.toInt32)), (.int st), (.ref b76)])) rfl rfl (hb hby at_195)
      have V128 : OwnArf Z h128 b76 .byte 24 (own_upd (own_fl 24 (nar .byte (fil.toInt8.toInt32))) sN (nar .byte ((2 : Int32).toInt8.toInt32))) := OwnArf.set Ar127 S127 H127 W128 hj127.2
      have N128 := Fr.snoc X128 N126 g77
      have Z128 : n0 ≤ h128.size := Nat.le_trans Z126 (Keep.of_wr W128).1
      have K128 : Keep h0 h128 [] := K126.wr W128 (Or.inr z78)
      refine own_on st128 ?_
      show OwnGo p e below s _ _ _ (T128.setTop (mkF m 196 #[.val (.int vv), .val (.int sel), .val (.int fil), .val (.int kk), .val (.int (((sel.toUInt32 >>> ((2 : Int32) &&& 31).toUInt32).toInt32) &&& (3 : Int32))), .val (.int (2 : Int32)), .val (.int st), .val (.int (fil.toInt8.toInt32)), .val (.ref b76), .unset, .unset, .unset] []))
      have hP : ((st + (1 : Int32)) + (kk * (2 : Int32))).toInt = (((sN + 1 + kN * 2) : Nat) : Int) := own_p hS hK hS0 hK0 2 (by decide) (by decide)
      refine own_on (fun t k => XS.iload X128.here hx rfl (hb hby at_196) rfl k) ?_
      show OwnGo p e below s _ _ _ (T128.setTop (mkF m 198 #[.val (.int vv), .val (.int sel), .val (.int fil), .val (.int kk), .val (.int (((sel.toUInt32 >>> ((2 : Int32) &&& 31).toUInt32).toInt32) &&& (3 : Int32))), .val (.int (2 : Int32)), .val (.int st), .val (.int (fil.toInt8.toInt32)), .val (.ref b76), .unset, .unset, .unset] [(.int st)]))
      refine own_on (fun t k => XS.iconst X128.here hx rfl (hb hby at_198) k) ?_
      show OwnGo p e below s _ _ _ (T128.setTop (mkF m 199 #[.val (.int vv), .val (.int sel), .val (.int fil), .val (.int kk), .val (.int (((sel.toUInt32 >>> ((2 : Int32) &&& 31).toUInt32).toInt32) &&& (3 : Int32))), .val (.int (2 : Int32)), .val (.int st), .val (.int (fil.toInt8.toInt32)), .val (.ref b76), .unset, .unset, .unset] [(.int (1 : Int32)), (.int st)]))
      refine own_on (fun t k => XS.iadd X128.here hx rfl (hb hby at_199) rfl k) ?_
      show OwnGo p e below s _ _ _ (T128.setTop (mkF m 200 #[.val (.int vv), .val (.int sel), .val (.int fil), .val (.int kk), .val (.int (((sel.toUInt32 >>> ((2 : Int32) &&& 31).toUInt32).toInt32) &&& (3 : Int32))), .val (.int (2 : Int32)), .val (.int st), .val (.int (fil.toInt8.toInt32)), .val (.ref b76), .unset, .unset, .unset] [(.int (st + (1 : Int32)))]))
      refine own_on (fun t k => XS.iloadN X128.here hx rfl (hb hby at_200) rfl k) ?_
      show OwnGo p e below s _ _ _ (T128.setTop (mkF m 201 #[.val (.int vv), .val (.int sel), .val (.int fil), .val (.int kk), .val (.int (((sel.toUInt32 >>> ((2 : Int32) &&& 31).toUInt32).toInt32) &&& (3 : Int32))), .val (.int (2 : Int32)), .val (.int st), .val (.int (fil.toInt8.toInt32)), .val (.ref b76), .unset, .unset, .unset] [(.int kk), (.int (st + (1 : Int32)))]))
      refine own_on (fun t k => XS.iload X128.here hx rfl (hb hby at_201) rfl k) ?_
      show OwnGo p e below s _ _ _ (T128.setTop (mkF m 203 #[.val (.int vv), .val (.int sel), .val (.int fil), .val (.int kk), .val (.int (((sel.toUInt32 >>> ((2 : Int32) &&& 31).toUInt32).toInt32) &&& (3 : Int32))), .val (.int (2 : Int32)), .val (.int st), .val (.int (fil.toInt8.toInt32)), .val (.ref b76), .unset, .unset, .unset] [(.int (2 : Int32)), (.int kk), (.int (st + (1 : Int32)))]))
      refine own_on (fun t k => XS.imul X128.here hx rfl (hb hby at_203) rfl k) ?_
      show OwnGo p e below s _ _ _ (T128.setTop (mkF m 204 #[.val (.int vv), .val (.int sel), .val (.int fil), .val (.int kk), .val (.int (((sel.toUInt32 >>> ((2 : Int32) &&& 31).toUInt32).toInt32) &&& (3 : Int32))), .val (.int (2 : Int32)), .val (.int st), .val (.int (fil.toInt8.toInt32)), .val (.ref b76), .unset, .unset, .unset] [(.int (kk * (2 : Int32))), (.int (st + (1 : Int32)))]))
      refine own_on (fun t k => XS.iadd X128.here hx rfl (hb hby at_204) rfl k) ?_
      show OwnGo p e below s _ _ _ (T128.setTop (mkF m 205 #[.val (.int vv), .val (.int sel), .val (.int fil), .val (.int kk), .val (.int (((sel.toUInt32 >>> ((2 : Int32) &&& 31).toUInt32).toInt32) &&& (3 : Int32))), .val (.int (2 : Int32)), .val (.int st), .val (.int (fil.toInt8.toInt32)), .val (.ref b76), .unset, .unset, .unset] [(.int ((st + (1 : Int32)) + (kk * (2 : Int32))))]))
      refine own_on (fun t k => XS.istore X128.here hx rfl (hb hby at_205) rfl (l' := #[.val (.int vv), .val (.int sel), .val (.int fil), .val (.int kk), .val (.int (((sel.toUInt32 >>> ((2 : Int32) &&& 31).toUInt32).toInt32) &&& (3 : Int32))), .val (.int (2 : Int32)), .val (.int st), .val (.int (fil.toInt8.toInt32)), .val (.ref b76), .val (.int ((st + (1 : Int32)) + (kk * (2 : Int32)))), .unset, .unset]) rfl k) ?_
      show OwnGo p e below s _ _ _ (T128.setTop (mkF m 207 #[.val (.int vv), .val (.int sel), .val (.int fil), .val (.int kk), .val (.int (((sel.toUInt32 >>> ((2 : Int32) &&& 31).toUInt32).toInt32) &&& (3 : Int32))), .val (.int (2 : Int32)), .val (.int st), .val (.int (fil.toInt8.toInt32)), .val (.ref b76), .val (.int ((st + (1 : Int32)) + (kk * (2 : Int32)))), .unset, .unset] []))
      refine own_on (fun t k => XS.iload X128.here hx rfl (hb hby at_207) rfl k) ?_
      show OwnGo p e below s _ _ _ (T128.setTop (mkF m 209 #[.val (.int vv), .val (.int sel), .val (.int fil), .val (.int kk), .val (.int (((sel.toUInt32 >>> ((2 : Int32) &&& 31).toUInt32).toInt32) &&& (3 : Int32))), .val (.int (2 : Int32)), .val (.int st), .val (.int (fil.toInt8.toInt32)), .val (.ref b76), .val (.int ((st + (1 : Int32)) + (kk * (2 : Int32)))), .unset, .unset] [(.int (2 : Int32))]))
      refine own_on (fun t k => XS.iconst X128.here hx rfl (hb hby at_209) k) ?_
      show OwnGo p e below s _ _ _ (T128.setTop (mkF m 210 #[.val (.int vv), .val (.int sel), .val (.int fil), .val (.int kk), .val (.int (((sel.toUInt32 >>> ((2 : Int32) &&& 31).toUInt32).toInt32) &&& (3 : Int32))), .val (.int (2 : Int32)), .val (.int st), .val (.int (fil.toInt8.toInt32)), .val (.ref b76), .val (.int ((st + (1 : Int32)) + (kk * (2 : Int32)))), .unset, .unset] [(.int (1 : Int32)), (.int (2 : Int32))]))
      refine own_on (fun t k => XS.icmpYes X128.here hx rfl (pc0 := 210) (pc' := 243) rfl (hb hby at_210) rfl (feq (by decide : ¬ ((2 : Int32) = (1 : Int32)))).2 (by decide) (by decide) k) ?_
      show OwnGo p e below s _ _ _ (T128.setTop (mkF m 243 #[.val (.int vv), .val (.int sel), .val (.int fil), .val (.int kk), .val (.int (((sel.toUInt32 >>> ((2 : Int32) &&& 31).toUInt32).toInt32) &&& (3 : Int32))), .val (.int (2 : Int32)), .val (.int st), .val (.int (fil.toInt8.toInt32)), .val (.ref b76), .val (.int ((st + (1 : Int32)) + (kk * (2 : Int32)))), .unset, .unset] []))
      refine own_on (fun t k => XS.iload X128.here hx rfl (hb hby at_243) rfl k) ?_
      show OwnGo p e below s _ _ _ (T128.setTop (mkF m 245 #[.val (.int vv), .val (.int sel), .val (.int fil), .val (.int kk), .val (.int (((sel.toUInt32 >>> ((2 : Int32) &&& 31).toUInt32).toInt32) &&& (3 : Int32))), .val (.int (2 : Int32)), .val (.int st), .val (.int (fil.toInt8.toInt32)), .val (.ref b76), .val (.int ((st + (1 : Int32)) + (kk * (2 : Int32)))), .unset, .unset] [(.int (2 : Int32))]))
      refine own_on (fun t k => XS.iconst X128.here hx rfl (hb hby at_245) k) ?_
      show OwnGo p e below s _ _ _ (T128.setTop (mkF m 246 #[.val (.int vv), .val (.int sel), .val (.int fil), .val (.int kk), .val (.int (((sel.toUInt32 >>> ((2 : Int32) &&& 31).toUInt32).toInt32) &&& (3 : Int32))), .val (.int (2 : Int32)), .val (.int st), .val (.int (fil.toInt8.toInt32)), .val (.ref b76), .val (.int ((st + (1 : Int32)) + (kk * (2 : Int32)))), .unset, .unset] [(.int (2 : Int32)), (.int (2 : Int32))]))
      refine own_on (fun t k => XS.icmpNo X128.here hx rfl (hb hby at_246) rfl (teq (by decide : (2 : Int32) = (2 : Int32))).2 k) ?_
      show OwnGo p e below s _ _ _ (T128.setTop (mkF m 249 #[.val (.int vv), .val (.int sel), .val (.int fil), .val (.int kk), .val (.int (((sel.toUInt32 >>> ((2 : Int32) &&& 31).toUInt32).toInt32) &&& (3 : Int32))), .val (.int (2 : Int32)), .val (.int st), .val (.int (fil.toInt8.toInt32)), .val (.ref b76), .val (.int ((st + (1 : Int32)) + (kk * (2 : Int32)))), .unset, .unset] []))
      refine own_on (fun t k => XS.aload X128.here hx rfl (hb hby at_249) rfl rfl k) ?_
      show OwnGo p e below s _ _ _ (T128.setTop (mkF m 251 #[.val (.int vv), .val (.int sel), .val (.int fil), .val (.int kk), .val (.int (((sel.toUInt32 >>> ((2 : Int32) &&& 31).toUInt32).toInt32) &&& (3 : Int32))), .val (.int (2 : Int32)), .val (.int st), .val (.int (fil.toInt8.toInt32)), .val (.ref b76), .val (.int ((st + (1 : Int32)) + (kk * (2 : Int32)))), .unset, .unset] [(.ref b76)]))
      refine own_on (fun t k => XS.iload X128.here hx rfl (hb hby at_251) rfl k) ?_
      show OwnGo p e below s _ _ _ (T128.setTop (mkF m 253 #[.val (.int vv), .val (.int sel), .val (.int fil), .val (.int kk), .val (.int (((sel.toUInt32 >>> ((2 : Int32) &&& 31).toUInt32).toInt32) &&& (3 : Int32))), .val (.int (2 : Int32)), .val (.int st), .val (.int (fil.toInt8.toInt32)), .val (.ref b76), .val (.int ((st + (1 : Int32)) + (kk * (2 : Int32)))), .unset, .unset] [(.int ((st + (1 : Int32)) + (kk * (2 : Int32)))), (.ref b76)]))
      refine own_on (fun t k => XS.iloadN X128.here hx rfl (hb hby at_253) rfl k) ?_
      show OwnGo p e below s _ _ _ (T128.setTop (mkF m 254 #[.val (.int vv), .val (.int sel), .val (.int fil), .val (.int kk), .val (.int (((sel.toUInt32 >>> ((2 : Int32) &&& 31).toUInt32).toInt32) &&& (3 : Int32))), .val (.int (2 : Int32)), .val (.int st), .val (.int (fil.toInt8.toInt32)), .val (.ref b76), .val (.int ((st + (1 : Int32)) + (kk * (2 : Int32)))), .unset, .unset] [(.int vv), (.int ((st + (1 : Int32)) + (kk * (2 : Int32)))), (.ref b76)]))
      refine own_on (fun t k => XS.bipush X128.here hx rfl (hb hby at_254) k) ?_
      show OwnGo p e below s _ _ _ (T128.setTop (mkF m 256 #[.val (.int vv), .val (.int sel), .val (.int fil), .val (.int kk), .val (.int (((sel.toUInt32 >>> ((2 : Int32) &&& 31).toUInt32).toInt32) &&& (3 : Int32))), .val (.int (2 : Int32)), .val (.int st), .val (.int (fil.toInt8.toInt32)), .val (.ref b76), .val (.int ((st + (1 : Int32)) + (kk * (2 : Int32)))), .unset, .unset] [(.int (8 : Int32)), (.int vv), (.int ((st + (1 : Int32)) + (kk * (2 : Int32)))), (.ref b76)]))
      refine own_on (fun t k => XS.iushr X128.here hx rfl (hb hby at_256) rfl k) ?_
      show OwnGo p e below s _ _ _ (T128.setTop (mkF m 257 #[.val (.int vv), .val (.int sel), .val (.int fil), .val (.int kk), .val (.int (((sel.toUInt32 >>> ((2 : Int32) &&& 31).toUInt32).toInt32) &&& (3 : Int32))), .val (.int (2 : Int32)), .val (.int st), .val (.int (fil.toInt8.toInt32)), .val (.ref b76), .val (.int ((st + (1 : Int32)) + (kk * (2 : Int32)))), .unset, .unset] [(.int ((vv.toUInt32 >>> ((8 : Int32) &&& 31).toUInt32).toInt32)), (.int ((st + (1 : Int32)) + (kk * (2 : Int32)))), (.ref b76)]))
      refine own_on (fun t k => XS.i2b X128.here hx rfl (hb hby at_257) rfl k) ?_
      show OwnGo p e below s _ _ _ (T128.setTop (mkF m 258 #[.val (.int vv), .val (.int sel), .val (.int fil), .val (.int kk), .val (.int (((sel.toUInt32 >>> ((2 : Int32) &&& 31).toUInt32).toInt32) &&& (3 : Int32))), .val (.int (2 : Int32)), .val (.int st), .val (.int (fil.toInt8.toInt32)), .val (.ref b76), .val (.int ((st + (1 : Int32)) + (kk * (2 : Int32)))), .unset, .unset] [(.int (((vv.toUInt32 >>> ((8 : Int32) &&& 31).toUInt32).toInt32).toInt8.toInt32)), (.int ((st + (1 : Int32)) + (kk * (2 : Int32)))), (.ref b76)]))
      obtain ⟨cl129, Ar129, S129, H129⟩ := id V128
      have hj129 : ¬ ((st + (1 : Int32)) + (kk * (2 : Int32))) < 0 ∧ (((st + (1 : Int32)) + (kk * (2 : Int32)))).toNatClampNeg = (sN + 1 + kN * 2) := own_ix hP
      obtain ⟨T130, h130, X130, e130, W130, st130⟩ := stB X128 hx hZ e128 Ar129 (j := ((st + (1 : Int32)) + (kk * (2 : Int32)))) (own_in S129 hj129 (by omega)) (g := (mkF m 258 #[.val (.int vv), .val (.int sel), .val (.int fil), .val (.int kk), .val (.int (((sel.toUInt32 >>> ((2 : Int32) &&& 31).toUInt32).toInt32) &&& (3 : Int32))), .val (.int (2 : Int32)), .val (.int st), .val (.int (fil.toInt8.toInt32)), .val (.ref b76), .val (.int ((st + (1 : Int32)) + (kk * (2 : Int32)))), .unset, .unset] [(.int (((vv.toUInt32 >>> ((8 : Int32) &&& 31).toUInt32).toInt32).toInt8.toInt32)), (.int ((st + (1 : Int32)) + (kk * (2 : Int32)))), (.ref b76)])) rfl rfl (hb hby at_258)
      have V130 : OwnArf Z h130 b76 .byte 24 (own_upd (own_upd (own_fl 24 (nar .byte (fil.toInt8.toInt32))) sN (nar .byte ((2 : Int32).toInt8.toInt32))) (sN + 1 + kN * 2) (nar .byte (((vv.toUInt32 >>> ((8 : Int32) &&& 31).toUInt32).toInt32).toInt8.toInt32))) := OwnArf.set Ar129 S129 H129 W130 hj129.2
      have N130 := Fr.snoc X130 N128 g77
      have Z130 : n0 ≤ h130.size := Nat.le_trans Z128 (Keep.of_wr W130).1
      have K130 : Keep h0 h130 [] := K128.wr W130 (Or.inr z78)
      refine own_on st130 ?_
      show OwnGo p e below s _ _ _ (T130.setTop (mkF m 259 #[.val (.int vv), .val (.int sel), .val (.int fil), .val (.int kk), .val (.int (((sel.toUInt32 >>> ((2 : Int32) &&& 31).toUInt32).toInt32) &&& (3 : Int32))), .val (.int (2 : Int32)), .val (.int st), .val (.int (fil.toInt8.toInt32)), .val (.ref b76), .val (.int ((st + (1 : Int32)) + (kk * (2 : Int32)))), .unset, .unset] []))
      refine own_on (fun t k => XS.aload X130.here hx rfl (hb hby at_259) rfl rfl k) ?_
      show OwnGo p e below s _ _ _ (T130.setTop (mkF m 261 #[.val (.int vv), .val (.int sel), .val (.int fil), .val (.int kk), .val (.int (((sel.toUInt32 >>> ((2 : Int32) &&& 31).toUInt32).toInt32) &&& (3 : Int32))), .val (.int (2 : Int32)), .val (.int st), .val (.int (fil.toInt8.toInt32)), .val (.ref b76), .val (.int ((st + (1 : Int32)) + (kk * (2 : Int32)))), .unset, .unset] [(.ref b76)]))
      refine own_on (fun t k => XS.iload X130.here hx rfl (hb hby at_261) rfl k) ?_
      show OwnGo p e below s _ _ _ (T130.setTop (mkF m 263 #[.val (.int vv), .val (.int sel), .val (.int fil), .val (.int kk), .val (.int (((sel.toUInt32 >>> ((2 : Int32) &&& 31).toUInt32).toInt32) &&& (3 : Int32))), .val (.int (2 : Int32)), .val (.int st), .val (.int (fil.toInt8.toInt32)), .val (.ref b76), .val (.int ((st + (1 : Int32)) + (kk * (2 : Int32)))), .unset, .unset] [(.int ((st + (1 : Int32)) + (kk * (2 : Int32)))), (.ref b76)]))
      refine own_on (fun t k => XS.iconst X130.here hx rfl (hb hby at_263) k) ?_
      show OwnGo p e below s _ _ _ (T130.setTop (mkF m 264 #[.val (.int vv), .val (.int sel), .val (.int fil), .val (.int kk), .val (.int (((sel.toUInt32 >>> ((2 : Int32) &&& 31).toUInt32).toInt32) &&& (3 : Int32))), .val (.int (2 : Int32)), .val (.int st), .val (.int (fil.toInt8.toInt32)), .val (.ref b76), .val (.int ((st + (1 : Int32)) + (kk * (2 : Int32)))), .unset, .unset] [(.int (1 : Int32)), (.int ((st + (1 : Int32)) + (kk * (2 : Int32)))), (.ref b76)]))
      refine own_on (fun t k => XS.iadd X130.here hx rfl (hb hby at_264) rfl k) ?_
      show OwnGo p e below s _ _ _ (T130.setTop (mkF m 265 #[.val (.int vv), .val (.int sel), .val (.int fil), .val (.int kk), .val (.int (((sel.toUInt32 >>> ((2 : Int32) &&& 31).toUInt32).toInt32) &&& (3 : Int32))), .val (.int (2 : Int32)), .val (.int st), .val (.int (fil.toInt8.toInt32)), .val (.ref b76), .val (.int ((st + (1 : Int32)) + (kk * (2 : Int32)))), .unset, .unset] [(.int (((st + (1 : Int32)) + (kk * (2 : Int32))) + (1 : Int32))), (.ref b76)]))
      refine own_on (fun t k => XS.iloadN X130.here hx rfl (hb hby at_265) rfl k) ?_
      show OwnGo p e below s _ _ _ (T130.setTop (mkF m 266 #[.val (.int vv), .val (.int sel), .val (.int fil), .val (.int kk), .val (.int (((sel.toUInt32 >>> ((2 : Int32) &&& 31).toUInt32).toInt32) &&& (3 : Int32))), .val (.int (2 : Int32)), .val (.int st), .val (.int (fil.toInt8.toInt32)), .val (.ref b76), .val (.int ((st + (1 : Int32)) + (kk * (2 : Int32)))), .unset, .unset] [(.int vv), (.int (((st + (1 : Int32)) + (kk * (2 : Int32))) + (1 : Int32))), (.ref b76)]))
      refine own_on (fun t k => XS.i2b X130.here hx rfl (hb hby at_266) rfl k) ?_
      show OwnGo p e below s _ _ _ (T130.setTop (mkF m 267 #[.val (.int vv), .val (.int sel), .val (.int fil), .val (.int kk), .val (.int (((sel.toUInt32 >>> ((2 : Int32) &&& 31).toUInt32).toInt32) &&& (3 : Int32))), .val (.int (2 : Int32)), .val (.int st), .val (.int (fil.toInt8.toInt32)), .val (.ref b76), .val (.int ((st + (1 : Int32)) + (kk * (2 : Int32)))), .unset, .unset] [(.int (vv.toInt8.toInt32)), (.int (((st + (1 : Int32)) + (kk * (2 : Int32))) + (1 : Int32))), (.ref b76)]))
      obtain ⟨cl131, Ar131, S131, H131⟩ := id V130
      have hj131 : ¬ (((st + (1 : Int32)) + (kk * (2 : Int32))) + (1 : Int32)) < 0 ∧ ((((st + (1 : Int32)) + (kk * (2 : Int32))) + (1 : Int32))).toNatClampNeg = ((sN + 1 + kN * 2) + 1) := own_ix (own_add hP (by omega) (k := 1) (by decide) (by decide))
      obtain ⟨T132, h132, X132, e132, W132, st132⟩ := stB X130 hx hZ e130 Ar131 (j := (((st + (1 : Int32)) + (kk * (2 : Int32))) + (1 : Int32))) (own_in S131 hj131 (by omega)) (g := (mkF m 267 #[.val (.int vv), .val (.int sel), .val (.int fil), .val (.int kk), .val (.int (((sel.toUInt32 >>> ((2 : Int32) &&& 31).toUInt32).toInt32) &&& (3 : Int32))), .val (.int (2 : Int32)), .val (.int st), .val (.int (fil.toInt8.toInt32)), .val (.ref b76), .val (.int ((st + (1 : Int32)) + (kk * (2 : Int32)))), .unset, .unset] [(.int (vv.toInt8.toInt32)), (.int (((st + (1 : Int32)) + (kk * (2 : Int32))) + (1 : Int32))), (.ref b76)])) rfl rfl (hb hby at_267)
      have V132 : OwnArf Z h132 b76 .byte 24 (own_upd (own_upd (own_upd (own_fl 24 (nar .byte (fil.toInt8.toInt32))) sN (nar .byte ((2 : Int32).toInt8.toInt32))) (sN + 1 + kN * 2) (nar .byte (((vv.toUInt32 >>> ((8 : Int32) &&& 31).toUInt32).toInt32).toInt8.toInt32))) ((sN + 1 + kN * 2) + 1) (nar .byte (vv.toInt8.toInt32))) := OwnArf.set Ar131 S131 H131 W132 hj131.2
      have N132 := Fr.snoc X132 N130 g77
      have Z132 : n0 ≤ h132.size := Nat.le_trans Z130 (Keep.of_wr W132).1
      have K132 : Keep h0 h132 [] := K130.wr W132 (Or.inr z78)
      refine own_on st132 ?_
      show OwnGo p e below s _ _ _ (T132.setTop (mkF m 268 #[.val (.int vv), .val (.int sel), .val (.int fil), .val (.int kk), .val (.int (((sel.toUInt32 >>> ((2 : Int32) &&& 31).toUInt32).toInt32) &&& (3 : Int32))), .val (.int (2 : Int32)), .val (.int st), .val (.int (fil.toInt8.toInt32)), .val (.ref b76), .val (.int ((st + (1 : Int32)) + (kk * (2 : Int32)))), .unset, .unset] []))
      refine own_on (fun t k => XS.iloadN X132.here hx rfl (hb hby at_268) rfl k) ?_
      show OwnGo p e below s _ _ _ (T132.setTop (mkF m 269 #[.val (.int vv), .val (.int sel), .val (.int fil), .val (.int kk), .val (.int (((sel.toUInt32 >>> ((2 : Int32) &&& 31).toUInt32).toInt32) &&& (3 : Int32))), .val (.int (2 : Int32)), .val (.int st), .val (.int (fil.toInt8.toInt32)), .val (.ref b76), .val (.int ((st + (1 : Int32)) + (kk * (2 : Int32)))), .unset, .unset] [(.int vv)]))
      refine own_on (fun t k => XS.i2s X132.here hx rfl (hb hby at_269) rfl k) ?_
      show OwnGo p e below s _ _ _ (T132.setTop (mkF m 270 #[.val (.int vv), .val (.int sel), .val (.int fil), .val (.int kk), .val (.int (((sel.toUInt32 >>> ((2 : Int32) &&& 31).toUInt32).toInt32) &&& (3 : Int32))), .val (.int (2 : Int32)), .val (.int st), .val (.int (fil.toInt8.toInt32)), .val (.ref b76), .val (.int ((st + (1 : Int32)) + (kk * (2 : Int32)))), .unset, .unset] [(.int (vv.toInt16.toInt32))]))
      refine own_on (fun t k => XS.istore X132.here hx rfl (hb hby at_270) rfl (l' := #[.val (.int vv), .val (.int sel), .val (.int fil), .val (.int kk), .val (.int (((sel.toUInt32 >>> ((2 : Int32) &&& 31).toUInt32).toInt32) &&& (3 : Int32))), .val (.int (2 : Int32)), .val (.int st), .val (.int (fil.toInt8.toInt32)), .val (.ref b76), .val (.int ((st + (1 : Int32)) + (kk * (2 : Int32)))), .unset, .val (.int (vv.toInt16.toInt32))]) rfl k) ?_
      show OwnGo p e below s _ _ _ (T132.setTop (mkF m 272 #[.val (.int vv), .val (.int sel), .val (.int fil), .val (.int kk), .val (.int (((sel.toUInt32 >>> ((2 : Int32) &&& 31).toUInt32).toInt32) &&& (3 : Int32))), .val (.int (2 : Int32)), .val (.int st), .val (.int (fil.toInt8.toInt32)), .val (.ref b76), .val (.int ((st + (1 : Int32)) + (kk * (2 : Int32)))), .unset, .val (.int (vv.toInt16.toInt32))] []))
      refine own_on (fun t k => XS.iload X132.here hx rfl (hb hby at_272) rfl k) ?_
      show OwnGo p e below s _ _ _ (T132.setTop (mkF m 274 #[.val (.int vv), .val (.int sel), .val (.int fil), .val (.int kk), .val (.int (((sel.toUInt32 >>> ((2 : Int32) &&& 31).toUInt32).toInt32) &&& (3 : Int32))), .val (.int (2 : Int32)), .val (.int st), .val (.int (fil.toInt8.toInt32)), .val (.ref b76), .val (.int ((st + (1 : Int32)) + (kk * (2 : Int32)))), .unset, .val (.int (vv.toInt16.toInt32))] [(.int (vv.toInt16.toInt32))]))
      refine own_on (fun t k => XS.sipush X132.here hx rfl (hb hby at_274) k) ?_
      show OwnGo p e below s _ _ _ (T132.setTop (mkF m 277 #[.val (.int vv), .val (.int sel), .val (.int fil), .val (.int kk), .val (.int (((sel.toUInt32 >>> ((2 : Int32) &&& 31).toUInt32).toInt32) &&& (3 : Int32))), .val (.int (2 : Int32)), .val (.int st), .val (.int (fil.toInt8.toInt32)), .val (.ref b76), .val (.int ((st + (1 : Int32)) + (kk * (2 : Int32)))), .unset, .val (.int (vv.toInt16.toInt32))] [(.int (32767 : Int32)), (.int (vv.toInt16.toInt32))]))
      by_cases qe : (vv.toInt16.toInt32) = (32767 : Int32)
      · refine own_on (fun t k => XS.icmpNo X132.here hx rfl (hb hby at_277) rfl (teq qe).2 k) ?_
        show OwnGo p e below s _ _ _ (T132.setTop (mkF m 280 #[.val (.int vv), .val (.int sel), .val (.int fil), .val (.int kk), .val (.int (((sel.toUInt32 >>> ((2 : Int32) &&& 31).toUInt32).toInt32) &&& (3 : Int32))), .val (.int (2 : Int32)), .val (.int st), .val (.int (fil.toInt8.toInt32)), .val (.ref b76), .val (.int ((st + (1 : Int32)) + (kk * (2 : Int32)))), .unset, .val (.int (vv.toInt16.toInt32))] []))
        refine own_on (X132.ldcInt hx hown (mvT hZ (w39 hw)) (g := (mkF m 280 #[.val (.int vv), .val (.int sel), .val (.int fil), .val (.int kk), .val (.int (((sel.toUInt32 >>> ((2 : Int32) &&& 31).toUInt32).toInt32) &&& (3 : Int32))), .val (.int (2 : Int32)), .val (.int st), .val (.int (fil.toInt8.toInt32)), .val (.ref b76), .val (.int ((st + (1 : Int32)) + (kk * (2 : Int32)))), .unset, .val (.int (vv.toInt16.toInt32))] [])) rfl (hb hby at_280)) ?_
        show OwnGo p e below s _ _ _ (T132.setTop (mkF m 282 #[.val (.int vv), .val (.int sel), .val (.int fil), .val (.int kk), .val (.int (((sel.toUInt32 >>> ((2 : Int32) &&& 31).toUInt32).toInt32) &&& (3 : Int32))), .val (.int (2 : Int32)), .val (.int st), .val (.int (fil.toInt8.toInt32)), .val (.ref b76), .val (.int ((st + (1 : Int32)) + (kk * (2 : Int32)))), .unset, .val (.int (vv.toInt16.toInt32))] [(.int (2147483647 : Int32))]))
        refine own_on (fun t k => XS.goto X132.here hx rfl (pc0 := 282) (pc' := 287) rfl (hb hby at_282) (by decide) (by decide) k) ?_
        show OwnGo p e below s _ _ _ (T132.setTop (mkF m 287 #[.val (.int vv), .val (.int sel), .val (.int fil), .val (.int kk), .val (.int (((sel.toUInt32 >>> ((2 : Int32) &&& 31).toUInt32).toInt32) &&& (3 : Int32))), .val (.int (2 : Int32)), .val (.int st), .val (.int (fil.toInt8.toInt32)), .val (.ref b76), .val (.int ((st + (1 : Int32)) + (kk * (2 : Int32)))), .unset, .val (.int (vv.toInt16.toInt32))] [(.int (2147483647 : Int32))]))
        refine own_on (fun t k => XS.istore X132.here hx rfl (hb hby at_287) rfl (l' := #[.val (.int vv), .val (.int sel), .val (.int fil), .val (.int kk), .val (.int (((sel.toUInt32 >>> ((2 : Int32) &&& 31).toUInt32).toInt32) &&& (3 : Int32))), .val (.int (2 : Int32)), .val (.int st), .val (.int (fil.toInt8.toInt32)), .val (.ref b76), .val (.int ((st + (1 : Int32)) + (kk * (2 : Int32)))), .val (.int (2147483647 : Int32)), .val (.int (vv.toInt16.toInt32))]) rfl k) ?_
        show OwnGo p e below s _ _ _ (T132.setTop (mkF m 289 #[.val (.int vv), .val (.int sel), .val (.int fil), .val (.int kk), .val (.int (((sel.toUInt32 >>> ((2 : Int32) &&& 31).toUInt32).toInt32) &&& (3 : Int32))), .val (.int (2 : Int32)), .val (.int st), .val (.int (fil.toInt8.toInt32)), .val (.ref b76), .val (.int ((st + (1 : Int32)) + (kk * (2 : Int32)))), .val (.int (2147483647 : Int32)), .val (.int (vv.toInt16.toInt32))] []))
        refine own_on (fun t k => XS.goto X132.here hx rfl (pc0 := 289) (pc' := 338) rfl (hb hby at_289) (by decide) (by decide) k) ?_
        show OwnGo p e below s _ _ _ (T132.setTop (mkF m 338 #[.val (.int vv), .val (.int sel), .val (.int fil), .val (.int kk), .val (.int (((sel.toUInt32 >>> ((2 : Int32) &&& 31).toUInt32).toInt32) &&& (3 : Int32))), .val (.int (2 : Int32)), .val (.int st), .val (.int (fil.toInt8.toInt32)), .val (.ref b76), .val (.int ((st + (1 : Int32)) + (kk * (2 : Int32)))), .val (.int (2147483647 : Int32)), .val (.int (vv.toInt16.toInt32))] []))
        obtain ⟨T133, h133, X133, e133, E133, A133, D133, u133, st133⟩ := newO X132 hx hZ hown (w1 hw) (w2 hw) (w3 hw) e132 (g := (mkF m 338 #[.val (.int vv), .val (.int sel), .val (.int fil), .val (.int kk), .val (.int (((sel.toUInt32 >>> ((2 : Int32) &&& 31).toUInt32).toInt32) &&& (3 : Int32))), .val (.int (2 : Int32)), .val (.int st), .val (.int (fil.toInt8.toInt32)), .val (.ref b76), .val (.int ((st + (1 : Int32)) + (kk * (2 : Int32)))), .val (.int (2147483647 : Int32)), .val (.int (vv.toInt16.toInt32))] [])) rfl (hb hby at_338) (by decide) (by decide)
        obtain ⟨b133, g133⟩ : ∃ z, z = h132.size := ⟨_, rfl⟩
        rw [← g133] at A133 D133 st133
        have ne134 : b76 ≠ b133 := Nat.ne_of_lt (Nat.lt_of_lt_of_le V132.lt (Nat.le_of_eq g133.symm))
        have g135 : n0 ≤ b133 := Nat.le_trans Z132 (Nat.le_of_eq g133.symm)
        have z136 : h0.size ≤ b133 := Nat.le_trans K132.1 (Nat.le_of_eq g133.symm)
        have Z133 : n0 ≤ h133.size := Nat.le_trans Z132 E133.1
        have K133 : Keep h0 h133 [] := K132.ext E133
        have F133_failedRow : Fld Z h133 b133 "org/tempochart/zone/PackedZone" "failedRow" "[I" .null := D133 (Or.inr (w12 hw)) (ty := (.array .int)) (by decide)
        have F133_failedColumn : Fld Z h133 b133 "org/tempochart/zone/PackedZone" "failedColumn" "[I" .null := D133 (Or.inr (w14 hw)) (ty := (.array .int)) (by decide)
        have F133_bytes : Fld Z h133 b133 "org/tempochart/zone/PackedZone" "bytes" "[B" .null := D133 (Or.inl (w21 hw)) (ty := (.array .byte)) (by decide)
        have F133_dimension : Fld Z h133 b133 "org/tempochart/zone/PackedZone" "dimension" "I" (.int (0 : Int32)) := D133 (Or.inl (w23 hw)) (ty := .int) (by decide)
        have F133_width : Fld Z h133 b133 "org/tempochart/zone/PackedZone" "width" "I" (.int (0 : Int32)) := D133 (Or.inl (w25 hw)) (ty := .int) (by decide)
        have F133_first : Fld Z h133 b133 "org/tempochart/zone/PackedZone" "first" "I" (.int (0 : Int32)) := D133 (Or.inl (w27 hw)) (ty := .int) (by decide)
        have F133_none : Fld Z h133 b133 "org/tempochart/zone/PackedZone" "none" "I" (.int (0 : Int32)) := D133 (Or.inl (w32 hw)) (ty := .int) (by decide)
        refine own_on st133 ?_
        show OwnGo p e below s _ _ _ (T133.setTop (mkF m 341 #[.val (.int vv), .val (.int sel), .val (.int fil), .val (.int kk), .val (.int (((sel.toUInt32 >>> ((2 : Int32) &&& 31).toUInt32).toInt32) &&& (3 : Int32))), .val (.int (2 : Int32)), .val (.int st), .val (.int (fil.toInt8.toInt32)), .val (.ref b76), .val (.int ((st + (1 : Int32)) + (kk * (2 : Int32)))), .val (.int (2147483647 : Int32)), .val (.int (vv.toInt16.toInt32))] [(.ref b133)]))
        refine own_on (fun t k => XS.dup X133.here hx rfl (hb hby at_341) rfl rfl k) ?_
        show OwnGo p e below s _ _ _ (T133.setTop (mkF m 342 #[.val (.int vv), .val (.int sel), .val (.int fil), .val (.int kk), .val (.int (((sel.toUInt32 >>> ((2 : Int32) &&& 31).toUInt32).toInt32) &&& (3 : Int32))), .val (.int (2 : Int32)), .val (.int st), .val (.int (fil.toInt8.toInt32)), .val (.ref b76), .val (.int ((st + (1 : Int32)) + (kk * (2 : Int32)))), .val (.int (2147483647 : Int32)), .val (.int (vv.toInt16.toInt32))] [(.ref b133), (.ref b133)]))
        obtain ⟨_, _, ⟨T137, L137, k137, n137⟩, -, X137, ⟨Lc137, hQ137, l137, y137, z137⟩, st137⟩ := X133.specialBack hx (y := (⟨"org/tempochart/zone/PackedZone", "<init>", "()V"⟩ : MethodName)) rfl hown (mvT hZ (w4 hw)) (mvT hZ (w5 hw)) (mvT hZ (w6 hw)) (by decide) (backOf (W := 1) (rm1 l Z a0 hw [] b133 .null (.int (0 : Int32)) (.int (0 : Int32)) (.int (0 : Int32)) (.int (0 : Int32)) .null .null h133 n0 Z133 A133 F133_failedRow F133_failedColumn g135 F133_bytes F133_dimension F133_width F133_first F133_none) hZ (w6 hw) (w3 hw) (by decide) (by decide)) (g := (mkF m 342 #[.val (.int vv), .val (.int sel), .val (.int fil), .val (.int kk), .val (.int (((sel.toUInt32 >>> ((2 : Int32) &&& 31).toUInt32).toInt32) &&& (3 : Int32))), .val (.int (2 : Int32)), .val (.int st), .val (.int (fil.toInt8.toInt32)), .val (.ref b76), .val (.int ((st + (1 : Int32)) + (kk * (2 : Int32)))), .val (.int (2147483647 : Int32)), .val (.int (vv.toInt16.toInt32))] [(.ref b133), (.ref b133)])) rfl (by rw [hml]; rfl) (Steps.refl _) (a := b133) (argsL := []) (rest := [(.ref b133)]) (lenOf pd_1 rfl) rfl (by show 2 * 0 + _ ≤ _; exact Nat.le_of_eq rfl) (hb hby at_342) (fun _ _ => ⟨rfl, e133, (by decide : 2 + 2 ≤ _), (by decide : 31 + 4 ≤ _)⟩)
        dsimp only [Pt.U, Pt.locs, Pt.cells, Pt.slots] at X137 l137 y137 z137 st137 hQ137
        replace X137 := own_num (c' := 4) (n' := 35) X137 l137 (y137.trans rfl) (z137.trans rfl)
        obtain ⟨rfl, N137q, K137q, c137_0, c137_1, c137_2, c137_3, c137_4, c137_5⟩ := hQ137
        have N137 := Fr.app N132 N137q
        have Z137 : n0 ≤ T137.heap.size := Nat.le_trans Z133 K137q.1
        have K137 : Keep h0 T137.heap [] := K133.trans K137q (allS (P := fun x => x ∈ [] ∨ h0.size ≤ x) (Or.inr z136) all0)
        refine own_tr st137 ?_
        show OwnGo p e below s _ _ _ (T137.setTop (mkF m 345 #[.val (.int vv), .val (.int sel), .val (.int fil), .val (.int kk), .val (.int (((sel.toUInt32 >>> ((2 : Int32) &&& 31).toUInt32).toInt32) &&& (3 : Int32))), .val (.int (2 : Int32)), .val (.int st), .val (.int (fil.toInt8.toInt32)), .val (.ref b76), .val (.int ((st + (1 : Int32)) + (kk * (2 : Int32)))), .val (.int (2147483647 : Int32)), .val (.int (vv.toInt16.toInt32))] [(.ref b133)]))
        refine own_on (fun t k => XS.aload X137.here hx rfl (hb hby at_345) rfl rfl k) ?_
        show OwnGo p e below s _ _ _ (T137.setTop (mkF m 347 #[.val (.int vv), .val (.int sel), .val (.int fil), .val (.int kk), .val (.int (((sel.toUInt32 >>> ((2 : Int32) &&& 31).toUInt32).toInt32) &&& (3 : Int32))), .val (.int (2 : Int32)), .val (.int st), .val (.int (fil.toInt8.toInt32)), .val (.ref b76), .val (.int ((st + (1 : Int32)) + (kk * (2 : Int32)))), .val (.int (2147483647 : Int32)), .val (.int (vv.toInt16.toInt32))] [(.ref b76), (.ref b133)]))
        refine own_on (fun t k => XS.iload X137.here hx rfl (hb hby at_347) rfl k) ?_
        show OwnGo p e below s _ _ _ (T137.setTop (mkF m 349 #[.val (.int vv), .val (.int sel), .val (.int fil), .val (.int kk), .val (.int (((sel.toUInt32 >>> ((2 : Int32) &&& 31).toUInt32).toInt32) &&& (3 : Int32))), .val (.int (2 : Int32)), .val (.int st), .val (.int (fil.toInt8.toInt32)), .val (.ref b76), .val (.int ((st + (1 : Int32)) + (kk * (2 : Int32)))), .val (.int (2147483647 : Int32)), .val (.int (vv.toInt16.toInt32))] [(.int st), (.ref b76), (.ref b133)]))
        refine own_on (fun t k => XS.iconst X137.here hx rfl (hb hby at_349) k) ?_
        show OwnGo p e below s _ _ _ (T137.setTop (mkF m 350 #[.val (.int vv), .val (.int sel), .val (.int fil), .val (.int kk), .val (.int (((sel.toUInt32 >>> ((2 : Int32) &&& 31).toUInt32).toInt32) &&& (3 : Int32))), .val (.int (2 : Int32)), .val (.int st), .val (.int (fil.toInt8.toInt32)), .val (.ref b76), .val (.int ((st + (1 : Int32)) + (kk * (2 : Int32)))), .val (.int (2147483647 : Int32)), .val (.int (vv.toInt16.toInt32))] [(.int (2 : Int32)), (.int st), (.ref b76), (.ref b133)]))
        have f138 : OwnArf Z h133 b76 .byte 24 (own_upd (own_upd (own_upd (own_fl 24 (nar .byte (fil.toInt8.toInt32))) sN (nar .byte ((2 : Int32).toInt8.toInt32))) (sN + 1 + kN * 2) (nar .byte (((vv.toUInt32 >>> ((8 : Int32) &&& 31).toUInt32).toInt32).toInt8.toInt32))) ((sN + 1 + kN * 2) + 1) (nar .byte (vv.toInt8.toInt32))) := V132.ext E133
        have f139 : OwnArf Z T137.heap b76 .byte 24 (own_upd (own_upd (own_upd (own_fl 24 (nar .byte (fil.toInt8.toInt32))) sN (nar .byte ((2 : Int32).toInt8.toInt32))) (sN + 1 + kN * 2) (nar .byte (((vv.toUInt32 >>> ((8 : Int32) &&& 31).toUInt32).toInt32).toInt8.toInt32))) ((sN + 1 + kN * 2) + 1) (nar .byte (vv.toInt8.toInt32))) := f138.keep K137q (ninS ne134 nin0)
        obtain ⟨cq140, kq140, q140a, q140b, q140c⟩ := isOf hZ rfl c137_0
        obtain ⟨_, _, ⟨T140, L140, k140, n140⟩, -, X140, ⟨Lc140, hQ140, l140, y140, z140⟩, st140⟩ := X137.virtualBack hx (y := (⟨"org/tempochart/zone/PackedZone", "at", "([BII)Lorg/tempochart/zone/PackedZone;"⟩ : MethodName)) (z := (⟨"org/tempochart/zone/PackedZone", "at", "([BII)Lorg/tempochart/zone/PackedZone;"⟩ : MethodName)) hown (mvT hZ (w15 hw)) (mvT hZ (w16 hw)) (notFace_of_selects (args := #[]) (mvT hZ (w18 hw))) (mvT hZ (w18 hw)) (mvT hZ (w17 hw)) (by decide) (backOf (W := 0) (rm3 l Z a0 hw [] b133 b76 st (2 : Int32) .null (.int (0 : Int32)) (.int (0 : Int32)) (.int (0 : Int32)) (.int (0 : Int32)) (own_upd (own_upd (own_upd (own_fl 24 (nar .byte (fil.toInt8.toInt32))) sN (nar .byte ((2 : Int32).toInt8.toInt32))) (sN + 1 + kN * 2) (nar .byte (((vv.toUInt32 >>> ((8 : Int32) &&& 31).toUInt32).toInt32).toInt8.toInt32))) ((sN + 1 + kN * 2) + 1) (nar .byte (vv.toInt8.toInt32))) sN T137.heap n0 Z137 c137_0 c137_1 c137_2 c137_3 c137_4 c137_5 g135 f139 ne134 hS hS0) hZ (w19 hw) (w3 hw) (by decide) (by decide)) q140a q140c (g := (mkF m 350 #[.val (.int vv), .val (.int sel), .val (.int fil), .val (.int kk), .val (.int (((sel.toUInt32 >>> ((2 : Int32) &&& 31).toUInt32).toInt32) &&& (3 : Int32))), .val (.int (2 : Int32)), .val (.int st), .val (.int (fil.toInt8.toInt32)), .val (.ref b76), .val (.int ((st + (1 : Int32)) + (kk * (2 : Int32)))), .val (.int (2147483647 : Int32)), .val (.int (vv.toInt16.toInt32))] [(.int (2 : Int32)), (.int st), (.ref b76), (.ref b133)])) rfl (by rw [hml]; rfl) (Steps.refl _) (argsL := [(.ref b76), (.int st), (.int (2 : Int32))]) (rest := []) (lenOf pd_2 rfl) rfl (by show 2 * 0 + _ ≤ _; exact Nat.le_of_eq rfl) (hb hby at_350) (fun _ _ => ⟨rfl, rfl, (by decide : 4 + 0 ≤ _), (by decide : 35 + 0 ≤ _)⟩)
        dsimp only [Pt.U, Pt.locs, Pt.cells, Pt.slots] at X140 l140 y140 z140 st140 hQ140
        replace X140 := own_num (c' := 4) (n' := 35) X140 l140 (y140.trans rfl) (z140.trans rfl)
        obtain ⟨rfl, N140q, K140q, c140_0, c140_1, c140_2, c140_3, c140_4⟩ := hQ140
        have N140 := Fr.app N137 N140q
        have Z140 : n0 ≤ T140.heap.size := Nat.le_trans Z137 K140q.1
        have K140 : Keep h0 T140.heap [] := K137.trans K140q (allS (P := fun x => x ∈ [] ∨ h0.size ≤ x) (Or.inr z136) all0)
        refine own_tr st140 ?_
        show OwnGo p e below s _ _ _ (T140.setTop (mkF m 353 #[.val (.int vv), .val (.int sel), .val (.int fil), .val (.int kk), .val (.int (((sel.toUInt32 >>> ((2 : Int32) &&& 31).toUInt32).toInt32) &&& (3 : Int32))), .val (.int (2 : Int32)), .val (.int st), .val (.int (fil.toInt8.toInt32)), .val (.ref b76), .val (.int ((st + (1 : Int32)) + (kk * (2 : Int32)))), .val (.int (2147483647 : Int32)), .val (.int (vv.toInt16.toInt32))] [(.ref b133)]))
        have hf1 : ((own_upd (own_upd (own_upd (own_fl 24 (nar .byte (fil.toInt8.toInt32))) sN (nar .byte ((2 : Int32).toInt8.toInt32))) (sN + 1 + kN * 2) (nar .byte (((vv.toUInt32 >>> ((8 : Int32) &&& 31).toUInt32).toInt32).toInt8.toInt32))) ((sN + 1 + kN * 2) + 1) (nar .byte (vv.toInt8.toInt32))) sN) = (2 : Int32) := by rw [own_miss _ _ _ (by omega), own_miss _ _ _ (by omega), own_hit]; decide
        rw [hf1] at c140_2
        rw [hf1, show own_none 2 = (32767 : Int32) from by decide] at c140_4
        have hP16 : (sN + 1 + kN * 2) ≤ 16 := by omega
        refine own_on (fun t k => XS.astore X140.here hx rfl (hb hby at_353) rfl rfl (l' := #[.val (.int vv), .val (.int sel), .val (.int fil), .val (.int kk), .val (.int (((sel.toUInt32 >>> ((2 : Int32) &&& 31).toUInt32).toInt32) &&& (3 : Int32))), .val (.int (2 : Int32)), .val (.int st), .val (.int (fil.toInt8.toInt32)), .val (.ref b76), .val (.int ((st + (1 : Int32)) + (kk * (2 : Int32)))), .val (.int (2147483647 : Int32)), .val (.ref b133)]) rfl k) ?_
        show OwnGo p e below s _ _ _ (T140.setTop (mkF m 355 #[.val (.int vv), .val (.int sel), .val (.int fil), .val (.int kk), .val (.int (((sel.toUInt32 >>> ((2 : Int32) &&& 31).toUInt32).toInt32) &&& (3 : Int32))), .val (.int (2 : Int32)), .val (.int st), .val (.int (fil.toInt8.toInt32)), .val (.ref b76), .val (.int ((st + (1 : Int32)) + (kk * (2 : Int32)))), .val (.int (2147483647 : Int32)), .val (.ref b133)] []))
        refine own_on (fun t k => XS.aload X140.here hx rfl (hb hby at_355) rfl rfl k) ?_
        show OwnGo p e below s _ _ _ (T140.setTop (mkF m 357 #[.val (.int vv), .val (.int sel), .val (.int fil), .val (.int kk), .val (.int (((sel.toUInt32 >>> ((2 : Int32) &&& 31).toUInt32).toInt32) &&& (3 : Int32))), .val (.int (2 : Int32)), .val (.int st), .val (.int (fil.toInt8.toInt32)), .val (.ref b76), .val (.int ((st + (1 : Int32)) + (kk * (2 : Int32)))), .val (.int (2147483647 : Int32)), .val (.ref b133)] [(.ref b133)]))
        refine own_on (fun t k => XS.iloadN X140.here hx rfl (hb hby at_357) rfl k) ?_
        show OwnGo p e below s _ _ _ (T140.setTop (mkF m 358 #[.val (.int vv), .val (.int sel), .val (.int fil), .val (.int kk), .val (.int (((sel.toUInt32 >>> ((2 : Int32) &&& 31).toUInt32).toInt32) &&& (3 : Int32))), .val (.int (2 : Int32)), .val (.int st), .val (.int (fil.toInt8.toInt32)), .val (.ref b76), .val (.int ((st + (1 : Int32)) + (kk * (2 : Int32)))), .val (.int (2147483647 : Int32)), .val (.ref b133)] [(.int kk), (.ref b133)]))
        have f141 : OwnArf Z T140.heap b76 .byte 24 (own_upd (own_upd (own_upd (own_fl 24 (nar .byte (fil.toInt8.toInt32))) sN (nar .byte ((2 : Int32).toInt8.toInt32))) (sN + 1 + kN * 2) (nar .byte (((vv.toUInt32 >>> ((8 : Int32) &&& 31).toUInt32).toInt32).toInt8.toInt32))) ((sN + 1 + kN * 2) + 1) (nar .byte (vv.toInt8.toInt32))) := f139.keep K140q (ninS ne134 nin0)
        obtain ⟨cq142, kq142, q142a, q142b, q142c⟩ := isOf hZ rfl c140_0
        obtain ⟨_, _, ⟨T142, L142, k142, n142⟩, -, X142, ⟨Lc142, hQ142, l142, y142, z142⟩, st142⟩ := X140.virtualBack hx (y := (⟨"org/tempochart/zone/PackedZone", "entry", "(I)I"⟩ : MethodName)) (z := (⟨"org/tempochart/zone/PackedZone", "entry", "(I)I"⟩ : MethodName)) hown (mvT hZ (w33 hw)) (mvT hZ (w34 hw)) (notFace_of_selects (args := #[]) (mvT hZ (w36 hw))) (mvT hZ (w36 hw)) (mvT hZ (w35 hw)) (by decide) (backOf (W := 0) (rmen2 l Z a0 hw [] b133 kk b76 (st + (1 : Int32)) (own_upd (own_upd (own_upd (own_fl 24 (nar .byte (fil.toInt8.toInt32))) sN (nar .byte ((2 : Int32).toInt8.toInt32))) (sN + 1 + kN * 2) (nar .byte (((vv.toUInt32 >>> ((8 : Int32) &&& 31).toUInt32).toInt32).toInt8.toInt32))) ((sN + 1 + kN * 2) + 1) (nar .byte (vv.toInt8.toInt32))) (sN + 1 + kN * 2) T140.heap n0 Z140 c140_0 c140_1 c140_2 c140_3 c140_4 f141 hP hP16) hZ (w37 hw) (w3 hw) (by decide) (by decide)) q142a q142c (g := (mkF m 358 #[.val (.int vv), .val (.int sel), .val (.int fil), .val (.int kk), .val (.int (((sel.toUInt32 >>> ((2 : Int32) &&& 31).toUInt32).toInt32) &&& (3 : Int32))), .val (.int (2 : Int32)), .val (.int st), .val (.int (fil.toInt8.toInt32)), .val (.ref b76), .val (.int ((st + (1 : Int32)) + (kk * (2 : Int32)))), .val (.int (2147483647 : Int32)), .val (.ref b133)] [(.int kk), (.ref b133)])) rfl (by rw [hml]; rfl) (Steps.refl _) (argsL := [(.int kk)]) (rest := []) (lenOf pd_0 rfl) rfl (by show 2 * 0 + _ ≤ _; exact Nat.le_of_eq rfl) (hb hby at_358) (fun _ _ => ⟨rfl, rfl, (by decide : 4 + 0 ≤ _), (by decide : 35 + 0 ≤ _)⟩)
        dsimp only [Pt.U, Pt.locs, Pt.cells, Pt.slots] at X142 l142 y142 z142 st142 hQ142
        replace X142 := own_num (c' := 4) (n' := 35) X142 l142 (y142.trans rfl) (z142.trans rfl)
        obtain ⟨rfl, N142q, e142⟩ := hQ142
        have N142 := Fr.app N140 N142q
        refine own_tr st142 ?_
        show OwnGo p e below s _ _ _ (T142.setTop (mkF m 361 #[.val (.int vv), .val (.int sel), .val (.int fil), .val (.int kk), .val (.int (((sel.toUInt32 >>> ((2 : Int32) &&& 31).toUInt32).toInt32) &&& (3 : Int32))), .val (.int (2 : Int32)), .val (.int st), .val (.int (fil.toInt8.toInt32)), .val (.ref b76), .val (.int ((st + (1 : Int32)) + (kk * (2 : Int32)))), .val (.int (2147483647 : Int32)), .val (.ref b133)] [(.int (own_r 32767 ((((own_upd (own_upd (own_upd (own_fl 24 (nar .byte (fil.toInt8.toInt32))) sN (nar .byte ((2 : Int32).toInt8.toInt32))) (sN + 1 + kN * 2) (nar .byte (((vv.toUInt32 >>> ((8 : Int32) &&& 31).toUInt32).toInt32).toInt8.toInt32))) ((sN + 1 + kN * 2) + 1) (nar .byte (vv.toInt8.toInt32))) (sN + 1 + kN * 2)) <<< ((8 : Int32) &&& 31)) ||| (((own_upd (own_upd (own_upd (own_fl 24 (nar .byte (fil.toInt8.toInt32))) sN (nar .byte ((2 : Int32).toInt8.toInt32))) (sN + 1 + kN * 2) (nar .byte (((vv.toUInt32 >>> ((8 : Int32) &&& 31).toUInt32).toInt32).toInt8.toInt32))) ((sN + 1 + kN * 2) + 1) (nar .byte (vv.toInt8.toInt32))) ((sN + 1 + kN * 2) + 1)) &&& (255 : Int32)))))]))
        refine own_on (fun t k => XS.iload X142.here hx rfl (hb hby at_361) rfl k) ?_
        show OwnGo p e below s _ _ _ (T142.setTop (mkF m 363 #[.val (.int vv), .val (.int sel), .val (.int fil), .val (.int kk), .val (.int (((sel.toUInt32 >>> ((2 : Int32) &&& 31).toUInt32).toInt32) &&& (3 : Int32))), .val (.int (2 : Int32)), .val (.int st), .val (.int (fil.toInt8.toInt32)), .val (.ref b76), .val (.int ((st + (1 : Int32)) + (kk * (2 : Int32)))), .val (.int (2147483647 : Int32)), .val (.ref b133)] [(.int (2147483647 : Int32)), (.int (own_r 32767 ((((own_upd (own_upd (own_upd (own_fl 24 (nar .byte (fil.toInt8.toInt32))) sN (nar .byte ((2 : Int32).toInt8.toInt32))) (sN + 1 + kN * 2) (nar .byte (((vv.toUInt32 >>> ((8 : Int32) &&& 31).toUInt32).toInt32).toInt8.toInt32))) ((sN + 1 + kN * 2) + 1) (nar .byte (vv.toInt8.toInt32))) (sN + 1 + kN * 2)) <<< ((8 : Int32) &&& 31)) ||| (((own_upd (own_upd (own_upd (own_fl 24 (nar .byte (fil.toInt8.toInt32))) sN (nar .byte ((2 : Int32).toInt8.toInt32))) (sN + 1 + kN * 2) (nar .byte (((vv.toUInt32 >>> ((8 : Int32) &&& 31).toUInt32).toInt32).toInt8.toInt32))) ((sN + 1 + kN * 2) + 1) (nar .byte (vv.toInt8.toInt32))) ((sN + 1 + kN * 2) + 1)) &&& (255 : Int32)))))]))
        refine own_on (fun t k => XS.icmpNo X142.here hx rfl (hb hby at_363) rfl (teq (by
                    rw [show (own_upd (own_upd (own_upd (own_fl 24 (nar .byte (fil.toInt8.toInt32))) sN (nar .byte ((2 : Int32).toInt8.toInt32))) (sN + 1 + kN * 2) (nar .byte (((vv.toUInt32 >>> ((8 : Int32) &&& 31).toUInt32).toInt32).toInt8.toInt32))) ((sN + 1 + kN * 2) + 1) (nar .byte (vv.toInt8.toInt32))) (sN + 1 + kN * 2) = _ from (by rw [own_miss _ _ _ (by omega), own_hit]), show (own_upd (own_upd (own_upd (own_fl 24 (nar .byte (fil.toInt8.toInt32))) sN (nar .byte ((2 : Int32).toInt8.toInt32))) (sN + 1 + kN * 2) (nar .byte (((vv.toUInt32 >>> ((8 : Int32) &&& 31).toUInt32).toInt32).toInt8.toInt32))) ((sN + 1 + kN * 2) + 1) (nar .byte (vv.toInt8.toInt32))) ((sN + 1 + kN * 2) + 1) = _ from (by rw [own_hit])]
                    simp only [own_nb]
                    rw [own_w2]
                    simp [own_r, qe] : (own_r 32767 ((((own_upd (own_upd (own_upd (own_fl 24 (nar .byte (fil.toInt8.toInt32))) sN (nar .byte ((2 : Int32).toInt8.toInt32))) (sN + 1 + kN * 2) (nar .byte (((vv.toUInt32 >>> ((8 : Int32) &&& 31).toUInt32).toInt32).toInt8.toInt32))) ((sN + 1 + kN * 2) + 1) (nar .byte (vv.toInt8.toInt32))) (sN + 1 + kN * 2)) <<< ((8 : Int32) &&& 31)) ||| (((own_upd (own_upd (own_upd (own_fl 24 (nar .byte (fil.toInt8.toInt32))) sN (nar .byte ((2 : Int32).toInt8.toInt32))) (sN + 1 + kN * 2) (nar .byte (((vv.toUInt32 >>> ((8 : Int32) &&& 31).toUInt32).toInt32).toInt8.toInt32))) ((sN + 1 + kN * 2) + 1) (nar .byte (vv.toInt8.toInt32))) ((sN + 1 + kN * 2) + 1)) &&& (255 : Int32)))) = (2147483647 : Int32))).2 k) ?_
        show OwnGo p e below s _ _ _ (T142.setTop (mkF m 366 #[.val (.int vv), .val (.int sel), .val (.int fil), .val (.int kk), .val (.int (((sel.toUInt32 >>> ((2 : Int32) &&& 31).toUInt32).toInt32) &&& (3 : Int32))), .val (.int (2 : Int32)), .val (.int st), .val (.int (fil.toInt8.toInt32)), .val (.ref b76), .val (.int ((st + (1 : Int32)) + (kk * (2 : Int32)))), .val (.int (2147483647 : Int32)), .val (.ref b133)] []))
        refine own_on (fun t k => XS.iconst X142.here hx rfl (hb hby at_366) k) ?_
        show OwnGo p e below s _ _ _ (T142.setTop (mkF m 367 #[.val (.int vv), .val (.int sel), .val (.int fil), .val (.int kk), .val (.int (((sel.toUInt32 >>> ((2 : Int32) &&& 31).toUInt32).toInt32) &&& (3 : Int32))), .val (.int (2 : Int32)), .val (.int st), .val (.int (fil.toInt8.toInt32)), .val (.ref b76), .val (.int ((st + (1 : Int32)) + (kk * (2 : Int32)))), .val (.int (2147483647 : Int32)), .val (.ref b133)] [(.int (1 : Int32))]))
        refine own_on (fun t k => XS.goto X142.here hx rfl (pc0 := 367) (pc' := 371) rfl (hb hby at_367) (by decide) (by decide) k) ?_
        show OwnGo p e below s _ _ _ (T142.setTop (mkF m 371 #[.val (.int vv), .val (.int sel), .val (.int fil), .val (.int kk), .val (.int (((sel.toUInt32 >>> ((2 : Int32) &&& 31).toUInt32).toInt32) &&& (3 : Int32))), .val (.int (2 : Int32)), .val (.int st), .val (.int (fil.toInt8.toInt32)), .val (.ref b76), .val (.int ((st + (1 : Int32)) + (kk * (2 : Int32)))), .val (.int (2147483647 : Int32)), .val (.ref b133)] [(.int (1 : Int32))]))
        exact own_retN X142 hx hlk (t := .boolean) Bd.returns (by simp) (hb hby at_371) e142 ⟨rfl, N142, K140⟩ (by decide) (by decide)
      · refine own_on (fun t k => XS.icmpYes X132.here hx rfl (pc0 := 277) (pc' := 285) rfl (hb hby at_277) rfl (feq qe).2 (by decide) (by decide) k) ?_
        show OwnGo p e below s _ _ _ (T132.setTop (mkF m 285 #[.val (.int vv), .val (.int sel), .val (.int fil), .val (.int kk), .val (.int (((sel.toUInt32 >>> ((2 : Int32) &&& 31).toUInt32).toInt32) &&& (3 : Int32))), .val (.int (2 : Int32)), .val (.int st), .val (.int (fil.toInt8.toInt32)), .val (.ref b76), .val (.int ((st + (1 : Int32)) + (kk * (2 : Int32)))), .unset, .val (.int (vv.toInt16.toInt32))] []))
        refine own_on (fun t k => XS.iload X132.here hx rfl (hb hby at_285) rfl k) ?_
        show OwnGo p e below s _ _ _ (T132.setTop (mkF m 287 #[.val (.int vv), .val (.int sel), .val (.int fil), .val (.int kk), .val (.int (((sel.toUInt32 >>> ((2 : Int32) &&& 31).toUInt32).toInt32) &&& (3 : Int32))), .val (.int (2 : Int32)), .val (.int st), .val (.int (fil.toInt8.toInt32)), .val (.ref b76), .val (.int ((st + (1 : Int32)) + (kk * (2 : Int32)))), .unset, .val (.int (vv.toInt16.toInt32))] [(.int (vv.toInt16.toInt32))]))
        refine own_on (fun t k => XS.istore X132.here hx rfl (hb hby at_287) rfl (l' := #[.val (.int vv), .val (.int sel), .val (.int fil), .val (.int kk), .val (.int (((sel.toUInt32 >>> ((2 : Int32) &&& 31).toUInt32).toInt32) &&& (3 : Int32))), .val (.int (2 : Int32)), .val (.int st), .val (.int (fil.toInt8.toInt32)), .val (.ref b76), .val (.int ((st + (1 : Int32)) + (kk * (2 : Int32)))), .val (.int (vv.toInt16.toInt32)), .val (.int (vv.toInt16.toInt32))]) rfl k) ?_
        show OwnGo p e below s _ _ _ (T132.setTop (mkF m 289 #[.val (.int vv), .val (.int sel), .val (.int fil), .val (.int kk), .val (.int (((sel.toUInt32 >>> ((2 : Int32) &&& 31).toUInt32).toInt32) &&& (3 : Int32))), .val (.int (2 : Int32)), .val (.int st), .val (.int (fil.toInt8.toInt32)), .val (.ref b76), .val (.int ((st + (1 : Int32)) + (kk * (2 : Int32)))), .val (.int (vv.toInt16.toInt32)), .val (.int (vv.toInt16.toInt32))] []))
        refine own_on (fun t k => XS.goto X132.here hx rfl (pc0 := 289) (pc' := 338) rfl (hb hby at_289) (by decide) (by decide) k) ?_
        show OwnGo p e below s _ _ _ (T132.setTop (mkF m 338 #[.val (.int vv), .val (.int sel), .val (.int fil), .val (.int kk), .val (.int (((sel.toUInt32 >>> ((2 : Int32) &&& 31).toUInt32).toInt32) &&& (3 : Int32))), .val (.int (2 : Int32)), .val (.int st), .val (.int (fil.toInt8.toInt32)), .val (.ref b76), .val (.int ((st + (1 : Int32)) + (kk * (2 : Int32)))), .val (.int (vv.toInt16.toInt32)), .val (.int (vv.toInt16.toInt32))] []))
        obtain ⟨T143, h143, X143, e143, E143, A143, D143, u143, st143⟩ := newO X132 hx hZ hown (w1 hw) (w2 hw) (w3 hw) e132 (g := (mkF m 338 #[.val (.int vv), .val (.int sel), .val (.int fil), .val (.int kk), .val (.int (((sel.toUInt32 >>> ((2 : Int32) &&& 31).toUInt32).toInt32) &&& (3 : Int32))), .val (.int (2 : Int32)), .val (.int st), .val (.int (fil.toInt8.toInt32)), .val (.ref b76), .val (.int ((st + (1 : Int32)) + (kk * (2 : Int32)))), .val (.int (vv.toInt16.toInt32)), .val (.int (vv.toInt16.toInt32))] [])) rfl (hb hby at_338) (by decide) (by decide)
        obtain ⟨b143, g143⟩ : ∃ z, z = h132.size := ⟨_, rfl⟩
        rw [← g143] at A143 D143 st143
        have ne144 : b76 ≠ b143 := Nat.ne_of_lt (Nat.lt_of_lt_of_le V132.lt (Nat.le_of_eq g143.symm))
        have g145 : n0 ≤ b143 := Nat.le_trans Z132 (Nat.le_of_eq g143.symm)
        have z146 : h0.size ≤ b143 := Nat.le_trans K132.1 (Nat.le_of_eq g143.symm)
        have Z143 : n0 ≤ h143.size := Nat.le_trans Z132 E143.1
        have K143 : Keep h0 h143 [] := K132.ext E143
        have F143_failedRow : Fld Z h143 b143 "org/tempochart/zone/PackedZone" "failedRow" "[I" .null := D143 (Or.inr (w12 hw)) (ty := (.array .int)) (by decide)
        have F143_failedColumn : Fld Z h143 b143 "org/tempochart/zone/PackedZone" "failedColumn" "[I" .null := D143 (Or.inr (w14 hw)) (ty := (.array .int)) (by decide)
        have F143_bytes : Fld Z h143 b143 "org/tempochart/zone/PackedZone" "bytes" "[B" .null := D143 (Or.inl (w21 hw)) (ty := (.array .byte)) (by decide)
        have F143_dimension : Fld Z h143 b143 "org/tempochart/zone/PackedZone" "dimension" "I" (.int (0 : Int32)) := D143 (Or.inl (w23 hw)) (ty := .int) (by decide)
        have F143_width : Fld Z h143 b143 "org/tempochart/zone/PackedZone" "width" "I" (.int (0 : Int32)) := D143 (Or.inl (w25 hw)) (ty := .int) (by decide)
        have F143_first : Fld Z h143 b143 "org/tempochart/zone/PackedZone" "first" "I" (.int (0 : Int32)) := D143 (Or.inl (w27 hw)) (ty := .int) (by decide)
        have F143_none : Fld Z h143 b143 "org/tempochart/zone/PackedZone" "none" "I" (.int (0 : Int32)) := D143 (Or.inl (w32 hw)) (ty := .int) (by decide)
        refine own_on st143 ?_
        show OwnGo p e below s _ _ _ (T143.setTop (mkF m 341 #[.val (.int vv), .val (.int sel), .val (.int fil), .val (.int kk), .val (.int (((sel.toUInt32 >>> ((2 : Int32) &&& 31).toUInt32).toInt32) &&& (3 : Int32))), .val (.int (2 : Int32)), .val (.int st), .val (.int (fil.toInt8.toInt32)), .val (.ref b76), .val (.int ((st + (1 : Int32)) + (kk * (2 : Int32)))), .val (.int (vv.toInt16.toInt32)), .val (.int (vv.toInt16.toInt32))] [(.ref b143)]))
        refine own_on (fun t k => XS.dup X143.here hx rfl (hb hby at_341) rfl rfl k) ?_
        show OwnGo p e below s _ _ _ (T143.setTop (mkF m 342 #[.val (.int vv), .val (.int sel), .val (.int fil), .val (.int kk), .val (.int (((sel.toUInt32 >>> ((2 : Int32) &&& 31).toUInt32).toInt32) &&& (3 : Int32))), .val (.int (2 : Int32)), .val (.int st), .val (.int (fil.toInt8.toInt32)), .val (.ref b76), .val (.int ((st + (1 : Int32)) + (kk * (2 : Int32)))), .val (.int (vv.toInt16.toInt32)), .val (.int (vv.toInt16.toInt32))] [(.ref b143), (.ref b143)]))
        obtain ⟨_, _, ⟨T147, L147, k147, n147⟩, -, X147, ⟨Lc147, hQ147, l147, y147, z147⟩, st147⟩ := X143.specialBack hx (y := (⟨"org/tempochart/zone/PackedZone", "<init>", "()V"⟩ : MethodName)) rfl hown (mvT hZ (w4 hw)) (mvT hZ (w5 hw)) (mvT hZ (w6 hw)) (by decide) (backOf (W := 1) (rm1 l Z a0 hw [] b143 .null (.int (0 : Int32)) (.int (0 : Int32)) (.int (0 : Int32)) (.int (0 : Int32)) .null .null h143 n0 Z143 A143 F143_failedRow F143_failedColumn g145 F143_bytes F143_dimension F143_width F143_first F143_none) hZ (w6 hw) (w3 hw) (by decide) (by decide)) (g := (mkF m 342 #[.val (.int vv), .val (.int sel), .val (.int fil), .val (.int kk), .val (.int (((sel.toUInt32 >>> ((2 : Int32) &&& 31).toUInt32).toInt32) &&& (3 : Int32))), .val (.int (2 : Int32)), .val (.int st), .val (.int (fil.toInt8.toInt32)), .val (.ref b76), .val (.int ((st + (1 : Int32)) + (kk * (2 : Int32)))), .val (.int (vv.toInt16.toInt32)), .val (.int (vv.toInt16.toInt32))] [(.ref b143), (.ref b143)])) rfl (by rw [hml]; rfl) (Steps.refl _) (a := b143) (argsL := []) (rest := [(.ref b143)]) (lenOf pd_1 rfl) rfl (by show 2 * 0 + _ ≤ _; exact Nat.le_of_eq rfl) (hb hby at_342) (fun _ _ => ⟨rfl, e143, (by decide : 2 + 2 ≤ _), (by decide : 31 + 4 ≤ _)⟩)
        dsimp only [Pt.U, Pt.locs, Pt.cells, Pt.slots] at X147 l147 y147 z147 st147 hQ147
        replace X147 := own_num (c' := 4) (n' := 35) X147 l147 (y147.trans rfl) (z147.trans rfl)
        obtain ⟨rfl, N147q, K147q, c147_0, c147_1, c147_2, c147_3, c147_4, c147_5⟩ := hQ147
        have N147 := Fr.app N132 N147q
        have Z147 : n0 ≤ T147.heap.size := Nat.le_trans Z143 K147q.1
        have K147 : Keep h0 T147.heap [] := K143.trans K147q (allS (P := fun x => x ∈ [] ∨ h0.size ≤ x) (Or.inr z146) all0)
        refine own_tr st147 ?_
        show OwnGo p e below s _ _ _ (T147.setTop (mkF m 345 #[.val (.int vv), .val (.int sel), .val (.int fil), .val (.int kk), .val (.int (((sel.toUInt32 >>> ((2 : Int32) &&& 31).toUInt32).toInt32) &&& (3 : Int32))), .val (.int (2 : Int32)), .val (.int st), .val (.int (fil.toInt8.toInt32)), .val (.ref b76), .val (.int ((st + (1 : Int32)) + (kk * (2 : Int32)))), .val (.int (vv.toInt16.toInt32)), .val (.int (vv.toInt16.toInt32))] [(.ref b143)]))
        refine own_on (fun t k => XS.aload X147.here hx rfl (hb hby at_345) rfl rfl k) ?_
        show OwnGo p e below s _ _ _ (T147.setTop (mkF m 347 #[.val (.int vv), .val (.int sel), .val (.int fil), .val (.int kk), .val (.int (((sel.toUInt32 >>> ((2 : Int32) &&& 31).toUInt32).toInt32) &&& (3 : Int32))), .val (.int (2 : Int32)), .val (.int st), .val (.int (fil.toInt8.toInt32)), .val (.ref b76), .val (.int ((st + (1 : Int32)) + (kk * (2 : Int32)))), .val (.int (vv.toInt16.toInt32)), .val (.int (vv.toInt16.toInt32))] [(.ref b76), (.ref b143)]))
        refine own_on (fun t k => XS.iload X147.here hx rfl (hb hby at_347) rfl k) ?_
        show OwnGo p e below s _ _ _ (T147.setTop (mkF m 349 #[.val (.int vv), .val (.int sel), .val (.int fil), .val (.int kk), .val (.int (((sel.toUInt32 >>> ((2 : Int32) &&& 31).toUInt32).toInt32) &&& (3 : Int32))), .val (.int (2 : Int32)), .val (.int st), .val (.int (fil.toInt8.toInt32)), .val (.ref b76), .val (.int ((st + (1 : Int32)) + (kk * (2 : Int32)))), .val (.int (vv.toInt16.toInt32)), .val (.int (vv.toInt16.toInt32))] [(.int st), (.ref b76), (.ref b143)]))
        refine own_on (fun t k => XS.iconst X147.here hx rfl (hb hby at_349) k) ?_
        show OwnGo p e below s _ _ _ (T147.setTop (mkF m 350 #[.val (.int vv), .val (.int sel), .val (.int fil), .val (.int kk), .val (.int (((sel.toUInt32 >>> ((2 : Int32) &&& 31).toUInt32).toInt32) &&& (3 : Int32))), .val (.int (2 : Int32)), .val (.int st), .val (.int (fil.toInt8.toInt32)), .val (.ref b76), .val (.int ((st + (1 : Int32)) + (kk * (2 : Int32)))), .val (.int (vv.toInt16.toInt32)), .val (.int (vv.toInt16.toInt32))] [(.int (2 : Int32)), (.int st), (.ref b76), (.ref b143)]))
        have f148 : OwnArf Z h143 b76 .byte 24 (own_upd (own_upd (own_upd (own_fl 24 (nar .byte (fil.toInt8.toInt32))) sN (nar .byte ((2 : Int32).toInt8.toInt32))) (sN + 1 + kN * 2) (nar .byte (((vv.toUInt32 >>> ((8 : Int32) &&& 31).toUInt32).toInt32).toInt8.toInt32))) ((sN + 1 + kN * 2) + 1) (nar .byte (vv.toInt8.toInt32))) := V132.ext E143
        have f149 : OwnArf Z T147.heap b76 .byte 24 (own_upd (own_upd (own_upd (own_fl 24 (nar .byte (fil.toInt8.toInt32))) sN (nar .byte ((2 : Int32).toInt8.toInt32))) (sN + 1 + kN * 2) (nar .byte (((vv.toUInt32 >>> ((8 : Int32) &&& 31).toUInt32).toInt32).toInt8.toInt32))) ((sN + 1 + kN * 2) + 1) (nar .byte (vv.toInt8.toInt32))) := f148.keep K147q (ninS ne144 nin0)
        obtain ⟨cq150, kq150, q150a, q150b, q150c⟩ := isOf hZ rfl c147_0
        obtain ⟨_, _, ⟨T150, L150, k150, n150⟩, -, X150, ⟨Lc150, hQ150, l150, y150, z150⟩, st150⟩ := X147.virtualBack hx (y := (⟨"org/tempochart/zone/PackedZone", "at", "([BII)Lorg/tempochart/zone/PackedZone;"⟩ : MethodName)) (z := (⟨"org/tempochart/zone/PackedZone", "at", "([BII)Lorg/tempochart/zone/PackedZone;"⟩ : MethodName)) hown (mvT hZ (w15 hw)) (mvT hZ (w16 hw)) (notFace_of_selects (args := #[]) (mvT hZ (w18 hw))) (mvT hZ (w18 hw)) (mvT hZ (w17 hw)) (by decide) (backOf (W := 0) (rm3 l Z a0 hw [] b143 b76 st (2 : Int32) .null (.int (0 : Int32)) (.int (0 : Int32)) (.int (0 : Int32)) (.int (0 : Int32)) (own_upd (own_upd (own_upd (own_fl 24 (nar .byte (fil.toInt8.toInt32))) sN (nar .byte ((2 : Int32).toInt8.toInt32))) (sN + 1 + kN * 2) (nar .byte (((vv.toUInt32 >>> ((8 : Int32) &&& 31).toUInt32).toInt32).toInt8.toInt32))) ((sN + 1 + kN * 2) + 1) (nar .byte (vv.toInt8.toInt32))) sN T147.heap n0 Z147 c147_0 c147_1 c147_2 c147_3 c147_4 c147_5 g145 f149 ne144 hS hS0) hZ (w19 hw) (w3 hw) (by decide) (by decide)) q150a q150c (g := (mkF m 350 #[.val (.int vv), .val (.int sel), .val (.int fil), .val (.int kk), .val (.int (((sel.toUInt32 >>> ((2 : Int32) &&& 31).toUInt32).toInt32) &&& (3 : Int32))), .val (.int (2 : Int32)), .val (.int st), .val (.int (fil.toInt8.toInt32)), .val (.ref b76), .val (.int ((st + (1 : Int32)) + (kk * (2 : Int32)))), .val (.int (vv.toInt16.toInt32)), .val (.int (vv.toInt16.toInt32))] [(.int (2 : Int32)), (.int st), (.ref b76), (.ref b143)])) rfl (by rw [hml]; rfl) (Steps.refl _) (argsL := [(.ref b76), (.int st), (.int (2 : Int32))]) (rest := []) (lenOf pd_2 rfl) rfl (by show 2 * 0 + _ ≤ _; exact Nat.le_of_eq rfl) (hb hby at_350) (fun _ _ => ⟨rfl, rfl, (by decide : 4 + 0 ≤ _), (by decide : 35 + 0 ≤ _)⟩)
        dsimp only [Pt.U, Pt.locs, Pt.cells, Pt.slots] at X150 l150 y150 z150 st150 hQ150
        replace X150 := own_num (c' := 4) (n' := 35) X150 l150 (y150.trans rfl) (z150.trans rfl)
        obtain ⟨rfl, N150q, K150q, c150_0, c150_1, c150_2, c150_3, c150_4⟩ := hQ150
        have N150 := Fr.app N147 N150q
        have Z150 : n0 ≤ T150.heap.size := Nat.le_trans Z147 K150q.1
        have K150 : Keep h0 T150.heap [] := K147.trans K150q (allS (P := fun x => x ∈ [] ∨ h0.size ≤ x) (Or.inr z146) all0)
        refine own_tr st150 ?_
        show OwnGo p e below s _ _ _ (T150.setTop (mkF m 353 #[.val (.int vv), .val (.int sel), .val (.int fil), .val (.int kk), .val (.int (((sel.toUInt32 >>> ((2 : Int32) &&& 31).toUInt32).toInt32) &&& (3 : Int32))), .val (.int (2 : Int32)), .val (.int st), .val (.int (fil.toInt8.toInt32)), .val (.ref b76), .val (.int ((st + (1 : Int32)) + (kk * (2 : Int32)))), .val (.int (vv.toInt16.toInt32)), .val (.int (vv.toInt16.toInt32))] [(.ref b143)]))
        have hf1 : ((own_upd (own_upd (own_upd (own_fl 24 (nar .byte (fil.toInt8.toInt32))) sN (nar .byte ((2 : Int32).toInt8.toInt32))) (sN + 1 + kN * 2) (nar .byte (((vv.toUInt32 >>> ((8 : Int32) &&& 31).toUInt32).toInt32).toInt8.toInt32))) ((sN + 1 + kN * 2) + 1) (nar .byte (vv.toInt8.toInt32))) sN) = (2 : Int32) := by rw [own_miss _ _ _ (by omega), own_miss _ _ _ (by omega), own_hit]; decide
        rw [hf1] at c150_2
        rw [hf1, show own_none 2 = (32767 : Int32) from by decide] at c150_4
        have hP16 : (sN + 1 + kN * 2) ≤ 16 := by omega
        refine own_on (fun t k => XS.astore X150.here hx rfl (hb hby at_353) rfl rfl (l' := #[.val (.int vv), .val (.int sel), .val (.int fil), .val (.int kk), .val (.int (((sel.toUInt32 >>> ((2 : Int32) &&& 31).toUInt32).toInt32) &&& (3 : Int32))), .val (.int (2 : Int32)), .val (.int st), .val (.int (fil.toInt8.toInt32)), .val (.ref b76), .val (.int ((st + (1 : Int32)) + (kk * (2 : Int32)))), .val (.int (vv.toInt16.toInt32)), .val (.ref b143)]) rfl k) ?_
        show OwnGo p e below s _ _ _ (T150.setTop (mkF m 355 #[.val (.int vv), .val (.int sel), .val (.int fil), .val (.int kk), .val (.int (((sel.toUInt32 >>> ((2 : Int32) &&& 31).toUInt32).toInt32) &&& (3 : Int32))), .val (.int (2 : Int32)), .val (.int st), .val (.int (fil.toInt8.toInt32)), .val (.ref b76), .val (.int ((st + (1 : Int32)) + (kk * (2 : Int32)))), .val (.int (vv.toInt16.toInt32)), .val (.ref b143)] []))
        refine own_on (fun t k => XS.aload X150.here hx rfl (hb hby at_355) rfl rfl k) ?_
        show OwnGo p e below s _ _ _ (T150.setTop (mkF m 357 #[.val (.int vv), .val (.int sel), .val (.int fil), .val (.int kk), .val (.int (((sel.toUInt32 >>> ((2 : Int32) &&& 31).toUInt32).toInt32) &&& (3 : Int32))), .val (.int (2 : Int32)), .val (.int st), .val (.int (fil.toInt8.toInt32)), .val (.ref b76), .val (.int ((st + (1 : Int32)) + (kk * (2 : Int32)))), .val (.int (vv.toInt16.toInt32)), .val (.ref b143)] [(.ref b143)]))
        refine own_on (fun t k => XS.iloadN X150.here hx rfl (hb hby at_357) rfl k) ?_
        show OwnGo p e below s _ _ _ (T150.setTop (mkF m 358 #[.val (.int vv), .val (.int sel), .val (.int fil), .val (.int kk), .val (.int (((sel.toUInt32 >>> ((2 : Int32) &&& 31).toUInt32).toInt32) &&& (3 : Int32))), .val (.int (2 : Int32)), .val (.int st), .val (.int (fil.toInt8.toInt32)), .val (.ref b76), .val (.int ((st + (1 : Int32)) + (kk * (2 : Int32)))), .val (.int (vv.toInt16.toInt32)), .val (.ref b143)] [(.int kk), (.ref b143)]))
        have f151 : OwnArf Z T150.heap b76 .byte 24 (own_upd (own_upd (own_upd (own_fl 24 (nar .byte (fil.toInt8.toInt32))) sN (nar .byte ((2 : Int32).toInt8.toInt32))) (sN + 1 + kN * 2) (nar .byte (((vv.toUInt32 >>> ((8 : Int32) &&& 31).toUInt32).toInt32).toInt8.toInt32))) ((sN + 1 + kN * 2) + 1) (nar .byte (vv.toInt8.toInt32))) := f149.keep K150q (ninS ne144 nin0)
        obtain ⟨cq152, kq152, q152a, q152b, q152c⟩ := isOf hZ rfl c150_0
        obtain ⟨_, _, ⟨T152, L152, k152, n152⟩, -, X152, ⟨Lc152, hQ152, l152, y152, z152⟩, st152⟩ := X150.virtualBack hx (y := (⟨"org/tempochart/zone/PackedZone", "entry", "(I)I"⟩ : MethodName)) (z := (⟨"org/tempochart/zone/PackedZone", "entry", "(I)I"⟩ : MethodName)) hown (mvT hZ (w33 hw)) (mvT hZ (w34 hw)) (notFace_of_selects (args := #[]) (mvT hZ (w36 hw))) (mvT hZ (w36 hw)) (mvT hZ (w35 hw)) (by decide) (backOf (W := 0) (rmen2 l Z a0 hw [] b143 kk b76 (st + (1 : Int32)) (own_upd (own_upd (own_upd (own_fl 24 (nar .byte (fil.toInt8.toInt32))) sN (nar .byte ((2 : Int32).toInt8.toInt32))) (sN + 1 + kN * 2) (nar .byte (((vv.toUInt32 >>> ((8 : Int32) &&& 31).toUInt32).toInt32).toInt8.toInt32))) ((sN + 1 + kN * 2) + 1) (nar .byte (vv.toInt8.toInt32))) (sN + 1 + kN * 2) T150.heap n0 Z150 c150_0 c150_1 c150_2 c150_3 c150_4 f151 hP hP16) hZ (w37 hw) (w3 hw) (by decide) (by decide)) q152a q152c (g := (mkF m 358 #[.val (.int vv), .val (.int sel), .val (.int fil), .val (.int kk), .val (.int (((sel.toUInt32 >>> ((2 : Int32) &&& 31).toUInt32).toInt32) &&& (3 : Int32))), .val (.int (2 : Int32)), .val (.int st), .val (.int (fil.toInt8.toInt32)), .val (.ref b76), .val (.int ((st + (1 : Int32)) + (kk * (2 : Int32)))), .val (.int (vv.toInt16.toInt32)), .val (.ref b143)] [(.int kk), (.ref b143)])) rfl (by rw [hml]; rfl) (Steps.refl _) (argsL := [(.int kk)]) (rest := []) (lenOf pd_0 rfl) rfl (by show 2 * 0 + _ ≤ _; exact Nat.le_of_eq rfl) (hb hby at_358) (fun _ _ => ⟨rfl, rfl, (by decide : 4 + 0 ≤ _), (by decide : 35 + 0 ≤ _)⟩)
        dsimp only [Pt.U, Pt.locs, Pt.cells, Pt.slots] at X152 l152 y152 z152 st152 hQ152
        replace X152 := own_num (c' := 4) (n' := 35) X152 l152 (y152.trans rfl) (z152.trans rfl)
        obtain ⟨rfl, N152q, e152⟩ := hQ152
        have N152 := Fr.app N150 N152q
        refine own_tr st152 ?_
        show OwnGo p e below s _ _ _ (T152.setTop (mkF m 361 #[.val (.int vv), .val (.int sel), .val (.int fil), .val (.int kk), .val (.int (((sel.toUInt32 >>> ((2 : Int32) &&& 31).toUInt32).toInt32) &&& (3 : Int32))), .val (.int (2 : Int32)), .val (.int st), .val (.int (fil.toInt8.toInt32)), .val (.ref b76), .val (.int ((st + (1 : Int32)) + (kk * (2 : Int32)))), .val (.int (vv.toInt16.toInt32)), .val (.ref b143)] [(.int (own_r 32767 ((((own_upd (own_upd (own_upd (own_fl 24 (nar .byte (fil.toInt8.toInt32))) sN (nar .byte ((2 : Int32).toInt8.toInt32))) (sN + 1 + kN * 2) (nar .byte (((vv.toUInt32 >>> ((8 : Int32) &&& 31).toUInt32).toInt32).toInt8.toInt32))) ((sN + 1 + kN * 2) + 1) (nar .byte (vv.toInt8.toInt32))) (sN + 1 + kN * 2)) <<< ((8 : Int32) &&& 31)) ||| (((own_upd (own_upd (own_upd (own_fl 24 (nar .byte (fil.toInt8.toInt32))) sN (nar .byte ((2 : Int32).toInt8.toInt32))) (sN + 1 + kN * 2) (nar .byte (((vv.toUInt32 >>> ((8 : Int32) &&& 31).toUInt32).toInt32).toInt8.toInt32))) ((sN + 1 + kN * 2) + 1) (nar .byte (vv.toInt8.toInt32))) ((sN + 1 + kN * 2) + 1)) &&& (255 : Int32)))))]))
        refine own_on (fun t k => XS.iload X152.here hx rfl (hb hby at_361) rfl k) ?_
        show OwnGo p e below s _ _ _ (T152.setTop (mkF m 363 #[.val (.int vv), .val (.int sel), .val (.int fil), .val (.int kk), .val (.int (((sel.toUInt32 >>> ((2 : Int32) &&& 31).toUInt32).toInt32) &&& (3 : Int32))), .val (.int (2 : Int32)), .val (.int st), .val (.int (fil.toInt8.toInt32)), .val (.ref b76), .val (.int ((st + (1 : Int32)) + (kk * (2 : Int32)))), .val (.int (vv.toInt16.toInt32)), .val (.ref b143)] [(.int (vv.toInt16.toInt32)), (.int (own_r 32767 ((((own_upd (own_upd (own_upd (own_fl 24 (nar .byte (fil.toInt8.toInt32))) sN (nar .byte ((2 : Int32).toInt8.toInt32))) (sN + 1 + kN * 2) (nar .byte (((vv.toUInt32 >>> ((8 : Int32) &&& 31).toUInt32).toInt32).toInt8.toInt32))) ((sN + 1 + kN * 2) + 1) (nar .byte (vv.toInt8.toInt32))) (sN + 1 + kN * 2)) <<< ((8 : Int32) &&& 31)) ||| (((own_upd (own_upd (own_upd (own_fl 24 (nar .byte (fil.toInt8.toInt32))) sN (nar .byte ((2 : Int32).toInt8.toInt32))) (sN + 1 + kN * 2) (nar .byte (((vv.toUInt32 >>> ((8 : Int32) &&& 31).toUInt32).toInt32).toInt8.toInt32))) ((sN + 1 + kN * 2) + 1) (nar .byte (vv.toInt8.toInt32))) ((sN + 1 + kN * 2) + 1)) &&& (255 : Int32)))))]))
        refine own_on (fun t k => XS.icmpNo X152.here hx rfl (hb hby at_363) rfl (teq (by
                    rw [show (own_upd (own_upd (own_upd (own_fl 24 (nar .byte (fil.toInt8.toInt32))) sN (nar .byte ((2 : Int32).toInt8.toInt32))) (sN + 1 + kN * 2) (nar .byte (((vv.toUInt32 >>> ((8 : Int32) &&& 31).toUInt32).toInt32).toInt8.toInt32))) ((sN + 1 + kN * 2) + 1) (nar .byte (vv.toInt8.toInt32))) (sN + 1 + kN * 2) = _ from (by rw [own_miss _ _ _ (by omega), own_hit]), show (own_upd (own_upd (own_upd (own_fl 24 (nar .byte (fil.toInt8.toInt32))) sN (nar .byte ((2 : Int32).toInt8.toInt32))) (sN + 1 + kN * 2) (nar .byte (((vv.toUInt32 >>> ((8 : Int32) &&& 31).toUInt32).toInt32).toInt8.toInt32))) ((sN + 1 + kN * 2) + 1) (nar .byte (vv.toInt8.toInt32))) ((sN + 1 + kN * 2) + 1) = _ from (by rw [own_hit])]
                    simp only [own_nb]
                    rw [own_w2]
                    simp [own_r, qe] : (own_r 32767 ((((own_upd (own_upd (own_upd (own_fl 24 (nar .byte (fil.toInt8.toInt32))) sN (nar .byte ((2 : Int32).toInt8.toInt32))) (sN + 1 + kN * 2) (nar .byte (((vv.toUInt32 >>> ((8 : Int32) &&& 31).toUInt32).toInt32).toInt8.toInt32))) ((sN + 1 + kN * 2) + 1) (nar .byte (vv.toInt8.toInt32))) (sN + 1 + kN * 2)) <<< ((8 : Int32) &&& 31)) ||| (((own_upd (own_upd (own_upd (own_fl 24 (nar .byte (fil.toInt8.toInt32))) sN (nar .byte ((2 : Int32).toInt8.toInt32))) (sN + 1 + kN * 2) (nar .byte (((vv.toUInt32 >>> ((8 : Int32) &&& 31).toUInt32).toInt32).toInt8.toInt32))) ((sN + 1 + kN * 2) + 1) (nar .byte (vv.toInt8.toInt32))) ((sN + 1 + kN * 2) + 1)) &&& (255 : Int32)))) = (vv.toInt16.toInt32))).2 k) ?_
        show OwnGo p e below s _ _ _ (T152.setTop (mkF m 366 #[.val (.int vv), .val (.int sel), .val (.int fil), .val (.int kk), .val (.int (((sel.toUInt32 >>> ((2 : Int32) &&& 31).toUInt32).toInt32) &&& (3 : Int32))), .val (.int (2 : Int32)), .val (.int st), .val (.int (fil.toInt8.toInt32)), .val (.ref b76), .val (.int ((st + (1 : Int32)) + (kk * (2 : Int32)))), .val (.int (vv.toInt16.toInt32)), .val (.ref b143)] []))
        refine own_on (fun t k => XS.iconst X152.here hx rfl (hb hby at_366) k) ?_
        show OwnGo p e below s _ _ _ (T152.setTop (mkF m 367 #[.val (.int vv), .val (.int sel), .val (.int fil), .val (.int kk), .val (.int (((sel.toUInt32 >>> ((2 : Int32) &&& 31).toUInt32).toInt32) &&& (3 : Int32))), .val (.int (2 : Int32)), .val (.int st), .val (.int (fil.toInt8.toInt32)), .val (.ref b76), .val (.int ((st + (1 : Int32)) + (kk * (2 : Int32)))), .val (.int (vv.toInt16.toInt32)), .val (.ref b143)] [(.int (1 : Int32))]))
        refine own_on (fun t k => XS.goto X152.here hx rfl (pc0 := 367) (pc' := 371) rfl (hb hby at_367) (by decide) (by decide) k) ?_
        show OwnGo p e below s _ _ _ (T152.setTop (mkF m 371 #[.val (.int vv), .val (.int sel), .val (.int fil), .val (.int kk), .val (.int (((sel.toUInt32 >>> ((2 : Int32) &&& 31).toUInt32).toInt32) &&& (3 : Int32))), .val (.int (2 : Int32)), .val (.int st), .val (.int (fil.toInt8.toInt32)), .val (.ref b76), .val (.int ((st + (1 : Int32)) + (kk * (2 : Int32)))), .val (.int (vv.toInt16.toInt32)), .val (.ref b143)] [(.int (1 : Int32))]))
        exact own_retN X152 hx hlk (t := .boolean) Bd.returns (by simp) (hb hby at_371) e152 ⟨rfl, N152, K150⟩ (by decide) (by decide)
    · refine own_on (fun t k => XS.icmpYes X0.here hx rfl (pc0 := 23) (pc' := 30) rfl (hb hby at_23) rfl (feq q1).2 (by decide) (by decide) k) ?_
      show OwnGo p e below s _ _ _ (s₁.setTop (mkF m 30 #[.val (.int vv), .val (.int sel), .val (.int fil), .val (.int (sel &&& (3 : Int32))), .val (.int (((sel.toUInt32 >>> ((2 : Int32) &&& 31).toUInt32).toInt32) &&& (3 : Int32))), .unset, .unset, .unset, .unset, .unset, .unset, .unset] []))
      refine own_on (fun t k => XS.iconst X0.here hx rfl (hb hby at_30) k) ?_
      show OwnGo p e below s _ _ _ (s₁.setTop (mkF m 31 #[.val (.int vv), .val (.int sel), .val (.int fil), .val (.int (sel &&& (3 : Int32))), .val (.int (((sel.toUInt32 >>> ((2 : Int32) &&& 31).toUInt32).toInt32) &&& (3 : Int32))), .unset, .unset, .unset, .unset, .unset, .unset, .unset] [(.int (4 : Int32))]))
      refine own_on (fun t k => XS.istore X0.here hx rfl (hb hby at_31) rfl (l' := #[.val (.int vv), .val (.int sel), .val (.int fil), .val (.int (sel &&& (3 : Int32))), .val (.int (((sel.toUInt32 >>> ((2 : Int32) &&& 31).toUInt32).toInt32) &&& (3 : Int32))), .val (.int (4 : Int32)), .unset, .unset, .unset, .unset, .unset, .unset]) rfl k) ?_
      show OwnGo p e below s _ _ _ (s₁.setTop (mkF m 33 #[.val (.int vv), .val (.int sel), .val (.int fil), .val (.int (sel &&& (3 : Int32))), .val (.int (((sel.toUInt32 >>> ((2 : Int32) &&& 31).toUInt32).toInt32) &&& (3 : Int32))), .val (.int (4 : Int32)), .unset, .unset, .unset, .unset, .unset, .unset] []))
      refine own_on (fun t k => XS.iloadN X0.here hx rfl (hb hby at_33) rfl k) ?_
      show OwnGo p e below s _ _ _ (s₁.setTop (mkF m 34 #[.val (.int vv), .val (.int sel), .val (.int fil), .val (.int (sel &&& (3 : Int32))), .val (.int (((sel.toUInt32 >>> ((2 : Int32) &&& 31).toUInt32).toInt32) &&& (3 : Int32))), .val (.int (4 : Int32)), .unset, .unset, .unset, .unset, .unset, .unset] [(.int sel)]))
      refine own_on (fun t k => XS.iconst X0.here hx rfl (hb hby at_34) k) ?_
      show OwnGo p e below s _ _ _ (s₁.setTop (mkF m 35 #[.val (.int vv), .val (.int sel), .val (.int fil), .val (.int (sel &&& (3 : Int32))), .val (.int (((sel.toUInt32 >>> ((2 : Int32) &&& 31).toUInt32).toInt32) &&& (3 : Int32))), .val (.int (4 : Int32)), .unset, .unset, .unset, .unset, .unset, .unset] [(.int (4 : Int32)), (.int sel)]))
      refine own_on (fun t k => XS.iushr X0.here hx rfl (hb hby at_35) rfl k) ?_
      show OwnGo p e below s _ _ _ (s₁.setTop (mkF m 36 #[.val (.int vv), .val (.int sel), .val (.int fil), .val (.int (sel &&& (3 : Int32))), .val (.int (((sel.toUInt32 >>> ((2 : Int32) &&& 31).toUInt32).toInt32) &&& (3 : Int32))), .val (.int (4 : Int32)), .unset, .unset, .unset, .unset, .unset, .unset] [(.int ((sel.toUInt32 >>> ((4 : Int32) &&& 31).toUInt32).toInt32))]))
      refine own_on (fun t k => XS.iconst X0.here hx rfl (hb hby at_36) k) ?_
      show OwnGo p e below s _ _ _ (s₁.setTop (mkF m 37 #[.val (.int vv), .val (.int sel), .val (.int fil), .val (.int (sel &&& (3 : Int32))), .val (.int (((sel.toUInt32 >>> ((2 : Int32) &&& 31).toUInt32).toInt32) &&& (3 : Int32))), .val (.int (4 : Int32)), .unset, .unset, .unset, .unset, .unset, .unset] [(.int (3 : Int32)), (.int ((sel.toUInt32 >>> ((4 : Int32) &&& 31).toUInt32).toInt32))]))
      refine own_on (fun t k => XS.iand X0.here hx rfl (hb hby at_37) rfl k) ?_
      show OwnGo p e below s _ _ _ (s₁.setTop (mkF m 38 #[.val (.int vv), .val (.int sel), .val (.int fil), .val (.int (sel &&& (3 : Int32))), .val (.int (((sel.toUInt32 >>> ((2 : Int32) &&& 31).toUInt32).toInt32) &&& (3 : Int32))), .val (.int (4 : Int32)), .unset, .unset, .unset, .unset, .unset, .unset] [(.int (((sel.toUInt32 >>> ((4 : Int32) &&& 31).toUInt32).toInt32) &&& (3 : Int32)))]))
      refine own_on (fun t k => XS.istore X0.here hx rfl (hb hby at_38) rfl (l' := #[.val (.int vv), .val (.int sel), .val (.int fil), .val (.int (sel &&& (3 : Int32))), .val (.int (((sel.toUInt32 >>> ((2 : Int32) &&& 31).toUInt32).toInt32) &&& (3 : Int32))), .val (.int (4 : Int32)), .val (.int (((sel.toUInt32 >>> ((4 : Int32) &&& 31).toUInt32).toInt32) &&& (3 : Int32))), .unset, .unset, .unset, .unset, .unset]) rfl k) ?_
      show OwnGo p e below s _ _ _ (s₁.setTop (mkF m 40 #[.val (.int vv), .val (.int sel), .val (.int fil), .val (.int (sel &&& (3 : Int32))), .val (.int (((sel.toUInt32 >>> ((2 : Int32) &&& 31).toUInt32).toInt32) &&& (3 : Int32))), .val (.int (4 : Int32)), .val (.int (((sel.toUInt32 >>> ((4 : Int32) &&& 31).toUInt32).toInt32) &&& (3 : Int32))), .unset, .unset, .unset, .unset, .unset] []))
      obtain ⟨st, hst⟩ : ∃ z : Int32, z = (((sel.toUInt32 >>> ((4 : Int32) &&& 31).toUInt32).toInt32) &&& (3 : Int32)) := ⟨_, rfl⟩
      rw [show (((sel.toUInt32 >>> ((4 : Int32) &&& 31).toUInt32).toInt32) &&& (3 : Int32)) = st from hst.symm]
      show OwnGo p e below s _ _ _ (s₁.setTop (mkF m 40 #[.val (.int vv), .val (.int sel), .val (.int fil), .val (.int (sel &&& (3 : Int32))), .val (.int (((sel.toUInt32 >>> ((2 : Int32) &&& 31).toUInt32).toInt32) &&& (3 : Int32))), .val (.int (4 : Int32)), .val (.int st), .unset, .unset, .unset, .unset, .unset] []))
      obtain ⟨sN, hS0, hS⟩ := own_m3 hst
      obtain ⟨kk, hkk⟩ : ∃ z : Int32, z = (sel &&& (3 : Int32)) := ⟨_, rfl⟩
      rw [show (sel &&& (3 : Int32)) = kk from hkk.symm]
      show OwnGo p e below s _ _ _ (s₁.setTop (mkF m 40 #[.val (.int vv), .val (.int sel), .val (.int fil), .val (.int kk), .val (.int (((sel.toUInt32 >>> ((2 : Int32) &&& 31).toUInt32).toInt32) &&& (3 : Int32))), .val (.int (4 : Int32)), .val (.int st), .unset, .unset, .unset, .unset, .unset] []))
      obtain ⟨kN, hK0, hK⟩ := own_m3 hkk
      refine own_on (fun t k => XS.iloadN X0.here hx rfl (hb hby at_40) rfl k) ?_
      show OwnGo p e below s _ _ _ (s₁.setTop (mkF m 41 #[.val (.int vv), .val (.int sel), .val (.int fil), .val (.int kk), .val (.int (((sel.toUInt32 >>> ((2 : Int32) &&& 31).toUInt32).toInt32) &&& (3 : Int32))), .val (.int (4 : Int32)), .val (.int st), .unset, .unset, .unset, .unset, .unset] [(.int fil)]))
      refine own_on (fun t k => XS.i2b X0.here hx rfl (hb hby at_41) rfl k) ?_
      show OwnGo p e below s _ _ _ (s₁.setTop (mkF m 42 #[.val (.int vv), .val (.int sel), .val (.int fil), .val (.int kk), .val (.int (((sel.toUInt32 >>> ((2 : Int32) &&& 31).toUInt32).toInt32) &&& (3 : Int32))), .val (.int (4 : Int32)), .val (.int st), .unset, .unset, .unset, .unset, .unset] [(.int (fil.toInt8.toInt32))]))
      refine own_on (fun t k => XS.istore X0.here hx rfl (hb hby at_42) rfl (l' := #[.val (.int vv), .val (.int sel), .val (.int fil), .val (.int kk), .val (.int (((sel.toUInt32 >>> ((2 : Int32) &&& 31).toUInt32).toInt32) &&& (3 : Int32))), .val (.int (4 : Int32)), .val (.int st), .val (.int (fil.toInt8.toInt32)), .unset, .unset, .unset, .unset]) rfl k) ?_
      show OwnGo p e below s _ _ _ (s₁.setTop (mkF m 44 #[.val (.int vv), .val (.int sel), .val (.int fil), .val (.int kk), .val (.int (((sel.toUInt32 >>> ((2 : Int32) &&& 31).toUInt32).toInt32) &&& (3 : Int32))), .val (.int (4 : Int32)), .val (.int st), .val (.int (fil.toInt8.toInt32)), .unset, .unset, .unset, .unset] []))
      refine own_on (fun t k => XS.bipush X0.here hx rfl (hb hby at_44) k) ?_
      show OwnGo p e below s _ _ _ (s₁.setTop (mkF m 46 #[.val (.int vv), .val (.int sel), .val (.int fil), .val (.int kk), .val (.int (((sel.toUInt32 >>> ((2 : Int32) &&& 31).toUInt32).toInt32) &&& (3 : Int32))), .val (.int (4 : Int32)), .val (.int st), .val (.int (fil.toInt8.toInt32)), .unset, .unset, .unset, .unset] [(.int (24 : Int32))]))
      obtain ⟨T153, h153, k153, X153, e153, E153, A153, st153⟩ := newP (aty := .byte) X0 hx hZ (w0 hw) e0 (g := (mkF m 46 #[.val (.int vv), .val (.int sel), .val (.int fil), .val (.int kk), .val (.int (((sel.toUInt32 >>> ((2 : Int32) &&& 31).toUInt32).toInt32) &&& (3 : Int32))), .val (.int (4 : Int32)), .val (.int st), .val (.int (fil.toInt8.toInt32)), .unset, .unset, .unset, .unset] [(.int (24 : Int32))])) rfl (hb hby at_46) rfl (by decide) (cap := 24) (by decide) (by decide) (by decide) (by decide)
      obtain ⟨b153, g153⟩ : ∃ z, z = h0.size := ⟨_, rfl⟩
      rw [← g153] at A153 st153
      have g154 : n0 ≤ b153 := Nat.le_trans Z0 (Nat.le_of_eq g153.symm)
      have z155 : h0.size ≤ b153 := Nat.le_trans K0.1 (Nat.le_of_eq g153.symm)
      have V153 : OwnArf Z h153 b153 .byte 24 (fun _ => 0) := OwnArf.new A153 rfl rfl
      have Z153 : n0 ≤ h153.size := Nat.le_trans Z0 E153.1
      have K153 : Keep h0 h153 [] := K0.ext E153
      refine own_on st153 ?_
      show OwnGo p e below s _ _ _ (T153.setTop (mkF m 48 #[.val (.int vv), .val (.int sel), .val (.int fil), .val (.int kk), .val (.int (((sel.toUInt32 >>> ((2 : Int32) &&& 31).toUInt32).toInt32) &&& (3 : Int32))), .val (.int (4 : Int32)), .val (.int st), .val (.int (fil.toInt8.toInt32)), .unset, .unset, .unset, .unset] [(.ref b153)]))
      refine own_on (fun t k => XS.dup X153.here hx rfl (hb hby at_48) rfl rfl k) ?_
      show OwnGo p e below s _ _ _ (T153.setTop (mkF m 49 #[.val (.int vv), .val (.int sel), .val (.int fil), .val (.int kk), .val (.int (((sel.toUInt32 >>> ((2 : Int32) &&& 31).toUInt32).toInt32) &&& (3 : Int32))), .val (.int (4 : Int32)), .val (.int st), .val (.int (fil.toInt8.toInt32)), .unset, .unset, .unset, .unset] [(.ref b153), (.ref b153)]))
      refine own_on (fun t k => XS.iconst X153.here hx rfl (hb hby at_49) k) ?_
      show OwnGo p e below s _ _ _ (T153.setTop (mkF m 50 #[.val (.int vv), .val (.int sel), .val (.int fil), .val (.int kk), .val (.int (((sel.toUInt32 >>> ((2 : Int32) &&& 31).toUInt32).toInt32) &&& (3 : Int32))), .val (.int (4 : Int32)), .val (.int st), .val (.int (fil.toInt8.toInt32)), .unset, .unset, .unset, .unset] [(.int (0 : Int32)), (.ref b153), (.ref b153)]))
      refine own_on (fun t k => XS.iload X153.here hx rfl (hb hby at_50) rfl k) ?_
      show OwnGo p e below s _ _ _ (T153.setTop (mkF m 52 #[.val (.int vv), .val (.int sel), .val (.int fil), .val (.int kk), .val (.int (((sel.toUInt32 >>> ((2 : Int32) &&& 31).toUInt32).toInt32) &&& (3 : Int32))), .val (.int (4 : Int32)), .val (.int st), .val (.int (fil.toInt8.toInt32)), .unset, .unset, .unset, .unset] [(.int (fil.toInt8.toInt32)), (.int (0 : Int32)), (.ref b153), (.ref b153)]))
      obtain ⟨cl156, Ar156, S156, H156⟩ := id V153
      have hj156 : ¬ (0 : Int32) < 0 ∧ ((0 : Int32)).toNatClampNeg = 0 := (by decide)
      obtain ⟨T157, h157, X157, e157, W157, st157⟩ := stB X153 hx hZ e153 Ar156 (j := (0 : Int32)) (own_in S156 hj156 (by decide)) (g := (mkF m 52 #[.val (.int vv), .val (.int sel), .val (.int fil), .val (.int kk), .val (.int (((sel.toUInt32 >>> ((2 : Int32) &&& 31).toUInt32).toInt32) &&& (3 : Int32))), .val (.int (4 : Int32)), .val (.int st), .val (.int (fil.toInt8.toInt32)), .unset, .unset, .unset, .unset] [(.int (fil.toInt8.toInt32)), (.int (0 : Int32)), (.ref b153), (.ref b153)])) rfl rfl (hb hby at_52)
      have V157 : OwnArf Z h157 b153 .byte 24 (own_upd (fun _ => 0) 0 (nar .byte (fil.toInt8.toInt32))) := OwnArf.set Ar156 S156 H156 W157 hj156.2
      have V157' : OwnArf Z h157 b153 .byte 24 (own_fl 1 (nar .byte (fil.toInt8.toInt32))) := V157.congr (own_fl_0 _)
      have N157 := Fr.snoc X157 N0 g154
      have Z157 : n0 ≤ h157.size := Nat.le_trans Z153 (Keep.of_wr W157).1
      have K157 : Keep h0 h157 [] := K153.wr W157 (Or.inr z155)
      refine own_on st157 ?_
      show OwnGo p e below s _ _ _ (T157.setTop (mkF m 53 #[.val (.int vv), .val (.int sel), .val (.int fil), .val (.int kk), .val (.int (((sel.toUInt32 >>> ((2 : Int32) &&& 31).toUInt32).toInt32) &&& (3 : Int32))), .val (.int (4 : Int32)), .val (.int st), .val (.int (fil.toInt8.toInt32)), .unset, .unset, .unset, .unset] [(.ref b153)]))
      refine own_on (fun t k => XS.dup X157.here hx rfl (hb hby at_53) rfl rfl k) ?_
      show OwnGo p e below s _ _ _ (T157.setTop (mkF m 54 #[.val (.int vv), .val (.int sel), .val (.int fil), .val (.int kk), .val (.int (((sel.toUInt32 >>> ((2 : Int32) &&& 31).toUInt32).toInt32) &&& (3 : Int32))), .val (.int (4 : Int32)), .val (.int st), .val (.int (fil.toInt8.toInt32)), .unset, .unset, .unset, .unset] [(.ref b153), (.ref b153)]))
      refine own_on (fun t k => XS.iconst X157.here hx rfl (hb hby at_54) k) ?_
      show OwnGo p e below s _ _ _ (T157.setTop (mkF m 55 #[.val (.int vv), .val (.int sel), .val (.int fil), .val (.int kk), .val (.int (((sel.toUInt32 >>> ((2 : Int32) &&& 31).toUInt32).toInt32) &&& (3 : Int32))), .val (.int (4 : Int32)), .val (.int st), .val (.int (fil.toInt8.toInt32)), .unset, .unset, .unset, .unset] [(.int (1 : Int32)), (.ref b153), (.ref b153)]))
      refine own_on (fun t k => XS.iload X157.here hx rfl (hb hby at_55) rfl k) ?_
      show OwnGo p e below s _ _ _ (T157.setTop (mkF m 57 #[.val (.int vv), .val (.int sel), .val (.int fil), .val (.int kk), .val (.int (((sel.toUInt32 >>> ((2 : Int32) &&& 31).toUInt32).toInt32) &&& (3 : Int32))), .val (.int (4 : Int32)), .val (.int st), .val (.int (fil.toInt8.toInt32)), .unset, .unset, .unset, .unset] [(.int (fil.toInt8.toInt32)), (.int (1 : Int32)), (.ref b153), (.ref b153)]))
      obtain ⟨cl158, Ar158, S158, H158⟩ := id V157'
      have hj158 : ¬ (1 : Int32) < 0 ∧ ((1 : Int32)).toNatClampNeg = 1 := (by decide)
      obtain ⟨T159, h159, X159, e159, W159, st159⟩ := stB X157 hx hZ e157 Ar158 (j := (1 : Int32)) (own_in S158 hj158 (by decide)) (g := (mkF m 57 #[.val (.int vv), .val (.int sel), .val (.int fil), .val (.int kk), .val (.int (((sel.toUInt32 >>> ((2 : Int32) &&& 31).toUInt32).toInt32) &&& (3 : Int32))), .val (.int (4 : Int32)), .val (.int st), .val (.int (fil.toInt8.toInt32)), .unset, .unset, .unset, .unset] [(.int (fil.toInt8.toInt32)), (.int (1 : Int32)), (.ref b153), (.ref b153)])) rfl rfl (hb hby at_57)
      have V159 : OwnArf Z h159 b153 .byte 24 (own_upd (own_fl 1 (nar .byte (fil.toInt8.toInt32))) 1 (nar .byte (fil.toInt8.toInt32))) := OwnArf.set Ar158 S158 H158 W159 hj158.2
      have V159' : OwnArf Z h159 b153 .byte 24 (own_fl 2 (nar .byte (fil.toInt8.toInt32))) := V159.congr (own_fl_up 1 _)
      have N159 := Fr.snoc X159 N157 g154
      have Z159 : n0 ≤ h159.size := Nat.le_trans Z157 (Keep.of_wr W159).1
      have K159 : Keep h0 h159 [] := K157.wr W159 (Or.inr z155)
      refine own_on st159 ?_
      show OwnGo p e below s _ _ _ (T159.setTop (mkF m 58 #[.val (.int vv), .val (.int sel), .val (.int fil), .val (.int kk), .val (.int (((sel.toUInt32 >>> ((2 : Int32) &&& 31).toUInt32).toInt32) &&& (3 : Int32))), .val (.int (4 : Int32)), .val (.int st), .val (.int (fil.toInt8.toInt32)), .unset, .unset, .unset, .unset] [(.ref b153)]))
      refine own_on (fun t k => XS.dup X159.here hx rfl (hb hby at_58) rfl rfl k) ?_
      show OwnGo p e below s _ _ _ (T159.setTop (mkF m 59 #[.val (.int vv), .val (.int sel), .val (.int fil), .val (.int kk), .val (.int (((sel.toUInt32 >>> ((2 : Int32) &&& 31).toUInt32).toInt32) &&& (3 : Int32))), .val (.int (4 : Int32)), .val (.int st), .val (.int (fil.toInt8.toInt32)), .unset, .unset, .unset, .unset] [(.ref b153), (.ref b153)]))
      refine own_on (fun t k => XS.iconst X159.here hx rfl (hb hby at_59) k) ?_
      show OwnGo p e below s _ _ _ (T159.setTop (mkF m 60 #[.val (.int vv), .val (.int sel), .val (.int fil), .val (.int kk), .val (.int (((sel.toUInt32 >>> ((2 : Int32) &&& 31).toUInt32).toInt32) &&& (3 : Int32))), .val (.int (4 : Int32)), .val (.int st), .val (.int (fil.toInt8.toInt32)), .unset, .unset, .unset, .unset] [(.int (2 : Int32)), (.ref b153), (.ref b153)]))
      refine own_on (fun t k => XS.iload X159.here hx rfl (hb hby at_60) rfl k) ?_
      show OwnGo p e below s _ _ _ (T159.setTop (mkF m 62 #[.val (.int vv), .val (.int sel), .val (.int fil), .val (.int kk), .val (.int (((sel.toUInt32 >>> ((2 : Int32) &&& 31).toUInt32).toInt32) &&& (3 : Int32))), .val (.int (4 : Int32)), .val (.int st), .val (.int (fil.toInt8.toInt32)), .unset, .unset, .unset, .unset] [(.int (fil.toInt8.toInt32)), (.int (2 : Int32)), (.ref b153), (.ref b153)]))
      obtain ⟨cl160, Ar160, S160, H160⟩ := id V159'
      have hj160 : ¬ (2 : Int32) < 0 ∧ ((2 : Int32)).toNatClampNeg = 2 := (by decide)
      obtain ⟨T161, h161, X161, e161, W161, st161⟩ := stB X159 hx hZ e159 Ar160 (j := (2 : Int32)) (own_in S160 hj160 (by decide)) (g := (mkF m 62 #[.val (.int vv), .val (.int sel), .val (.int fil), .val (.int kk), .val (.int (((sel.toUInt32 >>> ((2 : Int32) &&& 31).toUInt32).toInt32) &&& (3 : Int32))), .val (.int (4 : Int32)), .val (.int st), .val (.int (fil.toInt8.toInt32)), .unset, .unset, .unset, .unset] [(.int (fil.toInt8.toInt32)), (.int (2 : Int32)), (.ref b153), (.ref b153)])) rfl rfl (hb hby at_62)
      have V161 : OwnArf Z h161 b153 .byte 24 (own_upd (own_fl 2 (nar .byte (fil.toInt8.toInt32))) 2 (nar .byte (fil.toInt8.toInt32))) := OwnArf.set Ar160 S160 H160 W161 hj160.2
      have V161' : OwnArf Z h161 b153 .byte 24 (own_fl 3 (nar .byte (fil.toInt8.toInt32))) := V161.congr (own_fl_up 2 _)
      have N161 := Fr.snoc X161 N159 g154
      have Z161 : n0 ≤ h161.size := Nat.le_trans Z159 (Keep.of_wr W161).1
      have K161 : Keep h0 h161 [] := K159.wr W161 (Or.inr z155)
      refine own_on st161 ?_
      show OwnGo p e below s _ _ _ (T161.setTop (mkF m 63 #[.val (.int vv), .val (.int sel), .val (.int fil), .val (.int kk), .val (.int (((sel.toUInt32 >>> ((2 : Int32) &&& 31).toUInt32).toInt32) &&& (3 : Int32))), .val (.int (4 : Int32)), .val (.int st), .val (.int (fil.toInt8.toInt32)), .unset, .unset, .unset, .unset] [(.ref b153)]))
      refine own_on (fun t k => XS.dup X161.here hx rfl (hb hby at_63) rfl rfl k) ?_
      show OwnGo p e below s _ _ _ (T161.setTop (mkF m 64 #[.val (.int vv), .val (.int sel), .val (.int fil), .val (.int kk), .val (.int (((sel.toUInt32 >>> ((2 : Int32) &&& 31).toUInt32).toInt32) &&& (3 : Int32))), .val (.int (4 : Int32)), .val (.int st), .val (.int (fil.toInt8.toInt32)), .unset, .unset, .unset, .unset] [(.ref b153), (.ref b153)]))
      refine own_on (fun t k => XS.iconst X161.here hx rfl (hb hby at_64) k) ?_
      show OwnGo p e below s _ _ _ (T161.setTop (mkF m 65 #[.val (.int vv), .val (.int sel), .val (.int fil), .val (.int kk), .val (.int (((sel.toUInt32 >>> ((2 : Int32) &&& 31).toUInt32).toInt32) &&& (3 : Int32))), .val (.int (4 : Int32)), .val (.int st), .val (.int (fil.toInt8.toInt32)), .unset, .unset, .unset, .unset] [(.int (3 : Int32)), (.ref b153), (.ref b153)]))
      refine own_on (fun t k => XS.iload X161.here hx rfl (hb hby at_65) rfl k) ?_
      show OwnGo p e below s _ _ _ (T161.setTop (mkF m 67 #[.val (.int vv), .val (.int sel), .val (.int fil), .val (.int kk), .val (.int (((sel.toUInt32 >>> ((2 : Int32) &&& 31).toUInt32).toInt32) &&& (3 : Int32))), .val (.int (4 : Int32)), .val (.int st), .val (.int (fil.toInt8.toInt32)), .unset, .unset, .unset, .unset] [(.int (fil.toInt8.toInt32)), (.int (3 : Int32)), (.ref b153), (.ref b153)]))
      obtain ⟨cl162, Ar162, S162, H162⟩ := id V161'
      have hj162 : ¬ (3 : Int32) < 0 ∧ ((3 : Int32)).toNatClampNeg = 3 := (by decide)
      obtain ⟨T163, h163, X163, e163, W163, st163⟩ := stB X161 hx hZ e161 Ar162 (j := (3 : Int32)) (own_in S162 hj162 (by decide)) (g := (mkF m 67 #[.val (.int vv), .val (.int sel), .val (.int fil), .val (.int kk), .val (.int (((sel.toUInt32 >>> ((2 : Int32) &&& 31).toUInt32).toInt32) &&& (3 : Int32))), .val (.int (4 : Int32)), .val (.int st), .val (.int (fil.toInt8.toInt32)), .unset, .unset, .unset, .unset] [(.int (fil.toInt8.toInt32)), (.int (3 : Int32)), (.ref b153), (.ref b153)])) rfl rfl (hb hby at_67)
      have V163 : OwnArf Z h163 b153 .byte 24 (own_upd (own_fl 3 (nar .byte (fil.toInt8.toInt32))) 3 (nar .byte (fil.toInt8.toInt32))) := OwnArf.set Ar162 S162 H162 W163 hj162.2
      have V163' : OwnArf Z h163 b153 .byte 24 (own_fl 4 (nar .byte (fil.toInt8.toInt32))) := V163.congr (own_fl_up 3 _)
      have N163 := Fr.snoc X163 N161 g154
      have Z163 : n0 ≤ h163.size := Nat.le_trans Z161 (Keep.of_wr W163).1
      have K163 : Keep h0 h163 [] := K161.wr W163 (Or.inr z155)
      refine own_on st163 ?_
      show OwnGo p e below s _ _ _ (T163.setTop (mkF m 68 #[.val (.int vv), .val (.int sel), .val (.int fil), .val (.int kk), .val (.int (((sel.toUInt32 >>> ((2 : Int32) &&& 31).toUInt32).toInt32) &&& (3 : Int32))), .val (.int (4 : Int32)), .val (.int st), .val (.int (fil.toInt8.toInt32)), .unset, .unset, .unset, .unset] [(.ref b153)]))
      refine own_on (fun t k => XS.dup X163.here hx rfl (hb hby at_68) rfl rfl k) ?_
      show OwnGo p e below s _ _ _ (T163.setTop (mkF m 69 #[.val (.int vv), .val (.int sel), .val (.int fil), .val (.int kk), .val (.int (((sel.toUInt32 >>> ((2 : Int32) &&& 31).toUInt32).toInt32) &&& (3 : Int32))), .val (.int (4 : Int32)), .val (.int st), .val (.int (fil.toInt8.toInt32)), .unset, .unset, .unset, .unset] [(.ref b153), (.ref b153)]))
      refine own_on (fun t k => XS.iconst X163.here hx rfl (hb hby at_69) k) ?_
      show OwnGo p e below s _ _ _ (T163.setTop (mkF m 70 #[.val (.int vv), .val (.int sel), .val (.int fil), .val (.int kk), .val (.int (((sel.toUInt32 >>> ((2 : Int32) &&& 31).toUInt32).toInt32) &&& (3 : Int32))), .val (.int (4 : Int32)), .val (.int st), .val (.int (fil.toInt8.toInt32)), .unset, .unset, .unset, .unset] [(.int (4 : Int32)), (.ref b153), (.ref b153)]))
      refine own_on (fun t k => XS.iload X163.here hx rfl (hb hby at_70) rfl k) ?_
      show OwnGo p e below s _ _ _ (T163.setTop (mkF m 72 #[.val (.int vv), .val (.int sel), .val (.int fil), .val (.int kk), .val (.int (((sel.toUInt32 >>> ((2 : Int32) &&& 31).toUInt32).toInt32) &&& (3 : Int32))), .val (.int (4 : Int32)), .val (.int st), .val (.int (fil.toInt8.toInt32)), .unset, .unset, .unset, .unset] [(.int (fil.toInt8.toInt32)), (.int (4 : Int32)), (.ref b153), (.ref b153)]))
      obtain ⟨cl164, Ar164, S164, H164⟩ := id V163'
      have hj164 : ¬ (4 : Int32) < 0 ∧ ((4 : Int32)).toNatClampNeg = 4 := (by decide)
      obtain ⟨T165, h165, X165, e165, W165, st165⟩ := stB X163 hx hZ e163 Ar164 (j := (4 : Int32)) (own_in S164 hj164 (by decide)) (g := (mkF m 72 #[.val (.int vv), .val (.int sel), .val (.int fil), .val (.int kk), .val (.int (((sel.toUInt32 >>> ((2 : Int32) &&& 31).toUInt32).toInt32) &&& (3 : Int32))), .val (.int (4 : Int32)), .val (.int st), .val (.int (fil.toInt8.toInt32)), .unset, .unset, .unset, .unset] [(.int (fil.toInt8.toInt32)), (.int (4 : Int32)), (.ref b153), (.ref b153)])) rfl rfl (hb hby at_72)
      have V165 : OwnArf Z h165 b153 .byte 24 (own_upd (own_fl 4 (nar .byte (fil.toInt8.toInt32))) 4 (nar .byte (fil.toInt8.toInt32))) := OwnArf.set Ar164 S164 H164 W165 hj164.2
      have V165' : OwnArf Z h165 b153 .byte 24 (own_fl 5 (nar .byte (fil.toInt8.toInt32))) := V165.congr (own_fl_up 4 _)
      have N165 := Fr.snoc X165 N163 g154
      have Z165 : n0 ≤ h165.size := Nat.le_trans Z163 (Keep.of_wr W165).1
      have K165 : Keep h0 h165 [] := K163.wr W165 (Or.inr z155)
      refine own_on st165 ?_
      show OwnGo p e below s _ _ _ (T165.setTop (mkF m 73 #[.val (.int vv), .val (.int sel), .val (.int fil), .val (.int kk), .val (.int (((sel.toUInt32 >>> ((2 : Int32) &&& 31).toUInt32).toInt32) &&& (3 : Int32))), .val (.int (4 : Int32)), .val (.int st), .val (.int (fil.toInt8.toInt32)), .unset, .unset, .unset, .unset] [(.ref b153)]))
      refine own_on (fun t k => XS.dup X165.here hx rfl (hb hby at_73) rfl rfl k) ?_
      show OwnGo p e below s _ _ _ (T165.setTop (mkF m 74 #[.val (.int vv), .val (.int sel), .val (.int fil), .val (.int kk), .val (.int (((sel.toUInt32 >>> ((2 : Int32) &&& 31).toUInt32).toInt32) &&& (3 : Int32))), .val (.int (4 : Int32)), .val (.int st), .val (.int (fil.toInt8.toInt32)), .unset, .unset, .unset, .unset] [(.ref b153), (.ref b153)]))
      refine own_on (fun t k => XS.iconst X165.here hx rfl (hb hby at_74) k) ?_
      show OwnGo p e below s _ _ _ (T165.setTop (mkF m 75 #[.val (.int vv), .val (.int sel), .val (.int fil), .val (.int kk), .val (.int (((sel.toUInt32 >>> ((2 : Int32) &&& 31).toUInt32).toInt32) &&& (3 : Int32))), .val (.int (4 : Int32)), .val (.int st), .val (.int (fil.toInt8.toInt32)), .unset, .unset, .unset, .unset] [(.int (5 : Int32)), (.ref b153), (.ref b153)]))
      refine own_on (fun t k => XS.iload X165.here hx rfl (hb hby at_75) rfl k) ?_
      show OwnGo p e below s _ _ _ (T165.setTop (mkF m 77 #[.val (.int vv), .val (.int sel), .val (.int fil), .val (.int kk), .val (.int (((sel.toUInt32 >>> ((2 : Int32) &&& 31).toUInt32).toInt32) &&& (3 : Int32))), .val (.int (4 : Int32)), .val (.int st), .val (.int (fil.toInt8.toInt32)), .unset, .unset, .unset, .unset] [(.int (fil.toInt8.toInt32)), (.int (5 : Int32)), (.ref b153), (.ref b153)]))
      obtain ⟨cl166, Ar166, S166, H166⟩ := id V165'
      have hj166 : ¬ (5 : Int32) < 0 ∧ ((5 : Int32)).toNatClampNeg = 5 := (by decide)
      obtain ⟨T167, h167, X167, e167, W167, st167⟩ := stB X165 hx hZ e165 Ar166 (j := (5 : Int32)) (own_in S166 hj166 (by decide)) (g := (mkF m 77 #[.val (.int vv), .val (.int sel), .val (.int fil), .val (.int kk), .val (.int (((sel.toUInt32 >>> ((2 : Int32) &&& 31).toUInt32).toInt32) &&& (3 : Int32))), .val (.int (4 : Int32)), .val (.int st), .val (.int (fil.toInt8.toInt32)), .unset, .unset, .unset, .unset] [(.int (fil.toInt8.toInt32)), (.int (5 : Int32)), (.ref b153), (.ref b153)])) rfl rfl (hb hby at_77)
      have V167 : OwnArf Z h167 b153 .byte 24 (own_upd (own_fl 5 (nar .byte (fil.toInt8.toInt32))) 5 (nar .byte (fil.toInt8.toInt32))) := OwnArf.set Ar166 S166 H166 W167 hj166.2
      have V167' : OwnArf Z h167 b153 .byte 24 (own_fl 6 (nar .byte (fil.toInt8.toInt32))) := V167.congr (own_fl_up 5 _)
      have N167 := Fr.snoc X167 N165 g154
      have Z167 : n0 ≤ h167.size := Nat.le_trans Z165 (Keep.of_wr W167).1
      have K167 : Keep h0 h167 [] := K165.wr W167 (Or.inr z155)
      refine own_on st167 ?_
      show OwnGo p e below s _ _ _ (T167.setTop (mkF m 78 #[.val (.int vv), .val (.int sel), .val (.int fil), .val (.int kk), .val (.int (((sel.toUInt32 >>> ((2 : Int32) &&& 31).toUInt32).toInt32) &&& (3 : Int32))), .val (.int (4 : Int32)), .val (.int st), .val (.int (fil.toInt8.toInt32)), .unset, .unset, .unset, .unset] [(.ref b153)]))
      refine own_on (fun t k => XS.dup X167.here hx rfl (hb hby at_78) rfl rfl k) ?_
      show OwnGo p e below s _ _ _ (T167.setTop (mkF m 79 #[.val (.int vv), .val (.int sel), .val (.int fil), .val (.int kk), .val (.int (((sel.toUInt32 >>> ((2 : Int32) &&& 31).toUInt32).toInt32) &&& (3 : Int32))), .val (.int (4 : Int32)), .val (.int st), .val (.int (fil.toInt8.toInt32)), .unset, .unset, .unset, .unset] [(.ref b153), (.ref b153)]))
      refine own_on (fun t k => XS.bipush X167.here hx rfl (hb hby at_79) k) ?_
      show OwnGo p e below s _ _ _ (T167.setTop (mkF m 81 #[.val (.int vv), .val (.int sel), .val (.int fil), .val (.int kk), .val (.int (((sel.toUInt32 >>> ((2 : Int32) &&& 31).toUInt32).toInt32) &&& (3 : Int32))), .val (.int (4 : Int32)), .val (.int st), .val (.int (fil.toInt8.toInt32)), .unset, .unset, .unset, .unset] [(.int (6 : Int32)), (.ref b153), (.ref b153)]))
      refine own_on (fun t k => XS.iload X167.here hx rfl (hb hby at_81) rfl k) ?_
      show OwnGo p e below s _ _ _ (T167.setTop (mkF m 83 #[.val (.int vv), .val (.int sel), .val (.int fil), .val (.int kk), .val (.int (((sel.toUInt32 >>> ((2 : Int32) &&& 31).toUInt32).toInt32) &&& (3 : Int32))), .val (.int (4 : Int32)), .val (.int st), .val (.int (fil.toInt8.toInt32)), .unset, .unset, .unset, .unset] [(.int (fil.toInt8.toInt32)), (.int (6 : Int32)), (.ref b153), (.ref b153)]))
      obtain ⟨cl168, Ar168, S168, H168⟩ := id V167'
      have hj168 : ¬ (6 : Int32) < 0 ∧ ((6 : Int32)).toNatClampNeg = 6 := (by decide)
      obtain ⟨T169, h169, X169, e169, W169, st169⟩ := stB X167 hx hZ e167 Ar168 (j := (6 : Int32)) (own_in S168 hj168 (by decide)) (g := (mkF m 83 #[.val (.int vv), .val (.int sel), .val (.int fil), .val (.int kk), .val (.int (((sel.toUInt32 >>> ((2 : Int32) &&& 31).toUInt32).toInt32) &&& (3 : Int32))), .val (.int (4 : Int32)), .val (.int st), .val (.int (fil.toInt8.toInt32)), .unset, .unset, .unset, .unset] [(.int (fil.toInt8.toInt32)), (.int (6 : Int32)), (.ref b153), (.ref b153)])) rfl rfl (hb hby at_83)
      have V169 : OwnArf Z h169 b153 .byte 24 (own_upd (own_fl 6 (nar .byte (fil.toInt8.toInt32))) 6 (nar .byte (fil.toInt8.toInt32))) := OwnArf.set Ar168 S168 H168 W169 hj168.2
      have V169' : OwnArf Z h169 b153 .byte 24 (own_fl 7 (nar .byte (fil.toInt8.toInt32))) := V169.congr (own_fl_up 6 _)
      have N169 := Fr.snoc X169 N167 g154
      have Z169 : n0 ≤ h169.size := Nat.le_trans Z167 (Keep.of_wr W169).1
      have K169 : Keep h0 h169 [] := K167.wr W169 (Or.inr z155)
      refine own_on st169 ?_
      show OwnGo p e below s _ _ _ (T169.setTop (mkF m 84 #[.val (.int vv), .val (.int sel), .val (.int fil), .val (.int kk), .val (.int (((sel.toUInt32 >>> ((2 : Int32) &&& 31).toUInt32).toInt32) &&& (3 : Int32))), .val (.int (4 : Int32)), .val (.int st), .val (.int (fil.toInt8.toInt32)), .unset, .unset, .unset, .unset] [(.ref b153)]))
      refine own_on (fun t k => XS.dup X169.here hx rfl (hb hby at_84) rfl rfl k) ?_
      show OwnGo p e below s _ _ _ (T169.setTop (mkF m 85 #[.val (.int vv), .val (.int sel), .val (.int fil), .val (.int kk), .val (.int (((sel.toUInt32 >>> ((2 : Int32) &&& 31).toUInt32).toInt32) &&& (3 : Int32))), .val (.int (4 : Int32)), .val (.int st), .val (.int (fil.toInt8.toInt32)), .unset, .unset, .unset, .unset] [(.ref b153), (.ref b153)]))
      refine own_on (fun t k => XS.bipush X169.here hx rfl (hb hby at_85) k) ?_
      show OwnGo p e below s _ _ _ (T169.setTop (mkF m 87 #[.val (.int vv), .val (.int sel), .val (.int fil), .val (.int kk), .val (.int (((sel.toUInt32 >>> ((2 : Int32) &&& 31).toUInt32).toInt32) &&& (3 : Int32))), .val (.int (4 : Int32)), .val (.int st), .val (.int (fil.toInt8.toInt32)), .unset, .unset, .unset, .unset] [(.int (7 : Int32)), (.ref b153), (.ref b153)]))
      refine own_on (fun t k => XS.iload X169.here hx rfl (hb hby at_87) rfl k) ?_
      show OwnGo p e below s _ _ _ (T169.setTop (mkF m 89 #[.val (.int vv), .val (.int sel), .val (.int fil), .val (.int kk), .val (.int (((sel.toUInt32 >>> ((2 : Int32) &&& 31).toUInt32).toInt32) &&& (3 : Int32))), .val (.int (4 : Int32)), .val (.int st), .val (.int (fil.toInt8.toInt32)), .unset, .unset, .unset, .unset] [(.int (fil.toInt8.toInt32)), (.int (7 : Int32)), (.ref b153), (.ref b153)]))
      obtain ⟨cl170, Ar170, S170, H170⟩ := id V169'
      have hj170 : ¬ (7 : Int32) < 0 ∧ ((7 : Int32)).toNatClampNeg = 7 := (by decide)
      obtain ⟨T171, h171, X171, e171, W171, st171⟩ := stB X169 hx hZ e169 Ar170 (j := (7 : Int32)) (own_in S170 hj170 (by decide)) (g := (mkF m 89 #[.val (.int vv), .val (.int sel), .val (.int fil), .val (.int kk), .val (.int (((sel.toUInt32 >>> ((2 : Int32) &&& 31).toUInt32).toInt32) &&& (3 : Int32))), .val (.int (4 : Int32)), .val (.int st), .val (.int (fil.toInt8.toInt32)), .unset, .unset, .unset, .unset] [(.int (fil.toInt8.toInt32)), (.int (7 : Int32)), (.ref b153), (.ref b153)])) rfl rfl (hb hby at_89)
      have V171 : OwnArf Z h171 b153 .byte 24 (own_upd (own_fl 7 (nar .byte (fil.toInt8.toInt32))) 7 (nar .byte (fil.toInt8.toInt32))) := OwnArf.set Ar170 S170 H170 W171 hj170.2
      have V171' : OwnArf Z h171 b153 .byte 24 (own_fl 8 (nar .byte (fil.toInt8.toInt32))) := V171.congr (own_fl_up 7 _)
      have N171 := Fr.snoc X171 N169 g154
      have Z171 : n0 ≤ h171.size := Nat.le_trans Z169 (Keep.of_wr W171).1
      have K171 : Keep h0 h171 [] := K169.wr W171 (Or.inr z155)
      refine own_on st171 ?_
      show OwnGo p e below s _ _ _ (T171.setTop (mkF m 90 #[.val (.int vv), .val (.int sel), .val (.int fil), .val (.int kk), .val (.int (((sel.toUInt32 >>> ((2 : Int32) &&& 31).toUInt32).toInt32) &&& (3 : Int32))), .val (.int (4 : Int32)), .val (.int st), .val (.int (fil.toInt8.toInt32)), .unset, .unset, .unset, .unset] [(.ref b153)]))
      refine own_on (fun t k => XS.dup X171.here hx rfl (hb hby at_90) rfl rfl k) ?_
      show OwnGo p e below s _ _ _ (T171.setTop (mkF m 91 #[.val (.int vv), .val (.int sel), .val (.int fil), .val (.int kk), .val (.int (((sel.toUInt32 >>> ((2 : Int32) &&& 31).toUInt32).toInt32) &&& (3 : Int32))), .val (.int (4 : Int32)), .val (.int st), .val (.int (fil.toInt8.toInt32)), .unset, .unset, .unset, .unset] [(.ref b153), (.ref b153)]))
      refine own_on (fun t k => XS.bipush X171.here hx rfl (hb hby at_91) k) ?_
      show OwnGo p e below s _ _ _ (T171.setTop (mkF m 93 #[.val (.int vv), .val (.int sel), .val (.int fil), .val (.int kk), .val (.int (((sel.toUInt32 >>> ((2 : Int32) &&& 31).toUInt32).toInt32) &&& (3 : Int32))), .val (.int (4 : Int32)), .val (.int st), .val (.int (fil.toInt8.toInt32)), .unset, .unset, .unset, .unset] [(.int (8 : Int32)), (.ref b153), (.ref b153)]))
      refine own_on (fun t k => XS.iload X171.here hx rfl (hb hby at_93) rfl k) ?_
      show OwnGo p e below s _ _ _ (T171.setTop (mkF m 95 #[.val (.int vv), .val (.int sel), .val (.int fil), .val (.int kk), .val (.int (((sel.toUInt32 >>> ((2 : Int32) &&& 31).toUInt32).toInt32) &&& (3 : Int32))), .val (.int (4 : Int32)), .val (.int st), .val (.int (fil.toInt8.toInt32)), .unset, .unset, .unset, .unset] [(.int (fil.toInt8.toInt32)), (.int (8 : Int32)), (.ref b153), (.ref b153)]))
      obtain ⟨cl172, Ar172, S172, H172⟩ := id V171'
      have hj172 : ¬ (8 : Int32) < 0 ∧ ((8 : Int32)).toNatClampNeg = 8 := (by decide)
      obtain ⟨T173, h173, X173, e173, W173, st173⟩ := stB X171 hx hZ e171 Ar172 (j := (8 : Int32)) (own_in S172 hj172 (by decide)) (g := (mkF m 95 #[.val (.int vv), .val (.int sel), .val (.int fil), .val (.int kk), .val (.int (((sel.toUInt32 >>> ((2 : Int32) &&& 31).toUInt32).toInt32) &&& (3 : Int32))), .val (.int (4 : Int32)), .val (.int st), .val (.int (fil.toInt8.toInt32)), .unset, .unset, .unset, .unset] [(.int (fil.toInt8.toInt32)), (.int (8 : Int32)), (.ref b153), (.ref b153)])) rfl rfl (hb hby at_95)
      have V173 : OwnArf Z h173 b153 .byte 24 (own_upd (own_fl 8 (nar .byte (fil.toInt8.toInt32))) 8 (nar .byte (fil.toInt8.toInt32))) := OwnArf.set Ar172 S172 H172 W173 hj172.2
      have V173' : OwnArf Z h173 b153 .byte 24 (own_fl 9 (nar .byte (fil.toInt8.toInt32))) := V173.congr (own_fl_up 8 _)
      have N173 := Fr.snoc X173 N171 g154
      have Z173 : n0 ≤ h173.size := Nat.le_trans Z171 (Keep.of_wr W173).1
      have K173 : Keep h0 h173 [] := K171.wr W173 (Or.inr z155)
      refine own_on st173 ?_
      show OwnGo p e below s _ _ _ (T173.setTop (mkF m 96 #[.val (.int vv), .val (.int sel), .val (.int fil), .val (.int kk), .val (.int (((sel.toUInt32 >>> ((2 : Int32) &&& 31).toUInt32).toInt32) &&& (3 : Int32))), .val (.int (4 : Int32)), .val (.int st), .val (.int (fil.toInt8.toInt32)), .unset, .unset, .unset, .unset] [(.ref b153)]))
      refine own_on (fun t k => XS.dup X173.here hx rfl (hb hby at_96) rfl rfl k) ?_
      show OwnGo p e below s _ _ _ (T173.setTop (mkF m 97 #[.val (.int vv), .val (.int sel), .val (.int fil), .val (.int kk), .val (.int (((sel.toUInt32 >>> ((2 : Int32) &&& 31).toUInt32).toInt32) &&& (3 : Int32))), .val (.int (4 : Int32)), .val (.int st), .val (.int (fil.toInt8.toInt32)), .unset, .unset, .unset, .unset] [(.ref b153), (.ref b153)]))
      refine own_on (fun t k => XS.bipush X173.here hx rfl (hb hby at_97) k) ?_
      show OwnGo p e below s _ _ _ (T173.setTop (mkF m 99 #[.val (.int vv), .val (.int sel), .val (.int fil), .val (.int kk), .val (.int (((sel.toUInt32 >>> ((2 : Int32) &&& 31).toUInt32).toInt32) &&& (3 : Int32))), .val (.int (4 : Int32)), .val (.int st), .val (.int (fil.toInt8.toInt32)), .unset, .unset, .unset, .unset] [(.int (9 : Int32)), (.ref b153), (.ref b153)]))
      refine own_on (fun t k => XS.iload X173.here hx rfl (hb hby at_99) rfl k) ?_
      show OwnGo p e below s _ _ _ (T173.setTop (mkF m 101 #[.val (.int vv), .val (.int sel), .val (.int fil), .val (.int kk), .val (.int (((sel.toUInt32 >>> ((2 : Int32) &&& 31).toUInt32).toInt32) &&& (3 : Int32))), .val (.int (4 : Int32)), .val (.int st), .val (.int (fil.toInt8.toInt32)), .unset, .unset, .unset, .unset] [(.int (fil.toInt8.toInt32)), (.int (9 : Int32)), (.ref b153), (.ref b153)]))
      obtain ⟨cl174, Ar174, S174, H174⟩ := id V173'
      have hj174 : ¬ (9 : Int32) < 0 ∧ ((9 : Int32)).toNatClampNeg = 9 := (by decide)
      obtain ⟨T175, h175, X175, e175, W175, st175⟩ := stB X173 hx hZ e173 Ar174 (j := (9 : Int32)) (own_in S174 hj174 (by decide)) (g := (mkF m 101 #[.val (.int vv), .val (.int sel), .val (.int fil), .val (.int kk), .val (.int (((sel.toUInt32 >>> ((2 : Int32) &&& 31).toUInt32).toInt32) &&& (3 : Int32))), .val (.int (4 : Int32)), .val (.int st), .val (.int (fil.toInt8.toInt32)), .unset, .unset, .unset, .unset] [(.int (fil.toInt8.toInt32)), (.int (9 : Int32)), (.ref b153), (.ref b153)])) rfl rfl (hb hby at_101)
      have V175 : OwnArf Z h175 b153 .byte 24 (own_upd (own_fl 9 (nar .byte (fil.toInt8.toInt32))) 9 (nar .byte (fil.toInt8.toInt32))) := OwnArf.set Ar174 S174 H174 W175 hj174.2
      have V175' : OwnArf Z h175 b153 .byte 24 (own_fl 10 (nar .byte (fil.toInt8.toInt32))) := V175.congr (own_fl_up 9 _)
      have N175 := Fr.snoc X175 N173 g154
      have Z175 : n0 ≤ h175.size := Nat.le_trans Z173 (Keep.of_wr W175).1
      have K175 : Keep h0 h175 [] := K173.wr W175 (Or.inr z155)
      refine own_on st175 ?_
      show OwnGo p e below s _ _ _ (T175.setTop (mkF m 102 #[.val (.int vv), .val (.int sel), .val (.int fil), .val (.int kk), .val (.int (((sel.toUInt32 >>> ((2 : Int32) &&& 31).toUInt32).toInt32) &&& (3 : Int32))), .val (.int (4 : Int32)), .val (.int st), .val (.int (fil.toInt8.toInt32)), .unset, .unset, .unset, .unset] [(.ref b153)]))
      refine own_on (fun t k => XS.dup X175.here hx rfl (hb hby at_102) rfl rfl k) ?_
      show OwnGo p e below s _ _ _ (T175.setTop (mkF m 103 #[.val (.int vv), .val (.int sel), .val (.int fil), .val (.int kk), .val (.int (((sel.toUInt32 >>> ((2 : Int32) &&& 31).toUInt32).toInt32) &&& (3 : Int32))), .val (.int (4 : Int32)), .val (.int st), .val (.int (fil.toInt8.toInt32)), .unset, .unset, .unset, .unset] [(.ref b153), (.ref b153)]))
      refine own_on (fun t k => XS.bipush X175.here hx rfl (hb hby at_103) k) ?_
      show OwnGo p e below s _ _ _ (T175.setTop (mkF m 105 #[.val (.int vv), .val (.int sel), .val (.int fil), .val (.int kk), .val (.int (((sel.toUInt32 >>> ((2 : Int32) &&& 31).toUInt32).toInt32) &&& (3 : Int32))), .val (.int (4 : Int32)), .val (.int st), .val (.int (fil.toInt8.toInt32)), .unset, .unset, .unset, .unset] [(.int (10 : Int32)), (.ref b153), (.ref b153)]))
      refine own_on (fun t k => XS.iload X175.here hx rfl (hb hby at_105) rfl k) ?_
      show OwnGo p e below s _ _ _ (T175.setTop (mkF m 107 #[.val (.int vv), .val (.int sel), .val (.int fil), .val (.int kk), .val (.int (((sel.toUInt32 >>> ((2 : Int32) &&& 31).toUInt32).toInt32) &&& (3 : Int32))), .val (.int (4 : Int32)), .val (.int st), .val (.int (fil.toInt8.toInt32)), .unset, .unset, .unset, .unset] [(.int (fil.toInt8.toInt32)), (.int (10 : Int32)), (.ref b153), (.ref b153)]))
      obtain ⟨cl176, Ar176, S176, H176⟩ := id V175'
      have hj176 : ¬ (10 : Int32) < 0 ∧ ((10 : Int32)).toNatClampNeg = 10 := (by decide)
      obtain ⟨T177, h177, X177, e177, W177, st177⟩ := stB X175 hx hZ e175 Ar176 (j := (10 : Int32)) (own_in S176 hj176 (by decide)) (g := (mkF m 107 #[.val (.int vv), .val (.int sel), .val (.int fil), .val (.int kk), .val (.int (((sel.toUInt32 >>> ((2 : Int32) &&& 31).toUInt32).toInt32) &&& (3 : Int32))), .val (.int (4 : Int32)), .val (.int st), .val (.int (fil.toInt8.toInt32)), .unset, .unset, .unset, .unset] [(.int (fil.toInt8.toInt32)), (.int (10 : Int32)), (.ref b153), (.ref b153)])) rfl rfl (hb hby at_107)
      have V177 : OwnArf Z h177 b153 .byte 24 (own_upd (own_fl 10 (nar .byte (fil.toInt8.toInt32))) 10 (nar .byte (fil.toInt8.toInt32))) := OwnArf.set Ar176 S176 H176 W177 hj176.2
      have V177' : OwnArf Z h177 b153 .byte 24 (own_fl 11 (nar .byte (fil.toInt8.toInt32))) := V177.congr (own_fl_up 10 _)
      have N177 := Fr.snoc X177 N175 g154
      have Z177 : n0 ≤ h177.size := Nat.le_trans Z175 (Keep.of_wr W177).1
      have K177 : Keep h0 h177 [] := K175.wr W177 (Or.inr z155)
      refine own_on st177 ?_
      show OwnGo p e below s _ _ _ (T177.setTop (mkF m 108 #[.val (.int vv), .val (.int sel), .val (.int fil), .val (.int kk), .val (.int (((sel.toUInt32 >>> ((2 : Int32) &&& 31).toUInt32).toInt32) &&& (3 : Int32))), .val (.int (4 : Int32)), .val (.int st), .val (.int (fil.toInt8.toInt32)), .unset, .unset, .unset, .unset] [(.ref b153)]))
      refine own_on (fun t k => XS.dup X177.here hx rfl (hb hby at_108) rfl rfl k) ?_
      show OwnGo p e below s _ _ _ (T177.setTop (mkF m 109 #[.val (.int vv), .val (.int sel), .val (.int fil), .val (.int kk), .val (.int (((sel.toUInt32 >>> ((2 : Int32) &&& 31).toUInt32).toInt32) &&& (3 : Int32))), .val (.int (4 : Int32)), .val (.int st), .val (.int (fil.toInt8.toInt32)), .unset, .unset, .unset, .unset] [(.ref b153), (.ref b153)]))
      refine own_on (fun t k => XS.bipush X177.here hx rfl (hb hby at_109) k) ?_
      show OwnGo p e below s _ _ _ (T177.setTop (mkF m 111 #[.val (.int vv), .val (.int sel), .val (.int fil), .val (.int kk), .val (.int (((sel.toUInt32 >>> ((2 : Int32) &&& 31).toUInt32).toInt32) &&& (3 : Int32))), .val (.int (4 : Int32)), .val (.int st), .val (.int (fil.toInt8.toInt32)), .unset, .unset, .unset, .unset] [(.int (11 : Int32)), (.ref b153), (.ref b153)]))
      refine own_on (fun t k => XS.iload X177.here hx rfl (hb hby at_111) rfl k) ?_
      show OwnGo p e below s _ _ _ (T177.setTop (mkF m 113 #[.val (.int vv), .val (.int sel), .val (.int fil), .val (.int kk), .val (.int (((sel.toUInt32 >>> ((2 : Int32) &&& 31).toUInt32).toInt32) &&& (3 : Int32))), .val (.int (4 : Int32)), .val (.int st), .val (.int (fil.toInt8.toInt32)), .unset, .unset, .unset, .unset] [(.int (fil.toInt8.toInt32)), (.int (11 : Int32)), (.ref b153), (.ref b153)]))
      obtain ⟨cl178, Ar178, S178, H178⟩ := id V177'
      have hj178 : ¬ (11 : Int32) < 0 ∧ ((11 : Int32)).toNatClampNeg = 11 := (by decide)
      obtain ⟨T179, h179, X179, e179, W179, st179⟩ := stB X177 hx hZ e177 Ar178 (j := (11 : Int32)) (own_in S178 hj178 (by decide)) (g := (mkF m 113 #[.val (.int vv), .val (.int sel), .val (.int fil), .val (.int kk), .val (.int (((sel.toUInt32 >>> ((2 : Int32) &&& 31).toUInt32).toInt32) &&& (3 : Int32))), .val (.int (4 : Int32)), .val (.int st), .val (.int (fil.toInt8.toInt32)), .unset, .unset, .unset, .unset] [(.int (fil.toInt8.toInt32)), (.int (11 : Int32)), (.ref b153), (.ref b153)])) rfl rfl (hb hby at_113)
      have V179 : OwnArf Z h179 b153 .byte 24 (own_upd (own_fl 11 (nar .byte (fil.toInt8.toInt32))) 11 (nar .byte (fil.toInt8.toInt32))) := OwnArf.set Ar178 S178 H178 W179 hj178.2
      have V179' : OwnArf Z h179 b153 .byte 24 (own_fl 12 (nar .byte (fil.toInt8.toInt32))) := V179.congr (own_fl_up 11 _)
      have N179 := Fr.snoc X179 N177 g154
      have Z179 : n0 ≤ h179.size := Nat.le_trans Z177 (Keep.of_wr W179).1
      have K179 : Keep h0 h179 [] := K177.wr W179 (Or.inr z155)
      refine own_on st179 ?_
      show OwnGo p e below s _ _ _ (T179.setTop (mkF m 114 #[.val (.int vv), .val (.int sel), .val (.int fil), .val (.int kk), .val (.int (((sel.toUInt32 >>> ((2 : Int32) &&& 31).toUInt32).toInt32) &&& (3 : Int32))), .val (.int (4 : Int32)), .val (.int st), .val (.int (fil.toInt8.toInt32)), .unset, .unset, .unset, .unset] [(.ref b153)]))
      refine own_on (fun t k => XS.dup X179.here hx rfl (hb hby at_114) rfl rfl k) ?_
      show OwnGo p e below s _ _ _ (T179.setTop (mkF m 115 #[.val (.int vv), .val (.int sel), .val (.int fil), .val (.int kk), .val (.int (((sel.toUInt32 >>> ((2 : Int32) &&& 31).toUInt32).toInt32) &&& (3 : Int32))), .val (.int (4 : Int32)), .val (.int st), .val (.int (fil.toInt8.toInt32)), .unset, .unset, .unset, .unset] [(.ref b153), (.ref b153)]))
      refine own_on (fun t k => XS.bipush X179.here hx rfl (hb hby at_115) k) ?_
      show OwnGo p e below s _ _ _ (T179.setTop (mkF m 117 #[.val (.int vv), .val (.int sel), .val (.int fil), .val (.int kk), .val (.int (((sel.toUInt32 >>> ((2 : Int32) &&& 31).toUInt32).toInt32) &&& (3 : Int32))), .val (.int (4 : Int32)), .val (.int st), .val (.int (fil.toInt8.toInt32)), .unset, .unset, .unset, .unset] [(.int (12 : Int32)), (.ref b153), (.ref b153)]))
      refine own_on (fun t k => XS.iload X179.here hx rfl (hb hby at_117) rfl k) ?_
      show OwnGo p e below s _ _ _ (T179.setTop (mkF m 119 #[.val (.int vv), .val (.int sel), .val (.int fil), .val (.int kk), .val (.int (((sel.toUInt32 >>> ((2 : Int32) &&& 31).toUInt32).toInt32) &&& (3 : Int32))), .val (.int (4 : Int32)), .val (.int st), .val (.int (fil.toInt8.toInt32)), .unset, .unset, .unset, .unset] [(.int (fil.toInt8.toInt32)), (.int (12 : Int32)), (.ref b153), (.ref b153)]))
      obtain ⟨cl180, Ar180, S180, H180⟩ := id V179'
      have hj180 : ¬ (12 : Int32) < 0 ∧ ((12 : Int32)).toNatClampNeg = 12 := (by decide)
      obtain ⟨T181, h181, X181, e181, W181, st181⟩ := stB X179 hx hZ e179 Ar180 (j := (12 : Int32)) (own_in S180 hj180 (by decide)) (g := (mkF m 119 #[.val (.int vv), .val (.int sel), .val (.int fil), .val (.int kk), .val (.int (((sel.toUInt32 >>> ((2 : Int32) &&& 31).toUInt32).toInt32) &&& (3 : Int32))), .val (.int (4 : Int32)), .val (.int st), .val (.int (fil.toInt8.toInt32)), .unset, .unset, .unset, .unset] [(.int (fil.toInt8.toInt32)), (.int (12 : Int32)), (.ref b153), (.ref b153)])) rfl rfl (hb hby at_119)
      have V181 : OwnArf Z h181 b153 .byte 24 (own_upd (own_fl 12 (nar .byte (fil.toInt8.toInt32))) 12 (nar .byte (fil.toInt8.toInt32))) := OwnArf.set Ar180 S180 H180 W181 hj180.2
      have V181' : OwnArf Z h181 b153 .byte 24 (own_fl 13 (nar .byte (fil.toInt8.toInt32))) := V181.congr (own_fl_up 12 _)
      have N181 := Fr.snoc X181 N179 g154
      have Z181 : n0 ≤ h181.size := Nat.le_trans Z179 (Keep.of_wr W181).1
      have K181 : Keep h0 h181 [] := K179.wr W181 (Or.inr z155)
      refine own_on st181 ?_
      show OwnGo p e below s _ _ _ (T181.setTop (mkF m 120 #[.val (.int vv), .val (.int sel), .val (.int fil), .val (.int kk), .val (.int (((sel.toUInt32 >>> ((2 : Int32) &&& 31).toUInt32).toInt32) &&& (3 : Int32))), .val (.int (4 : Int32)), .val (.int st), .val (.int (fil.toInt8.toInt32)), .unset, .unset, .unset, .unset] [(.ref b153)]))
      refine own_on (fun t k => XS.dup X181.here hx rfl (hb hby at_120) rfl rfl k) ?_
      show OwnGo p e below s _ _ _ (T181.setTop (mkF m 121 #[.val (.int vv), .val (.int sel), .val (.int fil), .val (.int kk), .val (.int (((sel.toUInt32 >>> ((2 : Int32) &&& 31).toUInt32).toInt32) &&& (3 : Int32))), .val (.int (4 : Int32)), .val (.int st), .val (.int (fil.toInt8.toInt32)), .unset, .unset, .unset, .unset] [(.ref b153), (.ref b153)]))
      refine own_on (fun t k => XS.bipush X181.here hx rfl (hb hby at_121) k) ?_
      show OwnGo p e below s _ _ _ (T181.setTop (mkF m 123 #[.val (.int vv), .val (.int sel), .val (.int fil), .val (.int kk), .val (.int (((sel.toUInt32 >>> ((2 : Int32) &&& 31).toUInt32).toInt32) &&& (3 : Int32))), .val (.int (4 : Int32)), .val (.int st), .val (.int (fil.toInt8.toInt32)), .unset, .unset, .unset, .unset] [(.int (13 : Int32)), (.ref b153), (.ref b153)]))
      refine own_on (fun t k => XS.iload X181.here hx rfl (hb hby at_123) rfl k) ?_
      show OwnGo p e below s _ _ _ (T181.setTop (mkF m 125 #[.val (.int vv), .val (.int sel), .val (.int fil), .val (.int kk), .val (.int (((sel.toUInt32 >>> ((2 : Int32) &&& 31).toUInt32).toInt32) &&& (3 : Int32))), .val (.int (4 : Int32)), .val (.int st), .val (.int (fil.toInt8.toInt32)), .unset, .unset, .unset, .unset] [(.int (fil.toInt8.toInt32)), (.int (13 : Int32)), (.ref b153), (.ref b153)]))
      obtain ⟨cl182, Ar182, S182, H182⟩ := id V181'
      have hj182 : ¬ (13 : Int32) < 0 ∧ ((13 : Int32)).toNatClampNeg = 13 := (by decide)
      obtain ⟨T183, h183, X183, e183, W183, st183⟩ := stB X181 hx hZ e181 Ar182 (j := (13 : Int32)) (own_in S182 hj182 (by decide)) (g := (mkF m 125 #[.val (.int vv), .val (.int sel), .val (.int fil), .val (.int kk), .val (.int (((sel.toUInt32 >>> ((2 : Int32) &&& 31).toUInt32).toInt32) &&& (3 : Int32))), .val (.int (4 : Int32)), .val (.int st), .val (.int (fil.toInt8.toInt32)), .unset, .unset, .unset, .unset] [(.int (fil.toInt8.toInt32)), (.int (13 : Int32)), (.ref b153), (.ref b153)])) rfl rfl (hb hby at_125)
      have V183 : OwnArf Z h183 b153 .byte 24 (own_upd (own_fl 13 (nar .byte (fil.toInt8.toInt32))) 13 (nar .byte (fil.toInt8.toInt32))) := OwnArf.set Ar182 S182 H182 W183 hj182.2
      have V183' : OwnArf Z h183 b153 .byte 24 (own_fl 14 (nar .byte (fil.toInt8.toInt32))) := V183.congr (own_fl_up 13 _)
      have N183 := Fr.snoc X183 N181 g154
      have Z183 : n0 ≤ h183.size := Nat.le_trans Z181 (Keep.of_wr W183).1
      have K183 : Keep h0 h183 [] := K181.wr W183 (Or.inr z155)
      refine own_on st183 ?_
      show OwnGo p e below s _ _ _ (T183.setTop (mkF m 126 #[.val (.int vv), .val (.int sel), .val (.int fil), .val (.int kk), .val (.int (((sel.toUInt32 >>> ((2 : Int32) &&& 31).toUInt32).toInt32) &&& (3 : Int32))), .val (.int (4 : Int32)), .val (.int st), .val (.int (fil.toInt8.toInt32)), .unset, .unset, .unset, .unset] [(.ref b153)]))
      refine own_on (fun t k => XS.dup X183.here hx rfl (hb hby at_126) rfl rfl k) ?_
      show OwnGo p e below s _ _ _ (T183.setTop (mkF m 127 #[.val (.int vv), .val (.int sel), .val (.int fil), .val (.int kk), .val (.int (((sel.toUInt32 >>> ((2 : Int32) &&& 31).toUInt32).toInt32) &&& (3 : Int32))), .val (.int (4 : Int32)), .val (.int st), .val (.int (fil.toInt8.toInt32)), .unset, .unset, .unset, .unset] [(.ref b153), (.ref b153)]))
      refine own_on (fun t k => XS.bipush X183.here hx rfl (hb hby at_127) k) ?_
      show OwnGo p e below s _ _ _ (T183.setTop (mkF m 129 #[.val (.int vv), .val (.int sel), .val (.int fil), .val (.int kk), .val (.int (((sel.toUInt32 >>> ((2 : Int32) &&& 31).toUInt32).toInt32) &&& (3 : Int32))), .val (.int (4 : Int32)), .val (.int st), .val (.int (fil.toInt8.toInt32)), .unset, .unset, .unset, .unset] [(.int (14 : Int32)), (.ref b153), (.ref b153)]))
      refine own_on (fun t k => XS.iload X183.here hx rfl (hb hby at_129) rfl k) ?_
      show OwnGo p e below s _ _ _ (T183.setTop (mkF m 131 #[.val (.int vv), .val (.int sel), .val (.int fil), .val (.int kk), .val (.int (((sel.toUInt32 >>> ((2 : Int32) &&& 31).toUInt32).toInt32) &&& (3 : Int32))), .val (.int (4 : Int32)), .val (.int st), .val (.int (fil.toInt8.toInt32)), .unset, .unset, .unset, .unset] [(.int (fil.toInt8.toInt32)), (.int (14 : Int32)), (.ref b153), (.ref b153)]))
      obtain ⟨cl184, Ar184, S184, H184⟩ := id V183'
      have hj184 : ¬ (14 : Int32) < 0 ∧ ((14 : Int32)).toNatClampNeg = 14 := (by decide)
      obtain ⟨T185, h185, X185, e185, W185, st185⟩ := stB X183 hx hZ e183 Ar184 (j := (14 : Int32)) (own_in S184 hj184 (by decide)) (g := (mkF m 131 #[.val (.int vv), .val (.int sel), .val (.int fil), .val (.int kk), .val (.int (((sel.toUInt32 >>> ((2 : Int32) &&& 31).toUInt32).toInt32) &&& (3 : Int32))), .val (.int (4 : Int32)), .val (.int st), .val (.int (fil.toInt8.toInt32)), .unset, .unset, .unset, .unset] [(.int (fil.toInt8.toInt32)), (.int (14 : Int32)), (.ref b153), (.ref b153)])) rfl rfl (hb hby at_131)
      have V185 : OwnArf Z h185 b153 .byte 24 (own_upd (own_fl 14 (nar .byte (fil.toInt8.toInt32))) 14 (nar .byte (fil.toInt8.toInt32))) := OwnArf.set Ar184 S184 H184 W185 hj184.2
      have V185' : OwnArf Z h185 b153 .byte 24 (own_fl 15 (nar .byte (fil.toInt8.toInt32))) := V185.congr (own_fl_up 14 _)
      have N185 := Fr.snoc X185 N183 g154
      have Z185 : n0 ≤ h185.size := Nat.le_trans Z183 (Keep.of_wr W185).1
      have K185 : Keep h0 h185 [] := K183.wr W185 (Or.inr z155)
      refine own_on st185 ?_
      show OwnGo p e below s _ _ _ (T185.setTop (mkF m 132 #[.val (.int vv), .val (.int sel), .val (.int fil), .val (.int kk), .val (.int (((sel.toUInt32 >>> ((2 : Int32) &&& 31).toUInt32).toInt32) &&& (3 : Int32))), .val (.int (4 : Int32)), .val (.int st), .val (.int (fil.toInt8.toInt32)), .unset, .unset, .unset, .unset] [(.ref b153)]))
      refine own_on (fun t k => XS.dup X185.here hx rfl (hb hby at_132) rfl rfl k) ?_
      show OwnGo p e below s _ _ _ (T185.setTop (mkF m 133 #[.val (.int vv), .val (.int sel), .val (.int fil), .val (.int kk), .val (.int (((sel.toUInt32 >>> ((2 : Int32) &&& 31).toUInt32).toInt32) &&& (3 : Int32))), .val (.int (4 : Int32)), .val (.int st), .val (.int (fil.toInt8.toInt32)), .unset, .unset, .unset, .unset] [(.ref b153), (.ref b153)]))
      refine own_on (fun t k => XS.bipush X185.here hx rfl (hb hby at_133) k) ?_
      show OwnGo p e below s _ _ _ (T185.setTop (mkF m 135 #[.val (.int vv), .val (.int sel), .val (.int fil), .val (.int kk), .val (.int (((sel.toUInt32 >>> ((2 : Int32) &&& 31).toUInt32).toInt32) &&& (3 : Int32))), .val (.int (4 : Int32)), .val (.int st), .val (.int (fil.toInt8.toInt32)), .unset, .unset, .unset, .unset] [(.int (15 : Int32)), (.ref b153), (.ref b153)]))
      refine own_on (fun t k => XS.iload X185.here hx rfl (hb hby at_135) rfl k) ?_
      show OwnGo p e below s _ _ _ (T185.setTop (mkF m 137 #[.val (.int vv), .val (.int sel), .val (.int fil), .val (.int kk), .val (.int (((sel.toUInt32 >>> ((2 : Int32) &&& 31).toUInt32).toInt32) &&& (3 : Int32))), .val (.int (4 : Int32)), .val (.int st), .val (.int (fil.toInt8.toInt32)), .unset, .unset, .unset, .unset] [(.int (fil.toInt8.toInt32)), (.int (15 : Int32)), (.ref b153), (.ref b153)]))
      obtain ⟨cl186, Ar186, S186, H186⟩ := id V185'
      have hj186 : ¬ (15 : Int32) < 0 ∧ ((15 : Int32)).toNatClampNeg = 15 := (by decide)
      obtain ⟨T187, h187, X187, e187, W187, st187⟩ := stB X185 hx hZ e185 Ar186 (j := (15 : Int32)) (own_in S186 hj186 (by decide)) (g := (mkF m 137 #[.val (.int vv), .val (.int sel), .val (.int fil), .val (.int kk), .val (.int (((sel.toUInt32 >>> ((2 : Int32) &&& 31).toUInt32).toInt32) &&& (3 : Int32))), .val (.int (4 : Int32)), .val (.int st), .val (.int (fil.toInt8.toInt32)), .unset, .unset, .unset, .unset] [(.int (fil.toInt8.toInt32)), (.int (15 : Int32)), (.ref b153), (.ref b153)])) rfl rfl (hb hby at_137)
      have V187 : OwnArf Z h187 b153 .byte 24 (own_upd (own_fl 15 (nar .byte (fil.toInt8.toInt32))) 15 (nar .byte (fil.toInt8.toInt32))) := OwnArf.set Ar186 S186 H186 W187 hj186.2
      have V187' : OwnArf Z h187 b153 .byte 24 (own_fl 16 (nar .byte (fil.toInt8.toInt32))) := V187.congr (own_fl_up 15 _)
      have N187 := Fr.snoc X187 N185 g154
      have Z187 : n0 ≤ h187.size := Nat.le_trans Z185 (Keep.of_wr W187).1
      have K187 : Keep h0 h187 [] := K185.wr W187 (Or.inr z155)
      refine own_on st187 ?_
      show OwnGo p e below s _ _ _ (T187.setTop (mkF m 138 #[.val (.int vv), .val (.int sel), .val (.int fil), .val (.int kk), .val (.int (((sel.toUInt32 >>> ((2 : Int32) &&& 31).toUInt32).toInt32) &&& (3 : Int32))), .val (.int (4 : Int32)), .val (.int st), .val (.int (fil.toInt8.toInt32)), .unset, .unset, .unset, .unset] [(.ref b153)]))
      refine own_on (fun t k => XS.dup X187.here hx rfl (hb hby at_138) rfl rfl k) ?_
      show OwnGo p e below s _ _ _ (T187.setTop (mkF m 139 #[.val (.int vv), .val (.int sel), .val (.int fil), .val (.int kk), .val (.int (((sel.toUInt32 >>> ((2 : Int32) &&& 31).toUInt32).toInt32) &&& (3 : Int32))), .val (.int (4 : Int32)), .val (.int st), .val (.int (fil.toInt8.toInt32)), .unset, .unset, .unset, .unset] [(.ref b153), (.ref b153)]))
      refine own_on (fun t k => XS.bipush X187.here hx rfl (hb hby at_139) k) ?_
      show OwnGo p e below s _ _ _ (T187.setTop (mkF m 141 #[.val (.int vv), .val (.int sel), .val (.int fil), .val (.int kk), .val (.int (((sel.toUInt32 >>> ((2 : Int32) &&& 31).toUInt32).toInt32) &&& (3 : Int32))), .val (.int (4 : Int32)), .val (.int st), .val (.int (fil.toInt8.toInt32)), .unset, .unset, .unset, .unset] [(.int (16 : Int32)), (.ref b153), (.ref b153)]))
      refine own_on (fun t k => XS.iload X187.here hx rfl (hb hby at_141) rfl k) ?_
      show OwnGo p e below s _ _ _ (T187.setTop (mkF m 143 #[.val (.int vv), .val (.int sel), .val (.int fil), .val (.int kk), .val (.int (((sel.toUInt32 >>> ((2 : Int32) &&& 31).toUInt32).toInt32) &&& (3 : Int32))), .val (.int (4 : Int32)), .val (.int st), .val (.int (fil.toInt8.toInt32)), .unset, .unset, .unset, .unset] [(.int (fil.toInt8.toInt32)), (.int (16 : Int32)), (.ref b153), (.ref b153)]))
      obtain ⟨cl188, Ar188, S188, H188⟩ := id V187'
      have hj188 : ¬ (16 : Int32) < 0 ∧ ((16 : Int32)).toNatClampNeg = 16 := (by decide)
      obtain ⟨T189, h189, X189, e189, W189, st189⟩ := stB X187 hx hZ e187 Ar188 (j := (16 : Int32)) (own_in S188 hj188 (by decide)) (g := (mkF m 143 #[.val (.int vv), .val (.int sel), .val (.int fil), .val (.int kk), .val (.int (((sel.toUInt32 >>> ((2 : Int32) &&& 31).toUInt32).toInt32) &&& (3 : Int32))), .val (.int (4 : Int32)), .val (.int st), .val (.int (fil.toInt8.toInt32)), .unset, .unset, .unset, .unset] [(.int (fil.toInt8.toInt32)), (.int (16 : Int32)), (.ref b153), (.ref b153)])) rfl rfl (hb hby at_143)
      have V189 : OwnArf Z h189 b153 .byte 24 (own_upd (own_fl 16 (nar .byte (fil.toInt8.toInt32))) 16 (nar .byte (fil.toInt8.toInt32))) := OwnArf.set Ar188 S188 H188 W189 hj188.2
      have V189' : OwnArf Z h189 b153 .byte 24 (own_fl 17 (nar .byte (fil.toInt8.toInt32))) := V189.congr (own_fl_up 16 _)
      have N189 := Fr.snoc X189 N187 g154
      have Z189 : n0 ≤ h189.size := Nat.le_trans Z187 (Keep.of_wr W189).1
      have K189 : Keep h0 h189 [] := K187.wr W189 (Or.inr z155)
      refine own_on st189 ?_
      show OwnGo p e below s _ _ _ (T189.setTop (mkF m 144 #[.val (.int vv), .val (.int sel), .val (.int fil), .val (.int kk), .val (.int (((sel.toUInt32 >>> ((2 : Int32) &&& 31).toUInt32).toInt32) &&& (3 : Int32))), .val (.int (4 : Int32)), .val (.int st), .val (.int (fil.toInt8.toInt32)), .unset, .unset, .unset, .unset] [(.ref b153)]))
      refine own_on (fun t k => XS.dup X189.here hx rfl (hb hby at_144) rfl rfl k) ?_
      show OwnGo p e below s _ _ _ (T189.setTop (mkF m 145 #[.val (.int vv), .val (.int sel), .val (.int fil), .val (.int kk), .val (.int (((sel.toUInt32 >>> ((2 : Int32) &&& 31).toUInt32).toInt32) &&& (3 : Int32))), .val (.int (4 : Int32)), .val (.int st), .val (.int (fil.toInt8.toInt32)), .unset, .unset, .unset, .unset] [(.ref b153), (.ref b153)]))
      refine own_on (fun t k => XS.bipush X189.here hx rfl (hb hby at_145) k) ?_
      show OwnGo p e below s _ _ _ (T189.setTop (mkF m 147 #[.val (.int vv), .val (.int sel), .val (.int fil), .val (.int kk), .val (.int (((sel.toUInt32 >>> ((2 : Int32) &&& 31).toUInt32).toInt32) &&& (3 : Int32))), .val (.int (4 : Int32)), .val (.int st), .val (.int (fil.toInt8.toInt32)), .unset, .unset, .unset, .unset] [(.int (17 : Int32)), (.ref b153), (.ref b153)]))
      refine own_on (fun t k => XS.iload X189.here hx rfl (hb hby at_147) rfl k) ?_
      show OwnGo p e below s _ _ _ (T189.setTop (mkF m 149 #[.val (.int vv), .val (.int sel), .val (.int fil), .val (.int kk), .val (.int (((sel.toUInt32 >>> ((2 : Int32) &&& 31).toUInt32).toInt32) &&& (3 : Int32))), .val (.int (4 : Int32)), .val (.int st), .val (.int (fil.toInt8.toInt32)), .unset, .unset, .unset, .unset] [(.int (fil.toInt8.toInt32)), (.int (17 : Int32)), (.ref b153), (.ref b153)]))
      obtain ⟨cl190, Ar190, S190, H190⟩ := id V189'
      have hj190 : ¬ (17 : Int32) < 0 ∧ ((17 : Int32)).toNatClampNeg = 17 := (by decide)
      obtain ⟨T191, h191, X191, e191, W191, st191⟩ := stB X189 hx hZ e189 Ar190 (j := (17 : Int32)) (own_in S190 hj190 (by decide)) (g := (mkF m 149 #[.val (.int vv), .val (.int sel), .val (.int fil), .val (.int kk), .val (.int (((sel.toUInt32 >>> ((2 : Int32) &&& 31).toUInt32).toInt32) &&& (3 : Int32))), .val (.int (4 : Int32)), .val (.int st), .val (.int (fil.toInt8.toInt32)), .unset, .unset, .unset, .unset] [(.int (fil.toInt8.toInt32)), (.int (17 : Int32)), (.ref b153), (.ref b153)])) rfl rfl (hb hby at_149)
      have V191 : OwnArf Z h191 b153 .byte 24 (own_upd (own_fl 17 (nar .byte (fil.toInt8.toInt32))) 17 (nar .byte (fil.toInt8.toInt32))) := OwnArf.set Ar190 S190 H190 W191 hj190.2
      have V191' : OwnArf Z h191 b153 .byte 24 (own_fl 18 (nar .byte (fil.toInt8.toInt32))) := V191.congr (own_fl_up 17 _)
      have N191 := Fr.snoc X191 N189 g154
      have Z191 : n0 ≤ h191.size := Nat.le_trans Z189 (Keep.of_wr W191).1
      have K191 : Keep h0 h191 [] := K189.wr W191 (Or.inr z155)
      refine own_on st191 ?_
      show OwnGo p e below s _ _ _ (T191.setTop (mkF m 150 #[.val (.int vv), .val (.int sel), .val (.int fil), .val (.int kk), .val (.int (((sel.toUInt32 >>> ((2 : Int32) &&& 31).toUInt32).toInt32) &&& (3 : Int32))), .val (.int (4 : Int32)), .val (.int st), .val (.int (fil.toInt8.toInt32)), .unset, .unset, .unset, .unset] [(.ref b153)]))
      refine own_on (fun t k => XS.dup X191.here hx rfl (hb hby at_150) rfl rfl k) ?_
      show OwnGo p e below s _ _ _ (T191.setTop (mkF m 151 #[.val (.int vv), .val (.int sel), .val (.int fil), .val (.int kk), .val (.int (((sel.toUInt32 >>> ((2 : Int32) &&& 31).toUInt32).toInt32) &&& (3 : Int32))), .val (.int (4 : Int32)), .val (.int st), .val (.int (fil.toInt8.toInt32)), .unset, .unset, .unset, .unset] [(.ref b153), (.ref b153)]))
      refine own_on (fun t k => XS.bipush X191.here hx rfl (hb hby at_151) k) ?_
      show OwnGo p e below s _ _ _ (T191.setTop (mkF m 153 #[.val (.int vv), .val (.int sel), .val (.int fil), .val (.int kk), .val (.int (((sel.toUInt32 >>> ((2 : Int32) &&& 31).toUInt32).toInt32) &&& (3 : Int32))), .val (.int (4 : Int32)), .val (.int st), .val (.int (fil.toInt8.toInt32)), .unset, .unset, .unset, .unset] [(.int (18 : Int32)), (.ref b153), (.ref b153)]))
      refine own_on (fun t k => XS.iload X191.here hx rfl (hb hby at_153) rfl k) ?_
      show OwnGo p e below s _ _ _ (T191.setTop (mkF m 155 #[.val (.int vv), .val (.int sel), .val (.int fil), .val (.int kk), .val (.int (((sel.toUInt32 >>> ((2 : Int32) &&& 31).toUInt32).toInt32) &&& (3 : Int32))), .val (.int (4 : Int32)), .val (.int st), .val (.int (fil.toInt8.toInt32)), .unset, .unset, .unset, .unset] [(.int (fil.toInt8.toInt32)), (.int (18 : Int32)), (.ref b153), (.ref b153)]))
      obtain ⟨cl192, Ar192, S192, H192⟩ := id V191'
      have hj192 : ¬ (18 : Int32) < 0 ∧ ((18 : Int32)).toNatClampNeg = 18 := (by decide)
      obtain ⟨T193, h193, X193, e193, W193, st193⟩ := stB X191 hx hZ e191 Ar192 (j := (18 : Int32)) (own_in S192 hj192 (by decide)) (g := (mkF m 155 #[.val (.int vv), .val (.int sel), .val (.int fil), .val (.int kk), .val (.int (((sel.toUInt32 >>> ((2 : Int32) &&& 31).toUInt32).toInt32) &&& (3 : Int32))), .val (.int (4 : Int32)), .val (.int st), .val (.int (fil.toInt8.toInt32)), .unset, .unset, .unset, .unset] [(.int (fil.toInt8.toInt32)), (.int (18 : Int32)), (.ref b153), (.ref b153)])) rfl rfl (hb hby at_155)
      have V193 : OwnArf Z h193 b153 .byte 24 (own_upd (own_fl 18 (nar .byte (fil.toInt8.toInt32))) 18 (nar .byte (fil.toInt8.toInt32))) := OwnArf.set Ar192 S192 H192 W193 hj192.2
      have V193' : OwnArf Z h193 b153 .byte 24 (own_fl 19 (nar .byte (fil.toInt8.toInt32))) := V193.congr (own_fl_up 18 _)
      have N193 := Fr.snoc X193 N191 g154
      have Z193 : n0 ≤ h193.size := Nat.le_trans Z191 (Keep.of_wr W193).1
      have K193 : Keep h0 h193 [] := K191.wr W193 (Or.inr z155)
      refine own_on st193 ?_
      show OwnGo p e below s _ _ _ (T193.setTop (mkF m 156 #[.val (.int vv), .val (.int sel), .val (.int fil), .val (.int kk), .val (.int (((sel.toUInt32 >>> ((2 : Int32) &&& 31).toUInt32).toInt32) &&& (3 : Int32))), .val (.int (4 : Int32)), .val (.int st), .val (.int (fil.toInt8.toInt32)), .unset, .unset, .unset, .unset] [(.ref b153)]))
      refine own_on (fun t k => XS.dup X193.here hx rfl (hb hby at_156) rfl rfl k) ?_
      show OwnGo p e below s _ _ _ (T193.setTop (mkF m 157 #[.val (.int vv), .val (.int sel), .val (.int fil), .val (.int kk), .val (.int (((sel.toUInt32 >>> ((2 : Int32) &&& 31).toUInt32).toInt32) &&& (3 : Int32))), .val (.int (4 : Int32)), .val (.int st), .val (.int (fil.toInt8.toInt32)), .unset, .unset, .unset, .unset] [(.ref b153), (.ref b153)]))
      refine own_on (fun t k => XS.bipush X193.here hx rfl (hb hby at_157) k) ?_
      show OwnGo p e below s _ _ _ (T193.setTop (mkF m 159 #[.val (.int vv), .val (.int sel), .val (.int fil), .val (.int kk), .val (.int (((sel.toUInt32 >>> ((2 : Int32) &&& 31).toUInt32).toInt32) &&& (3 : Int32))), .val (.int (4 : Int32)), .val (.int st), .val (.int (fil.toInt8.toInt32)), .unset, .unset, .unset, .unset] [(.int (19 : Int32)), (.ref b153), (.ref b153)]))
      refine own_on (fun t k => XS.iload X193.here hx rfl (hb hby at_159) rfl k) ?_
      show OwnGo p e below s _ _ _ (T193.setTop (mkF m 161 #[.val (.int vv), .val (.int sel), .val (.int fil), .val (.int kk), .val (.int (((sel.toUInt32 >>> ((2 : Int32) &&& 31).toUInt32).toInt32) &&& (3 : Int32))), .val (.int (4 : Int32)), .val (.int st), .val (.int (fil.toInt8.toInt32)), .unset, .unset, .unset, .unset] [(.int (fil.toInt8.toInt32)), (.int (19 : Int32)), (.ref b153), (.ref b153)]))
      obtain ⟨cl194, Ar194, S194, H194⟩ := id V193'
      have hj194 : ¬ (19 : Int32) < 0 ∧ ((19 : Int32)).toNatClampNeg = 19 := (by decide)
      obtain ⟨T195, h195, X195, e195, W195, st195⟩ := stB X193 hx hZ e193 Ar194 (j := (19 : Int32)) (own_in S194 hj194 (by decide)) (g := (mkF m 161 #[.val (.int vv), .val (.int sel), .val (.int fil), .val (.int kk), .val (.int (((sel.toUInt32 >>> ((2 : Int32) &&& 31).toUInt32).toInt32) &&& (3 : Int32))), .val (.int (4 : Int32)), .val (.int st), .val (.int (fil.toInt8.toInt32)), .unset, .unset, .unset, .unset] [(.int (fil.toInt8.toInt32)), (.int (19 : Int32)), (.ref b153), (.ref b153)])) rfl rfl (hb hby at_161)
      have V195 : OwnArf Z h195 b153 .byte 24 (own_upd (own_fl 19 (nar .byte (fil.toInt8.toInt32))) 19 (nar .byte (fil.toInt8.toInt32))) := OwnArf.set Ar194 S194 H194 W195 hj194.2
      have V195' : OwnArf Z h195 b153 .byte 24 (own_fl 20 (nar .byte (fil.toInt8.toInt32))) := V195.congr (own_fl_up 19 _)
      have N195 := Fr.snoc X195 N193 g154
      have Z195 : n0 ≤ h195.size := Nat.le_trans Z193 (Keep.of_wr W195).1
      have K195 : Keep h0 h195 [] := K193.wr W195 (Or.inr z155)
      refine own_on st195 ?_
      show OwnGo p e below s _ _ _ (T195.setTop (mkF m 162 #[.val (.int vv), .val (.int sel), .val (.int fil), .val (.int kk), .val (.int (((sel.toUInt32 >>> ((2 : Int32) &&& 31).toUInt32).toInt32) &&& (3 : Int32))), .val (.int (4 : Int32)), .val (.int st), .val (.int (fil.toInt8.toInt32)), .unset, .unset, .unset, .unset] [(.ref b153)]))
      refine own_on (fun t k => XS.dup X195.here hx rfl (hb hby at_162) rfl rfl k) ?_
      show OwnGo p e below s _ _ _ (T195.setTop (mkF m 163 #[.val (.int vv), .val (.int sel), .val (.int fil), .val (.int kk), .val (.int (((sel.toUInt32 >>> ((2 : Int32) &&& 31).toUInt32).toInt32) &&& (3 : Int32))), .val (.int (4 : Int32)), .val (.int st), .val (.int (fil.toInt8.toInt32)), .unset, .unset, .unset, .unset] [(.ref b153), (.ref b153)]))
      refine own_on (fun t k => XS.bipush X195.here hx rfl (hb hby at_163) k) ?_
      show OwnGo p e below s _ _ _ (T195.setTop (mkF m 165 #[.val (.int vv), .val (.int sel), .val (.int fil), .val (.int kk), .val (.int (((sel.toUInt32 >>> ((2 : Int32) &&& 31).toUInt32).toInt32) &&& (3 : Int32))), .val (.int (4 : Int32)), .val (.int st), .val (.int (fil.toInt8.toInt32)), .unset, .unset, .unset, .unset] [(.int (20 : Int32)), (.ref b153), (.ref b153)]))
      refine own_on (fun t k => XS.iload X195.here hx rfl (hb hby at_165) rfl k) ?_
      show OwnGo p e below s _ _ _ (T195.setTop (mkF m 167 #[.val (.int vv), .val (.int sel), .val (.int fil), .val (.int kk), .val (.int (((sel.toUInt32 >>> ((2 : Int32) &&& 31).toUInt32).toInt32) &&& (3 : Int32))), .val (.int (4 : Int32)), .val (.int st), .val (.int (fil.toInt8.toInt32)), .unset, .unset, .unset, .unset] [(.int (fil.toInt8.toInt32)), (.int (20 : Int32)), (.ref b153), (.ref b153)]))
      obtain ⟨cl196, Ar196, S196, H196⟩ := id V195'
      have hj196 : ¬ (20 : Int32) < 0 ∧ ((20 : Int32)).toNatClampNeg = 20 := (by decide)
      obtain ⟨T197, h197, X197, e197, W197, st197⟩ := stB X195 hx hZ e195 Ar196 (j := (20 : Int32)) (own_in S196 hj196 (by decide)) (g := (mkF m 167 #[.val (.int vv), .val (.int sel), .val (.int fil), .val (.int kk), .val (.int (((sel.toUInt32 >>> ((2 : Int32) &&& 31).toUInt32).toInt32) &&& (3 : Int32))), .val (.int (4 : Int32)), .val (.int st), .val (.int (fil.toInt8.toInt32)), .unset, .unset, .unset, .unset] [(.int (fil.toInt8.toInt32)), (.int (20 : Int32)), (.ref b153), (.ref b153)])) rfl rfl (hb hby at_167)
      have V197 : OwnArf Z h197 b153 .byte 24 (own_upd (own_fl 20 (nar .byte (fil.toInt8.toInt32))) 20 (nar .byte (fil.toInt8.toInt32))) := OwnArf.set Ar196 S196 H196 W197 hj196.2
      have V197' : OwnArf Z h197 b153 .byte 24 (own_fl 21 (nar .byte (fil.toInt8.toInt32))) := V197.congr (own_fl_up 20 _)
      have N197 := Fr.snoc X197 N195 g154
      have Z197 : n0 ≤ h197.size := Nat.le_trans Z195 (Keep.of_wr W197).1
      have K197 : Keep h0 h197 [] := K195.wr W197 (Or.inr z155)
      refine own_on st197 ?_
      show OwnGo p e below s _ _ _ (T197.setTop (mkF m 168 #[.val (.int vv), .val (.int sel), .val (.int fil), .val (.int kk), .val (.int (((sel.toUInt32 >>> ((2 : Int32) &&& 31).toUInt32).toInt32) &&& (3 : Int32))), .val (.int (4 : Int32)), .val (.int st), .val (.int (fil.toInt8.toInt32)), .unset, .unset, .unset, .unset] [(.ref b153)]))
      refine own_on (fun t k => XS.dup X197.here hx rfl (hb hby at_168) rfl rfl k) ?_
      show OwnGo p e below s _ _ _ (T197.setTop (mkF m 169 #[.val (.int vv), .val (.int sel), .val (.int fil), .val (.int kk), .val (.int (((sel.toUInt32 >>> ((2 : Int32) &&& 31).toUInt32).toInt32) &&& (3 : Int32))), .val (.int (4 : Int32)), .val (.int st), .val (.int (fil.toInt8.toInt32)), .unset, .unset, .unset, .unset] [(.ref b153), (.ref b153)]))
      refine own_on (fun t k => XS.bipush X197.here hx rfl (hb hby at_169) k) ?_
      show OwnGo p e below s _ _ _ (T197.setTop (mkF m 171 #[.val (.int vv), .val (.int sel), .val (.int fil), .val (.int kk), .val (.int (((sel.toUInt32 >>> ((2 : Int32) &&& 31).toUInt32).toInt32) &&& (3 : Int32))), .val (.int (4 : Int32)), .val (.int st), .val (.int (fil.toInt8.toInt32)), .unset, .unset, .unset, .unset] [(.int (21 : Int32)), (.ref b153), (.ref b153)]))
      refine own_on (fun t k => XS.iload X197.here hx rfl (hb hby at_171) rfl k) ?_
      show OwnGo p e below s _ _ _ (T197.setTop (mkF m 173 #[.val (.int vv), .val (.int sel), .val (.int fil), .val (.int kk), .val (.int (((sel.toUInt32 >>> ((2 : Int32) &&& 31).toUInt32).toInt32) &&& (3 : Int32))), .val (.int (4 : Int32)), .val (.int st), .val (.int (fil.toInt8.toInt32)), .unset, .unset, .unset, .unset] [(.int (fil.toInt8.toInt32)), (.int (21 : Int32)), (.ref b153), (.ref b153)]))
      obtain ⟨cl198, Ar198, S198, H198⟩ := id V197'
      have hj198 : ¬ (21 : Int32) < 0 ∧ ((21 : Int32)).toNatClampNeg = 21 := (by decide)
      obtain ⟨T199, h199, X199, e199, W199, st199⟩ := stB X197 hx hZ e197 Ar198 (j := (21 : Int32)) (own_in S198 hj198 (by decide)) (g := (mkF m 173 #[.val (.int vv), .val (.int sel), .val (.int fil), .val (.int kk), .val (.int (((sel.toUInt32 >>> ((2 : Int32) &&& 31).toUInt32).toInt32) &&& (3 : Int32))), .val (.int (4 : Int32)), .val (.int st), .val (.int (fil.toInt8.toInt32)), .unset, .unset, .unset, .unset] [(.int (fil.toInt8.toInt32)), (.int (21 : Int32)), (.ref b153), (.ref b153)])) rfl rfl (hb hby at_173)
      have V199 : OwnArf Z h199 b153 .byte 24 (own_upd (own_fl 21 (nar .byte (fil.toInt8.toInt32))) 21 (nar .byte (fil.toInt8.toInt32))) := OwnArf.set Ar198 S198 H198 W199 hj198.2
      have V199' : OwnArf Z h199 b153 .byte 24 (own_fl 22 (nar .byte (fil.toInt8.toInt32))) := V199.congr (own_fl_up 21 _)
      have N199 := Fr.snoc X199 N197 g154
      have Z199 : n0 ≤ h199.size := Nat.le_trans Z197 (Keep.of_wr W199).1
      have K199 : Keep h0 h199 [] := K197.wr W199 (Or.inr z155)
      refine own_on st199 ?_
      show OwnGo p e below s _ _ _ (T199.setTop (mkF m 174 #[.val (.int vv), .val (.int sel), .val (.int fil), .val (.int kk), .val (.int (((sel.toUInt32 >>> ((2 : Int32) &&& 31).toUInt32).toInt32) &&& (3 : Int32))), .val (.int (4 : Int32)), .val (.int st), .val (.int (fil.toInt8.toInt32)), .unset, .unset, .unset, .unset] [(.ref b153)]))
      refine own_on (fun t k => XS.dup X199.here hx rfl (hb hby at_174) rfl rfl k) ?_
      show OwnGo p e below s _ _ _ (T199.setTop (mkF m 175 #[.val (.int vv), .val (.int sel), .val (.int fil), .val (.int kk), .val (.int (((sel.toUInt32 >>> ((2 : Int32) &&& 31).toUInt32).toInt32) &&& (3 : Int32))), .val (.int (4 : Int32)), .val (.int st), .val (.int (fil.toInt8.toInt32)), .unset, .unset, .unset, .unset] [(.ref b153), (.ref b153)]))
      refine own_on (fun t k => XS.bipush X199.here hx rfl (hb hby at_175) k) ?_
      show OwnGo p e below s _ _ _ (T199.setTop (mkF m 177 #[.val (.int vv), .val (.int sel), .val (.int fil), .val (.int kk), .val (.int (((sel.toUInt32 >>> ((2 : Int32) &&& 31).toUInt32).toInt32) &&& (3 : Int32))), .val (.int (4 : Int32)), .val (.int st), .val (.int (fil.toInt8.toInt32)), .unset, .unset, .unset, .unset] [(.int (22 : Int32)), (.ref b153), (.ref b153)]))
      refine own_on (fun t k => XS.iload X199.here hx rfl (hb hby at_177) rfl k) ?_
      show OwnGo p e below s _ _ _ (T199.setTop (mkF m 179 #[.val (.int vv), .val (.int sel), .val (.int fil), .val (.int kk), .val (.int (((sel.toUInt32 >>> ((2 : Int32) &&& 31).toUInt32).toInt32) &&& (3 : Int32))), .val (.int (4 : Int32)), .val (.int st), .val (.int (fil.toInt8.toInt32)), .unset, .unset, .unset, .unset] [(.int (fil.toInt8.toInt32)), (.int (22 : Int32)), (.ref b153), (.ref b153)]))
      obtain ⟨cl200, Ar200, S200, H200⟩ := id V199'
      have hj200 : ¬ (22 : Int32) < 0 ∧ ((22 : Int32)).toNatClampNeg = 22 := (by decide)
      obtain ⟨T201, h201, X201, e201, W201, st201⟩ := stB X199 hx hZ e199 Ar200 (j := (22 : Int32)) (own_in S200 hj200 (by decide)) (g := (mkF m 179 #[.val (.int vv), .val (.int sel), .val (.int fil), .val (.int kk), .val (.int (((sel.toUInt32 >>> ((2 : Int32) &&& 31).toUInt32).toInt32) &&& (3 : Int32))), .val (.int (4 : Int32)), .val (.int st), .val (.int (fil.toInt8.toInt32)), .unset, .unset, .unset, .unset] [(.int (fil.toInt8.toInt32)), (.int (22 : Int32)), (.ref b153), (.ref b153)])) rfl rfl (hb hby at_179)
      have V201 : OwnArf Z h201 b153 .byte 24 (own_upd (own_fl 22 (nar .byte (fil.toInt8.toInt32))) 22 (nar .byte (fil.toInt8.toInt32))) := OwnArf.set Ar200 S200 H200 W201 hj200.2
      have V201' : OwnArf Z h201 b153 .byte 24 (own_fl 23 (nar .byte (fil.toInt8.toInt32))) := V201.congr (own_fl_up 22 _)
      have N201 := Fr.snoc X201 N199 g154
      have Z201 : n0 ≤ h201.size := Nat.le_trans Z199 (Keep.of_wr W201).1
      have K201 : Keep h0 h201 [] := K199.wr W201 (Or.inr z155)
      refine own_on st201 ?_
      show OwnGo p e below s _ _ _ (T201.setTop (mkF m 180 #[.val (.int vv), .val (.int sel), .val (.int fil), .val (.int kk), .val (.int (((sel.toUInt32 >>> ((2 : Int32) &&& 31).toUInt32).toInt32) &&& (3 : Int32))), .val (.int (4 : Int32)), .val (.int st), .val (.int (fil.toInt8.toInt32)), .unset, .unset, .unset, .unset] [(.ref b153)]))
      refine own_on (fun t k => XS.dup X201.here hx rfl (hb hby at_180) rfl rfl k) ?_
      show OwnGo p e below s _ _ _ (T201.setTop (mkF m 181 #[.val (.int vv), .val (.int sel), .val (.int fil), .val (.int kk), .val (.int (((sel.toUInt32 >>> ((2 : Int32) &&& 31).toUInt32).toInt32) &&& (3 : Int32))), .val (.int (4 : Int32)), .val (.int st), .val (.int (fil.toInt8.toInt32)), .unset, .unset, .unset, .unset] [(.ref b153), (.ref b153)]))
      refine own_on (fun t k => XS.bipush X201.here hx rfl (hb hby at_181) k) ?_
      show OwnGo p e below s _ _ _ (T201.setTop (mkF m 183 #[.val (.int vv), .val (.int sel), .val (.int fil), .val (.int kk), .val (.int (((sel.toUInt32 >>> ((2 : Int32) &&& 31).toUInt32).toInt32) &&& (3 : Int32))), .val (.int (4 : Int32)), .val (.int st), .val (.int (fil.toInt8.toInt32)), .unset, .unset, .unset, .unset] [(.int (23 : Int32)), (.ref b153), (.ref b153)]))
      refine own_on (fun t k => XS.iload X201.here hx rfl (hb hby at_183) rfl k) ?_
      show OwnGo p e below s _ _ _ (T201.setTop (mkF m 185 #[.val (.int vv), .val (.int sel), .val (.int fil), .val (.int kk), .val (.int (((sel.toUInt32 >>> ((2 : Int32) &&& 31).toUInt32).toInt32) &&& (3 : Int32))), .val (.int (4 : Int32)), .val (.int st), .val (.int (fil.toInt8.toInt32)), .unset, .unset, .unset, .unset] [(.int (fil.toInt8.toInt32)), (.int (23 : Int32)), (.ref b153), (.ref b153)]))
      obtain ⟨cl202, Ar202, S202, H202⟩ := id V201'
      have hj202 : ¬ (23 : Int32) < 0 ∧ ((23 : Int32)).toNatClampNeg = 23 := (by decide)
      obtain ⟨T203, h203, X203, e203, W203, st203⟩ := stB X201 hx hZ e201 Ar202 (j := (23 : Int32)) (own_in S202 hj202 (by decide)) (g := (mkF m 185 #[.val (.int vv), .val (.int sel), .val (.int fil), .val (.int kk), .val (.int (((sel.toUInt32 >>> ((2 : Int32) &&& 31).toUInt32).toInt32) &&& (3 : Int32))), .val (.int (4 : Int32)), .val (.int st), .val (.int (fil.toInt8.toInt32)), .unset, .unset, .unset, .unset] [(.int (fil.toInt8.toInt32)), (.int (23 : Int32)), (.ref b153), (.ref b153)])) rfl rfl (hb hby at_185)
      have V203 : OwnArf Z h203 b153 .byte 24 (own_upd (own_fl 23 (nar .byte (fil.toInt8.toInt32))) 23 (nar .byte (fil.toInt8.toInt32))) := OwnArf.set Ar202 S202 H202 W203 hj202.2
      have V203' : OwnArf Z h203 b153 .byte 24 (own_fl 24 (nar .byte (fil.toInt8.toInt32))) := V203.congr (own_fl_up 23 _)
      have N203 := Fr.snoc X203 N201 g154
      have Z203 : n0 ≤ h203.size := Nat.le_trans Z201 (Keep.of_wr W203).1
      have K203 : Keep h0 h203 [] := K201.wr W203 (Or.inr z155)
      refine own_on st203 ?_
      show OwnGo p e below s _ _ _ (T203.setTop (mkF m 186 #[.val (.int vv), .val (.int sel), .val (.int fil), .val (.int kk), .val (.int (((sel.toUInt32 >>> ((2 : Int32) &&& 31).toUInt32).toInt32) &&& (3 : Int32))), .val (.int (4 : Int32)), .val (.int st), .val (.int (fil.toInt8.toInt32)), .unset, .unset, .unset, .unset] [(.ref b153)]))
      refine own_on (fun t k => XS.astore X203.here hx rfl (hb hby at_186) rfl rfl (l' := #[.val (.int vv), .val (.int sel), .val (.int fil), .val (.int kk), .val (.int (((sel.toUInt32 >>> ((2 : Int32) &&& 31).toUInt32).toInt32) &&& (3 : Int32))), .val (.int (4 : Int32)), .val (.int st), .val (.int (fil.toInt8.toInt32)), .val (.ref b153), .unset, .unset, .unset]) rfl k) ?_
      show OwnGo p e below s _ _ _ (T203.setTop (mkF m 188 #[.val (.int vv), .val (.int sel), .val (.int fil), .val (.int kk), .val (.int (((sel.toUInt32 >>> ((2 : Int32) &&& 31).toUInt32).toInt32) &&& (3 : Int32))), .val (.int (4 : Int32)), .val (.int st), .val (.int (fil.toInt8.toInt32)), .val (.ref b153), .unset, .unset, .unset] []))
      refine own_on (fun t k => XS.aload X203.here hx rfl (hb hby at_188) rfl rfl k) ?_
      show OwnGo p e below s _ _ _ (T203.setTop (mkF m 190 #[.val (.int vv), .val (.int sel), .val (.int fil), .val (.int kk), .val (.int (((sel.toUInt32 >>> ((2 : Int32) &&& 31).toUInt32).toInt32) &&& (3 : Int32))), .val (.int (4 : Int32)), .val (.int st), .val (.int (fil.toInt8.toInt32)), .val (.ref b153), .unset, .unset, .unset] [(.ref b153)]))
      refine own_on (fun t k => XS.iload X203.here hx rfl (hb hby at_190) rfl k) ?_
      show OwnGo p e below s _ _ _ (T203.setTop (mkF m 192 #[.val (.int vv), .val (.int sel), .val (.int fil), .val (.int kk), .val (.int (((sel.toUInt32 >>> ((2 : Int32) &&& 31).toUInt32).toInt32) &&& (3 : Int32))), .val (.int (4 : Int32)), .val (.int st), .val (.int (fil.toInt8.toInt32)), .val (.ref b153), .unset, .unset, .unset] [(.int st), (.ref b153)]))
      refine own_on (fun t k => XS.iload X203.here hx rfl (hb hby at_192) rfl k) ?_
      show OwnGo p e below s _ _ _ (T203.setTop (mkF m 194 #[.val (.int vv), .val (.int sel), .val (.int fil), .val (.int kk), .val (.int (((sel.toUInt32 >>> ((2 : Int32) &&& 31).toUInt32).toInt32) &&& (3 : Int32))), .val (.int (4 : Int32)), .val (.int st), .val (.int (fil.toInt8.toInt32)), .val (.ref b153), .unset, .unset, .unset] [(.int (4 : Int32)), (.int st), (.ref b153)]))
      refine own_on (fun t k => XS.i2b X203.here hx rfl (hb hby at_194) rfl k) ?_
      show OwnGo p e below s _ _ _ (T203.setTop (mkF m 195 #[.val (.int vv), .val (.int sel), .val (.int fil), .val (.int kk), .val (.int (((sel.toUInt32 >>> ((2 : Int32) &&& 31).toUInt32).toInt32) &&& (3 : Int32))), .val (.int (4 : Int32)), .val (.int st), .val (.int (fil.toInt8.toInt32)), .val (.ref b153), .unset, .unset, .unset] [(.int ((4 : Int32).toInt8.toInt32)), (.int st), (.ref b153)]))
      obtain ⟨cl204, Ar204, S204, H204⟩ := id V203'
      have hj204 : ¬ st < 0 ∧ (st).toNatClampNeg = sN := own_ix hS
      obtain ⟨T205, h205, X205, e205, W205, st205⟩ := stB X203 hx hZ e203 Ar204 (j := st) (own_in S204 hj204 (by omega)) (g := (mkF m 195 #[.val (.int vv), .val (.int sel), .val (.int fil), .val (.int kk), .val (.int (((sel.toUInt32 >>> ((2 : Int32) &&& 31).toUInt32).toInt32) &&& (3 : Int32))), .val (.int (4 : Int32)), .val (.int st), .val (.int (fil.toInt8.toInt32)), .val (.ref b153), .unset, .unset, .unset] [(.int ((4 : Int32).toInt8.toInt32)), (.int st), (.ref b153)])) rfl rfl (hb hby at_195)
      have V205 : OwnArf Z h205 b153 .byte 24 (own_upd (own_fl 24 (nar .byte (fil.toInt8.toInt32))) sN (nar .byte ((4 : Int32).toInt8.toInt32))) := OwnArf.set Ar204 S204 H204 W205 hj204.2
      have N205 := Fr.snoc X205 N203 g154
      have Z205 : n0 ≤ h205.size := Nat.le_trans Z203 (Keep.of_wr W205).1
      have K205 : Keep h0 h205 [] := K203.wr W205 (Or.inr z155)
      refine own_on st205 ?_
      show OwnGo p e below s _ _ _ (T205.setTop (mkF m 196 #[.val (.int vv), .val (.int sel), .val (.int fil), .val (.int kk), .val (.int (((sel.toUInt32 >>> ((2 : Int32) &&& 31).toUInt32).toInt32) &&& (3 : Int32))), .val (.int (4 : Int32)), .val (.int st), .val (.int (fil.toInt8.toInt32)), .val (.ref b153), .unset, .unset, .unset] []))
      have hP : ((st + (1 : Int32)) + (kk * (4 : Int32))).toInt = (((sN + 1 + kN * 4) : Nat) : Int) := own_p hS hK hS0 hK0 4 (by decide) (by decide)
      refine own_on (fun t k => XS.iload X205.here hx rfl (hb hby at_196) rfl k) ?_
      show OwnGo p e below s _ _ _ (T205.setTop (mkF m 198 #[.val (.int vv), .val (.int sel), .val (.int fil), .val (.int kk), .val (.int (((sel.toUInt32 >>> ((2 : Int32) &&& 31).toUInt32).toInt32) &&& (3 : Int32))), .val (.int (4 : Int32)), .val (.int st), .val (.int (fil.toInt8.toInt32)), .val (.ref b153), .unset, .unset, .unset] [(.int st)]))
      refine own_on (fun t k => XS.iconst X205.here hx rfl (hb hby at_198) k) ?_
      show OwnGo p e below s _ _ _ (T205.setTop (mkF m 199 #[.val (.int vv), .val (.int sel), .val (.int fil), .val (.int kk), .val (.int (((sel.toUInt32 >>> ((2 : Int32) &&& 31).toUInt32).toInt32) &&& (3 : Int32))), .val (.int (4 : Int32)), .val (.int st), .val (.int (fil.toInt8.toInt32)), .val (.ref b153), .unset, .unset, .unset] [(.int (1 : Int32)), (.int st)]))
      refine own_on (fun t k => XS.iadd X205.here hx rfl (hb hby at_199) rfl k) ?_
      show OwnGo p e below s _ _ _ (T205.setTop (mkF m 200 #[.val (.int vv), .val (.int sel), .val (.int fil), .val (.int kk), .val (.int (((sel.toUInt32 >>> ((2 : Int32) &&& 31).toUInt32).toInt32) &&& (3 : Int32))), .val (.int (4 : Int32)), .val (.int st), .val (.int (fil.toInt8.toInt32)), .val (.ref b153), .unset, .unset, .unset] [(.int (st + (1 : Int32)))]))
      refine own_on (fun t k => XS.iloadN X205.here hx rfl (hb hby at_200) rfl k) ?_
      show OwnGo p e below s _ _ _ (T205.setTop (mkF m 201 #[.val (.int vv), .val (.int sel), .val (.int fil), .val (.int kk), .val (.int (((sel.toUInt32 >>> ((2 : Int32) &&& 31).toUInt32).toInt32) &&& (3 : Int32))), .val (.int (4 : Int32)), .val (.int st), .val (.int (fil.toInt8.toInt32)), .val (.ref b153), .unset, .unset, .unset] [(.int kk), (.int (st + (1 : Int32)))]))
      refine own_on (fun t k => XS.iload X205.here hx rfl (hb hby at_201) rfl k) ?_
      show OwnGo p e below s _ _ _ (T205.setTop (mkF m 203 #[.val (.int vv), .val (.int sel), .val (.int fil), .val (.int kk), .val (.int (((sel.toUInt32 >>> ((2 : Int32) &&& 31).toUInt32).toInt32) &&& (3 : Int32))), .val (.int (4 : Int32)), .val (.int st), .val (.int (fil.toInt8.toInt32)), .val (.ref b153), .unset, .unset, .unset] [(.int (4 : Int32)), (.int kk), (.int (st + (1 : Int32)))]))
      refine own_on (fun t k => XS.imul X205.here hx rfl (hb hby at_203) rfl k) ?_
      show OwnGo p e below s _ _ _ (T205.setTop (mkF m 204 #[.val (.int vv), .val (.int sel), .val (.int fil), .val (.int kk), .val (.int (((sel.toUInt32 >>> ((2 : Int32) &&& 31).toUInt32).toInt32) &&& (3 : Int32))), .val (.int (4 : Int32)), .val (.int st), .val (.int (fil.toInt8.toInt32)), .val (.ref b153), .unset, .unset, .unset] [(.int (kk * (4 : Int32))), (.int (st + (1 : Int32)))]))
      refine own_on (fun t k => XS.iadd X205.here hx rfl (hb hby at_204) rfl k) ?_
      show OwnGo p e below s _ _ _ (T205.setTop (mkF m 205 #[.val (.int vv), .val (.int sel), .val (.int fil), .val (.int kk), .val (.int (((sel.toUInt32 >>> ((2 : Int32) &&& 31).toUInt32).toInt32) &&& (3 : Int32))), .val (.int (4 : Int32)), .val (.int st), .val (.int (fil.toInt8.toInt32)), .val (.ref b153), .unset, .unset, .unset] [(.int ((st + (1 : Int32)) + (kk * (4 : Int32))))]))
      refine own_on (fun t k => XS.istore X205.here hx rfl (hb hby at_205) rfl (l' := #[.val (.int vv), .val (.int sel), .val (.int fil), .val (.int kk), .val (.int (((sel.toUInt32 >>> ((2 : Int32) &&& 31).toUInt32).toInt32) &&& (3 : Int32))), .val (.int (4 : Int32)), .val (.int st), .val (.int (fil.toInt8.toInt32)), .val (.ref b153), .val (.int ((st + (1 : Int32)) + (kk * (4 : Int32)))), .unset, .unset]) rfl k) ?_
      show OwnGo p e below s _ _ _ (T205.setTop (mkF m 207 #[.val (.int vv), .val (.int sel), .val (.int fil), .val (.int kk), .val (.int (((sel.toUInt32 >>> ((2 : Int32) &&& 31).toUInt32).toInt32) &&& (3 : Int32))), .val (.int (4 : Int32)), .val (.int st), .val (.int (fil.toInt8.toInt32)), .val (.ref b153), .val (.int ((st + (1 : Int32)) + (kk * (4 : Int32)))), .unset, .unset] []))
      refine own_on (fun t k => XS.iload X205.here hx rfl (hb hby at_207) rfl k) ?_
      show OwnGo p e below s _ _ _ (T205.setTop (mkF m 209 #[.val (.int vv), .val (.int sel), .val (.int fil), .val (.int kk), .val (.int (((sel.toUInt32 >>> ((2 : Int32) &&& 31).toUInt32).toInt32) &&& (3 : Int32))), .val (.int (4 : Int32)), .val (.int st), .val (.int (fil.toInt8.toInt32)), .val (.ref b153), .val (.int ((st + (1 : Int32)) + (kk * (4 : Int32)))), .unset, .unset] [(.int (4 : Int32))]))
      refine own_on (fun t k => XS.iconst X205.here hx rfl (hb hby at_209) k) ?_
      show OwnGo p e below s _ _ _ (T205.setTop (mkF m 210 #[.val (.int vv), .val (.int sel), .val (.int fil), .val (.int kk), .val (.int (((sel.toUInt32 >>> ((2 : Int32) &&& 31).toUInt32).toInt32) &&& (3 : Int32))), .val (.int (4 : Int32)), .val (.int st), .val (.int (fil.toInt8.toInt32)), .val (.ref b153), .val (.int ((st + (1 : Int32)) + (kk * (4 : Int32)))), .unset, .unset] [(.int (1 : Int32)), (.int (4 : Int32))]))
      refine own_on (fun t k => XS.icmpYes X205.here hx rfl (pc0 := 210) (pc' := 243) rfl (hb hby at_210) rfl (feq (by decide : ¬ ((4 : Int32) = (1 : Int32)))).2 (by decide) (by decide) k) ?_
      show OwnGo p e below s _ _ _ (T205.setTop (mkF m 243 #[.val (.int vv), .val (.int sel), .val (.int fil), .val (.int kk), .val (.int (((sel.toUInt32 >>> ((2 : Int32) &&& 31).toUInt32).toInt32) &&& (3 : Int32))), .val (.int (4 : Int32)), .val (.int st), .val (.int (fil.toInt8.toInt32)), .val (.ref b153), .val (.int ((st + (1 : Int32)) + (kk * (4 : Int32)))), .unset, .unset] []))
      refine own_on (fun t k => XS.iload X205.here hx rfl (hb hby at_243) rfl k) ?_
      show OwnGo p e below s _ _ _ (T205.setTop (mkF m 245 #[.val (.int vv), .val (.int sel), .val (.int fil), .val (.int kk), .val (.int (((sel.toUInt32 >>> ((2 : Int32) &&& 31).toUInt32).toInt32) &&& (3 : Int32))), .val (.int (4 : Int32)), .val (.int st), .val (.int (fil.toInt8.toInt32)), .val (.ref b153), .val (.int ((st + (1 : Int32)) + (kk * (4 : Int32)))), .unset, .unset] [(.int (4 : Int32))]))
      refine own_on (fun t k => XS.iconst X205.here hx rfl (hb hby at_245) k) ?_
      show OwnGo p e below s _ _ _ (T205.setTop (mkF m 246 #[.val (.int vv), .val (.int sel), .val (.int fil), .val (.int kk), .val (.int (((sel.toUInt32 >>> ((2 : Int32) &&& 31).toUInt32).toInt32) &&& (3 : Int32))), .val (.int (4 : Int32)), .val (.int st), .val (.int (fil.toInt8.toInt32)), .val (.ref b153), .val (.int ((st + (1 : Int32)) + (kk * (4 : Int32)))), .unset, .unset] [(.int (2 : Int32)), (.int (4 : Int32))]))
      refine own_on (fun t k => XS.icmpYes X205.here hx rfl (pc0 := 246) (pc' := 292) rfl (hb hby at_246) rfl (feq (by decide : ¬ ((4 : Int32) = (2 : Int32)))).2 (by decide) (by decide) k) ?_
      show OwnGo p e below s _ _ _ (T205.setTop (mkF m 292 #[.val (.int vv), .val (.int sel), .val (.int fil), .val (.int kk), .val (.int (((sel.toUInt32 >>> ((2 : Int32) &&& 31).toUInt32).toInt32) &&& (3 : Int32))), .val (.int (4 : Int32)), .val (.int st), .val (.int (fil.toInt8.toInt32)), .val (.ref b153), .val (.int ((st + (1 : Int32)) + (kk * (4 : Int32)))), .unset, .unset] []))
      refine own_on (fun t k => XS.aload X205.here hx rfl (hb hby at_292) rfl rfl k) ?_
      show OwnGo p e below s _ _ _ (T205.setTop (mkF m 294 #[.val (.int vv), .val (.int sel), .val (.int fil), .val (.int kk), .val (.int (((sel.toUInt32 >>> ((2 : Int32) &&& 31).toUInt32).toInt32) &&& (3 : Int32))), .val (.int (4 : Int32)), .val (.int st), .val (.int (fil.toInt8.toInt32)), .val (.ref b153), .val (.int ((st + (1 : Int32)) + (kk * (4 : Int32)))), .unset, .unset] [(.ref b153)]))
      refine own_on (fun t k => XS.iload X205.here hx rfl (hb hby at_294) rfl k) ?_
      show OwnGo p e below s _ _ _ (T205.setTop (mkF m 296 #[.val (.int vv), .val (.int sel), .val (.int fil), .val (.int kk), .val (.int (((sel.toUInt32 >>> ((2 : Int32) &&& 31).toUInt32).toInt32) &&& (3 : Int32))), .val (.int (4 : Int32)), .val (.int st), .val (.int (fil.toInt8.toInt32)), .val (.ref b153), .val (.int ((st + (1 : Int32)) + (kk * (4 : Int32)))), .unset, .unset] [(.int ((st + (1 : Int32)) + (kk * (4 : Int32)))), (.ref b153)]))
      refine own_on (fun t k => XS.iloadN X205.here hx rfl (hb hby at_296) rfl k) ?_
      show OwnGo p e below s _ _ _ (T205.setTop (mkF m 297 #[.val (.int vv), .val (.int sel), .val (.int fil), .val (.int kk), .val (.int (((sel.toUInt32 >>> ((2 : Int32) &&& 31).toUInt32).toInt32) &&& (3 : Int32))), .val (.int (4 : Int32)), .val (.int st), .val (.int (fil.toInt8.toInt32)), .val (.ref b153), .val (.int ((st + (1 : Int32)) + (kk * (4 : Int32)))), .unset, .unset] [(.int vv), (.int ((st + (1 : Int32)) + (kk * (4 : Int32)))), (.ref b153)]))
      refine own_on (fun t k => XS.bipush X205.here hx rfl (hb hby at_297) k) ?_
      show OwnGo p e below s _ _ _ (T205.setTop (mkF m 299 #[.val (.int vv), .val (.int sel), .val (.int fil), .val (.int kk), .val (.int (((sel.toUInt32 >>> ((2 : Int32) &&& 31).toUInt32).toInt32) &&& (3 : Int32))), .val (.int (4 : Int32)), .val (.int st), .val (.int (fil.toInt8.toInt32)), .val (.ref b153), .val (.int ((st + (1 : Int32)) + (kk * (4 : Int32)))), .unset, .unset] [(.int (24 : Int32)), (.int vv), (.int ((st + (1 : Int32)) + (kk * (4 : Int32)))), (.ref b153)]))
      refine own_on (fun t k => XS.iushr X205.here hx rfl (hb hby at_299) rfl k) ?_
      show OwnGo p e below s _ _ _ (T205.setTop (mkF m 300 #[.val (.int vv), .val (.int sel), .val (.int fil), .val (.int kk), .val (.int (((sel.toUInt32 >>> ((2 : Int32) &&& 31).toUInt32).toInt32) &&& (3 : Int32))), .val (.int (4 : Int32)), .val (.int st), .val (.int (fil.toInt8.toInt32)), .val (.ref b153), .val (.int ((st + (1 : Int32)) + (kk * (4 : Int32)))), .unset, .unset] [(.int ((vv.toUInt32 >>> ((24 : Int32) &&& 31).toUInt32).toInt32)), (.int ((st + (1 : Int32)) + (kk * (4 : Int32)))), (.ref b153)]))
      refine own_on (fun t k => XS.i2b X205.here hx rfl (hb hby at_300) rfl k) ?_
      show OwnGo p e below s _ _ _ (T205.setTop (mkF m 301 #[.val (.int vv), .val (.int sel), .val (.int fil), .val (.int kk), .val (.int (((sel.toUInt32 >>> ((2 : Int32) &&& 31).toUInt32).toInt32) &&& (3 : Int32))), .val (.int (4 : Int32)), .val (.int st), .val (.int (fil.toInt8.toInt32)), .val (.ref b153), .val (.int ((st + (1 : Int32)) + (kk * (4 : Int32)))), .unset, .unset] [(.int (((vv.toUInt32 >>> ((24 : Int32) &&& 31).toUInt32).toInt32).toInt8.toInt32)), (.int ((st + (1 : Int32)) + (kk * (4 : Int32)))), (.ref b153)]))
      obtain ⟨cl206, Ar206, S206, H206⟩ := id V205
      have hj206 : ¬ ((st + (1 : Int32)) + (kk * (4 : Int32))) < 0 ∧ (((st + (1 : Int32)) + (kk * (4 : Int32)))).toNatClampNeg = (sN + 1 + kN * 4) := own_ix hP
      obtain ⟨T207, h207, X207, e207, W207, st207⟩ := stB X205 hx hZ e205 Ar206 (j := ((st + (1 : Int32)) + (kk * (4 : Int32)))) (own_in S206 hj206 (by omega)) (g := (mkF m 301 #[.val (.int vv), .val (.int sel), .val (.int fil), .val (.int kk), .val (.int (((sel.toUInt32 >>> ((2 : Int32) &&& 31).toUInt32).toInt32) &&& (3 : Int32))), .val (.int (4 : Int32)), .val (.int st), .val (.int (fil.toInt8.toInt32)), .val (.ref b153), .val (.int ((st + (1 : Int32)) + (kk * (4 : Int32)))), .unset, .unset] [(.int (((vv.toUInt32 >>> ((24 : Int32) &&& 31).toUInt32).toInt32).toInt8.toInt32)), (.int ((st + (1 : Int32)) + (kk * (4 : Int32)))), (.ref b153)])) rfl rfl (hb hby at_301)
      have V207 : OwnArf Z h207 b153 .byte 24 (own_upd (own_upd (own_fl 24 (nar .byte (fil.toInt8.toInt32))) sN (nar .byte ((4 : Int32).toInt8.toInt32))) (sN + 1 + kN * 4) (nar .byte (((vv.toUInt32 >>> ((24 : Int32) &&& 31).toUInt32).toInt32).toInt8.toInt32))) := OwnArf.set Ar206 S206 H206 W207 hj206.2
      have N207 := Fr.snoc X207 N205 g154
      have Z207 : n0 ≤ h207.size := Nat.le_trans Z205 (Keep.of_wr W207).1
      have K207 : Keep h0 h207 [] := K205.wr W207 (Or.inr z155)
      refine own_on st207 ?_
      show OwnGo p e below s _ _ _ (T207.setTop (mkF m 302 #[.val (.int vv), .val (.int sel), .val (.int fil), .val (.int kk), .val (.int (((sel.toUInt32 >>> ((2 : Int32) &&& 31).toUInt32).toInt32) &&& (3 : Int32))), .val (.int (4 : Int32)), .val (.int st), .val (.int (fil.toInt8.toInt32)), .val (.ref b153), .val (.int ((st + (1 : Int32)) + (kk * (4 : Int32)))), .unset, .unset] []))
      refine own_on (fun t k => XS.aload X207.here hx rfl (hb hby at_302) rfl rfl k) ?_
      show OwnGo p e below s _ _ _ (T207.setTop (mkF m 304 #[.val (.int vv), .val (.int sel), .val (.int fil), .val (.int kk), .val (.int (((sel.toUInt32 >>> ((2 : Int32) &&& 31).toUInt32).toInt32) &&& (3 : Int32))), .val (.int (4 : Int32)), .val (.int st), .val (.int (fil.toInt8.toInt32)), .val (.ref b153), .val (.int ((st + (1 : Int32)) + (kk * (4 : Int32)))), .unset, .unset] [(.ref b153)]))
      refine own_on (fun t k => XS.iload X207.here hx rfl (hb hby at_304) rfl k) ?_
      show OwnGo p e below s _ _ _ (T207.setTop (mkF m 306 #[.val (.int vv), .val (.int sel), .val (.int fil), .val (.int kk), .val (.int (((sel.toUInt32 >>> ((2 : Int32) &&& 31).toUInt32).toInt32) &&& (3 : Int32))), .val (.int (4 : Int32)), .val (.int st), .val (.int (fil.toInt8.toInt32)), .val (.ref b153), .val (.int ((st + (1 : Int32)) + (kk * (4 : Int32)))), .unset, .unset] [(.int ((st + (1 : Int32)) + (kk * (4 : Int32)))), (.ref b153)]))
      refine own_on (fun t k => XS.iconst X207.here hx rfl (hb hby at_306) k) ?_
      show OwnGo p e below s _ _ _ (T207.setTop (mkF m 307 #[.val (.int vv), .val (.int sel), .val (.int fil), .val (.int kk), .val (.int (((sel.toUInt32 >>> ((2 : Int32) &&& 31).toUInt32).toInt32) &&& (3 : Int32))), .val (.int (4 : Int32)), .val (.int st), .val (.int (fil.toInt8.toInt32)), .val (.ref b153), .val (.int ((st + (1 : Int32)) + (kk * (4 : Int32)))), .unset, .unset] [(.int (1 : Int32)), (.int ((st + (1 : Int32)) + (kk * (4 : Int32)))), (.ref b153)]))
      refine own_on (fun t k => XS.iadd X207.here hx rfl (hb hby at_307) rfl k) ?_
      show OwnGo p e below s _ _ _ (T207.setTop (mkF m 308 #[.val (.int vv), .val (.int sel), .val (.int fil), .val (.int kk), .val (.int (((sel.toUInt32 >>> ((2 : Int32) &&& 31).toUInt32).toInt32) &&& (3 : Int32))), .val (.int (4 : Int32)), .val (.int st), .val (.int (fil.toInt8.toInt32)), .val (.ref b153), .val (.int ((st + (1 : Int32)) + (kk * (4 : Int32)))), .unset, .unset] [(.int (((st + (1 : Int32)) + (kk * (4 : Int32))) + (1 : Int32))), (.ref b153)]))
      refine own_on (fun t k => XS.iloadN X207.here hx rfl (hb hby at_308) rfl k) ?_
      show OwnGo p e below s _ _ _ (T207.setTop (mkF m 309 #[.val (.int vv), .val (.int sel), .val (.int fil), .val (.int kk), .val (.int (((sel.toUInt32 >>> ((2 : Int32) &&& 31).toUInt32).toInt32) &&& (3 : Int32))), .val (.int (4 : Int32)), .val (.int st), .val (.int (fil.toInt8.toInt32)), .val (.ref b153), .val (.int ((st + (1 : Int32)) + (kk * (4 : Int32)))), .unset, .unset] [(.int vv), (.int (((st + (1 : Int32)) + (kk * (4 : Int32))) + (1 : Int32))), (.ref b153)]))
      refine own_on (fun t k => XS.bipush X207.here hx rfl (hb hby at_309) k) ?_
      show OwnGo p e below s _ _ _ (T207.setTop (mkF m 311 #[.val (.int vv), .val (.int sel), .val (.int fil), .val (.int kk), .val (.int (((sel.toUInt32 >>> ((2 : Int32) &&& 31).toUInt32).toInt32) &&& (3 : Int32))), .val (.int (4 : Int32)), .val (.int st), .val (.int (fil.toInt8.toInt32)), .val (.ref b153), .val (.int ((st + (1 : Int32)) + (kk * (4 : Int32)))), .unset, .unset] [(.int (16 : Int32)), (.int vv), (.int (((st + (1 : Int32)) + (kk * (4 : Int32))) + (1 : Int32))), (.ref b153)]))
      refine own_on (fun t k => XS.iushr X207.here hx rfl (hb hby at_311) rfl k) ?_
      show OwnGo p e below s _ _ _ (T207.setTop (mkF m 312 #[.val (.int vv), .val (.int sel), .val (.int fil), .val (.int kk), .val (.int (((sel.toUInt32 >>> ((2 : Int32) &&& 31).toUInt32).toInt32) &&& (3 : Int32))), .val (.int (4 : Int32)), .val (.int st), .val (.int (fil.toInt8.toInt32)), .val (.ref b153), .val (.int ((st + (1 : Int32)) + (kk * (4 : Int32)))), .unset, .unset] [(.int ((vv.toUInt32 >>> ((16 : Int32) &&& 31).toUInt32).toInt32)), (.int (((st + (1 : Int32)) + (kk * (4 : Int32))) + (1 : Int32))), (.ref b153)]))
      refine own_on (fun t k => XS.i2b X207.here hx rfl (hb hby at_312) rfl k) ?_
      show OwnGo p e below s _ _ _ (T207.setTop (mkF m 313 #[.val (.int vv), .val (.int sel), .val (.int fil), .val (.int kk), .val (.int (((sel.toUInt32 >>> ((2 : Int32) &&& 31).toUInt32).toInt32) &&& (3 : Int32))), .val (.int (4 : Int32)), .val (.int st), .val (.int (fil.toInt8.toInt32)), .val (.ref b153), .val (.int ((st + (1 : Int32)) + (kk * (4 : Int32)))), .unset, .unset] [(.int (((vv.toUInt32 >>> ((16 : Int32) &&& 31).toUInt32).toInt32).toInt8.toInt32)), (.int (((st + (1 : Int32)) + (kk * (4 : Int32))) + (1 : Int32))), (.ref b153)]))
      obtain ⟨cl208, Ar208, S208, H208⟩ := id V207
      have hj208 : ¬ (((st + (1 : Int32)) + (kk * (4 : Int32))) + (1 : Int32)) < 0 ∧ ((((st + (1 : Int32)) + (kk * (4 : Int32))) + (1 : Int32))).toNatClampNeg = ((sN + 1 + kN * 4) + 1) := own_ix (own_add hP (by omega) (k := 1) (by decide) (by decide))
      obtain ⟨T209, h209, X209, e209, W209, st209⟩ := stB X207 hx hZ e207 Ar208 (j := (((st + (1 : Int32)) + (kk * (4 : Int32))) + (1 : Int32))) (own_in S208 hj208 (by omega)) (g := (mkF m 313 #[.val (.int vv), .val (.int sel), .val (.int fil), .val (.int kk), .val (.int (((sel.toUInt32 >>> ((2 : Int32) &&& 31).toUInt32).toInt32) &&& (3 : Int32))), .val (.int (4 : Int32)), .val (.int st), .val (.int (fil.toInt8.toInt32)), .val (.ref b153), .val (.int ((st + (1 : Int32)) + (kk * (4 : Int32)))), .unset, .unset] [(.int (((vv.toUInt32 >>> ((16 : Int32) &&& 31).toUInt32).toInt32).toInt8.toInt32)), (.int (((st + (1 : Int32)) + (kk * (4 : Int32))) + (1 : Int32))), (.ref b153)])) rfl rfl (hb hby at_313)
      have V209 : OwnArf Z h209 b153 .byte 24 (own_upd (own_upd (own_upd (own_fl 24 (nar .byte (fil.toInt8.toInt32))) sN (nar .byte ((4 : Int32).toInt8.toInt32))) (sN + 1 + kN * 4) (nar .byte (((vv.toUInt32 >>> ((24 : Int32) &&& 31).toUInt32).toInt32).toInt8.toInt32))) ((sN + 1 + kN * 4) + 1) (nar .byte (((vv.toUInt32 >>> ((16 : Int32) &&& 31).toUInt32).toInt32).toInt8.toInt32))) := OwnArf.set Ar208 S208 H208 W209 hj208.2
      have N209 := Fr.snoc X209 N207 g154
      have Z209 : n0 ≤ h209.size := Nat.le_trans Z207 (Keep.of_wr W209).1
      have K209 : Keep h0 h209 [] := K207.wr W209 (Or.inr z155)
      refine own_on st209 ?_
      show OwnGo p e below s _ _ _ (T209.setTop (mkF m 314 #[.val (.int vv), .val (.int sel), .val (.int fil), .val (.int kk), .val (.int (((sel.toUInt32 >>> ((2 : Int32) &&& 31).toUInt32).toInt32) &&& (3 : Int32))), .val (.int (4 : Int32)), .val (.int st), .val (.int (fil.toInt8.toInt32)), .val (.ref b153), .val (.int ((st + (1 : Int32)) + (kk * (4 : Int32)))), .unset, .unset] []))
      refine own_on (fun t k => XS.aload X209.here hx rfl (hb hby at_314) rfl rfl k) ?_
      show OwnGo p e below s _ _ _ (T209.setTop (mkF m 316 #[.val (.int vv), .val (.int sel), .val (.int fil), .val (.int kk), .val (.int (((sel.toUInt32 >>> ((2 : Int32) &&& 31).toUInt32).toInt32) &&& (3 : Int32))), .val (.int (4 : Int32)), .val (.int st), .val (.int (fil.toInt8.toInt32)), .val (.ref b153), .val (.int ((st + (1 : Int32)) + (kk * (4 : Int32)))), .unset, .unset] [(.ref b153)]))
      refine own_on (fun t k => XS.iload X209.here hx rfl (hb hby at_316) rfl k) ?_
      show OwnGo p e below s _ _ _ (T209.setTop (mkF m 318 #[.val (.int vv), .val (.int sel), .val (.int fil), .val (.int kk), .val (.int (((sel.toUInt32 >>> ((2 : Int32) &&& 31).toUInt32).toInt32) &&& (3 : Int32))), .val (.int (4 : Int32)), .val (.int st), .val (.int (fil.toInt8.toInt32)), .val (.ref b153), .val (.int ((st + (1 : Int32)) + (kk * (4 : Int32)))), .unset, .unset] [(.int ((st + (1 : Int32)) + (kk * (4 : Int32)))), (.ref b153)]))
      refine own_on (fun t k => XS.iconst X209.here hx rfl (hb hby at_318) k) ?_
      show OwnGo p e below s _ _ _ (T209.setTop (mkF m 319 #[.val (.int vv), .val (.int sel), .val (.int fil), .val (.int kk), .val (.int (((sel.toUInt32 >>> ((2 : Int32) &&& 31).toUInt32).toInt32) &&& (3 : Int32))), .val (.int (4 : Int32)), .val (.int st), .val (.int (fil.toInt8.toInt32)), .val (.ref b153), .val (.int ((st + (1 : Int32)) + (kk * (4 : Int32)))), .unset, .unset] [(.int (2 : Int32)), (.int ((st + (1 : Int32)) + (kk * (4 : Int32)))), (.ref b153)]))
      refine own_on (fun t k => XS.iadd X209.here hx rfl (hb hby at_319) rfl k) ?_
      show OwnGo p e below s _ _ _ (T209.setTop (mkF m 320 #[.val (.int vv), .val (.int sel), .val (.int fil), .val (.int kk), .val (.int (((sel.toUInt32 >>> ((2 : Int32) &&& 31).toUInt32).toInt32) &&& (3 : Int32))), .val (.int (4 : Int32)), .val (.int st), .val (.int (fil.toInt8.toInt32)), .val (.ref b153), .val (.int ((st + (1 : Int32)) + (kk * (4 : Int32)))), .unset, .unset] [(.int (((st + (1 : Int32)) + (kk * (4 : Int32))) + (2 : Int32))), (.ref b153)]))
      refine own_on (fun t k => XS.iloadN X209.here hx rfl (hb hby at_320) rfl k) ?_
      show OwnGo p e below s _ _ _ (T209.setTop (mkF m 321 #[.val (.int vv), .val (.int sel), .val (.int fil), .val (.int kk), .val (.int (((sel.toUInt32 >>> ((2 : Int32) &&& 31).toUInt32).toInt32) &&& (3 : Int32))), .val (.int (4 : Int32)), .val (.int st), .val (.int (fil.toInt8.toInt32)), .val (.ref b153), .val (.int ((st + (1 : Int32)) + (kk * (4 : Int32)))), .unset, .unset] [(.int vv), (.int (((st + (1 : Int32)) + (kk * (4 : Int32))) + (2 : Int32))), (.ref b153)]))
      refine own_on (fun t k => XS.bipush X209.here hx rfl (hb hby at_321) k) ?_
      show OwnGo p e below s _ _ _ (T209.setTop (mkF m 323 #[.val (.int vv), .val (.int sel), .val (.int fil), .val (.int kk), .val (.int (((sel.toUInt32 >>> ((2 : Int32) &&& 31).toUInt32).toInt32) &&& (3 : Int32))), .val (.int (4 : Int32)), .val (.int st), .val (.int (fil.toInt8.toInt32)), .val (.ref b153), .val (.int ((st + (1 : Int32)) + (kk * (4 : Int32)))), .unset, .unset] [(.int (8 : Int32)), (.int vv), (.int (((st + (1 : Int32)) + (kk * (4 : Int32))) + (2 : Int32))), (.ref b153)]))
      refine own_on (fun t k => XS.iushr X209.here hx rfl (hb hby at_323) rfl k) ?_
      show OwnGo p e below s _ _ _ (T209.setTop (mkF m 324 #[.val (.int vv), .val (.int sel), .val (.int fil), .val (.int kk), .val (.int (((sel.toUInt32 >>> ((2 : Int32) &&& 31).toUInt32).toInt32) &&& (3 : Int32))), .val (.int (4 : Int32)), .val (.int st), .val (.int (fil.toInt8.toInt32)), .val (.ref b153), .val (.int ((st + (1 : Int32)) + (kk * (4 : Int32)))), .unset, .unset] [(.int ((vv.toUInt32 >>> ((8 : Int32) &&& 31).toUInt32).toInt32)), (.int (((st + (1 : Int32)) + (kk * (4 : Int32))) + (2 : Int32))), (.ref b153)]))
      refine own_on (fun t k => XS.i2b X209.here hx rfl (hb hby at_324) rfl k) ?_
      show OwnGo p e below s _ _ _ (T209.setTop (mkF m 325 #[.val (.int vv), .val (.int sel), .val (.int fil), .val (.int kk), .val (.int (((sel.toUInt32 >>> ((2 : Int32) &&& 31).toUInt32).toInt32) &&& (3 : Int32))), .val (.int (4 : Int32)), .val (.int st), .val (.int (fil.toInt8.toInt32)), .val (.ref b153), .val (.int ((st + (1 : Int32)) + (kk * (4 : Int32)))), .unset, .unset] [(.int (((vv.toUInt32 >>> ((8 : Int32) &&& 31).toUInt32).toInt32).toInt8.toInt32)), (.int (((st + (1 : Int32)) + (kk * (4 : Int32))) + (2 : Int32))), (.ref b153)]))
      obtain ⟨cl210, Ar210, S210, H210⟩ := id V209
      have hj210 : ¬ (((st + (1 : Int32)) + (kk * (4 : Int32))) + (2 : Int32)) < 0 ∧ ((((st + (1 : Int32)) + (kk * (4 : Int32))) + (2 : Int32))).toNatClampNeg = ((sN + 1 + kN * 4) + 2) := own_ix (own_add hP (by omega) (k := 2) (by decide) (by decide))
      obtain ⟨T211, h211, X211, e211, W211, st211⟩ := stB X209 hx hZ e209 Ar210 (j := (((st + (1 : Int32)) + (kk * (4 : Int32))) + (2 : Int32))) (own_in S210 hj210 (by omega)) (g := (mkF m 325 #[.val (.int vv), .val (.int sel), .val (.int fil), .val (.int kk), .val (.int (((sel.toUInt32 >>> ((2 : Int32) &&& 31).toUInt32).toInt32) &&& (3 : Int32))), .val (.int (4 : Int32)), .val (.int st), .val (.int (fil.toInt8.toInt32)), .val (.ref b153), .val (.int ((st + (1 : Int32)) + (kk * (4 : Int32)))), .unset, .unset] [(.int (((vv.toUInt32 >>> ((8 : Int32) &&& 31).toUInt32).toInt32).toInt8.toInt32)), (.int (((st + (1 : Int32)) + (kk * (4 : Int32))) + (2 : Int32))), (.ref b153)])) rfl rfl (hb hby at_325)
      have V211 : OwnArf Z h211 b153 .byte 24 (own_upd (own_upd (own_upd (own_upd (own_fl 24 (nar .byte (fil.toInt8.toInt32))) sN (nar .byte ((4 : Int32).toInt8.toInt32))) (sN + 1 + kN * 4) (nar .byte (((vv.toUInt32 >>> ((24 : Int32) &&& 31).toUInt32).toInt32).toInt8.toInt32))) ((sN + 1 + kN * 4) + 1) (nar .byte (((vv.toUInt32 >>> ((16 : Int32) &&& 31).toUInt32).toInt32).toInt8.toInt32))) ((sN + 1 + kN * 4) + 2) (nar .byte (((vv.toUInt32 >>> ((8 : Int32) &&& 31).toUInt32).toInt32).toInt8.toInt32))) := OwnArf.set Ar210 S210 H210 W211 hj210.2
      have N211 := Fr.snoc X211 N209 g154
      have Z211 : n0 ≤ h211.size := Nat.le_trans Z209 (Keep.of_wr W211).1
      have K211 : Keep h0 h211 [] := K209.wr W211 (Or.inr z155)
      refine own_on st211 ?_
      show OwnGo p e below s _ _ _ (T211.setTop (mkF m 326 #[.val (.int vv), .val (.int sel), .val (.int fil), .val (.int kk), .val (.int (((sel.toUInt32 >>> ((2 : Int32) &&& 31).toUInt32).toInt32) &&& (3 : Int32))), .val (.int (4 : Int32)), .val (.int st), .val (.int (fil.toInt8.toInt32)), .val (.ref b153), .val (.int ((st + (1 : Int32)) + (kk * (4 : Int32)))), .unset, .unset] []))
      refine own_on (fun t k => XS.aload X211.here hx rfl (hb hby at_326) rfl rfl k) ?_
      show OwnGo p e below s _ _ _ (T211.setTop (mkF m 328 #[.val (.int vv), .val (.int sel), .val (.int fil), .val (.int kk), .val (.int (((sel.toUInt32 >>> ((2 : Int32) &&& 31).toUInt32).toInt32) &&& (3 : Int32))), .val (.int (4 : Int32)), .val (.int st), .val (.int (fil.toInt8.toInt32)), .val (.ref b153), .val (.int ((st + (1 : Int32)) + (kk * (4 : Int32)))), .unset, .unset] [(.ref b153)]))
      refine own_on (fun t k => XS.iload X211.here hx rfl (hb hby at_328) rfl k) ?_
      show OwnGo p e below s _ _ _ (T211.setTop (mkF m 330 #[.val (.int vv), .val (.int sel), .val (.int fil), .val (.int kk), .val (.int (((sel.toUInt32 >>> ((2 : Int32) &&& 31).toUInt32).toInt32) &&& (3 : Int32))), .val (.int (4 : Int32)), .val (.int st), .val (.int (fil.toInt8.toInt32)), .val (.ref b153), .val (.int ((st + (1 : Int32)) + (kk * (4 : Int32)))), .unset, .unset] [(.int ((st + (1 : Int32)) + (kk * (4 : Int32)))), (.ref b153)]))
      refine own_on (fun t k => XS.iconst X211.here hx rfl (hb hby at_330) k) ?_
      show OwnGo p e below s _ _ _ (T211.setTop (mkF m 331 #[.val (.int vv), .val (.int sel), .val (.int fil), .val (.int kk), .val (.int (((sel.toUInt32 >>> ((2 : Int32) &&& 31).toUInt32).toInt32) &&& (3 : Int32))), .val (.int (4 : Int32)), .val (.int st), .val (.int (fil.toInt8.toInt32)), .val (.ref b153), .val (.int ((st + (1 : Int32)) + (kk * (4 : Int32)))), .unset, .unset] [(.int (3 : Int32)), (.int ((st + (1 : Int32)) + (kk * (4 : Int32)))), (.ref b153)]))
      refine own_on (fun t k => XS.iadd X211.here hx rfl (hb hby at_331) rfl k) ?_
      show OwnGo p e below s _ _ _ (T211.setTop (mkF m 332 #[.val (.int vv), .val (.int sel), .val (.int fil), .val (.int kk), .val (.int (((sel.toUInt32 >>> ((2 : Int32) &&& 31).toUInt32).toInt32) &&& (3 : Int32))), .val (.int (4 : Int32)), .val (.int st), .val (.int (fil.toInt8.toInt32)), .val (.ref b153), .val (.int ((st + (1 : Int32)) + (kk * (4 : Int32)))), .unset, .unset] [(.int (((st + (1 : Int32)) + (kk * (4 : Int32))) + (3 : Int32))), (.ref b153)]))
      refine own_on (fun t k => XS.iloadN X211.here hx rfl (hb hby at_332) rfl k) ?_
      show OwnGo p e below s _ _ _ (T211.setTop (mkF m 333 #[.val (.int vv), .val (.int sel), .val (.int fil), .val (.int kk), .val (.int (((sel.toUInt32 >>> ((2 : Int32) &&& 31).toUInt32).toInt32) &&& (3 : Int32))), .val (.int (4 : Int32)), .val (.int st), .val (.int (fil.toInt8.toInt32)), .val (.ref b153), .val (.int ((st + (1 : Int32)) + (kk * (4 : Int32)))), .unset, .unset] [(.int vv), (.int (((st + (1 : Int32)) + (kk * (4 : Int32))) + (3 : Int32))), (.ref b153)]))
      refine own_on (fun t k => XS.i2b X211.here hx rfl (hb hby at_333) rfl k) ?_
      show OwnGo p e below s _ _ _ (T211.setTop (mkF m 334 #[.val (.int vv), .val (.int sel), .val (.int fil), .val (.int kk), .val (.int (((sel.toUInt32 >>> ((2 : Int32) &&& 31).toUInt32).toInt32) &&& (3 : Int32))), .val (.int (4 : Int32)), .val (.int st), .val (.int (fil.toInt8.toInt32)), .val (.ref b153), .val (.int ((st + (1 : Int32)) + (kk * (4 : Int32)))), .unset, .unset] [(.int (vv.toInt8.toInt32)), (.int (((st + (1 : Int32)) + (kk * (4 : Int32))) + (3 : Int32))), (.ref b153)]))
      obtain ⟨cl212, Ar212, S212, H212⟩ := id V211
      have hj212 : ¬ (((st + (1 : Int32)) + (kk * (4 : Int32))) + (3 : Int32)) < 0 ∧ ((((st + (1 : Int32)) + (kk * (4 : Int32))) + (3 : Int32))).toNatClampNeg = ((sN + 1 + kN * 4) + 3) := own_ix (own_add hP (by omega) (k := 3) (by decide) (by decide))
      obtain ⟨T213, h213, X213, e213, W213, st213⟩ := stB X211 hx hZ e211 Ar212 (j := (((st + (1 : Int32)) + (kk * (4 : Int32))) + (3 : Int32))) (own_in S212 hj212 (by omega)) (g := (mkF m 334 #[.val (.int vv), .val (.int sel), .val (.int fil), .val (.int kk), .val (.int (((sel.toUInt32 >>> ((2 : Int32) &&& 31).toUInt32).toInt32) &&& (3 : Int32))), .val (.int (4 : Int32)), .val (.int st), .val (.int (fil.toInt8.toInt32)), .val (.ref b153), .val (.int ((st + (1 : Int32)) + (kk * (4 : Int32)))), .unset, .unset] [(.int (vv.toInt8.toInt32)), (.int (((st + (1 : Int32)) + (kk * (4 : Int32))) + (3 : Int32))), (.ref b153)])) rfl rfl (hb hby at_334)
      have V213 : OwnArf Z h213 b153 .byte 24 (own_upd (own_upd (own_upd (own_upd (own_upd (own_fl 24 (nar .byte (fil.toInt8.toInt32))) sN (nar .byte ((4 : Int32).toInt8.toInt32))) (sN + 1 + kN * 4) (nar .byte (((vv.toUInt32 >>> ((24 : Int32) &&& 31).toUInt32).toInt32).toInt8.toInt32))) ((sN + 1 + kN * 4) + 1) (nar .byte (((vv.toUInt32 >>> ((16 : Int32) &&& 31).toUInt32).toInt32).toInt8.toInt32))) ((sN + 1 + kN * 4) + 2) (nar .byte (((vv.toUInt32 >>> ((8 : Int32) &&& 31).toUInt32).toInt32).toInt8.toInt32))) ((sN + 1 + kN * 4) + 3) (nar .byte (vv.toInt8.toInt32))) := OwnArf.set Ar212 S212 H212 W213 hj212.2
      have N213 := Fr.snoc X213 N211 g154
      have Z213 : n0 ≤ h213.size := Nat.le_trans Z211 (Keep.of_wr W213).1
      have K213 : Keep h0 h213 [] := K211.wr W213 (Or.inr z155)
      refine own_on st213 ?_
      show OwnGo p e below s _ _ _ (T213.setTop (mkF m 335 #[.val (.int vv), .val (.int sel), .val (.int fil), .val (.int kk), .val (.int (((sel.toUInt32 >>> ((2 : Int32) &&& 31).toUInt32).toInt32) &&& (3 : Int32))), .val (.int (4 : Int32)), .val (.int st), .val (.int (fil.toInt8.toInt32)), .val (.ref b153), .val (.int ((st + (1 : Int32)) + (kk * (4 : Int32)))), .unset, .unset] []))
      refine own_on (fun t k => XS.iloadN X213.here hx rfl (hb hby at_335) rfl k) ?_
      show OwnGo p e below s _ _ _ (T213.setTop (mkF m 336 #[.val (.int vv), .val (.int sel), .val (.int fil), .val (.int kk), .val (.int (((sel.toUInt32 >>> ((2 : Int32) &&& 31).toUInt32).toInt32) &&& (3 : Int32))), .val (.int (4 : Int32)), .val (.int st), .val (.int (fil.toInt8.toInt32)), .val (.ref b153), .val (.int ((st + (1 : Int32)) + (kk * (4 : Int32)))), .unset, .unset] [(.int vv)]))
      refine own_on (fun t k => XS.istore X213.here hx rfl (hb hby at_336) rfl (l' := #[.val (.int vv), .val (.int sel), .val (.int fil), .val (.int kk), .val (.int (((sel.toUInt32 >>> ((2 : Int32) &&& 31).toUInt32).toInt32) &&& (3 : Int32))), .val (.int (4 : Int32)), .val (.int st), .val (.int (fil.toInt8.toInt32)), .val (.ref b153), .val (.int ((st + (1 : Int32)) + (kk * (4 : Int32)))), .val (.int vv), .unset]) rfl k) ?_
      show OwnGo p e below s _ _ _ (T213.setTop (mkF m 338 #[.val (.int vv), .val (.int sel), .val (.int fil), .val (.int kk), .val (.int (((sel.toUInt32 >>> ((2 : Int32) &&& 31).toUInt32).toInt32) &&& (3 : Int32))), .val (.int (4 : Int32)), .val (.int st), .val (.int (fil.toInt8.toInt32)), .val (.ref b153), .val (.int ((st + (1 : Int32)) + (kk * (4 : Int32)))), .val (.int vv), .unset] []))
      obtain ⟨T214, h214, X214, e214, E214, A214, D214, u214, st214⟩ := newO X213 hx hZ hown (w1 hw) (w2 hw) (w3 hw) e213 (g := (mkF m 338 #[.val (.int vv), .val (.int sel), .val (.int fil), .val (.int kk), .val (.int (((sel.toUInt32 >>> ((2 : Int32) &&& 31).toUInt32).toInt32) &&& (3 : Int32))), .val (.int (4 : Int32)), .val (.int st), .val (.int (fil.toInt8.toInt32)), .val (.ref b153), .val (.int ((st + (1 : Int32)) + (kk * (4 : Int32)))), .val (.int vv), .unset] [])) rfl (hb hby at_338) (by decide) (by decide)
      obtain ⟨b214, g214⟩ : ∃ z, z = h213.size := ⟨_, rfl⟩
      rw [← g214] at A214 D214 st214
      have ne215 : b153 ≠ b214 := Nat.ne_of_lt (Nat.lt_of_lt_of_le V213.lt (Nat.le_of_eq g214.symm))
      have g216 : n0 ≤ b214 := Nat.le_trans Z213 (Nat.le_of_eq g214.symm)
      have z217 : h0.size ≤ b214 := Nat.le_trans K213.1 (Nat.le_of_eq g214.symm)
      have Z214 : n0 ≤ h214.size := Nat.le_trans Z213 E214.1
      have K214 : Keep h0 h214 [] := K213.ext E214
      have F214_failedRow : Fld Z h214 b214 "org/tempochart/zone/PackedZone" "failedRow" "[I" .null := D214 (Or.inr (w12 hw)) (ty := (.array .int)) (by decide)
      have F214_failedColumn : Fld Z h214 b214 "org/tempochart/zone/PackedZone" "failedColumn" "[I" .null := D214 (Or.inr (w14 hw)) (ty := (.array .int)) (by decide)
      have F214_bytes : Fld Z h214 b214 "org/tempochart/zone/PackedZone" "bytes" "[B" .null := D214 (Or.inl (w21 hw)) (ty := (.array .byte)) (by decide)
      have F214_dimension : Fld Z h214 b214 "org/tempochart/zone/PackedZone" "dimension" "I" (.int (0 : Int32)) := D214 (Or.inl (w23 hw)) (ty := .int) (by decide)
      have F214_width : Fld Z h214 b214 "org/tempochart/zone/PackedZone" "width" "I" (.int (0 : Int32)) := D214 (Or.inl (w25 hw)) (ty := .int) (by decide)
      have F214_first : Fld Z h214 b214 "org/tempochart/zone/PackedZone" "first" "I" (.int (0 : Int32)) := D214 (Or.inl (w27 hw)) (ty := .int) (by decide)
      have F214_none : Fld Z h214 b214 "org/tempochart/zone/PackedZone" "none" "I" (.int (0 : Int32)) := D214 (Or.inl (w32 hw)) (ty := .int) (by decide)
      refine own_on st214 ?_
      show OwnGo p e below s _ _ _ (T214.setTop (mkF m 341 #[.val (.int vv), .val (.int sel), .val (.int fil), .val (.int kk), .val (.int (((sel.toUInt32 >>> ((2 : Int32) &&& 31).toUInt32).toInt32) &&& (3 : Int32))), .val (.int (4 : Int32)), .val (.int st), .val (.int (fil.toInt8.toInt32)), .val (.ref b153), .val (.int ((st + (1 : Int32)) + (kk * (4 : Int32)))), .val (.int vv), .unset] [(.ref b214)]))
      refine own_on (fun t k => XS.dup X214.here hx rfl (hb hby at_341) rfl rfl k) ?_
      show OwnGo p e below s _ _ _ (T214.setTop (mkF m 342 #[.val (.int vv), .val (.int sel), .val (.int fil), .val (.int kk), .val (.int (((sel.toUInt32 >>> ((2 : Int32) &&& 31).toUInt32).toInt32) &&& (3 : Int32))), .val (.int (4 : Int32)), .val (.int st), .val (.int (fil.toInt8.toInt32)), .val (.ref b153), .val (.int ((st + (1 : Int32)) + (kk * (4 : Int32)))), .val (.int vv), .unset] [(.ref b214), (.ref b214)]))
      obtain ⟨_, _, ⟨T218, L218, k218, n218⟩, -, X218, ⟨Lc218, hQ218, l218, y218, z218⟩, st218⟩ := X214.specialBack hx (y := (⟨"org/tempochart/zone/PackedZone", "<init>", "()V"⟩ : MethodName)) rfl hown (mvT hZ (w4 hw)) (mvT hZ (w5 hw)) (mvT hZ (w6 hw)) (by decide) (backOf (W := 1) (rm1 l Z a0 hw [] b214 .null (.int (0 : Int32)) (.int (0 : Int32)) (.int (0 : Int32)) (.int (0 : Int32)) .null .null h214 n0 Z214 A214 F214_failedRow F214_failedColumn g216 F214_bytes F214_dimension F214_width F214_first F214_none) hZ (w6 hw) (w3 hw) (by decide) (by decide)) (g := (mkF m 342 #[.val (.int vv), .val (.int sel), .val (.int fil), .val (.int kk), .val (.int (((sel.toUInt32 >>> ((2 : Int32) &&& 31).toUInt32).toInt32) &&& (3 : Int32))), .val (.int (4 : Int32)), .val (.int st), .val (.int (fil.toInt8.toInt32)), .val (.ref b153), .val (.int ((st + (1 : Int32)) + (kk * (4 : Int32)))), .val (.int vv), .unset] [(.ref b214), (.ref b214)])) rfl (by rw [hml]; rfl) (Steps.refl _) (a := b214) (argsL := []) (rest := [(.ref b214)]) (lenOf pd_1 rfl) rfl (by show 2 * 0 + _ ≤ _; exact Nat.le_of_eq rfl) (hb hby at_342) (fun _ _ => ⟨rfl, e214, (by decide : 2 + 2 ≤ _), (by decide : 31 + 4 ≤ _)⟩)
      dsimp only [Pt.U, Pt.locs, Pt.cells, Pt.slots] at X218 l218 y218 z218 st218 hQ218
      replace X218 := own_num (c' := 4) (n' := 35) X218 l218 (y218.trans rfl) (z218.trans rfl)
      obtain ⟨rfl, N218q, K218q, c218_0, c218_1, c218_2, c218_3, c218_4, c218_5⟩ := hQ218
      have N218 := Fr.app N213 N218q
      have Z218 : n0 ≤ T218.heap.size := Nat.le_trans Z214 K218q.1
      have K218 : Keep h0 T218.heap [] := K214.trans K218q (allS (P := fun x => x ∈ [] ∨ h0.size ≤ x) (Or.inr z217) all0)
      refine own_tr st218 ?_
      show OwnGo p e below s _ _ _ (T218.setTop (mkF m 345 #[.val (.int vv), .val (.int sel), .val (.int fil), .val (.int kk), .val (.int (((sel.toUInt32 >>> ((2 : Int32) &&& 31).toUInt32).toInt32) &&& (3 : Int32))), .val (.int (4 : Int32)), .val (.int st), .val (.int (fil.toInt8.toInt32)), .val (.ref b153), .val (.int ((st + (1 : Int32)) + (kk * (4 : Int32)))), .val (.int vv), .unset] [(.ref b214)]))
      refine own_on (fun t k => XS.aload X218.here hx rfl (hb hby at_345) rfl rfl k) ?_
      show OwnGo p e below s _ _ _ (T218.setTop (mkF m 347 #[.val (.int vv), .val (.int sel), .val (.int fil), .val (.int kk), .val (.int (((sel.toUInt32 >>> ((2 : Int32) &&& 31).toUInt32).toInt32) &&& (3 : Int32))), .val (.int (4 : Int32)), .val (.int st), .val (.int (fil.toInt8.toInt32)), .val (.ref b153), .val (.int ((st + (1 : Int32)) + (kk * (4 : Int32)))), .val (.int vv), .unset] [(.ref b153), (.ref b214)]))
      refine own_on (fun t k => XS.iload X218.here hx rfl (hb hby at_347) rfl k) ?_
      show OwnGo p e below s _ _ _ (T218.setTop (mkF m 349 #[.val (.int vv), .val (.int sel), .val (.int fil), .val (.int kk), .val (.int (((sel.toUInt32 >>> ((2 : Int32) &&& 31).toUInt32).toInt32) &&& (3 : Int32))), .val (.int (4 : Int32)), .val (.int st), .val (.int (fil.toInt8.toInt32)), .val (.ref b153), .val (.int ((st + (1 : Int32)) + (kk * (4 : Int32)))), .val (.int vv), .unset] [(.int st), (.ref b153), (.ref b214)]))
      refine own_on (fun t k => XS.iconst X218.here hx rfl (hb hby at_349) k) ?_
      show OwnGo p e below s _ _ _ (T218.setTop (mkF m 350 #[.val (.int vv), .val (.int sel), .val (.int fil), .val (.int kk), .val (.int (((sel.toUInt32 >>> ((2 : Int32) &&& 31).toUInt32).toInt32) &&& (3 : Int32))), .val (.int (4 : Int32)), .val (.int st), .val (.int (fil.toInt8.toInt32)), .val (.ref b153), .val (.int ((st + (1 : Int32)) + (kk * (4 : Int32)))), .val (.int vv), .unset] [(.int (2 : Int32)), (.int st), (.ref b153), (.ref b214)]))
      have f219 : OwnArf Z h214 b153 .byte 24 (own_upd (own_upd (own_upd (own_upd (own_upd (own_fl 24 (nar .byte (fil.toInt8.toInt32))) sN (nar .byte ((4 : Int32).toInt8.toInt32))) (sN + 1 + kN * 4) (nar .byte (((vv.toUInt32 >>> ((24 : Int32) &&& 31).toUInt32).toInt32).toInt8.toInt32))) ((sN + 1 + kN * 4) + 1) (nar .byte (((vv.toUInt32 >>> ((16 : Int32) &&& 31).toUInt32).toInt32).toInt8.toInt32))) ((sN + 1 + kN * 4) + 2) (nar .byte (((vv.toUInt32 >>> ((8 : Int32) &&& 31).toUInt32).toInt32).toInt8.toInt32))) ((sN + 1 + kN * 4) + 3) (nar .byte (vv.toInt8.toInt32))) := V213.ext E214
      have f220 : OwnArf Z T218.heap b153 .byte 24 (own_upd (own_upd (own_upd (own_upd (own_upd (own_fl 24 (nar .byte (fil.toInt8.toInt32))) sN (nar .byte ((4 : Int32).toInt8.toInt32))) (sN + 1 + kN * 4) (nar .byte (((vv.toUInt32 >>> ((24 : Int32) &&& 31).toUInt32).toInt32).toInt8.toInt32))) ((sN + 1 + kN * 4) + 1) (nar .byte (((vv.toUInt32 >>> ((16 : Int32) &&& 31).toUInt32).toInt32).toInt8.toInt32))) ((sN + 1 + kN * 4) + 2) (nar .byte (((vv.toUInt32 >>> ((8 : Int32) &&& 31).toUInt32).toInt32).toInt8.toInt32))) ((sN + 1 + kN * 4) + 3) (nar .byte (vv.toInt8.toInt32))) := f219.keep K218q (ninS ne215 nin0)
      obtain ⟨cq221, kq221, q221a, q221b, q221c⟩ := isOf hZ rfl c218_0
      obtain ⟨_, _, ⟨T221, L221, k221, n221⟩, -, X221, ⟨Lc221, hQ221, l221, y221, z221⟩, st221⟩ := X218.virtualBack hx (y := (⟨"org/tempochart/zone/PackedZone", "at", "([BII)Lorg/tempochart/zone/PackedZone;"⟩ : MethodName)) (z := (⟨"org/tempochart/zone/PackedZone", "at", "([BII)Lorg/tempochart/zone/PackedZone;"⟩ : MethodName)) hown (mvT hZ (w15 hw)) (mvT hZ (w16 hw)) (notFace_of_selects (args := #[]) (mvT hZ (w18 hw))) (mvT hZ (w18 hw)) (mvT hZ (w17 hw)) (by decide) (backOf (W := 0) (rm3 l Z a0 hw [] b214 b153 st (2 : Int32) .null (.int (0 : Int32)) (.int (0 : Int32)) (.int (0 : Int32)) (.int (0 : Int32)) (own_upd (own_upd (own_upd (own_upd (own_upd (own_fl 24 (nar .byte (fil.toInt8.toInt32))) sN (nar .byte ((4 : Int32).toInt8.toInt32))) (sN + 1 + kN * 4) (nar .byte (((vv.toUInt32 >>> ((24 : Int32) &&& 31).toUInt32).toInt32).toInt8.toInt32))) ((sN + 1 + kN * 4) + 1) (nar .byte (((vv.toUInt32 >>> ((16 : Int32) &&& 31).toUInt32).toInt32).toInt8.toInt32))) ((sN + 1 + kN * 4) + 2) (nar .byte (((vv.toUInt32 >>> ((8 : Int32) &&& 31).toUInt32).toInt32).toInt8.toInt32))) ((sN + 1 + kN * 4) + 3) (nar .byte (vv.toInt8.toInt32))) sN T218.heap n0 Z218 c218_0 c218_1 c218_2 c218_3 c218_4 c218_5 g216 f220 ne215 hS hS0) hZ (w19 hw) (w3 hw) (by decide) (by decide)) q221a q221c (g := (mkF m 350 #[.val (.int vv), .val (.int sel), .val (.int fil), .val (.int kk), .val (.int (((sel.toUInt32 >>> ((2 : Int32) &&& 31).toUInt32).toInt32) &&& (3 : Int32))), .val (.int (4 : Int32)), .val (.int st), .val (.int (fil.toInt8.toInt32)), .val (.ref b153), .val (.int ((st + (1 : Int32)) + (kk * (4 : Int32)))), .val (.int vv), .unset] [(.int (2 : Int32)), (.int st), (.ref b153), (.ref b214)])) rfl (by rw [hml]; rfl) (Steps.refl _) (argsL := [(.ref b153), (.int st), (.int (2 : Int32))]) (rest := []) (lenOf pd_2 rfl) rfl (by show 2 * 0 + _ ≤ _; exact Nat.le_of_eq rfl) (hb hby at_350) (fun _ _ => ⟨rfl, rfl, (by decide : 4 + 0 ≤ _), (by decide : 35 + 0 ≤ _)⟩)
      dsimp only [Pt.U, Pt.locs, Pt.cells, Pt.slots] at X221 l221 y221 z221 st221 hQ221
      replace X221 := own_num (c' := 4) (n' := 35) X221 l221 (y221.trans rfl) (z221.trans rfl)
      obtain ⟨rfl, N221q, K221q, c221_0, c221_1, c221_2, c221_3, c221_4⟩ := hQ221
      have N221 := Fr.app N218 N221q
      have Z221 : n0 ≤ T221.heap.size := Nat.le_trans Z218 K221q.1
      have K221 : Keep h0 T221.heap [] := K218.trans K221q (allS (P := fun x => x ∈ [] ∨ h0.size ≤ x) (Or.inr z217) all0)
      refine own_tr st221 ?_
      show OwnGo p e below s _ _ _ (T221.setTop (mkF m 353 #[.val (.int vv), .val (.int sel), .val (.int fil), .val (.int kk), .val (.int (((sel.toUInt32 >>> ((2 : Int32) &&& 31).toUInt32).toInt32) &&& (3 : Int32))), .val (.int (4 : Int32)), .val (.int st), .val (.int (fil.toInt8.toInt32)), .val (.ref b153), .val (.int ((st + (1 : Int32)) + (kk * (4 : Int32)))), .val (.int vv), .unset] [(.ref b214)]))
      have hf1 : ((own_upd (own_upd (own_upd (own_upd (own_upd (own_fl 24 (nar .byte (fil.toInt8.toInt32))) sN (nar .byte ((4 : Int32).toInt8.toInt32))) (sN + 1 + kN * 4) (nar .byte (((vv.toUInt32 >>> ((24 : Int32) &&& 31).toUInt32).toInt32).toInt8.toInt32))) ((sN + 1 + kN * 4) + 1) (nar .byte (((vv.toUInt32 >>> ((16 : Int32) &&& 31).toUInt32).toInt32).toInt8.toInt32))) ((sN + 1 + kN * 4) + 2) (nar .byte (((vv.toUInt32 >>> ((8 : Int32) &&& 31).toUInt32).toInt32).toInt8.toInt32))) ((sN + 1 + kN * 4) + 3) (nar .byte (vv.toInt8.toInt32))) sN) = (4 : Int32) := by rw [own_miss _ _ _ (by omega), own_miss _ _ _ (by omega), own_miss _ _ _ (by omega), own_miss _ _ _ (by omega), own_hit]; decide
      rw [hf1] at c221_2
      rw [hf1, show own_none 4 = (2147483647 : Int32) from by decide] at c221_4
      have hP16 : (sN + 1 + kN * 4) ≤ 16 := by omega
      refine own_on (fun t k => XS.astore X221.here hx rfl (hb hby at_353) rfl rfl (l' := #[.val (.int vv), .val (.int sel), .val (.int fil), .val (.int kk), .val (.int (((sel.toUInt32 >>> ((2 : Int32) &&& 31).toUInt32).toInt32) &&& (3 : Int32))), .val (.int (4 : Int32)), .val (.int st), .val (.int (fil.toInt8.toInt32)), .val (.ref b153), .val (.int ((st + (1 : Int32)) + (kk * (4 : Int32)))), .val (.int vv), .val (.ref b214)]) rfl k) ?_
      show OwnGo p e below s _ _ _ (T221.setTop (mkF m 355 #[.val (.int vv), .val (.int sel), .val (.int fil), .val (.int kk), .val (.int (((sel.toUInt32 >>> ((2 : Int32) &&& 31).toUInt32).toInt32) &&& (3 : Int32))), .val (.int (4 : Int32)), .val (.int st), .val (.int (fil.toInt8.toInt32)), .val (.ref b153), .val (.int ((st + (1 : Int32)) + (kk * (4 : Int32)))), .val (.int vv), .val (.ref b214)] []))
      refine own_on (fun t k => XS.aload X221.here hx rfl (hb hby at_355) rfl rfl k) ?_
      show OwnGo p e below s _ _ _ (T221.setTop (mkF m 357 #[.val (.int vv), .val (.int sel), .val (.int fil), .val (.int kk), .val (.int (((sel.toUInt32 >>> ((2 : Int32) &&& 31).toUInt32).toInt32) &&& (3 : Int32))), .val (.int (4 : Int32)), .val (.int st), .val (.int (fil.toInt8.toInt32)), .val (.ref b153), .val (.int ((st + (1 : Int32)) + (kk * (4 : Int32)))), .val (.int vv), .val (.ref b214)] [(.ref b214)]))
      refine own_on (fun t k => XS.iloadN X221.here hx rfl (hb hby at_357) rfl k) ?_
      show OwnGo p e below s _ _ _ (T221.setTop (mkF m 358 #[.val (.int vv), .val (.int sel), .val (.int fil), .val (.int kk), .val (.int (((sel.toUInt32 >>> ((2 : Int32) &&& 31).toUInt32).toInt32) &&& (3 : Int32))), .val (.int (4 : Int32)), .val (.int st), .val (.int (fil.toInt8.toInt32)), .val (.ref b153), .val (.int ((st + (1 : Int32)) + (kk * (4 : Int32)))), .val (.int vv), .val (.ref b214)] [(.int kk), (.ref b214)]))
      have f222 : OwnArf Z T221.heap b153 .byte 24 (own_upd (own_upd (own_upd (own_upd (own_upd (own_fl 24 (nar .byte (fil.toInt8.toInt32))) sN (nar .byte ((4 : Int32).toInt8.toInt32))) (sN + 1 + kN * 4) (nar .byte (((vv.toUInt32 >>> ((24 : Int32) &&& 31).toUInt32).toInt32).toInt8.toInt32))) ((sN + 1 + kN * 4) + 1) (nar .byte (((vv.toUInt32 >>> ((16 : Int32) &&& 31).toUInt32).toInt32).toInt8.toInt32))) ((sN + 1 + kN * 4) + 2) (nar .byte (((vv.toUInt32 >>> ((8 : Int32) &&& 31).toUInt32).toInt32).toInt8.toInt32))) ((sN + 1 + kN * 4) + 3) (nar .byte (vv.toInt8.toInt32))) := f220.keep K221q (ninS ne215 nin0)
      obtain ⟨cq223, kq223, q223a, q223b, q223c⟩ := isOf hZ rfl c221_0
      obtain ⟨_, _, ⟨T223, L223, k223, n223⟩, -, X223, ⟨Lc223, hQ223, l223, y223, z223⟩, st223⟩ := X221.virtualBack hx (y := (⟨"org/tempochart/zone/PackedZone", "entry", "(I)I"⟩ : MethodName)) (z := (⟨"org/tempochart/zone/PackedZone", "entry", "(I)I"⟩ : MethodName)) hown (mvT hZ (w33 hw)) (mvT hZ (w34 hw)) (notFace_of_selects (args := #[]) (mvT hZ (w36 hw))) (mvT hZ (w36 hw)) (mvT hZ (w35 hw)) (by decide) (backOf (W := 0) (rmen4 l Z a0 hw [] b214 kk b153 (st + (1 : Int32)) (own_upd (own_upd (own_upd (own_upd (own_upd (own_fl 24 (nar .byte (fil.toInt8.toInt32))) sN (nar .byte ((4 : Int32).toInt8.toInt32))) (sN + 1 + kN * 4) (nar .byte (((vv.toUInt32 >>> ((24 : Int32) &&& 31).toUInt32).toInt32).toInt8.toInt32))) ((sN + 1 + kN * 4) + 1) (nar .byte (((vv.toUInt32 >>> ((16 : Int32) &&& 31).toUInt32).toInt32).toInt8.toInt32))) ((sN + 1 + kN * 4) + 2) (nar .byte (((vv.toUInt32 >>> ((8 : Int32) &&& 31).toUInt32).toInt32).toInt8.toInt32))) ((sN + 1 + kN * 4) + 3) (nar .byte (vv.toInt8.toInt32))) (sN + 1 + kN * 4) T221.heap n0 Z221 c221_0 c221_1 c221_2 c221_3 c221_4 f222 hP hP16) hZ (w37 hw) (w3 hw) (by decide) (by decide)) q223a q223c (g := (mkF m 358 #[.val (.int vv), .val (.int sel), .val (.int fil), .val (.int kk), .val (.int (((sel.toUInt32 >>> ((2 : Int32) &&& 31).toUInt32).toInt32) &&& (3 : Int32))), .val (.int (4 : Int32)), .val (.int st), .val (.int (fil.toInt8.toInt32)), .val (.ref b153), .val (.int ((st + (1 : Int32)) + (kk * (4 : Int32)))), .val (.int vv), .val (.ref b214)] [(.int kk), (.ref b214)])) rfl (by rw [hml]; rfl) (Steps.refl _) (argsL := [(.int kk)]) (rest := []) (lenOf pd_0 rfl) rfl (by show 2 * 0 + _ ≤ _; exact Nat.le_of_eq rfl) (hb hby at_358) (fun _ _ => ⟨rfl, rfl, (by decide : 4 + 0 ≤ _), (by decide : 35 + 0 ≤ _)⟩)
      dsimp only [Pt.U, Pt.locs, Pt.cells, Pt.slots] at X223 l223 y223 z223 st223 hQ223
      replace X223 := own_num (c' := 4) (n' := 35) X223 l223 (y223.trans rfl) (z223.trans rfl)
      obtain ⟨rfl, N223q, e223⟩ := hQ223
      have N223 := Fr.app N221 N223q
      refine own_tr st223 ?_
      show OwnGo p e below s _ _ _ (T223.setTop (mkF m 361 #[.val (.int vv), .val (.int sel), .val (.int fil), .val (.int kk), .val (.int (((sel.toUInt32 >>> ((2 : Int32) &&& 31).toUInt32).toInt32) &&& (3 : Int32))), .val (.int (4 : Int32)), .val (.int st), .val (.int (fil.toInt8.toInt32)), .val (.ref b153), .val (.int ((st + (1 : Int32)) + (kk * (4 : Int32)))), .val (.int vv), .val (.ref b214)] [(.int (own_r 2147483647 ((((((((own_upd (own_upd (own_upd (own_upd (own_upd (own_fl 24 (nar .byte (fil.toInt8.toInt32))) sN (nar .byte ((4 : Int32).toInt8.toInt32))) (sN + 1 + kN * 4) (nar .byte (((vv.toUInt32 >>> ((24 : Int32) &&& 31).toUInt32).toInt32).toInt8.toInt32))) ((sN + 1 + kN * 4) + 1) (nar .byte (((vv.toUInt32 >>> ((16 : Int32) &&& 31).toUInt32).toInt32).toInt8.toInt32))) ((sN + 1 + kN * 4) + 2) (nar .byte (((vv.toUInt32 >>> ((8 : Int32) &&& 31).toUInt32).toInt32).toInt8.toInt32))) ((sN + 1 + kN * 4) + 3) (nar .byte (vv.toInt8.toInt32))) (sN + 1 + kN * 4)) <<< ((8 : Int32) &&& 31)) ||| (((own_upd (own_upd (own_upd (own_upd (own_upd (own_fl 24 (nar .byte (fil.toInt8.toInt32))) sN (nar .byte ((4 : Int32).toInt8.toInt32))) (sN + 1 + kN * 4) (nar .byte (((vv.toUInt32 >>> ((24 : Int32) &&& 31).toUInt32).toInt32).toInt8.toInt32))) ((sN + 1 + kN * 4) + 1) (nar .byte (((vv.toUInt32 >>> ((16 : Int32) &&& 31).toUInt32).toInt32).toInt8.toInt32))) ((sN + 1 + kN * 4) + 2) (nar .byte (((vv.toUInt32 >>> ((8 : Int32) &&& 31).toUInt32).toInt32).toInt8.toInt32))) ((sN + 1 + kN * 4) + 3) (nar .byte (vv.toInt8.toInt32))) ((sN + 1 + kN * 4) + 1)) &&& (255 : Int32))) <<< ((8 : Int32) &&& 31)) ||| (((own_upd (own_upd (own_upd (own_upd (own_upd (own_fl 24 (nar .byte (fil.toInt8.toInt32))) sN (nar .byte ((4 : Int32).toInt8.toInt32))) (sN + 1 + kN * 4) (nar .byte (((vv.toUInt32 >>> ((24 : Int32) &&& 31).toUInt32).toInt32).toInt8.toInt32))) ((sN + 1 + kN * 4) + 1) (nar .byte (((vv.toUInt32 >>> ((16 : Int32) &&& 31).toUInt32).toInt32).toInt8.toInt32))) ((sN + 1 + kN * 4) + 2) (nar .byte (((vv.toUInt32 >>> ((8 : Int32) &&& 31).toUInt32).toInt32).toInt8.toInt32))) ((sN + 1 + kN * 4) + 3) (nar .byte (vv.toInt8.toInt32))) ((sN + 1 + kN * 4) + 2)) &&& (255 : Int32))) <<< ((8 : Int32) &&& 31)) ||| (((own_upd (own_upd (own_upd (own_upd (own_upd (own_fl 24 (nar .byte (fil.toInt8.toInt32))) sN (nar .byte ((4 : Int32).toInt8.toInt32))) (sN + 1 + kN * 4) (nar .byte (((vv.toUInt32 >>> ((24 : Int32) &&& 31).toUInt32).toInt32).toInt8.toInt32))) ((sN + 1 + kN * 4) + 1) (nar .byte (((vv.toUInt32 >>> ((16 : Int32) &&& 31).toUInt32).toInt32).toInt8.toInt32))) ((sN + 1 + kN * 4) + 2) (nar .byte (((vv.toUInt32 >>> ((8 : Int32) &&& 31).toUInt32).toInt32).toInt8.toInt32))) ((sN + 1 + kN * 4) + 3) (nar .byte (vv.toInt8.toInt32))) ((sN + 1 + kN * 4) + 3)) &&& (255 : Int32)))))]))
      refine own_on (fun t k => XS.iload X223.here hx rfl (hb hby at_361) rfl k) ?_
      show OwnGo p e below s _ _ _ (T223.setTop (mkF m 363 #[.val (.int vv), .val (.int sel), .val (.int fil), .val (.int kk), .val (.int (((sel.toUInt32 >>> ((2 : Int32) &&& 31).toUInt32).toInt32) &&& (3 : Int32))), .val (.int (4 : Int32)), .val (.int st), .val (.int (fil.toInt8.toInt32)), .val (.ref b153), .val (.int ((st + (1 : Int32)) + (kk * (4 : Int32)))), .val (.int vv), .val (.ref b214)] [(.int vv), (.int (own_r 2147483647 ((((((((own_upd (own_upd (own_upd (own_upd (own_upd (own_fl 24 (nar .byte (fil.toInt8.toInt32))) sN (nar .byte ((4 : Int32).toInt8.toInt32))) (sN + 1 + kN * 4) (nar .byte (((vv.toUInt32 >>> ((24 : Int32) &&& 31).toUInt32).toInt32).toInt8.toInt32))) ((sN + 1 + kN * 4) + 1) (nar .byte (((vv.toUInt32 >>> ((16 : Int32) &&& 31).toUInt32).toInt32).toInt8.toInt32))) ((sN + 1 + kN * 4) + 2) (nar .byte (((vv.toUInt32 >>> ((8 : Int32) &&& 31).toUInt32).toInt32).toInt8.toInt32))) ((sN + 1 + kN * 4) + 3) (nar .byte (vv.toInt8.toInt32))) (sN + 1 + kN * 4)) <<< ((8 : Int32) &&& 31)) ||| (((own_upd (own_upd (own_upd (own_upd (own_upd (own_fl 24 (nar .byte (fil.toInt8.toInt32))) sN (nar .byte ((4 : Int32).toInt8.toInt32))) (sN + 1 + kN * 4) (nar .byte (((vv.toUInt32 >>> ((24 : Int32) &&& 31).toUInt32).toInt32).toInt8.toInt32))) ((sN + 1 + kN * 4) + 1) (nar .byte (((vv.toUInt32 >>> ((16 : Int32) &&& 31).toUInt32).toInt32).toInt8.toInt32))) ((sN + 1 + kN * 4) + 2) (nar .byte (((vv.toUInt32 >>> ((8 : Int32) &&& 31).toUInt32).toInt32).toInt8.toInt32))) ((sN + 1 + kN * 4) + 3) (nar .byte (vv.toInt8.toInt32))) ((sN + 1 + kN * 4) + 1)) &&& (255 : Int32))) <<< ((8 : Int32) &&& 31)) ||| (((own_upd (own_upd (own_upd (own_upd (own_upd (own_fl 24 (nar .byte (fil.toInt8.toInt32))) sN (nar .byte ((4 : Int32).toInt8.toInt32))) (sN + 1 + kN * 4) (nar .byte (((vv.toUInt32 >>> ((24 : Int32) &&& 31).toUInt32).toInt32).toInt8.toInt32))) ((sN + 1 + kN * 4) + 1) (nar .byte (((vv.toUInt32 >>> ((16 : Int32) &&& 31).toUInt32).toInt32).toInt8.toInt32))) ((sN + 1 + kN * 4) + 2) (nar .byte (((vv.toUInt32 >>> ((8 : Int32) &&& 31).toUInt32).toInt32).toInt8.toInt32))) ((sN + 1 + kN * 4) + 3) (nar .byte (vv.toInt8.toInt32))) ((sN + 1 + kN * 4) + 2)) &&& (255 : Int32))) <<< ((8 : Int32) &&& 31)) ||| (((own_upd (own_upd (own_upd (own_upd (own_upd (own_fl 24 (nar .byte (fil.toInt8.toInt32))) sN (nar .byte ((4 : Int32).toInt8.toInt32))) (sN + 1 + kN * 4) (nar .byte (((vv.toUInt32 >>> ((24 : Int32) &&& 31).toUInt32).toInt32).toInt8.toInt32))) ((sN + 1 + kN * 4) + 1) (nar .byte (((vv.toUInt32 >>> ((16 : Int32) &&& 31).toUInt32).toInt32).toInt8.toInt32))) ((sN + 1 + kN * 4) + 2) (nar .byte (((vv.toUInt32 >>> ((8 : Int32) &&& 31).toUInt32).toInt32).toInt8.toInt32))) ((sN + 1 + kN * 4) + 3) (nar .byte (vv.toInt8.toInt32))) ((sN + 1 + kN * 4) + 3)) &&& (255 : Int32)))))]))
      refine own_on (fun t k => XS.icmpNo X223.here hx rfl (hb hby at_363) rfl (teq (by
                rw [show (own_upd (own_upd (own_upd (own_upd (own_upd (own_fl 24 (nar .byte (fil.toInt8.toInt32))) sN (nar .byte ((4 : Int32).toInt8.toInt32))) (sN + 1 + kN * 4) (nar .byte (((vv.toUInt32 >>> ((24 : Int32) &&& 31).toUInt32).toInt32).toInt8.toInt32))) ((sN + 1 + kN * 4) + 1) (nar .byte (((vv.toUInt32 >>> ((16 : Int32) &&& 31).toUInt32).toInt32).toInt8.toInt32))) ((sN + 1 + kN * 4) + 2) (nar .byte (((vv.toUInt32 >>> ((8 : Int32) &&& 31).toUInt32).toInt32).toInt8.toInt32))) ((sN + 1 + kN * 4) + 3) (nar .byte (vv.toInt8.toInt32))) (sN + 1 + kN * 4) = _ from (by rw [own_miss _ _ _ (by omega), own_miss _ _ _ (by omega), own_miss _ _ _ (by omega), own_hit]), show (own_upd (own_upd (own_upd (own_upd (own_upd (own_fl 24 (nar .byte (fil.toInt8.toInt32))) sN (nar .byte ((4 : Int32).toInt8.toInt32))) (sN + 1 + kN * 4) (nar .byte (((vv.toUInt32 >>> ((24 : Int32) &&& 31).toUInt32).toInt32).toInt8.toInt32))) ((sN + 1 + kN * 4) + 1) (nar .byte (((vv.toUInt32 >>> ((16 : Int32) &&& 31).toUInt32).toInt32).toInt8.toInt32))) ((sN + 1 + kN * 4) + 2) (nar .byte (((vv.toUInt32 >>> ((8 : Int32) &&& 31).toUInt32).toInt32).toInt8.toInt32))) ((sN + 1 + kN * 4) + 3) (nar .byte (vv.toInt8.toInt32))) ((sN + 1 + kN * 4) + 1) = _ from (by rw [own_miss _ _ _ (by omega), own_miss _ _ _ (by omega), own_hit]), show (own_upd (own_upd (own_upd (own_upd (own_upd (own_fl 24 (nar .byte (fil.toInt8.toInt32))) sN (nar .byte ((4 : Int32).toInt8.toInt32))) (sN + 1 + kN * 4) (nar .byte (((vv.toUInt32 >>> ((24 : Int32) &&& 31).toUInt32).toInt32).toInt8.toInt32))) ((sN + 1 + kN * 4) + 1) (nar .byte (((vv.toUInt32 >>> ((16 : Int32) &&& 31).toUInt32).toInt32).toInt8.toInt32))) ((sN + 1 + kN * 4) + 2) (nar .byte (((vv.toUInt32 >>> ((8 : Int32) &&& 31).toUInt32).toInt32).toInt8.toInt32))) ((sN + 1 + kN * 4) + 3) (nar .byte (vv.toInt8.toInt32))) ((sN + 1 + kN * 4) + 2) = _ from (by rw [own_miss _ _ _ (by omega), own_hit]), show (own_upd (own_upd (own_upd (own_upd (own_upd (own_fl 24 (nar .byte (fil.toInt8.toInt32))) sN (nar .byte ((4 : Int32).toInt8.toInt32))) (sN + 1 + kN * 4) (nar .byte (((vv.toUInt32 >>> ((24 : Int32) &&& 31).toUInt32).toInt32).toInt8.toInt32))) ((sN + 1 + kN * 4) + 1) (nar .byte (((vv.toUInt32 >>> ((16 : Int32) &&& 31).toUInt32).toInt32).toInt8.toInt32))) ((sN + 1 + kN * 4) + 2) (nar .byte (((vv.toUInt32 >>> ((8 : Int32) &&& 31).toUInt32).toInt32).toInt8.toInt32))) ((sN + 1 + kN * 4) + 3) (nar .byte (vv.toInt8.toInt32))) ((sN + 1 + kN * 4) + 3) = _ from (by rw [own_hit])]
                simp only [own_nb]
                rw [own_w4]
                simp [own_r]
                intro h; exact h.symm : (own_r 2147483647 ((((((((own_upd (own_upd (own_upd (own_upd (own_upd (own_fl 24 (nar .byte (fil.toInt8.toInt32))) sN (nar .byte ((4 : Int32).toInt8.toInt32))) (sN + 1 + kN * 4) (nar .byte (((vv.toUInt32 >>> ((24 : Int32) &&& 31).toUInt32).toInt32).toInt8.toInt32))) ((sN + 1 + kN * 4) + 1) (nar .byte (((vv.toUInt32 >>> ((16 : Int32) &&& 31).toUInt32).toInt32).toInt8.toInt32))) ((sN + 1 + kN * 4) + 2) (nar .byte (((vv.toUInt32 >>> ((8 : Int32) &&& 31).toUInt32).toInt32).toInt8.toInt32))) ((sN + 1 + kN * 4) + 3) (nar .byte (vv.toInt8.toInt32))) (sN + 1 + kN * 4)) <<< ((8 : Int32) &&& 31)) ||| (((own_upd (own_upd (own_upd (own_upd (own_upd (own_fl 24 (nar .byte (fil.toInt8.toInt32))) sN (nar .byte ((4 : Int32).toInt8.toInt32))) (sN + 1 + kN * 4) (nar .byte (((vv.toUInt32 >>> ((24 : Int32) &&& 31).toUInt32).toInt32).toInt8.toInt32))) ((sN + 1 + kN * 4) + 1) (nar .byte (((vv.toUInt32 >>> ((16 : Int32) &&& 31).toUInt32).toInt32).toInt8.toInt32))) ((sN + 1 + kN * 4) + 2) (nar .byte (((vv.toUInt32 >>> ((8 : Int32) &&& 31).toUInt32).toInt32).toInt8.toInt32))) ((sN + 1 + kN * 4) + 3) (nar .byte (vv.toInt8.toInt32))) ((sN + 1 + kN * 4) + 1)) &&& (255 : Int32))) <<< ((8 : Int32) &&& 31)) ||| (((own_upd (own_upd (own_upd (own_upd (own_upd (own_fl 24 (nar .byte (fil.toInt8.toInt32))) sN (nar .byte ((4 : Int32).toInt8.toInt32))) (sN + 1 + kN * 4) (nar .byte (((vv.toUInt32 >>> ((24 : Int32) &&& 31).toUInt32).toInt32).toInt8.toInt32))) ((sN + 1 + kN * 4) + 1) (nar .byte (((vv.toUInt32 >>> ((16 : Int32) &&& 31).toUInt32).toInt32).toInt8.toInt32))) ((sN + 1 + kN * 4) + 2) (nar .byte (((vv.toUInt32 >>> ((8 : Int32) &&& 31).toUInt32).toInt32).toInt8.toInt32))) ((sN + 1 + kN * 4) + 3) (nar .byte (vv.toInt8.toInt32))) ((sN + 1 + kN * 4) + 2)) &&& (255 : Int32))) <<< ((8 : Int32) &&& 31)) ||| (((own_upd (own_upd (own_upd (own_upd (own_upd (own_fl 24 (nar .byte (fil.toInt8.toInt32))) sN (nar .byte ((4 : Int32).toInt8.toInt32))) (sN + 1 + kN * 4) (nar .byte (((vv.toUInt32 >>> ((24 : Int32) &&& 31).toUInt32).toInt32).toInt8.toInt32))) ((sN + 1 + kN * 4) + 1) (nar .byte (((vv.toUInt32 >>> ((16 : Int32) &&& 31).toUInt32).toInt32).toInt8.toInt32))) ((sN + 1 + kN * 4) + 2) (nar .byte (((vv.toUInt32 >>> ((8 : Int32) &&& 31).toUInt32).toInt32).toInt8.toInt32))) ((sN + 1 + kN * 4) + 3) (nar .byte (vv.toInt8.toInt32))) ((sN + 1 + kN * 4) + 3)) &&& (255 : Int32)))) = vv)).2 k) ?_
      show OwnGo p e below s _ _ _ (T223.setTop (mkF m 366 #[.val (.int vv), .val (.int sel), .val (.int fil), .val (.int kk), .val (.int (((sel.toUInt32 >>> ((2 : Int32) &&& 31).toUInt32).toInt32) &&& (3 : Int32))), .val (.int (4 : Int32)), .val (.int st), .val (.int (fil.toInt8.toInt32)), .val (.ref b153), .val (.int ((st + (1 : Int32)) + (kk * (4 : Int32)))), .val (.int vv), .val (.ref b214)] []))
      refine own_on (fun t k => XS.iconst X223.here hx rfl (hb hby at_366) k) ?_
      show OwnGo p e below s _ _ _ (T223.setTop (mkF m 367 #[.val (.int vv), .val (.int sel), .val (.int fil), .val (.int kk), .val (.int (((sel.toUInt32 >>> ((2 : Int32) &&& 31).toUInt32).toInt32) &&& (3 : Int32))), .val (.int (4 : Int32)), .val (.int st), .val (.int (fil.toInt8.toInt32)), .val (.ref b153), .val (.int ((st + (1 : Int32)) + (kk * (4 : Int32)))), .val (.int vv), .val (.ref b214)] [(.int (1 : Int32))]))
      refine own_on (fun t k => XS.goto X223.here hx rfl (pc0 := 367) (pc' := 371) rfl (hb hby at_367) (by decide) (by decide) k) ?_
      show OwnGo p e below s _ _ _ (T223.setTop (mkF m 371 #[.val (.int vv), .val (.int sel), .val (.int fil), .val (.int kk), .val (.int (((sel.toUInt32 >>> ((2 : Int32) &&& 31).toUInt32).toInt32) &&& (3 : Int32))), .val (.int (4 : Int32)), .val (.int st), .val (.int (fil.toInt8.toInt32)), .val (.ref b153), .val (.int ((st + (1 : Int32)) + (kk * (4 : Int32)))), .val (.int vv), .val (.ref b214)] [(.int (1 : Int32))]))
      exact own_retN X223 hx hlk (t := .boolean) Bd.returns (by simp) (hb hby at_371) e223 ⟨rfl, N223, K221⟩ (by decide) (by decide)
set_option maxRecDepth 65536 in
set_option maxHeartbeats 40000000 in
theorem comes_1 {Post : Tables → Env → Array Value → State → Outcome → State → Prop} (hpost : ∀ tb e args s v u, (limb_1_1.after args s (.returned v) u = true ∧ limb_1_2.after args s (.returned v) u = true ∧ True) → FrameEnd s (.returned v) u (Jvm.fieldLocs frame_1_writes args s ++ Jvm.arrayLocs frame_1_arrays args s ++ Jvm.staticLocs frame_1_statics s) 16 192 → Post tb e args s (.returned v) u) :
    ArmFor flags0 classFile x code maxLocals ret World_1 tables_1 room_1 Calls_1 rest_1 Pre_1 Post := by
  intro l hfl _ _ p e ha hc hk s m args below hf hA hF happ hP
  obtain ⟨hcalls, hrest, hpre⟩ := hP
  obtain ⟨-, -, -, hnamed, -, -, -, hat⟩ := (Spec.applies_iff hf).mp happ
  obtain ⟨hg, hn⟩ := and_e (Cond.before_iff.mp (show (Jvm.Cond.and given_1 narrow_1).before args s = true from hpre))
  obtain ⟨gc, gr0⟩ := and_e hg
  obtain ⟨gi0, gr1⟩ := and_e gr0
  obtain ⟨gi1, gr2⟩ := and_e gr1
  have gi2 := gr2
  obtain ⟨w_0, w_1, w_2, rfl⟩ : ∃ w_0 w_1 w_2 : Value, args = #[w_0, w_1, w_2] := by
    have hs : args.size = 3 := by simpa [Cond.value, given_1] using gc
    obtain ⟨L⟩ := args
    match L, hs with
    | [w_0, w_1, w_2], _ => exact ⟨w_0, w_1, w_2, rfl⟩
  have hw := fun d (hd : d ∈ tables_1) => atoms_spec (ws := Jvm.Cond.code x code maxLocals ret :: tables_1) hat d (List.mem_cons_of_mem _ hd)
  have hfit : Fit s := fun {y c} hc i hi => by
    obtain ⟨ha, rfl⟩ := Array.getElem?_eq_some_iff.mp hc
    have q := List.all_eq_true.mp ((Array.all_eq_true_iff_forall_mem.mp hF) _ (Array.getElem_mem ha)) i (List.mem_range.mpr hi)
    simpa [Array.getElem?_eq_getElem hi] using q
  obtain ⟨i0, ei0⟩ := is_v gi0
  obtain rfl : w_0 = (.int i0) := Option.some.inj ei0
  obtain ⟨i1, ei1⟩ := is_v gi1
  obtain rfl : w_1 = (.int i1) := Option.some.inj ei1
  obtain ⟨i2, ei2⟩ := is_v gi2
  obtain rfl : w_2 = (.int i2) := Option.some.inj ei2
  obtain ⟨n, o, h1, h2, h3, _, L, rfl, ⟨rfl, N, _⟩, hq⟩ := rm0 l s _ hw tables_1 i0 i1 i2  s.heap s.heap.size (Nat.le_refl _)  p e ha hc hk s m _ below hf ((Spec.applies_iff_loose hf).mp happ).1 ⟨rfl, State.Warmed39.refl s, rfl⟩ trivial
  refine ⟨n, _, h1, h2, h3, hpost _ _ _ _ _ _ ⟨Cond.after_iff.mpr rfl, Cond.after_iff.mpr (eq_i res_at (Term.int_eval (1)) rfl), trivial⟩ ⟨hq.1, hq.2.1, (hq.2.2.sift fun y hy => Or.inr (N y hy)).mono (by decide) (by decide)⟩⟩
theorem main_1_1 : Claimed_1_1 := comes_1 fun _ _ _ _ _ _ h hF => ⟨h.1, hF⟩
theorem main_1_2 : Claimed_1_2 := comes_1 fun _ _ _ _ _ _ h hF => ⟨h.2.1, hF⟩
end Jvm.Pilot.@@N@@
namespace Jvm.Pilot.@@N@@
open Jvm Jvm.ClassFile Sem Op Lib Jvm.Free Jvm.Stand Jvm.Pilot.@@N@@.Jvm.D
/-! MADE BY PROGRAM (witnessworld.py) out of the Statement's table words and the real class files: 9 classes; the members and pool entries that the words name. The judged class is class 1, her method 1. -/
namespace start1
open Jvm.ClassFile
def u (s : String) : CpInfo := .utf8 (stringToUtf16 s)
/-- a pool by its gaps: so many unusable entries, then the entry; so many at the end -/
def gap : Nat → List CpInfo → List CpInfo
  | 0, r => r
  | n + 1, r => .unusable :: gap n r
def poolList (es : List (Nat × CpInfo)) (last : Nat) : List CpInfo := es.foldr (fun e r => gap e.1 (e.2 :: r)) (gap last [])
def pool (es : List (Nat × CpInfo)) (last : Nat) : Array CpInfo := ⟨poolList es last⟩
def fileOf (pool : Array CpInfo) (this : Nat) (attrs : Array Attribute := #[]) (ms : Array MethodInfo := #[]) (fl : Nat := 33) (sup : Nat := 0) (ifs : Array Nat := #[]) (fds : Array FieldInfo := #[]) : ClassFile where
  minorVersion := 0
  majorVersion := 65
  constantPool := pool
  accessFlags := fl
  thisClass := this
  superClass := sup
  interfaces := ifs
  fields := fds
  methods := ms
  attributes := attrs
def plain (name : String) (sup : Option ClassId) : Class where
  name := name
  kind := .ordinary
  loader := none
  accessFlags := 33
  super := sup
  interfaces := #[]
  cf := none
  fields := #[]
  methods := #[]
  instanceTypes := #[]
  staticTypes := #[]
  resolved := #[]
  callSites := []
  init := .initialized
  statics := none
  mirror := none

def pool0 : Array CpInfo := pool [(5, u "<init>"), (0, u "()V"), (1, .class_ 10), (1, u "java/lang/Object")] 113

def k0c0 : Code := { maxStack := 0, maxLocals := 1, code := object_method_1_code, exceptionTable := #[], attributes := #[] }
def k0m0 : Method := { name := "<init>", desc := "()V", sig := { parameters := [], returnType := none }, accessFlags := 1, code := some k0c0 }
/-- java/lang/Object -/
def k0 : Class := { plain "java/lang/Object" none with
  accessFlags := 33
  interfaces := #[]
  cf := some (fileOf pool0 8 #[] #[{ accessFlags := 1, nameIndex := 5, descriptorIndex := 6, attributes := #[] }] 33 0 #[] #[])
  fields := #[]
  methods := #[k0m0]
  instanceTypes := #[]
  staticTypes := #[]
  resolved := Array.replicate 124 none
  statics := none }

def pool1 : Array CpInfo := pool [(2, .class_ 4), (0, .nameAndType 5 6), (0, u "java/lang/Object"), (0, u "<init>"), (0, u "()V"), (2, .integer 2147483647), (0, .class_ 11), (0, u "org/tempochart/zone/PackedZone"), (0, .methodref 10 3), (0, .methodref 10 14), (0, .nameAndType 15 16), (0, u "at"), (0, u "([BII)Lorg/tempochart/zone/PackedZone;"), (0, .methodref 10 18), (0, .nameAndType 19 20), (0, u "entry"), (0, u "(I)I"), (0, .class_ 22), (0, u "org/tempochart/zone/PackedZoneEntryPinLaw"), (2, u "law"), (0, u "(III)Z")] 5

def k1m0 : Method := { name := "<init>", desc := "()V", sig := { parameters := [], returnType := none }, accessFlags := 1, code := none }
def k1c1 : Code := { maxStack := 4, maxLocals := 12, code := code, exceptionTable := #[], attributes := #[] }
def k1m1 : Method := { name := "law", desc := "(III)Z", sig := { parameters := [.int, .int, .int], returnType := some .boolean }, accessFlags := 9, code := some k1c1 }
/-- org/tempochart/zone/PackedZoneEntryPinLaw -/
def k1 : Class := { plain "org/tempochart/zone/PackedZoneEntryPinLaw" (some 0) with
  accessFlags := 49
  interfaces := #[]
  cf := some (fileOf pool1 21 #[] #[{ accessFlags := 1, nameIndex := 5, descriptorIndex := 6, attributes := #[] }, { accessFlags := 9, nameIndex := 25, descriptorIndex := 26, attributes := #[] }] 49 2 #[] #[])
  fields := #[]
  methods := #[k1m0, k1m1]
  instanceTypes := #[]
  staticTypes := #[]
  resolved := Array.replicate 32 none
  statics := none }

def pool2 : Array CpInfo := pool [(3, .methodref 4 5), (0, .class_ 6), (0, .nameAndType 7 8), (0, u "java/lang/Object"), (0, u "<init>"), (0, u "()V"), (0, .fieldref 10 11), (0, .class_ 12), (0, .nameAndType 13 14), (0, u "org/tempochart/zone/PackedZone"), (0, u "failedRow"), (0, u "[I"), (0, .fieldref 10 16), (0, .nameAndType 17 14), (0, u "failedColumn"), (4, u "dimension"), (3, u "width"), (1, .methodref 10 29), (0, .nameAndType 30 31), (0, u "none"), (0, u "(I)I"), (2, u "entry"), (2, .integer 2147483647), (0, .fieldref 10 39), (0, .nameAndType 40 41), (0, u "bytes"), (0, u "[B"), (0, .fieldref 10 43), (0, .nameAndType 22 44), (0, u "I"), (0, .fieldref 10 46), (0, .nameAndType 26 44), (0, .fieldref 10 48), (0, .nameAndType 49 44), (0, u "first"), (0, .fieldref 10 51), (0, .nameAndType 30 44), (52, u "KEPT"), (9, u "at"), (0, u "([BII)Lorg/tempochart/zone/PackedZone;")] 25

def k2c0 : Code := { maxStack := 2, maxLocals := 1, code := prog_291_method_1_code, exceptionTable := #[], attributes := #[] }
def k2m0 : Method := { name := "<init>", desc := "()V", sig := { parameters := [], returnType := none }, accessFlags := 1, code := some k2c0 }
def k2c1 : Code := { maxStack := 3, maxLocals := 4, code := prog_291_method_4_code, exceptionTable := #[], attributes := #[] }
def k2m1 : Method := { name := "at", desc := "([BII)Lorg/tempochart/zone/PackedZone;", sig := { parameters := [(.array .byte), .int, .int], returnType := some (.object "org/tempochart/zone/PackedZone") }, accessFlags := 1, code := some k2c1 }
def k2c2 : Code := { maxStack := 4, maxLocals := 5, code := prog_291_method_14_code, exceptionTable := #[], attributes := #[] }
def k2m2 : Method := { name := "entry", desc := "(I)I", sig := { parameters := [.int], returnType := some .int }, accessFlags := 0, code := some k2c2 }
def k2c3 : Code := { maxStack := 2, maxLocals := 1, code := prog_291_method_15_code, exceptionTable := #[], attributes := #[] }
def k2m3 : Method := { name := "none", desc := "(I)I", sig := { parameters := [.int], returnType := some .int }, accessFlags := 10, code := some k2c3 }
/-- org/tempochart/zone/PackedZone -/
def k2 : Class := { plain "org/tempochart/zone/PackedZone" (some 0) with
  accessFlags := 49
  interfaces := #[]
  cf := some (fileOf pool2 10 #[] #[{ accessFlags := 1, nameIndex := 7, descriptorIndex := 8, attributes := #[] }, { accessFlags := 1, nameIndex := 114, descriptorIndex := 115, attributes := #[] }, { accessFlags := 0, nameIndex := 34, descriptorIndex := 31, attributes := #[] }, { accessFlags := 10, nameIndex := 30, descriptorIndex := 31, attributes := #[] }] 49 4 #[] #[{ accessFlags := 24, nameIndex := 104, descriptorIndex := 44, attributes := #[] }, { accessFlags := 2, nameIndex := 40, descriptorIndex := 41, attributes := #[] }, { accessFlags := 2, nameIndex := 22, descriptorIndex := 44, attributes := #[] }, { accessFlags := 2, nameIndex := 49, descriptorIndex := 44, attributes := #[] }, { accessFlags := 2, nameIndex := 26, descriptorIndex := 44, attributes := #[] }, { accessFlags := 2, nameIndex := 30, descriptorIndex := 44, attributes := #[] }, { accessFlags := 18, nameIndex := 13, descriptorIndex := 14, attributes := #[] }, { accessFlags := 18, nameIndex := 17, descriptorIndex := 14, attributes := #[] }])
  fields := #[{ name := "KEPT", type := .int, accessFlags := 24, slot := 0, constantValue := 0 }, { name := "bytes", type := (.array .byte), accessFlags := 2, slot := 0, constantValue := 0 }, { name := "dimension", type := .int, accessFlags := 2, slot := 1, constantValue := 0 }, { name := "first", type := .int, accessFlags := 2, slot := 2, constantValue := 0 }, { name := "width", type := .int, accessFlags := 2, slot := 3, constantValue := 0 }, { name := "none", type := .int, accessFlags := 2, slot := 4, constantValue := 0 }, { name := "failedRow", type := (.array .int), accessFlags := 18, slot := 5, constantValue := 0 }, { name := "failedColumn", type := (.array .int), accessFlags := 18, slot := 6, constantValue := 0 }]
  methods := #[k2m0, k2m1, k2m2, k2m3]
  instanceTypes := #[(.array .byte), .int, .int, .int, .int, (.array .int), (.array .int)]
  staticTypes := #[.int]
  resolved := Array.replicate 141 none
  statics := none }

def pool3 : Array CpInfo := pool [(1, u "java/lang/Cloneable"), (0, .class_ 1), (0, u "java/lang/Object"), (0, .class_ 3)] 3

/-- java/lang/Cloneable -/
def k3 : Class := { plain "java/lang/Cloneable" (some 0) with
  accessFlags := 1537
  interfaces := #[]
  cf := some (fileOf pool3 2 #[] #[] 1537 4 #[] #[])
  fields := #[]
  methods := #[]
  instanceTypes := #[]
  staticTypes := #[]
  resolved := Array.replicate 8 none
  statics := none }

def pool4 : Array CpInfo := pool [(1, u "java/io/Serializable"), (0, .class_ 1), (0, u "java/lang/Object"), (0, .class_ 3)] 3

/-- java/io/Serializable -/
def k4 : Class := { plain "java/io/Serializable" (some 0) with
  accessFlags := 1537
  interfaces := #[]
  cf := some (fileOf pool4 2 #[] #[] 1537 4 #[] #[])
  fields := #[]
  methods := #[]
  instanceTypes := #[]
  staticTypes := #[]
  resolved := Array.replicate 8 none
  statics := none }

/-- the primitive byte -/
def k5 : Class := { plain "byte" none with kind := .primitive 'B', accessFlags := 0x411 }
/-- [B -/
def k6 : Class := { plain "[B" (some 0) with kind := .array 5 .byte, interfaces := #[3, 4], accessFlags := 1041 }

/-- the primitive int -/
def k7 : Class := { plain "int" none with kind := .primitive 'I', accessFlags := 0x411 }
/-- [I -/
def k8 : Class := { plain "[I" (some 0) with kind := .array 7 .int, interfaces := #[3, 4], accessFlags := 1041 }

def heap : Heap := #[]
def classes : Array Class := #[k0, k1, k2, k3, k4, k5, k6, k7, k8]
def interned : List (Array UInt16 × Addr) := []
def slotsUsed : Nat := 0
def theMethod : MethodId := ⟨1, 1⟩
def args0 : Array Value := #[.int 5, .int 6, .int 7]
def aboutOver (below : List Frame) : State where
  vm := { classes := classes, interned := interned.toArray }
  heap := heap
  slotsUsed := slotsUsed
  threads := #[{ frames := .invoking theMethod args0 :: below }]
def below0 : List Frame := [.native { method := ⟨0, 0⟩, args := #[] }]
def about1 : State := aboutOver below0
def p0 : Program := .bare "" "" ""
def e0 : Env := launch0.env 0 0 0
theorem w_frames : about1.frames = Frame.invoking theMethod args0 :: below0 := rfl
set_option maxRecDepth 65536 in
theorem w_args : argsFit about1.vm theMethod args0 = true := by decide +kernel
set_option maxRecDepth 65536 in
theorem w_heap : heapFits about1 = true := by decide +kernel
set_option maxRecDepth 65536 in
theorem w_runnable : about1.curStatus? = some .runnable := by decide +kernel
set_option maxRecDepth 65536 in
theorem w_alone : about1.alone = true := by decide +kernel
set_option maxRecDepth 65536 in
theorem w_named : about1.methodNamed? x = some theMethod := by decide +kernel
set_option maxRecDepth 65536 in
theorem w_hears : about1.hears theMethod below0 = true := by decide +kernel
set_option maxRecDepth 65536 in
theorem w_ripe : about1.ripe theMethod args0 below0 = true := by decide +kernel
theorem w_running : about1.status = .running := rfl
set_option maxRecDepth 65536 in
theorem w_room : about1.hasRoom e0.platform room_1 = true :=
  launch0.hasRoom_least _ room_1 (by decide +kernel) (by decide +kernel) (by decide +kernel) (by decide +kernel) (by decide +kernel) (by decide +kernel)
theorem allAtoms_all (ts : List Jvm.Cond) (a : Array Jvm.Value) (st : Jvm.State) : (allAtoms ts).before a st = ts.all (fun c => c.before a st) := by
  induction ts with
  | nil => rfl
  | cons c t ih =>
    show (Jvm.Cond.and c (allAtoms t)).before a st = _
    rw [Jvm.Cond.before_and, ih, List.all_cons]
def words1 : List Jvm.Cond := Jvm.Cond.code x code maxLocals ret :: tables_1
/-- a 'code' word, met by the world's own term for the bytes: nothing is compared byte by byte -/
theorem code_word {y : MethodName} {bytes : ByteArray} {mx : Nat} {rt : Option FieldType} {a : Array Value} {s : State} {m : MethodId} {meth : Method} {c : Code} (h1 : s.methodNamed? y = some m) (h2 : s.vm.method? m = some meth) (h3 : meth.code = some c) (h4 : c.code = bytes)
    (h5 : (c.maxLocals == mx && c.exceptionTable.isEmpty && decide (c.maxStack ≤ mostOperands) && decide (meth.sig.returnType = rt) && !meth.locks && decide (parseMethodDescriptor y.desc = some meth.sig)) = true) : (Jvm.Cond.code y bytes mx rt).before a s = true := by
  simp only [Bool.and_eq_true, beq_iff_eq, Bool.not_eq_true', decide_eq_true_eq] at h5
  obtain ⟨⟨⟨⟨⟨g1, g2⟩, g3⟩, g4⟩, g5⟩, g6⟩ := h5
  simp [Cond.before, Cond.holds, Cond.value, h1, h2, h3, h4, g1, g2, g3, g4, g5, g6]
def isCode : Jvm.Cond → Bool
  | .code _ _ _ _ => true
  | _ => false
theorem all_split {L : List Jvm.Cond} {P : Jvm.Cond → Bool} (h1 : L.all (fun c => isCode c || P c) = true) (h2 : ∀ c ∈ L.filter isCode, P c = true) : L.all P = true := by
  refine List.all_eq_true.mpr fun c hc => ?_
  have h := List.all_eq_true.mp h1 c hc
  rcases Bool.eq_false_or_eq_true (isCode c) with hi | hi
  · exact h2 c (List.mem_filter.mpr ⟨hc, hi⟩)
  · simpa [hi] using h
set_option maxRecDepth 65536 in
theorem w_c0 : (Jvm.Cond.code x code maxLocals ret).before args0 about1 = true := code_word (m := ⟨1, 1⟩) (meth := k1m1) (c := k1c1) (by decide +kernel) rfl rfl rfl (by decide +kernel)
set_option maxRecDepth 65536 in
theorem w_c1 : (Jvm.Cond.code ({ cls := "org/tempochart/zone/PackedZone", name := "<init>", desc := "()V" } : Jvm.MethodName) prog_291_method_1_code (1 : Nat) (Option.none : Option Jvm.ClassFile.FieldType)).before args0 about1 = true := code_word (m := ⟨2, 0⟩) (meth := k2m0) (c := k2c0) (by decide +kernel) rfl rfl rfl (by decide +kernel)
set_option maxRecDepth 65536 in
theorem w_c2 : (Jvm.Cond.code ({ cls := "java/lang/Object", name := "<init>", desc := "()V" } : Jvm.MethodName) object_method_1_code (1 : Nat) (Option.none : Option Jvm.ClassFile.FieldType)).before args0 about1 = true := code_word (m := ⟨0, 0⟩) (meth := k0m0) (c := k0c0) (by decide +kernel) rfl rfl rfl (by decide +kernel)
set_option maxRecDepth 65536 in
theorem w_c3 : (Jvm.Cond.code ({ cls := "org/tempochart/zone/PackedZone", name := "at", desc := "([BII)Lorg/tempochart/zone/PackedZone;" } : Jvm.MethodName) prog_291_method_4_code (4 : Nat) (Option.some (Jvm.ClassFile.FieldType.object "org/tempochart/zone/PackedZone"))).before args0 about1 = true := code_word (m := ⟨2, 1⟩) (meth := k2m1) (c := k2c1) (by decide +kernel) rfl rfl rfl (by decide +kernel)
set_option maxRecDepth 65536 in
theorem w_c4 : (Jvm.Cond.code ({ cls := "org/tempochart/zone/PackedZone", name := "none", desc := "(I)I" } : Jvm.MethodName) prog_291_method_15_code (1 : Nat) (Option.some Jvm.ClassFile.FieldType.int)).before args0 about1 = true := code_word (m := ⟨2, 3⟩) (meth := k2m3) (c := k2c3) (by decide +kernel) rfl rfl rfl (by decide +kernel)
set_option maxRecDepth 65536 in
theorem w_c5 : (Jvm.Cond.code ({ cls := "org/tempochart/zone/PackedZone", name := "entry", desc := "(I)I" } : Jvm.MethodName) prog_291_method_14_code (5 : Nat) (Option.some Jvm.ClassFile.FieldType.int)).before args0 about1 = true := code_word (m := ⟨2, 2⟩) (meth := k2m2) (c := k2c2) (by decide +kernel) rfl rfl rfl (by decide +kernel)
def codes1 : List Jvm.Cond := [Jvm.Cond.code x code maxLocals ret, Jvm.Cond.code ({ cls := "org/tempochart/zone/PackedZone", name := "<init>", desc := "()V" } : Jvm.MethodName) prog_291_method_1_code (1 : Nat) (Option.none : Option Jvm.ClassFile.FieldType), Jvm.Cond.code ({ cls := "java/lang/Object", name := "<init>", desc := "()V" } : Jvm.MethodName) object_method_1_code (1 : Nat) (Option.none : Option Jvm.ClassFile.FieldType), Jvm.Cond.code ({ cls := "org/tempochart/zone/PackedZone", name := "at", desc := "([BII)Lorg/tempochart/zone/PackedZone;" } : Jvm.MethodName) prog_291_method_4_code (4 : Nat) (Option.some (Jvm.ClassFile.FieldType.object "org/tempochart/zone/PackedZone")), Jvm.Cond.code ({ cls := "org/tempochart/zone/PackedZone", name := "none", desc := "(I)I" } : Jvm.MethodName) prog_291_method_15_code (1 : Nat) (Option.some Jvm.ClassFile.FieldType.int), Jvm.Cond.code ({ cls := "org/tempochart/zone/PackedZone", name := "entry", desc := "(I)I" } : Jvm.MethodName) prog_291_method_14_code (5 : Nat) (Option.some Jvm.ClassFile.FieldType.int)]
set_option maxRecDepth 65536 in
theorem codes_eq : words1.filter isCode = codes1 := rfl
theorem w_codes : ∀ c ∈ words1.filter isCode, c.before args0 about1 = true := by
  rw [codes_eq]
  intro c hc
  simp only [codes1, List.mem_cons, List.not_mem_nil, or_false] at hc
  rcases hc with rfl | rfl | rfl | rfl | rfl | rfl
  · exact w_c0
  · exact w_c1
  · exact w_c2
  · exact w_c3
  · exact w_c4
  · exact w_c5
set_option maxRecDepth 65536 in
theorem w_t1 : (words1.take 24).all (fun c => isCode c || c.before args0 about1) = true := by decide +kernel
set_option maxRecDepth 65536 in
theorem w_t2 : (words1.drop 24).all (fun c => isCode c || c.before args0 about1) = true := by decide +kernel
theorem w_tables : (allAtoms (Jvm.Cond.code x code maxLocals ret :: tables_1)).before args0 about1 = true := by
  rw [allAtoms_all]
  show words1.all (fun c => c.before args0 about1) = true
  refine all_split ?_ w_codes
  rw [← List.take_append_drop 24 words1, List.all_append, w_t1, w_t2]
  rfl
set_option maxRecDepth 65536 in
theorem w_case : (Jvm.Cond.and given_1 narrow_1).before args0 about1 = true := by decide +kernel
theorem w_applies : (headSpec (Jvm.Cond.code x code maxLocals ret :: tables_1) room_1).applies x e0.platform about1 = true :=
  (Spec.applies_iff w_frames).mpr ⟨w_running, w_runnable, w_alone, w_named, w_hears, w_ripe, w_room, w_tables⟩
theorem atStart : AtStart classFile x code maxLocals ret World_1 tables_1 room_1 Calls_1 rest_1 Pre_1 launch0 p0 e0 about1 theMethod args0 below0 :=
  ⟨lists_1, trivial, launch0.admits_env _ _ _, launch0.least_env, fairChoices_fair.cas, fairChoices_fair.clock, w_frames, w_args, w_heap, w_applies, trivial, trivial, w_case⟩
end start1
theorem witness_1 : WitnessClaimed_1 := ⟨start1.p0, start1.e0, start1.about1, start1.theMethod, start1.args0, start1.below0, start1.atStart⟩
end Jvm.Pilot.@@N@@
