import JvmDerived
import JvmDerived.Pilot.@@N@@Statement
import JvmDerived.Pilot.@@N@@Code
set_option linter.unusedVariables false
set_option linter.unusedSimpArgs false
namespace Jvm.RoadKit
open Sem ClassFile Op Lib Jvm.Stand Jvm.Free Jvm.LawKit
section New
variable {p : Program} {l : Launch} {e : Env} {R : Room} {s : State} {m : MethodId} {args : Array Value} {below : List Frame} {meth : Method} {c : Code} {T : State} {locs : List Loc} {cells slots : Nat}
theorem retI (X : Stand p l e R s m args below meth c T locs cells slots) (hx : p.tables.exec = Jvm.exec) {pc : Nat} {Ls : Array Slot} {z : Int32} {rest : List Value} (hret : meth.sig.returnType = some .int) (hd : decode c.code pc = .ok (.ireturn, 1)) {fs : List Frame}
    (hl : ∀ (f : JFrame) (acts : List Action), f.method = m → f.locked = none → f.entered = [] → (doReturn e (T.setTop f) acts (some (.int z))).1 = T.setFrames fs) : Steps p.tables e below (T.setTop (mkF m pc Ls (.int z :: rest))) (T.setFrames fs) := by
  have hm' : T.vm.method? m = some meth := X.method'
  have hn : narrow .int (.int z) = .int z := rfl
  show Steps p.tables e below (T.setTop { method := m, pc := pc, locals := Ls, stack := _ :: rest, locked := none }) _
  jvm_step X.here [X.here.top, hx, hd, hm', hret, hn]
  first | (intro acts; rw [hl _ acts rfl rfl rfl]) | rw [hl _ _ rfl rfl rfl]
  exact Steps.refl _
end New
end Jvm.RoadKit
/- laws to paste: Road.backV, Road.lenW, Road.chN (cut by pick.py; bodies as the Statement names them) -/
namespace Jvm.Pilot.@@N@@
namespace StrChars
open Jvm Sem ClassFile Op Lib Jvm.Stand Jvm.Free.XT Jvm.Free.ALB Jvm.Free.JM Jvm.Free
open Jvm.Lib.Cold (StaticIs)
/-- a char array whose places are chars -/
def Ch (a : Addr) (A : Cell) (U : State) : Prop := Arr .char a A U ∧ Typed .char A
theorem Ch.mv {a : Addr} {A : Cell} {U U' : State} (h : Ch a A U) (hal : U.vm.Alike U'.vm) (hh : U'.heap = U.heap) : Ch a A U' := ⟨h.1.mv hal hh, h.2⟩
theorem Ch.keep {a : Addr} {A : Cell} {U U' : State} (h : Ch a A U) (hal : U.vm.Alike U'.vm) (hk : U'.heap[a]? = some A) : Ch a A U' := ⟨h.1.keep hal hk, h.2⟩
/-- what place i of a char[]'s cell holds -/
def cv (A : Cell) (i : Nat) : Int32 := match A.slots[i]? with | some (.int x) => x | _ => 0
theorem Ch.get {a : Addr} {A : Cell} {U : State} (h : Ch a A U) {i : Nat} (hi : i < A.slots.size) : A.slots[i]? = some (.int (cv A i)) := by
  have e := Array.getElem?_eq_getElem hi
  have f := h.2 i _ e
  unfold cv; rw [e]
  generalize A.slots[i] = v at f
  cases v <;> simp [fits] at f ⊢
/-- the byte that i2b leaves of a char -/
def lo8 (x : Int32) : Int32 := x.toInt8.toInt32
theorem fits_lo8 (y : Int32) : fits .byte (.int (lo8 y)) = true := by
  have h1 := y.toInt8.le_toInt
  have h2 := y.toInt8.toInt_lt
  simp only [lo8, fits, Bool.and_eq_true, decide_eq_true_eq, Int32.le_iff_toInt_le, Int8.toInt_toInt32, show (-128 : Int32).toInt = -128 from by decide, show (127 : Int32).toInt = 127 from by decide]
  omega
/-- A' is A but that each place j of lo .. hi - 1 holds f j -/
def Laid (A A' : Cell) (lo hi : Nat) (f : Nat → Value) : Prop := A'.cls = A.cls ∧ A'.vm = A.vm ∧ A'.slots.size = A.slots.size ∧ ∀ i, A'.slots[i]? = if lo ≤ i ∧ i < hi then some (f i) else A.slots[i]?
theorem Laid.zero (A : Cell) (lo : Nat) (f : Nat → Value) : Laid A A lo (lo + 0) f := ⟨rfl, rfl, rfl, fun i => by rw [if_neg (by omega)]⟩
theorem Laid.step {A Ak : Cell} {lo k : Nat} {f : Nat → Value} {v : Value} (h : Laid A Ak lo k f) (hlo : lo ≤ k) (hk : k < Ak.slots.size) (hv : v = f k) : Laid A (Ak.setSlot k v) lo (k + 1) f := by
  refine ⟨h.1, h.2.1, by simpa [Cell.setSlot] using h.2.2.1, fun i => ?_⟩
  by_cases e : k = i
  · subst e; rw [Cell.slots_setSlot_self v hk, if_pos (by omega), hv]
  · rw [Cell.slots_setSlot_ne v e, h.2.2.2 i]
    by_cases q : lo ≤ i ∧ i < k
    · rw [if_pos q, if_pos (by omega)]
    · rw [if_neg q, if_neg (by omega)]
def U16 : String := "java/lang/StringUTF16"
namespace Cmp5
def yN : MethodName := ⟨"java/lang/StringUTF16", "compress", "([CI[BII)I"⟩
abbrev yB : ByteArray := jdk_52_method_21_code
theorem d0 : decode yB 0 = .ok (.iconst 0, 1) := by decide +kernel
theorem d1 : decode yB 1 = .ok (.istore 5, 2) := by decide +kernel
theorem d3 : decode yB 3 = .ok (.iload 5, 2) := by decide +kernel
theorem d5 : decode yB 5 = .ok (.iload 4, 2) := by decide +kernel
theorem d7 : decode yB 7 = .ok (.if_icmp (.ge) 37, 3) := by decide +kernel
theorem d10 : decode yB 10 = .ok (.aload_n 0, 1) := by decide +kernel
theorem d11 : decode yB 11 = .ok (.iload_n 1, 1) := by decide +kernel
theorem d12 : decode yB 12 = .ok (.caload, 1) := by decide +kernel
theorem d13 : decode yB 13 = .ok (.istore 6, 2) := by decide +kernel
theorem d15 : decode yB 15 = .ok (.iload 6, 2) := by decide +kernel
theorem d17 : decode yB 17 = .ok (.sipush 255, 3) := by decide +kernel
theorem d20 : decode yB 20 = .ok (.if_icmp (.le) 6, 3) := by decide +kernel
theorem d26 : decode yB 26 = .ok (.aload_n 2, 1) := by decide +kernel
theorem d27 : decode yB 27 = .ok (.iload_n 3, 1) := by decide +kernel
theorem d28 : decode yB 28 = .ok (.iload 6, 2) := by decide +kernel
theorem d30 : decode yB 30 = .ok (.i2b, 1) := by decide +kernel
theorem d31 : decode yB 31 = .ok (.bastore, 1) := by decide +kernel
theorem d32 : decode yB 32 = .ok (.iinc 1 1, 3) := by decide +kernel
theorem d35 : decode yB 35 = .ok (.iinc 3 1, 3) := by decide +kernel
theorem d38 : decode yB 38 = .ok (.iinc 5 1, 3) := by decide +kernel
theorem d41 : decode yB 41 = .ok (.goto (-38), 3) := by decide +kernel
theorem d44 : decode yB 44 = .ok (.iload 4, 2) := by decide +kernel
theorem d46 : decode yB 46 = .ok (.ireturn, 1) := by decide +kernel
def site : List Cond := []
def tab : Cond := tabOf yN yB 7 (some .int) site
def P (b : Addr) (A : Cell) (d : Addr) (B : Cell) (o q len : Nat) (args : Array Value) (s : State) : Prop := args = #[.ref b, .int (Int32.ofNat o), .ref d, .int (Int32.ofNat q), .int (Int32.ofNat len)] ∧ Ch b A s ∧ Arr .byte d B s ∧ b ≠ d ∧ o + len ≤ A.slots.size ∧ q + len ≤ B.slots.size ∧ ∀ i, i < len → ¬ 255 < cv A (o + i)
def E (b : Addr) (A : Cell) (d : Addr) (B : Cell) (o q len : Nat) (r : Option Value) (s u : State) : Prop := r = some (.int (Int32.ofNat len)) ∧ ∃ B', Put d B' s u ∧ Laid B B' q (q + len) (fun j => Value.int (lo8 (cv A (o + (j - q)))))
/-- no char of the range above 255: len; the places written hold each char's low byte -/
theorem law (l : Launch) (b : Addr) (A : Cell) (d : Addr) (B : Cell) (o q len : Nat) : Law l yN 5 5 0 0 yB 7 (some .int) site (P b A d B o q len) (E b A d B o q len) (copyLocs d q len) 0 0 := by
  refine Law.of_walk (plainFor_of_name (by decide +kernel)) (by decide +kernel) (by decide +kernel) (by decide) (fun _ _ h => by rw [h.1]; rfl) (fun _ U U' hal hh h => ⟨h.1, h.2.1.mv hal hh, h.2.2.1.mv hal hh, h.2.2.2⟩) (fun r U U' V V' h1 hal h2 h => ⟨h.1, h.2.elim fun B' q => ⟨B', q.1.mv h1 h2, q.2⟩⟩) ?_
  intro p e s m args below meth c s₁ X0 hexec hbytes hml hret hlk hnm hown hh0 W hP
  obtain ⟨rfl, hA, hB, hne, l1, l2, hp⟩ := hP
  have c1 : Steps p.tables e below (s₁.setTop (entryFrame m #[.ref b, .int (Int32.ofNat o), .ref d, .int (Int32.ofNat q), .int (Int32.ofNat len)] 7)) (s₁.setTop (mkF m 0 #[.val (.ref b), .val (.int (Int32.ofNat o)), .val (.ref d), .val (.int (Int32.ofNat q)), .val (.int (Int32.ofNat len)), .unset, .unset] [])) := entry rfl
  have hA0 := hA.1.mv X0.warmed.alike hh0
  have hB0 := hB.mv X0.warmed.alike hh0
  have a31 := hA.1.2.2.2
  have c2 : Steps p.tables e below (s₁.setTop (entryFrame m #[.ref b, .int (Int32.ofNat o), .ref d, .int (Int32.ofNat q), .int (Int32.ofNat len)] 7)) (s₁.setTop (mkF m 3 #[.val (.ref b), .val (.int (Int32.ofNat o)), .val (.ref d), .val (.int (Int32.ofNat q)), .val (.int (Int32.ofNat len)), .val (.int 0), .unset] [])) := c1.trans (by
    refine iconstV X0.here hexec rfl 0 (hb hbytes d0) (by decide) ?_
    refine XS.istore X0.here hexec rfl (hb hbytes d1) rfl rfl ?_
    exact Steps.refl _)
  have loop : ∀ (r i : Nat), i + r = len → ∀ (z : Slot), (z = .unset ∨ ∃ w, z = .val w ∧ w.category = 1) → ∀ (Tl : State) (Bk : Cell), Stand p l e { frames := 0, locals := 0, cells := 0, slots := 0 } s m #[.ref b, .int (Int32.ofNat o), .ref d, .int (Int32.ofNat q), .int (Int32.ofNat len)] below meth c Tl ([] ++ copyLocs d q i) 0 0 → Put d Bk s₁ Tl → Laid B Bk q (q + i) (fun j => Value.int (lo8 (cv A (o + (j - q))))) →
      Steps p.tables e below (s₁.setTop (entryFrame m #[.ref b, .int (Int32.ofNat o), .ref d, .int (Int32.ofNat q), .int (Int32.ofNat len)] 7)) (Tl.setTop (mkF m 3 #[.val (.ref b), .val (.int (Int32.ofNat (o + i))), .val (.ref d), .val (.int (Int32.ofNat (q + i))), .val (.int (Int32.ofNat len)), .val (.int (Int32.ofNat i)), z] [])) → ∃ (T' : State) (B' : Cell) (z' : Slot), Stand p l e { frames := 0, locals := 0, cells := 0, slots := 0 } s m #[.ref b, .int (Int32.ofNat o), .ref d, .int (Int32.ofNat q), .int (Int32.ofNat len)] below meth c T' ([] ++ copyLocs d q len) 0 0 ∧ Put d B' s₁ T' ∧ Laid B B' q (q + len) (fun j => Value.int (lo8 (cv A (o + (j - q))))) ∧
      Steps p.tables e below (s₁.setTop (entryFrame m #[.ref b, .int (Int32.ofNat o), .ref d, .int (Int32.ofNat q), .int (Int32.ofNat len)] 7)) (T'.setTop (mkF m 3 #[.val (.ref b), .val (.int (Int32.ofNat (o + len))), .val (.ref d), .val (.int (Int32.ofNat (q + len))), .val (.int (Int32.ofNat len)), .val (.int (Int32.ofNat len)), z'] [])) := by
    intro r
    induction r with
    | zero =>
      intro i hi z hz Tl Bk Xl pl fl cl
      have hil : i = len := by omega
      rw [hil] at Xl fl cl
      exact ⟨Tl, Bk, z, Xl, pl, fl, cl⟩
    | succ r ih =>
      intro i hi z hz Tl Bk Xl pl fl cl
      have all := X0.warmed.alike.symm.trans Xl.warmed.alike
      have hAl := hA0.keep all (pl.other hne hA0.1)
      have hBk := hB0.like all pl.1 fl.1 fl.2.1 fl.2.2.1
      have hlt : q + i < Bk.slots.size := by rw [fl.2.2.1]; omega
      have c3 : Steps p.tables e below (s₁.setTop (entryFrame m #[.ref b, .int (Int32.ofNat o), .ref d, .int (Int32.ofNat q), .int (Int32.ofNat len)] 7)) (Tl.setTop (mkF m 12 #[.val (.ref b), .val (.int (Int32.ofNat (o + i))), .val (.ref d), .val (.int (Int32.ofNat (q + i))), .val (.int (Int32.ofNat len)), .val (.int (Int32.ofNat i)), z] [.int (Int32.ofNat (o + i)), .ref b])) := cl.trans (by
        refine XS.iload Xl.here hexec rfl (hb hbytes d3) rfl ?_
        refine XS.iload Xl.here hexec rfl (hb hbytes d5) rfl ?_
        refine XS.icmpNo Xl.here hexec rfl (hb hbytes d7) rfl (ii_ge_f (lt32 (by omega) (by omega))) ?_
        refine XS.aloadN Xl.here hexec rfl (hb hbytes d10) rfl rfl ?_
        refine XS.iloadN Xl.here hexec rfl (hb hbytes d11) rfl ?_
        exact Steps.refl _)
      have c4 : Steps p.tables e below (s₁.setTop (entryFrame m #[.ref b, .int (Int32.ofNat o), .ref d, .int (Int32.ofNat q), .int (Int32.ofNat len)] 7)) (Tl.setTop (mkF m 13 #[.val (.ref b), .val (.int (Int32.ofNat (o + i))), .val (.ref d), .val (.int (Int32.ofNat (q + i))), .val (.int (Int32.ofNat len)), .val (.int (Int32.ofNat i)), z] [.int (cv A (o + i))])) := c3.trans (by
        refine Xl.aget hexec hAl rfl (hA.get (i := o + i) (by omega)) rfl rfl (hb hbytes d12) ?_
        exact Steps.refl _)
      have c5 : Steps p.tables e below (s₁.setTop (entryFrame m #[.ref b, .int (Int32.ofNat o), .ref d, .int (Int32.ofNat q), .int (Int32.ofNat len)] 7)) (Tl.setTop (mkF m 15 #[.val (.ref b), .val (.int (Int32.ofNat (o + i))), .val (.ref d), .val (.int (Int32.ofNat (q + i))), .val (.int (Int32.ofNat len)), .val (.int (Int32.ofNat i)), .val (.int (cv A (o + i)))] [])) := c4.trans (by
        refine XS.istoreS Xl.here hexec rfl (hb hbytes d13) rfl rfl hz ?_
        exact Steps.refl _)
      have c6 : Steps p.tables e below (s₁.setTop (entryFrame m #[.ref b, .int (Int32.ofNat o), .ref d, .int (Int32.ofNat q), .int (Int32.ofNat len)] 7)) (Tl.setTop (mkF m 31 #[.val (.ref b), .val (.int (Int32.ofNat (o + i))), .val (.ref d), .val (.int (Int32.ofNat (q + i))), .val (.int (Int32.ofNat len)), .val (.int (Int32.ofNat i)), .val (.int (cv A (o + i)))] [.int (lo8 (cv A (o + i))), .int (Int32.ofNat (q + i)), .ref d])) := c5.trans (by
        refine XS.iload Xl.here hexec rfl (hb hbytes d15) rfl ?_
        refine sipushV Xl.here hexec rfl 255 (hb hbytes d17) (by decide) ?_
        refine XS.icmpYes Xl.here hexec rfl (pc0 := 20) rfl (hb hbytes d20) rfl (ii_le_t (hp i (by omega))) (by decide) rfl ?_
        refine XS.aloadN Xl.here hexec rfl (hb hbytes d26) rfl rfl ?_
        refine XS.iloadN Xl.here hexec rfl (hb hbytes d27) rfl ?_
        refine XS.iload Xl.here hexec rfl (hb hbytes d28) rfl ?_
        refine i2b Xl.here hexec rfl (hb hbytes d30) rfl ?_
        exact Steps.refl _)
      obtain ⟨T7, X7, p7, st7⟩ := Xl.aput hexec hBk rfl hlt rfl (fits_lo8 (cv A (o + i))) (g := (mkF m 31 #[.val (.ref b), .val (.int (Int32.ofNat (o + i))), .val (.ref d), .val (.int (Int32.ofNat (q + i))), .val (.int (Int32.ofNat len)), .val (.int (Int32.ofNat i)), .val (.int (cv A (o + i)))] [.int (lo8 (cv A (o + i))), .int (Int32.ofNat (q + i)), .ref d])) rfl (rest := []) rfl (hb hbytes d31)
      have c8 : Steps p.tables e below (s₁.setTop (entryFrame m #[.ref b, .int (Int32.ofNat o), .ref d, .int (Int32.ofNat q), .int (Int32.ofNat len)] 7)) (T7.setTop (mkF m 32 #[.val (.ref b), .val (.int (Int32.ofNat (o + i))), .val (.ref d), .val (.int (Int32.ofNat (q + i))), .val (.int (Int32.ofNat len)), .val (.int (Int32.ofNat i)), .val (.int (cv A (o + i)))] [])) := c6.trans (st7 _ (Steps.refl _))
      have c9 : Steps p.tables e below (s₁.setTop (entryFrame m #[.ref b, .int (Int32.ofNat o), .ref d, .int (Int32.ofNat q), .int (Int32.ofNat len)] 7)) (T7.setTop (mkF m 3 #[.val (.ref b), .val (.int (Int32.ofNat (o + i) + 1)), .val (.ref d), .val (.int (Int32.ofNat (q + i) + 1)), .val (.int (Int32.ofNat len)), .val (.int (Int32.ofNat i + 1)), .val (.int (cv A (o + i)))] [])) := c8.trans (by
        refine iincV X7.here hexec rfl 1 (hb hbytes d32) (by decide) rfl rfl ?_
        refine iincV X7.here hexec rfl 1 (hb hbytes d35) (by decide) rfl rfl ?_
        refine iincV X7.here hexec rfl 1 (hb hbytes d38) (by decide) rfl rfl ?_
        refine XS.goto X7.here hexec rfl (pc0 := 41) rfl (hb hbytes d41) (by decide) rfl ?_
        exact Steps.refl _)
      have c10 : Steps p.tables e below (s₁.setTop (entryFrame m #[.ref b, .int (Int32.ofNat o), .ref d, .int (Int32.ofNat q), .int (Int32.ofNat len)] 7)) (T7.setTop (mkF m 3 #[.val (.ref b), .val (.int (Int32.ofNat (o + (i + 1)))), .val (.ref d), .val (.int (Int32.ofNat (q + (i + 1)))), .val (.int (Int32.ofNat len)), .val (.int (Int32.ofNat (i + 1))), .val (.int (cv A (o + i)))] [])) := by
        have := c9
        rw [succ32, succ32, succ32] at this
        exact this
      exact ih (i + 1) (by omega) _ (Or.inr ⟨_, rfl, rfl⟩) T7 _ (by rw [copyLocs_step, ← List.append_assoc]; exact X7) (pl.trans p7) (fl.step (by omega) hlt (by simp)) c10
  obtain ⟨T9, B9, z9, X9, p9, f9, g9⟩ := loop len 0 (by omega) .unset (Or.inl rfl) s₁ B (by simpa [copyLocs] using X0) ⟨hB0.1, fun _ _ => rfl, rfl⟩ (Laid.zero _ _ _) c2
  have c11 : Steps p.tables e below (s₁.setTop (entryFrame m #[.ref b, .int (Int32.ofNat o), .ref d, .int (Int32.ofNat q), .int (Int32.ofNat len)] 7)) (T9.setTop (mkF m 46 #[.val (.ref b), .val (.int (Int32.ofNat (o + len))), .val (.ref d), .val (.int (Int32.ofNat (q + len))), .val (.int (Int32.ofNat len)), .val (.int (Int32.ofNat len)), z9] [.int (Int32.ofNat len)])) := g9.trans (by
    refine XS.iload X9.here hexec rfl (hb hbytes d3) rfl ?_
    refine XS.iload X9.here hexec rfl (hb hbytes d5) rfl ?_
    refine XS.icmpYes X9.here hexec rfl (pc0 := 7) rfl (hb hbytes d7) rfl (ii_ge_t (nlt32 (by omega) (Nat.le_refl _))) (by decide) rfl ?_
    refine XS.iload X9.here hexec rfl (hb hbytes d44) rfl ?_
    exact Steps.refl _)
  exact ⟨T9, some (.int (Int32.ofNat len)), _, _, _, X9, by simp, rfl, rfl, (fun h => by cases h), ⟨rfl, B9, p9.from hh0, f9⟩, fun fs hl => c11.trans (X9.ireturnOut hexec hret rfl (Or.inl rfl) (hb hbytes d46) hl)⟩
end Cmp5
namespace Cmp3
def yN : MethodName := ⟨"java/lang/StringUTF16", "compress", "([CII)[B"⟩
abbrev yB : ByteArray := jdk_52_method_16_code
theorem d0 : decode yB 0 = .ok (.iload_n 2, 1) := by decide +kernel
theorem d1 : decode yB 1 = .ok (.newarray .byte, 2) := by decide +kernel
theorem d3 : decode yB 3 = .ok (.astore_n 3, 1) := by decide +kernel
theorem d4 : decode yB 4 = .ok (.aload_n 0, 1) := by decide +kernel
theorem d5 : decode yB 5 = .ok (.iload_n 1, 1) := by decide +kernel
theorem d6 : decode yB 6 = .ok (.aload_n 3, 1) := by decide +kernel
theorem d7 : decode yB 7 = .ok (.iconst 0, 1) := by decide +kernel
theorem d8 : decode yB 8 = .ok (.iload_n 2, 1) := by decide +kernel
theorem d9 : decode yB 9 = .ok (.invokestatic 115, 3) := by decide +kernel
theorem d12 : decode yB 12 = .ok (.istore 4, 2) := by decide +kernel
theorem d14 : decode yB 14 = .ok (.iload 4, 2) := by decide +kernel
theorem d16 : decode yB 16 = .ok (.iload_n 2, 1) := by decide +kernel
theorem d17 : decode yB 17 = .ok (.if_icmp (.eq) 40, 3) := by decide +kernel
theorem d57 : decode yB 57 = .ok (.aload_n 3, 1) := by decide +kernel
theorem d58 : decode yB 58 = .ok (.areturn, 1) := by decide +kernel
def site : List Cond := [.arrayClass .byte, Cmp5.tab] ++ staticW U16 115 Cmp5.yN
def tab : Cond := tabOf yN yB 6 (some (.array .byte)) site
def P (b : Addr) (A : Cell) (o len : Nat) (args : Array Value) (s : State) : Prop := args = #[.ref b, .int (Int32.ofNat o), .int (Int32.ofNat len)] ∧ Ch b A s ∧ o + len ≤ A.slots.size ∧ len ≤ 536870912 ∧ ∀ i, i < len → ¬ 255 < cv A (o + i)
def E (b : Addr) (A : Cell) (o len : Nat) (r : Option Value) (s u : State) : Prop := NewArr .byte "[B" len (fun j => .int (lo8 (cv A (o + j)))) r s u ∧ u.heap.size = s.heap.size + 1
/-- no char of the range above 255: a new byte[] of their low bytes -/
theorem law (l : Launch) (b : Addr) (A : Cell) (o len : Nat) : Law l yN 3 3 1 18 yB 6 (some (.array .byte)) site (P b A o len) (E b A o len) [] 1 len := by
  refine Law.of_walk (plainFor_of_name (by decide +kernel)) (by decide +kernel) (by decide +kernel) (by decide) (fun _ _ h => by rw [h.1]; rfl) (fun _ U U' hal hh h => ⟨h.1, h.2.1.mv hal hh, h.2.2⟩) (fun r U U' V V' h1 hal h2 h => ⟨NewArr.mv r U U' V V' h1 hal h2 h.1, by rw [h1, h2]; exact h.2⟩) ?_
  intro p e s m args below meth c s₁ X0 hexec hbytes hml hret hlk hnm hown hh0 W hP
  obtain ⟨rfl, hA, l1, l2, hp⟩ := hP
  have a31 := hA.1.2.2.2
  have c1 : Steps p.tables e below (s₁.setTop (entryFrame m #[.ref b, .int (Int32.ofNat o), .int (Int32.ofNat len)] 6)) (s₁.setTop (mkF m 0 #[.val (.ref b), .val (.int (Int32.ofNat o)), .val (.int (Int32.ofNat len)), .unset, .unset, .unset] [])) := entry rfl
  have c2 : Steps p.tables e below (s₁.setTop (entryFrame m #[.ref b, .int (Int32.ofNat o), .int (Int32.ofNat len)] 6)) (s₁.setTop (mkF m 1 #[.val (.ref b), .val (.int (Int32.ofNat o)), .val (.int (Int32.ofNat len)), .unset, .unset, .unset] [.int (Int32.ofNat len)])) := c1.trans (by
    refine XS.iloadN X0.here hexec rfl (hb hbytes d0) rfl ?_
    exact Steps.refl _)
  obtain ⟨T3, B3, X3, ba3, bs3, bv3, bh3, bf3, st3⟩ := X0.anew hexec (atype := .byte) (wk W (.arrayClass .byte)) rfl (by show len * 1 ≤ _; omega) (by omega) (g := (mkF m 1 #[.val (.ref b), .val (.int (Int32.ofNat o)), .val (.int (Int32.ofNat len)), .unset, .unset, .unset] [.int (Int32.ofNat len)])) rfl (hb hbytes d1) (rest := []) rfl (Nat.le_refl _) (by show 0 + len ≤ len; omega)
  rw [hh0] at ba3 st3
  have kp3 : XT.Kept s T3 := (XT.Kept.of_eq hh0).push bh3
  have hA3 := hA.keep X3.warmed.alike (kp3 _ _ hA.1.1)
  have hne : b ≠ s.heap.size := hA.1.ne
  have c4 : Steps p.tables e below (s₁.setTop (entryFrame m #[.ref b, .int (Int32.ofNat o), .int (Int32.ofNat len)] 6)) (T3.setTop (mkF m 3 #[.val (.ref b), .val (.int (Int32.ofNat o)), .val (.int (Int32.ofNat len)), .unset, .unset, .unset] [.ref s.heap.size])) := c2.trans (st3 _ (Steps.refl _))
  have c5 : Steps p.tables e below (s₁.setTop (entryFrame m #[.ref b, .int (Int32.ofNat o), .int (Int32.ofNat len)] 6)) (T3.setTop (mkF m 9 #[.val (.ref b), .val (.int (Int32.ofNat o)), .val (.int (Int32.ofNat len)), .val (.ref s.heap.size), .unset, .unset] [.int (Int32.ofNat len), .int 0, .ref s.heap.size, .int (Int32.ofNat o), .ref b])) := c4.trans (by
    refine XS.astoreN X3.here hexec rfl (hb hbytes d3) rfl rfl rfl ?_
    refine XS.aloadN X3.here hexec rfl (hb hbytes d4) rfl rfl ?_
    refine XS.iloadN X3.here hexec rfl (hb hbytes d5) rfl ?_
    refine XS.aloadN X3.here hexec rfl (hb hbytes d6) rfl rfl ?_
    refine iconstV X3.here hexec rfl 0 (hb hbytes d7) (by decide) ?_
    refine XS.iloadN X3.here hexec rfl (hb hbytes d8) rfl ?_
    exact Steps.refl _)
  obtain ⟨v6, T6, X6, E6, g6⟩ := X3.callS hexec (Cmp5.law l b A s.heap.size B3 o 0 len) hown (wks W (staticW U16 115 Cmp5.yN)) (wk W Cmp5.tab) (W := 0) (Nat.le_of_ble_eq_true rfl) (Nat.le_of_ble_eq_true rfl) (Nat.le_refl _) (by show 0 + len + 0 ≤ len; omega) (g := (mkF m 9 #[.val (.ref b), .val (.int (Int32.ofNat o)), .val (.int (Int32.ofNat len)), .val (.ref s.heap.size), .unset, .unset] [.int (Int32.ofNat len), .int (Int32.ofNat 0), .ref s.heap.size, .int (Int32.ofNat o), .ref b])) rfl (by rw [hml]; rfl) c5 (argsL := [.ref b, .int (Int32.ofNat o), .ref s.heap.size, .int (Int32.ofNat 0), .int (Int32.ofNat len)]) (rest := []) rfl rfl (by show 2 * 0 + 0 ≤ _; decide) (hb hbytes d9) (⟨rfl, hA3, ba3, hne, l1, by rw [bs3]; simp, hp⟩)
  obtain ⟨rfl, B6, p6, f6⟩ := E6
  have c7 : Steps p.tables e below (s₁.setTop (entryFrame m #[.ref b, .int (Int32.ofNat o), .int (Int32.ofNat len)] 6)) (T6.setTop (mkF m 12 #[.val (.ref b), .val (.int (Int32.ofNat o)), .val (.int (Int32.ofNat len)), .val (.ref s.heap.size), .unset, .unset] [.int (Int32.ofNat len)])) := g6
  have c8 : Steps p.tables e below (s₁.setTop (entryFrame m #[.ref b, .int (Int32.ofNat o), .int (Int32.ofNat len)] 6)) (T6.setTop (mkF m 58 #[.val (.ref b), .val (.int (Int32.ofNat o)), .val (.int (Int32.ofNat len)), .val (.ref s.heap.size), .val (.int (Int32.ofNat len)), .unset] [.ref s.heap.size])) := c7.trans (by
    refine XS.istore X6.here hexec rfl (hb hbytes d12) rfl rfl ?_
    refine XS.iload X6.here hexec rfl (hb hbytes d14) rfl ?_
    refine XS.iloadN X6.here hexec rfl (hb hbytes d16) rfl ?_
    refine XS.icmpYes X6.here hexec rfl (pc0 := 17) rfl (hb hbytes d17) rfl (ii_eq_t rfl) (by decide) rfl ?_
    refine XS.aloadN X6.here hexec rfl (hb hbytes d57) rfl rfl ?_
    exact Steps.refl _)
  have X8 := X6.wide (L' := []) (cells' := 1) (slots' := len) (fun x hx hlt => by
    simp only [List.nil_append, copyLocs, List.mem_map, List.mem_range] at hx
    obtain ⟨i, -, rfl⟩ := hx
    exact absurd hlt (Nat.lt_irrefl _)) (Nat.le_refl _) (by omega)
  exact ⟨T6, some (.ref s.heap.size), _, _, _, X8, rfl, rfl, rfl, (fun h => by cases h), ⟨⟨rfl, B6, ba3.like (X3.warmed.alike.symm.trans X6.warmed.alike) p6.1 f6.1 f6.2.1 f6.2.2.1, f6.2.1.trans bv3, by rw [X6.warmed.alike.findClass, f6.1]; exact bf3, by rw [f6.2.2.1, bs3]; simp, fun j hj => by rw [f6.2.2.2 j, if_pos (by omega)]; rfl, kp3.put p6 (Nat.le_refl _)⟩, by rw [p6.2.2, bh3, hh0]; simp⟩, fun fs hl => c8.trans (X8.areturnOut hexec rfl hret rfl (hb hbytes d58) hl)⟩
end Cmp3
namespace CodL
def yN : MethodName := ⟨"java/lang/StringUTF16", "coderFromArrayLen", "([BI)B"⟩
abbrev yB : ByteArray := jdk_52_method_15_code
theorem d0 : decode yB 0 = .ok (.iload_n 1, 1) := by decide +kernel
theorem d1 : decode yB 1 = .ok (.aload_n 0, 1) := by decide +kernel
theorem d2 : decode yB 2 = .ok (.arraylength, 1) := by decide +kernel
theorem d3 : decode yB 3 = .ok (.isub, 1) := by decide +kernel
theorem d4 : decode yB 4 = .ok (.bipush 31, 2) := by decide +kernel
theorem d6 : decode yB 6 = .ok (.iushr, 1) := by decide +kernel
theorem d7 : decode yB 7 = .ok (.i2b, 1) := by decide +kernel
theorem d8 : decode yB 8 = .ok (.ireturn, 1) := by decide +kernel
def site : List Cond := []
def tab : Cond := tabOf yN yB 2 (some .byte) site
def P (d : Addr) (B : Cell) (args : Array Value) (s : State) : Prop := args = #[.ref d, .int (Int32.ofNat B.slots.size)] ∧ Arr .byte d B s
def E (r : Option Value) (s u : State) : Prop := XT.PureE (some (.int 0)) r s u
/-- an array as long as the number of chars: LATIN1 -/
theorem law (l : Launch) (d : Addr) (B : Cell) : Law l yN 2 2 0 0 yB 2 (some .byte) site (P d B) E [] 0 0 := by
  refine Law.of_walk (plainFor_of_name (by decide +kernel)) (by decide +kernel) (by decide +kernel) (by decide) (fun _ _ h => by rw [h.1]; rfl) (fun _ U U' hal hh h => ⟨h.1, h.2.mv hal hh⟩) (fun r U U' V V' h1 hal h2 h => XT.PureE.mv r U U' V V' h1 hal h2 h) ?_
  intro p e s m args below meth c s₁ X0 hexec hbytes hml hret hlk hnm hown hh0 W hP
  obtain ⟨rfl, hB⟩ := hP
  have hB0 := hB.mv X0.warmed.alike hh0
  have c1 : Steps p.tables e below (s₁.setTop (entryFrame m #[.ref d, .int (Int32.ofNat B.slots.size)] 2)) (s₁.setTop (mkF m 0 #[.val (.ref d), .val (.int (Int32.ofNat B.slots.size))] [])) := entry rfl
  have c2 : Steps p.tables e below (s₁.setTop (entryFrame m #[.ref d, .int (Int32.ofNat B.slots.size)] 2)) (s₁.setTop (mkF m 2 #[.val (.ref d), .val (.int (Int32.ofNat B.slots.size))] [.ref d, .int (Int32.ofNat B.slots.size)])) := c1.trans (by
    refine XS.iloadN X0.here hexec rfl (hb hbytes d0) rfl ?_
    refine XS.aloadN X0.here hexec rfl (hb hbytes d1) rfl rfl ?_
    exact Steps.refl _)
  have c3 : Steps p.tables e below (s₁.setTop (entryFrame m #[.ref d, .int (Int32.ofNat B.slots.size)] 2)) (s₁.setTop (mkF m 8 #[.val (.ref d), .val (.int (Int32.ofNat B.slots.size))] [.int (lo8 (ushr (Int32.ofNat B.slots.size - Int32.ofNat B.slots.size) 31))])) := c2.trans (by
    refine X0.alen hexec hB0 rfl rfl (hb hbytes d2) ?_
    refine XS.isub X0.here hexec rfl (hb hbytes d3) rfl ?_
    refine bipushV X0.here hexec rfl 31 (hb hbytes d4) (by decide) ?_
    refine iushr X0.here hexec rfl (hb hbytes d6) rfl ?_
    refine i2b X0.here hexec rfl (hb hbytes d7) rfl ?_
    exact Steps.refl _)
  have e0 : lo8 (ushr (Int32.ofNat B.slots.size - Int32.ofNat B.slots.size) 31) = 0 := by rw [Int32.sub_self]; decide
  rw [e0] at c3
  exact ⟨s₁, some (.int 0), _, _, _, X0, rfl, rfl, rfl, (fun h => by cases h), ⟨rfl, hh0⟩, fun fs hl => c3.trans (X0.ireturnOut hexec hret rfl (Or.inr (Or.inr (Or.inl rfl))) (hb hbytes d8) hl)⟩
end CodL
/-- the String at a is Latin-1 over a new byte[] (the heap's one new cell): the low bytes of the len chars of A from o on; every cell but a is kept -/
def Got (a : Addr) (D : Cell) (fV fC : Field) (A : Cell) (o len : Nat) (r : Option Value) (s u : State) : Prop := r = none ∧ ∃ D' V : Cell, Blank "java/lang/String" a D' u ∧ Same D D' [fV.slot, fC.slot] ∧ D'.slots[fV.slot]? = some (.ref s.heap.size) ∧ D'.slots[fC.slot]? = some (.int 0) ∧ Arr .byte s.heap.size V u ∧ V.vm = .none ∧ u.vm.findClass "[B" = some V.cls ∧ V.slots.size = len ∧ (∀ j, j < len → V.slots[j]? = some (.int (lo8 (cv A (o + j))))) ∧ (∀ (y : Addr) (c : Cell), y ≠ a → s.heap[y]? = some c → u.heap[y]? = some c) ∧ u.heap.size = s.heap.size + 1
theorem Got.mv {a : Addr} {D A : Cell} {fV fC : Field} {o len : Nat} : ∀ r (U U' V V' : State), U'.heap = U.heap → V.vm.Alike V'.vm → V'.heap = V.heap → Got a D fV fC A o len r U V → Got a D fV fC A o len r U' V' :=
  fun r U U' V V' h1 hal h2 ⟨e0, D', X, a1, a2, a3, a4, a5, a6, a7, a8, a9, a10, a11⟩ => ⟨e0, D', X, a1.mv hal h2, a2, by rw [h1]; exact a3, a4, by rw [h1]; exact a5.mv hal h2, a6, by rw [hal.findClass]; exact a7, a8, a9, by rw [h1, h2]; exact a10, by rw [h1, h2]; exact a11⟩
namespace New4
def yN : MethodName := ⟨"java/lang/String", "<init>", "([CIILjava/lang/Void;)V"⟩
abbrev yB : ByteArray := jdk_42_method_149_code
theorem d0 : decode yB 0 = .ok (.aload_n 0, 1) := by decide +kernel
theorem d1 : decode yB 1 = .ok (.invokespecial 1, 3) := by decide +kernel
theorem d4 : decode yB 4 = .ok (.iload_n 3, 1) := by decide +kernel
theorem d5 : decode yB 5 = .ok (.ifCond (.ne) 22, 3) := by decide +kernel
theorem d27 : decode yB 27 = .ok (.getstatic 38, 3) := by decide +kernel
theorem d30 : decode yB 30 = .ok (.ifCond (.eq) 28, 3) := by decide +kernel
theorem d33 : decode yB 33 = .ok (.aload_n 1, 1) := by decide +kernel
theorem d34 : decode yB 34 = .ok (.iload_n 2, 1) := by decide +kernel
theorem d35 : decode yB 35 = .ok (.iload_n 3, 1) := by decide +kernel
theorem d36 : decode yB 36 = .ok (.invokestatic 177, 3) := by decide +kernel
theorem d39 : decode yB 39 = .ok (.astore 5, 2) := by decide +kernel
theorem d41 : decode yB 41 = .ok (.aload_n 0, 1) := by decide +kernel
theorem d42 : decode yB 42 = .ok (.aload 5, 2) := by decide +kernel
theorem d44 : decode yB 44 = .ok (.iload_n 3, 1) := by decide +kernel
theorem d45 : decode yB 45 = .ok (.invokestatic 47, 3) := by decide +kernel
theorem d48 : decode yB 48 = .ok (.putfield 15, 3) := by decide +kernel
theorem d51 : decode yB 51 = .ok (.aload_n 0, 1) := by decide +kernel
theorem d52 : decode yB 52 = .ok (.aload 5, 2) := by decide +kernel
theorem d54 : decode yB 54 = .ok (.putfield 9, 3) := by decide +kernel
theorem d57 : decode yB 57 = .ok (.return_, 1) := by decide +kernel
def site : List Cond := [.fieldLink "java/lang/String" 38 "java/lang/String" "COMPACT_STRINGS" "Z", Cmp3.tab, CodL.tab, .laysFinal "java/lang/String" "java/lang/String" "value" "[B", .fieldLink "java/lang/String" 9 "java/lang/String" "value" "[B", .laysFinal "java/lang/String" "java/lang/String" "coder" "B", .fieldLink "java/lang/String" 15 "java/lang/String" "coder" "B"] ++ objW "java/lang/String" 1 ++ staticW "java/lang/String" 177 Cmp3.yN ++ staticW "java/lang/String" 47 CodL.yN
def tab : Cond := tabOf yN yB 6 none site
def P (a : Addr) (D : Cell) (fV fC : Field) (b : Addr) (A : Cell) (z : Int32) (o len : Nat) (args : Array Value) (s : State) : Prop := args = #[.ref a, .ref b, .int (Int32.ofNat o), .int (Int32.ofNat len), .null] ∧ Blank "java/lang/String" a D s ∧ Found "java/lang/String" "value" "[B" fV s ∧ Found "java/lang/String" "coder" "B" fC s ∧ Ch b A s ∧ StaticIs s "java/lang/String" "COMPACT_STRINGS" "Z" (.int z) ∧ ¬ z = 0 ∧ 0 < len ∧ o + len ≤ A.slots.size ∧ len ≤ 536870912 ∧ ∀ i, i < len → ¬ 255 < cv A (o + i)
def E (a : Addr) (D : Cell) (fV fC : Field) (A : Cell) (o len : Nat) (r : Option Value) (s u : State) : Prop := Got a D fV fC A o len r s u
/-- len > 0, no char of the range above 255: a Latin-1 String of their low bytes -/
theorem law (l : Launch) (a : Addr) (D : Cell) (fV fC : Field) (b : Addr) (A : Cell) (z : Int32) (o len : Nat) : Law l yN 5 4 2 35 yB 6 none site (P a D fV fC b A z o len) (E a D fV fC A o len) [⟨a, fC.slot⟩, ⟨a, fV.slot⟩] 1 len := by
  refine Law.of_walk (plainFor_of_name (by decide +kernel)) (by decide +kernel) (by decide +kernel) (by decide) (fun _ _ h => by rw [h.1]; rfl) (fun _ U U' hal hh h => ⟨h.1, h.2.1.mv hal hh, h.2.2.1.al hal, h.2.2.2.1.al hal, h.2.2.2.2.1.mv hal hh, h.2.2.2.2.2.1.there hal hh, h.2.2.2.2.2.2⟩) (fun r U U' V V' h1 hal h2 h => Got.mv r U U' V V' h1 hal h2 h) ?_
  intro p e s m args below meth c s₁ X0 hexec hbytes hml hret hlk hnm hown hh0 W hP
  obtain ⟨rfl, hB, f1, f2, hA, s1, hz, l0, l1, l2, hp⟩ := hP
  have a31 := hA.1.2.2.2
  have c1 : Steps p.tables e below (s₁.setTop (entryFrame m #[.ref a, .ref b, .int (Int32.ofNat o), .int (Int32.ofNat len), .null] 6)) (s₁.setTop (mkF m 0 #[.val (.ref a), .val (.ref b), .val (.int (Int32.ofNat o)), .val (.int (Int32.ofNat len)), .val .null, .unset] [])) := entry rfl
  have c2 : Steps p.tables e below (s₁.setTop (entryFrame m #[.ref a, .ref b, .int (Int32.ofNat o), .int (Int32.ofNat len), .null] 6)) (s₁.setTop (mkF m 1 #[.val (.ref a), .val (.ref b), .val (.int (Int32.ofNat o)), .val (.int (Int32.ofNat len)), .val .null, .unset] [.ref a])) := c1.trans (by
    refine XS.aloadN X0.here hexec rfl (hb hbytes d0) rfl rfl ?_
    exact Steps.refl _)
  obtain ⟨T3, X3, q3, st3⟩ := X0.oinit hexec hown (wks W (objW "java/lang/String" 1)) (g := (mkF m 1 #[.val (.ref a), .val (.ref b), .val (.int (Int32.ofNat o)), .val (.int (Int32.ofNat len)), .val .null, .unset] [.ref a])) rfl (by rw [hml]; rfl) (rest := []) rfl (hb hbytes d1) (W := 0) (by show 2 * 0 + 0 ≤ _; decide) (Nat.le_of_ble_eq_true rfl) (Nat.le_of_ble_eq_true rfl)
  have hh3 := q3.trans hh0
  have c4 : Steps p.tables e below (s₁.setTop (entryFrame m #[.ref a, .ref b, .int (Int32.ofNat o), .int (Int32.ofNat len), .null] 6)) (T3.setTop (mkF m 27 #[.val (.ref a), .val (.ref b), .val (.int (Int32.ofNat o)), .val (.int (Int32.ofNat len)), .val .null, .unset] [])) := (c2.trans (st3 _ (Steps.refl _))).trans (by
    refine XS.iloadN X3.here hexec rfl (hb hbytes d4) rfl ?_
    refine XS.ifYes X3.here hexec rfl (pc0 := 5) rfl (hb hbytes d5) rfl (i0_ne_t (nz32 (by omega) l0)) (by decide) rfl ?_
    exact Steps.refl _)
  obtain ⟨T5, X5, q5, st5⟩ := X3.sget hexec hown (wk W (.fieldLink "java/lang/String" 38 "java/lang/String" "COMPACT_STRINGS" "Z")) s1 (fun _ _ h => by rw [hh3]; exact h) (g := (mkF m 27 #[.val (.ref a), .val (.ref b), .val (.int (Int32.ofNat o)), .val (.int (Int32.ofNat len)), .val .null, .unset] [])) rfl (hb hbytes d27)
  have hh5 := q5.trans hh3
  have c6 : Steps p.tables e below (s₁.setTop (entryFrame m #[.ref a, .ref b, .int (Int32.ofNat o), .int (Int32.ofNat len), .null] 6)) (T5.setTop (mkF m 30 #[.val (.ref a), .val (.ref b), .val (.int (Int32.ofNat o)), .val (.int (Int32.ofNat len)), .val .null, .unset] [.int z])) := c4.trans (st5 _ (Steps.refl _))
  have c7 : Steps p.tables e below (s₁.setTop (entryFrame m #[.ref a, .ref b, .int (Int32.ofNat o), .int (Int32.ofNat len), .null] 6)) (T5.setTop (mkF m 36 #[.val (.ref a), .val (.ref b), .val (.int (Int32.ofNat o)), .val (.int (Int32.ofNat len)), .val .null, .unset] [.int (Int32.ofNat len), .int (Int32.ofNat o), .ref b])) := c6.trans (by
    refine XS.ifNo X5.here hexec rfl (hb hbytes d30) rfl (i0_eq_f hz) ?_
    refine XS.aloadN X5.here hexec rfl (hb hbytes d33) rfl rfl ?_
    refine XS.iloadN X5.here hexec rfl (hb hbytes d34) rfl ?_
    refine XS.iloadN X5.here hexec rfl (hb hbytes d35) rfl ?_
    exact Steps.refl _)
  obtain ⟨v8, T8, X8, E8, g8⟩ := X5.callS hexec (Cmp3.law l b A o len) hown (wks W (staticW "java/lang/String" 177 Cmp3.yN)) (wk W Cmp3.tab) (W := 0) (Nat.le_of_ble_eq_true rfl) (Nat.le_of_ble_eq_true rfl) (Nat.le_refl _) (by show 0 + len ≤ len; omega) (g := (mkF m 36 #[.val (.ref a), .val (.ref b), .val (.int (Int32.ofNat o)), .val (.int (Int32.ofNat len)), .val .null, .unset] [.int (Int32.ofNat len), .int (Int32.ofNat o), .ref b])) rfl (by rw [hml]; rfl) c7 (argsL := [.ref b, .int (Int32.ofNat o), .int (Int32.ofNat len)]) (rest := []) rfl rfl (by show 2 * 0 + 0 ≤ _; decide) (hb hbytes d36) (⟨rfl, hA.mv X5.warmed.alike hh5, l1, l2, hp⟩)
  obtain ⟨e8, z8⟩ := E8
  obtain ⟨rfl, N, n1, n2, n3, n4, n5, n6⟩ := NewArr.mv _ T5 s _ _ hh5.symm (Vm.Alike.refl _) rfl e8
  rw [hh5] at z8
  have hB1 := hB.keep X8.warmed.alike (n6 _ _ hB.1)
  have hne : s.heap.size ≠ a := (Nat.ne_of_lt (Array.getElem?_eq_some_iff.mp hB.1).1).symm
  have c9 : Steps p.tables e below (s₁.setTop (entryFrame m #[.ref a, .ref b, .int (Int32.ofNat o), .int (Int32.ofNat len), .null] 6)) (T8.setTop (mkF m 39 #[.val (.ref a), .val (.ref b), .val (.int (Int32.ofNat o)), .val (.int (Int32.ofNat len)), .val .null, .unset] [.ref s.heap.size])) := g8
  have c10 : Steps p.tables e below (s₁.setTop (entryFrame m #[.ref a, .ref b, .int (Int32.ofNat o), .int (Int32.ofNat len), .null] 6)) (T8.setTop (mkF m 45 #[.val (.ref a), .val (.ref b), .val (.int (Int32.ofNat o)), .val (.int (Int32.ofNat len)), .val .null, .val (.ref s.heap.size)] [.int (Int32.ofNat N.slots.size), .ref s.heap.size, .ref a])) := by
    have hc : Steps p.tables e below (s₁.setTop (entryFrame m #[.ref a, .ref b, .int (Int32.ofNat o), .int (Int32.ofNat len), .null] 6)) (T8.setTop (mkF m 45 #[.val (.ref a), .val (.ref b), .val (.int (Int32.ofNat o)), .val (.int (Int32.ofNat len)), .val .null, .val (.ref s.heap.size)] [.int (Int32.ofNat len), .ref s.heap.size, .ref a])) := c9.trans (by
      refine XS.astore X8.here hexec rfl (hb hbytes d39) rfl rfl rfl ?_
      refine XS.aloadN X8.here hexec rfl (hb hbytes d41) rfl rfl ?_
      refine XS.aload X8.here hexec rfl (hb hbytes d42) rfl rfl ?_
      refine XS.iloadN X8.here hexec rfl (hb hbytes d44) rfl ?_
      exact Steps.refl _)
    rw [n4]; exact hc
  obtain ⟨v11, T11, X11, E11, g11⟩ := X8.callS hexec (CodL.law l s.heap.size N) hown (wks W (staticW "java/lang/String" 47 CodL.yN)) (wk W CodL.tab) (W := 1) (Nat.le_of_ble_eq_true rfl) (Nat.le_of_ble_eq_true rfl) (Nat.le_refl _) (by show 0 + len + 0 ≤ len; omega) (g := (mkF m 45 #[.val (.ref a), .val (.ref b), .val (.int (Int32.ofNat o)), .val (.int (Int32.ofNat len)), .val .null, .val (.ref s.heap.size)] [.int (Int32.ofNat N.slots.size), .ref s.heap.size, .ref a])) rfl (by rw [hml]; rfl) c10 (argsL := [.ref s.heap.size, .int (Int32.ofNat N.slots.size)]) (rest := [.ref a]) rfl rfl (by show 2 * 0 + (1 + 0) ≤ _; decide) (hb hbytes d45) (⟨rfl, n1⟩)
  obtain ⟨rfl, q11⟩ := E11
  have hB11 := hB1.mv (X8.warmed.alike.symm.trans X11.warmed.alike) q11
  have c12 : Steps p.tables e below (s₁.setTop (entryFrame m #[.ref a, .ref b, .int (Int32.ofNat o), .int (Int32.ofNat len), .null] 6)) (T11.setTop (mkF m 48 #[.val (.ref a), .val (.ref b), .val (.int (Int32.ofNat o)), .val (.int (Int32.ofNat len)), .val .null, .val (.ref s.heap.size)] [.int 0, .ref a])) := g11
  obtain ⟨T13, X13, p13, bl13, sl13, st13⟩ := X11.finit hexec hown (wk W (.fieldLink "java/lang/String" 15 "java/lang/String" "coder" "B")) (Or.inr ⟨_, (wk W (.laysFinal "java/lang/String" "java/lang/String" "coder" "B"))⟩) (Or.inl ⟨rfl, hnm⟩) f2 (Or.inl rfl) hB11 (t := .byte) (by decide +kernel) rfl (g := (mkF m 48 #[.val (.ref a), .val (.ref b), .val (.int (Int32.ofNat o)), .val (.int (Int32.ofNat len)), .val .null, .val (.ref s.heap.size)] [.int 0, .ref a])) rfl (rest := []) rfl (hb hbytes d48)
  have c14 : Steps p.tables e below (s₁.setTop (entryFrame m #[.ref a, .ref b, .int (Int32.ofNat o), .int (Int32.ofNat len), .null] 6)) (T13.setTop (mkF m 54 #[.val (.ref a), .val (.ref b), .val (.int (Int32.ofNat o)), .val (.int (Int32.ofNat len)), .val .null, .val (.ref s.heap.size)] [.ref s.heap.size, .ref a])) := (c12.trans (st13 _ (Steps.refl _))).trans (by
    refine XS.aloadN X13.here hexec rfl (hb hbytes d51) rfl rfl ?_
    refine XS.aload X13.here hexec rfl (hb hbytes d52) rfl rfl ?_
    exact Steps.refl _)
  obtain ⟨T15, X15, p15, bl15, sl15, st15⟩ := X13.finit hexec hown (wk W (.fieldLink "java/lang/String" 9 "java/lang/String" "value" "[B")) (Or.inr ⟨_, (wk W (.laysFinal "java/lang/String" "java/lang/String" "value" "[B"))⟩) (Or.inl ⟨rfl, hnm⟩) f1 (Or.inl rfl) bl13 (t := (.array .byte)) (by decide +kernel) rfl (g := (mkF m 54 #[.val (.ref a), .val (.ref b), .val (.int (Int32.ofNat o)), .val (.int (Int32.ofNat len)), .val .null, .val (.ref s.heap.size)] [.ref s.heap.size, .ref a])) rfl (rest := []) rfl (hb hbytes d54)
  have c16 : Steps p.tables e below (s₁.setTop (entryFrame m #[.ref a, .ref b, .int (Int32.ofNat o), .int (Int32.ofNat len), .null] 6)) (T15.setTop (mkF m 57 #[.val (.ref a), .val (.ref b), .val (.int (Int32.ofNat o)), .val (.int (Int32.ofNat len)), .val .null, .val (.ref s.heap.size)] [])) := c14.trans (st15 _ (Steps.refl _))
  have ap := apart (Or.inr ⟨_, (wk W (.laysFinal "java/lang/String" "java/lang/String" "value" "[B"))⟩) (Or.inr ⟨_, (wk W (.laysFinal "java/lang/String" "java/lang/String" "coder" "B"))⟩) f1 f2 (t₁ := .array .byte) (t₂ := .byte) (by decide +kernel) (by decide +kernel) (by decide)
  have al := X8.warmed.alike.symm.trans X15.warmed.alike
  have n7 : T11.heap[s.heap.size]? = some N := by rw [q11]; exact n1.1
  exact ⟨T15, none, _, _, _, X15, by simp, rfl, by omega, (fun _ => rfl), ⟨rfl, _, N, bl15, ((Same.refl D _).set _ (by simp)).set _ (by simp), sl15, (Cell.slots_setSlot_ne _ ap).trans sl13, n1.keep al (p15.other hne (p13.other hne n7)), n2, by rw [al.findClass]; exact n3, n4, n5, fun y c h1 h2 => p15.other h1 (p13.other h1 (by rw [q11]; exact n6 y c h2)), by rw [p15.2.2, p13.2.2, q11]; exact z8⟩, fun fs hl => c16.trans (X15.returnOut hexec hret (hb hbytes d57) hl)⟩
end New4
namespace New1
def yN : MethodName := ⟨"java/lang/String", "<init>", "([C)V"⟩
abbrev yB : ByteArray := jdk_42_method_3_code
theorem d0 : decode yB 0 = .ok (.aload_n 0, 1) := by decide +kernel
theorem d1 : decode yB 1 = .ok (.aload_n 1, 1) := by decide +kernel
theorem d2 : decode yB 2 = .ok (.iconst 0, 1) := by decide +kernel
theorem d3 : decode yB 3 = .ok (.aload_n 1, 1) := by decide +kernel
theorem d4 : decode yB 4 = .ok (.arraylength, 1) := by decide +kernel
theorem d5 : decode yB 5 = .ok (.aconst_null, 1) := by decide +kernel
theorem d6 : decode yB 6 = .ok (.invokespecial 27, 3) := by decide +kernel
theorem d9 : decode yB 9 = .ok (.return_, 1) := by decide +kernel
def site : List Cond := [New4.tab] ++ initW "java/lang/String" 27 New4.yN
def tab : Cond := tabOf yN yB 2 none site
def P (a : Addr) (D : Cell) (fV fC : Field) (b : Addr) (A : Cell) (z : Int32) (args : Array Value) (s : State) : Prop := args = #[.ref a, .ref b] ∧ Blank "java/lang/String" a D s ∧ Found "java/lang/String" "value" "[B" fV s ∧ Found "java/lang/String" "coder" "B" fC s ∧ Ch b A s ∧ StaticIs s "java/lang/String" "COMPACT_STRINGS" "Z" (.int z) ∧ ¬ z = 0 ∧ 0 < A.slots.size ∧ A.slots.size ≤ 536870912 ∧ ∀ i, i < A.slots.size → ¬ 255 < cv A i
def E (a : Addr) (D : Cell) (fV fC : Field) (A : Cell) (r : Option Value) (s u : State) : Prop := Got a D fV fC A 0 A.slots.size r s u
/-- new String(chars), not empty, no char above 255: a Latin-1 String of their low bytes -/
theorem law (l : Launch) (a : Addr) (D : Cell) (fV fC : Field) (b : Addr) (A : Cell) (z : Int32) : Law l yN 2 1 3 52 yB 2 none site (P a D fV fC b A z) (E a D fV fC A) [⟨a, fC.slot⟩, ⟨a, fV.slot⟩] 1 A.slots.size := by
  refine Law.of_walk (plainFor_of_name (by decide +kernel)) (by decide +kernel) (by decide +kernel) (by decide) (fun _ _ h => by rw [h.1]; rfl) (fun _ U U' hal hh h => ⟨h.1, h.2.1.mv hal hh, h.2.2.1.al hal, h.2.2.2.1.al hal, h.2.2.2.2.1.mv hal hh, h.2.2.2.2.2.1.there hal hh, h.2.2.2.2.2.2⟩) (fun r U U' V V' h1 hal h2 h => Got.mv r U U' V V' h1 hal h2 h) ?_
  intro p e s m args below meth c s₁ X0 hexec hbytes hml hret hlk hnm hown hh0 W hP
  obtain ⟨rfl, hB, f1, f2, hA, s1, hz, l0, l2, hp⟩ := hP
  have c1 : Steps p.tables e below (s₁.setTop (entryFrame m #[.ref a, .ref b] 2)) (s₁.setTop (mkF m 0 #[.val (.ref a), .val (.ref b)] [])) := entry rfl
  have c2 : Steps p.tables e below (s₁.setTop (entryFrame m #[.ref a, .ref b] 2)) (s₁.setTop (mkF m 6 #[.val (.ref a), .val (.ref b)] [.null, .int (Int32.ofNat A.slots.size), .int 0, .ref b, .ref a])) := c1.trans (by
    refine XS.aloadN X0.here hexec rfl (hb hbytes d0) rfl rfl ?_
    refine XS.aloadN X0.here hexec rfl (hb hbytes d1) rfl rfl ?_
    refine iconstV X0.here hexec rfl 0 (hb hbytes d2) (by decide) ?_
    refine XS.aloadN X0.here hexec rfl (hb hbytes d3) rfl rfl ?_
    refine X0.alen hexec (hA.1.mv X0.warmed.alike hh0) rfl rfl (hb hbytes d4) ?_
    refine XS.aconstNull X0.here hexec rfl (hb hbytes d5) ?_
    exact Steps.refl _)
  obtain ⟨v3, T3, X3, E3, g3⟩ := X0.callN hexec (New4.law l a D fV fC b A z 0 A.slots.size) rfl hown (wks W (initW "java/lang/String" 27 New4.yN)) (W New4.tab (by simp only [site, List.mem_cons, List.mem_append, true_or, or_true])) (W := 0) (Nat.le_of_ble_eq_true rfl) (Nat.le_of_ble_eq_true rfl) (Nat.le_refl _) (by show 0 + A.slots.size ≤ A.slots.size; omega) (g := (mkF m 6 #[.val (.ref a), .val (.ref b)] [.null, .int (Int32.ofNat A.slots.size), .int (Int32.ofNat 0), .ref b, .ref a])) rfl (by rw [hml]; rfl) c2 (argsL := [.ref b, .int (Int32.ofNat 0), .int (Int32.ofNat A.slots.size), .null]) (rest := []) rfl rfl (by show 2 * 0 + 0 ≤ _; decide) (hb hbytes d6) (⟨rfl, hB.mv X0.warmed.alike hh0, f1.al X0.warmed.alike, f2.al X0.warmed.alike, hA.mv X0.warmed.alike hh0, s1.there X0.warmed.alike hh0, hz, l0, by omega, l2, fun i hi => by rw [Nat.zero_add]; exact hp i hi⟩)
  have e0 := Got.mv _ s₁ s _ _ hh0.symm (Vm.Alike.refl _) rfl E3
  obtain rfl := e0.1
  have c4 : Steps p.tables e below (s₁.setTop (entryFrame m #[.ref a, .ref b] 2)) (T3.setTop (mkF m 9 #[.val (.ref a), .val (.ref b)] [])) := g3
  exact ⟨T3, none, _, _, _, X3, by simp, rfl, by omega, (fun _ => rfl), e0, fun fs hl => c4.trans (X3.returnOut hexec hret (hb hbytes d9) hl)⟩
theorem pays {l : Launch} {R : Room} {p : Program} {e : Env} {below : List Frame} {s : State} {sargs : Array Value} {len W : Nat} (a : Addr) (D : Cell) (fV fC : Field) (b : Addr) (A : Cell) (z : Int32) (htab : tab.before sargs s = true) (hfr : 4 ≤ R.frames) (hlo : W + 65 ≤ R.locals) :
    Back l R p e below s sargs yN len W (fun A₁ a₁ => A₁.cells + 1 ≤ R.cells ∧ A₁.slots + A.slots.size ≤ R.slots ∧ P a D fV fC b A z a₁ A₁.U) (fun A₁ _ v₁ B₁ => E a D fV fC A v₁ A₁.U B₁.U ∧ B₁.locs = A₁.locs ++ [⟨a, fC.slot⟩, ⟨a, fV.slot⟩] ∧ B₁.cells = A₁.cells + 1 ∧ B₁.slots = A₁.slots + A.slots.size) :=
  (law l a D fV fC b A z).pays htab hfr (by omega)
end New1
/-- the byte, read back as charAt reads it, is the char -/
theorem lo8_mask {x : Int32} (h0 : ¬ x < 0) (h1 : ¬ 255 < x) : lo8 x &&& 255 = x := by
  have t : ∀ k : Fin 256, lo8 (Int32.ofNat k.val) &&& 255 = Int32.ofNat k.val := by decide +kernel
  rw [Int32.lt_iff_toInt_lt] at h0 h1
  have e0 : (0 : Int32).toInt = 0 := rfl
  have e1 : (255 : Int32).toInt = 255 := rfl
  obtain ⟨k, hk⟩ : ∃ k : Nat, x.toInt = k := ⟨x.toInt.toNat, by omega⟩
  have hx : x = Int32.ofNat k := Int32.toInt_inj.mp (by rw [hk, Int32.toInt_ofNat_small (by omega)])
  rw [hx]
  exact t ⟨k, by omega⟩
end StrChars
namespace StrChars.Road
open Jvm Sem ClassFile Op Lib Jvm.Stand Jvm.Free Jvm.Free.XT
open Jvm.Lib.Cold (StaticIs)
abbrev ST : String := "java/lang/String"
/-- every table word that New1's law asks, flat -/
abbrev words : List Jvm.Cond := [.code New1.yN New1.yB 2 none, .initialized ST, .methodLink ST 27 New4.yN, .instanceMethod New4.yN,
  .code New4.yN New4.yB 6 none, .fieldLink ST 38 ST "COMPACT_STRINGS" "Z", .laysFinal ST ST "value" "[B", .fieldLink ST 9 ST "value" "[B", .laysFinal ST ST "coder" "B", .fieldLink ST 15 ST "coder" "B",
  .methodLink ST 1 Lib.objectInit, .instanceMethod Lib.objectInit, .code Lib.objectInit ⟨#[0xb1]⟩ 1 none, .methodLink ST 177 Cmp3.yN, .static Cmp3.yN, .methodLink ST 47 CodL.yN, .static CodL.yN,
  .code Cmp3.yN Cmp3.yB 6 (some (.array .byte)), .initialized U16, .arrayClass .byte, .methodLink U16 115 Cmp5.yN, .static Cmp5.yN, .code Cmp5.yN Cmp5.yB 7 (some .int), .code CodL.yN CodL.yB 2 (some .byte)]
theorem tab_of {a : Array Value} {s : State} (h : ∀ w ∈ words, w.before a s = true) : New1.tab.before a s = true := by
  have h5 : Cmp5.tab.before a s = true := unparts (wk h (.code Cmp5.yN Cmp5.yB 7 (some .int))) (wks h (.initialized Cmp5.yN.cls :: Cmp5.site))
  have hc : CodL.tab.before a s = true := unparts (wk h (.code CodL.yN CodL.yB 2 (some .byte))) (wks h (.initialized CodL.yN.cls :: CodL.site))
  have q5 : ∀ w ∈ Cmp5.tab :: words, w.before a s = true := fun w hw => (List.mem_cons.mp hw).elim (fun e => e ▸ h5) (h w)
  have h3 : Cmp3.tab.before a s = true := unparts (wk q5 (.code Cmp3.yN Cmp3.yB 6 (some (.array .byte)))) (wks q5 (.initialized Cmp3.yN.cls :: Cmp3.site))
  have q3 : ∀ w ∈ Cmp3.tab :: CodL.tab :: words, w.before a s = true := fun w hw => (List.mem_cons.mp hw).elim (fun e => e ▸ h3) fun hw => (List.mem_cons.mp hw).elim (fun e => e ▸ hc) (h w)
  have h4 : New4.tab.before a s = true := unparts (wk q3 (.code New4.yN New4.yB 6 none)) (wks q3 (.initialized New4.yN.cls :: New4.site))
  have q4 : ∀ w ∈ New4.tab :: words, w.before a s = true := fun w hw => (List.mem_cons.mp hw).elim (fun e => e ▸ h4) (h w)
  exact unparts (wk q4 (.code New1.yN New1.yB 2 none)) (wks q4 (.initialized New1.yN.cls :: New1.site))
/-- the words ride from the start Z to the walk's own state -/
theorem moved {Z s : State} {a0 args : Array Value} (hZ : Z.Warmed39 s.vm) (hw : ∀ d ∈ words, d.before a0 Z = true) : ∀ d ∈ words, d.before args s = true := fun d hd => by
  have q := hw d hd
  have t : ∀ d ∈ words, d = .arrayClass .byte ∨ (d.onTables && d.keepsFace) = true := by decide +kernel
  rcases t d hd with rfl | t
  · exact RoadKit.mvA hZ q
  · exact RoadKit.mv hZ q t
/-- WHAT COMES BACK, over the tables of the start Z: h the heap at the call, h' behind it -/
def Q (Z : State) (x : Addr) (A : Cell) (h : Heap) (v : Option Value) (h' : Heap) (L : List Loc) : Prop := v = none ∧ (∀ y ∈ L, y.base = x) ∧ RoadKit.Keep h h' [x] ∧ h'.size = h.size + 1 ∧ RoadKit.Exa Z h' x ST ∧ RoadKit.Fld Z h' x ST "value" "[B" (.ref h.size) ∧ RoadKit.Fld Z h' x ST "coder" "B" (.int 0) ∧
  (∃ V : Cell, RoadKit.Arr Z h' h.size V .byte ∧ V.vm = .none ∧ Z.vm.findClass "[B" = some V.cls ∧ V.slots.size = A.slots.size ∧ ∀ j, j < A.slots.size → V.slots[j]? = some (.int (lo8 (cv A j)))) ∧
  ∀ (O n d : String) (w : Value), RoadKit.Fld Z h x O n d w → RoadKit.slotOf Z O n d ≠ RoadKit.slotOf Z ST "value" "[B" → RoadKit.slotOf Z O n d ≠ RoadKit.slotOf Z ST "coder" "B" → RoadKit.Fld Z h' x O n d w
/-- **new String(chars) AT A CALL, IN THE ROAD'S FORM**: for specialBack behind newO: x the fresh String, b the char[] with the cell A -/
theorem back {p : Program} {l : Launch} {e : Env} {R : Room} {s : State} {args : Array Value} {below : List Frame} {len W : Nat} {Z : State} {a0 : Array Value} {h : Heap} (hZ : Z.Warmed39 s.vm) (hw : ∀ d ∈ words, d.before a0 Z = true) {kI : Nat} (wi : (Jvm.Cond.instantiable ST kI).before a0 Z = true)
    {x b : Addr} {A : Cell} {z : Int32} {v0 c0 : Value} (E : RoadKit.Exa Z h x ST) (V : RoadKit.Fld Z h x ST "value" "[B" v0) (C : RoadKit.Fld Z h x ST "coder" "B" c0) (K : RoadKit.Arr Z h b A .char) (hty : Typed .char A) (S : RoadKit.Sta Z h ST "COMPACT_STRINGS" "Z" (.int z)) (hz : ¬ z = 0)
    (l0 : 0 < A.slots.size) (l2 : A.slots.size ≤ 536870912) (hp : ∀ i, i < A.slots.size → ¬ 255 < cv A i) (hfr : 4 ≤ R.frames) (hlo : W + 65 ≤ R.locals) :
    Back l R p e below s args New1.yN len W (fun P a => a = #[.ref x, .ref b] ∧ P.U.heap = h ∧ P.cells + 1 ≤ R.cells ∧ P.slots + A.slots.size ≤ R.slots)
      (fun P _ v B => ∃ L, Q Z x A h v B.U.heap L ∧ B.locs = P.locs ++ L ∧ B.cells = P.cells + 1 ∧ B.slots = P.slots + A.slots.size) := by
  intro m meth c P g ig mk a X hg hsize hdg hW hn hp'
  obtain ⟨rfl, rfl, r1, r2⟩ := hp'
  have al : Z.vm.Alike P.U.vm := hZ.alike.trans X.warmed.alike
  obtain ⟨D, cfV, kV, iV, fV, hD, gV, stV, knV, obV, asV, slV⟩ := id V
  obtain ⟨D', cfC, kC, iC, fC, hD', gC, stC, -, -, asC, slC⟩ := id C
  cases hD.symm.trans hD'
  obtain ⟨D2, kD, e1, e2, e3, e4, e5⟩ := id E
  cases hD.symm.trans e1
  obtain ⟨c2, k2, i1, i2, i3, -⟩ := Cond.instantiable_spec wi
  cases e2.symm.trans i1
  cases e3.symm.trans i2
  obtain ⟨kU, u1, u2⟩ := al.2.2 _ _ e3
  have hB : Blank ST x D P.U := ⟨hD, ⟨knV, fun q hq => by rw [hq] at obV; cases obV⟩, by rw [al.findClass]; exact e2, kU, u1, by rw [u2]; exact i3, by rw [u2]; exact e5 i3⟩
  have F1 : Found ST "value" "[B" fV P.U := ⟨SBG.found_only al ⟨cfV, kV, iV, gV⟩, stV⟩
  have F2 : Found ST "coder" "B" fC P.U := ⟨SBG.found_only al ⟨cfC, kC, iC, gC⟩, stC⟩
  have hA : Ch b A P.U := ⟨⟨K.1, State.isArrayOf_alike al K.2.1, K.2.2, by omega⟩, hty⟩
  have hS : StaticIs P.U ST "COMPACT_STRINGS" "Z" (.int z) := by
    obtain ⟨cfS, iS, kS, fS, st, cS, t1, t2, t3, t4, t5, t6, t7⟩ := S
    exact StaticIs.there (s := { Z with heap := P.U.heap }) ⟨cfS, iS, kS, fS, st, cS, t1, t2, t3, t4, t5, (fun q => by rw [q] at t6; cases t6), t7⟩ al rfl
  obtain ⟨v, B, X', ⟨⟨hv, E', V', q1, q2, q3, q4, q5, q6, q7, q8, q9, q10, q11⟩, hl, hc, hs⟩, st⟩ := New1.pays x D fV fC b A z (tab_of (moved hZ hw)) hfr hlo m meth c P g ig mk _ X hg hsize hdg hW hn ⟨r1, r2, rfl, hB, F1, F2, hA, hS, hz, l0, l2, hp⟩
  have al' : Z.vm.Alike B.U.vm := hZ.alike.trans X'.warmed.alike
  have hsz : E'.slots.size = D.slots.size := by
    obtain ⟨-, -, -, kB, w1, w2, w3⟩ := q1
    obtain ⟨kB', y1, y2⟩ := al'.2.2 _ _ e3
    rw [q2.2.1] at w1
    cases w1.symm.trans y1
    rw [w3, e5 i3, y2]
  refine ⟨v, B, X', ⟨_, ⟨hv, ?_, ⟨by omega, fun y cy hy hn' => q10 y cy (by simpa using hn') hy, fun y cy hy => ?_⟩, q11, ⟨E', _, q1.1, by rw [q2.2.1]; exact e2, by rw [q2.2.1]; exact e3, by rw [q2.1]; exact obV, fun _ => by rw [hsz]; exact e5 i3⟩,
    ⟨E', cfV, kV, iV, fV, q1.1, gV, stV, by rw [q2.1]; exact knV, by rw [q2.1]; exact obV, by rw [q2.2.1]; exact asV, q3⟩, ⟨E', cfC, kC, iC, fC, q1.1, gC, stC, by rw [q2.1]; exact knV, by rw [q2.1]; exact obV, by rw [q2.2.1]; exact asC, q4⟩,
    ⟨V', ⟨q5.1, State.isArrayOf_alike al'.symm q5.2.1, q5.2.2.1⟩, q6, by rw [← al'.findClass]; exact q7, q8, fun j hj => by have := q9 j hj; rwa [Nat.zero_add] at this⟩, fun O n d w F n1 n2 => ?_⟩, hl, hc, hs⟩, st⟩
  · intro y hy
    simp only [List.mem_cons, List.not_mem_nil, or_false] at hy
    rcases hy with rfl | rfl <;> rfl
  · by_cases q : y = x
    · subst q
      cases hD.symm.trans hy
      exact ⟨E', q1.1, q2.2.1, q2.1, hsz⟩
    · exact ⟨cy, q10 y cy q hy, rfl, rfl, rfl⟩
  · obtain ⟨D3, cf, k, i, f, g1, g2, g3, g4, g5, g6, g7⟩ := F
    cases hD.symm.trans g1
    simp only [RoadKit.slotOf, g2, gV, gC, Option.map_some, Option.getD_some] at n1 n2
    exact ⟨E', cf, k, i, f, q1.1, g2, g3, by rw [q2.1]; exact g4, by rw [q2.1]; exact g5, by rw [q2.2.1]; exact g6, by rw [q2.2.2 f.slot (by simp [n1, n2])]; exact g7⟩
end StrChars.Road
namespace StrChars.Road
open Jvm Sem ClassFile Op Lib Jvm.Stand Jvm.Free Jvm.Free.XT
/-- WHAT COMES BACK, the byte[] as a list of values -/
def QA (Z : State) (x : Addr) (zn : Int32) (cs : List Int32) (h : Heap) (v : Option Value) (h' : Heap) (L : List Loc) : Prop := v = none ∧ (∀ y ∈ L, y.base = x) ∧ RoadKit.Keep h h' [x] ∧ h'.size = h.size + 1 ∧ RoadKit.Exa Z h' x ST ∧ RoadKit.Fld Z h' x ST "value" "[B" (.ref h.size) ∧ RoadKit.Fld Z h' x ST "coder" "B" (.int 0) ∧
  (∃ kb, Z.vm.findClass "[B" = some kb ∧ RoadKit.Arv Z h' h.size kb .byte zn (cs.map fun c => .int (lo8 c)) (.int 0)) ∧
  ∀ (O n d : String) (w : Value), RoadKit.Fld Z h x O n d w → RoadKit.slotOf Z O n d ≠ RoadKit.slotOf Z ST "value" "[B" → RoadKit.slotOf Z O n d ≠ RoadKit.slotOf Z ST "coder" "B" → RoadKit.Fld Z h' x O n d w
/-- **new String(chars) AT A CALL, THE ARRAYS AS LISTS**: the char[] at b holds cs, not empty, no char above 255 -/
theorem backArv {p : Program} {l : Launch} {e : Env} {R : Room} {s : State} {args : Array Value} {below : List Frame} {len W : Nat} {Z : State} {a0 : Array Value} {h : Heap} (hZ : Z.Warmed39 s.vm) (hw : ∀ d ∈ words, d.before a0 Z = true) {kI : Nat} (wi : (Jvm.Cond.instantiable ST kI).before a0 Z = true)
    {x b : Addr} {k : ClassId} {zn z : Int32} {cs : List Int32} {dv v0 c0 : Value} (E : RoadKit.Exa Z h x ST) (V : RoadKit.Fld Z h x ST "value" "[B" v0) (C : RoadKit.Fld Z h x ST "coder" "B" c0) (K : RoadKit.Arv Z h b k .char zn (cs.map Value.int) dv) (S : RoadKit.Sta Z h ST "COMPACT_STRINGS" "Z" (.int z)) (hz : ¬ z = 0)
    (hlen : zn.toNatClampNeg = cs.length) (h0 : 0 < cs.length) (hbig : cs.length ≤ 536870912) (hall : ∀ c ∈ cs, ¬ 255 < c) (hfr : 4 ≤ R.frames) (hlo : W + 65 ≤ R.locals) :
    Back l R p e below s args New1.yN len W (fun P a => a = #[.ref x, .ref b] ∧ P.U.heap = h ∧ P.cells + 1 ≤ R.cells ∧ P.slots + cs.length ≤ R.slots)
      (fun P _ v B => ∃ L, QA Z x zn cs h v B.U.heap L ∧ B.locs = P.locs ++ L ∧ B.cells = P.cells + 1 ∧ B.slots = P.slots + cs.length) := by
  obtain ⟨A, K1, K2, K3, K4, K5, K6⟩ := K
  have e : A.slots.size = cs.length := K3.trans hlen
  have hat : ∀ (i : Nat) (hi : i < cs.length), A.slots[i]? = some (.int cs[i]) := fun i hi => by rw [K5 i (by omega)]; simp [List.getD_eq_getElem?_getD, hi]
  have hcv : ∀ (i : Nat) (hi : i < cs.length), cv A i = cs[i] := fun i hi => by unfold cv; rw [hat i hi]
  have hty : Typed .char A := fun i v hv => by
    have hi : i < A.slots.size := (Array.getElem?_eq_some_iff.mp hv).1
    have q := K5 i hi
    rw [hv] at q
    rw [Option.some.inj q]
    exact K6 i hi
  refine Back.mono (back hZ hw wi E V C K1 hty S hz (by omega) (by omega) (fun i hi => by rw [hcv i (by omega)]; exact hall _ (List.getElem_mem _)) hfr hlo) (fun P a hp => ⟨hp.1, hp.2.1, hp.2.2.1, by rw [e]; exact hp.2.2.2⟩) (fun P a v B hp hq => ?_)
  obtain ⟨L, ⟨q1, q2, q3, q4, q5, q6, q7, ⟨V', v1, v2, v3, v4, v5⟩, q9⟩, hl, hc, hs⟩ := hq
  refine ⟨L, ⟨q1, q2, q3, q4, q5, q6, q7, ⟨V'.cls, v3, V', v1, rfl, by rw [v4, e, hlen], K4, fun i hi => ?_, fun i hi => ?_⟩, q9⟩, hl, hc, by rw [hs, e]⟩
  · have hi' : i < cs.length := by omega
    rw [v5 i (by omega), hcv i hi']; simp [List.getD_eq_getElem?_getD, hi']
  · have hi' : i < cs.length := by omega
    simp only [List.getD_eq_getElem?_getD, List.getElem?_map, List.getElem?_eq_getElem hi', Option.map_some, Option.getD_some]
    exact fits_lo8 _
end StrChars.Road
namespace StrChars.Road
open Jvm Sem ClassFile Op Lib Jvm.Stand Jvm.Free Jvm.Free.XT
/-- WHAT COMES BACK, in the writer's own shape -/
def QV (Z : State) (x : Addr) (N : Int32) (bs : List Int32) (h : Heap) (n0 : Nat) (v : Option Value) (h' : Heap) (L : List Loc) : Prop := v = none ∧ RoadKit.Fr n0 L ∧ RoadKit.Keep h h' [x] ∧ RoadKit.Exa Z h' x ST ∧ RoadKit.Fld Z h' x ST "coder" "B" (.int 0) ∧
  ∃ (t : Addr) (kb : ClassId), n0 ≤ t ∧ h.size ≤ t ∧ ¬ t = x ∧ RoadKit.Fld Z h' x ST "value" "[B" (.ref t) ∧ RoadKit.Arv Z h' t kb .byte N (bs.map Value.int) (.int 0)
/-- **new String(chars) AT A CALL, FOR THE WRITER**: a char[] of n known ints, each 0 to 255 -/
theorem backV {p : Program} {l : Launch} {e : Env} {R : Room} {s : State} {args : Array Value} {below : List Frame} {len W : Nat} {Z : State} {a0 : Array Value} {h : Heap} (hZ : Z.Warmed39 s.vm) (hw : ∀ d ∈ words, d.before a0 Z = true) {kI : Nat} (wi : (Jvm.Cond.instantiable ST kI).before a0 Z = true)
    {x b : Addr} {kC : ClassId} {cs bs : List Int32} {d v0 c0 : Value} {z N : Int32} {n n0 : Nat} (hx0 : n0 ≤ x) (hh0 : n0 ≤ h.size) (E : RoadKit.Exa Z h x ST) (V : RoadKit.Fld Z h x ST "value" "[B" v0) (C : RoadKit.Fld Z h x ST "coder" "B" c0) (K : RoadKit.Arv Z h b kC .char N (cs.map Value.int) d) (S : RoadKit.Sta Z h ST "COMPACT_STRINGS" "Z" (.int z)) (hz : ¬ z = 0)
    (hn : cs.length = n) (hN : N = Int32.ofNat n) (l0 : 0 < n) (l2 : n ≤ 4000) (hp : ∀ c ∈ cs, ¬ c < 0 ∧ ¬ (255 : Int32) < c) (hb : bs = cs.map (fun c => c.toInt8.toInt32)) (hfr : 4 ≤ R.frames) (hlo : W + 65 ≤ R.locals) :
    Back l R p e below s args (⟨"java/lang/String", "<init>", "([C)V"⟩ : MethodName) len W (fun P a => a = #[.ref x, .ref b] ∧ P.U.heap = h ∧ P.cells + 1 ≤ R.cells ∧ P.slots + n ≤ R.slots)
      (fun P _ v B => ∃ L, QV Z x N bs h n0 v B.U.heap L ∧ B.locs = P.locs ++ L ∧ B.cells = P.cells + 1 ∧ B.slots = P.slots + n) := by
  subst hn hN hb
  refine Back.mono (backArv hZ hw wi E V C K S hz (n32 (by omega)) l0 (by omega) (fun c hc => (hp c hc).2) hfr hlo) (fun P a hp => hp) (fun P a v B hp hq => ?_)
  obtain ⟨L, ⟨q1, q2, q3, q4, q5, q6, q7, ⟨kb, v1, v2⟩, q9⟩, hl, hc, hs⟩ := hq
  exact ⟨L, ⟨q1, fun y hy => by rw [q2 y hy]; exact hx0, q3, q5, q7, h.size, kb, hh0, Nat.le_refl _, Nat.ne_of_gt E.lt, q6, by rw [List.map_map]; exact v2⟩, hl, hc, hs⟩
end StrChars.Road
namespace StrChars
open Jvm Sem ClassFile Op Lib Jvm.Stand Jvm.Free.XT Jvm.Free.ALB Jvm.Free.JM Jvm.Free
open Jvm.Lib.Cold (StaticIs)
def hi8 (x : Int32) : Int32 := lo8 (x >>> ((8 : Int32) &&& 31))
/-- what StringUTF16.getChar makes of two bytes -/
def pairCh (u v : Int32) : Int32 := (((u &&& 255) <<< ((0 : Int32) &&& 31)) ||| ((v &&& 255) <<< ((8 : Int32) &&& 31))).toUInt32.toUInt16.toUInt32.toInt32
theorem shr0 (c : Int32) : c >>> ((0 : Int32) &&& 31) = c := by
  have e : ((0 : Int32) &&& 31) = 0 := by decide
  rw [e]
  apply Int32.toBitVec_inj.mp
  rw [Int32.toBitVec_shiftRight]
  have e1 : ((0 : Int32).toBitVec.smod 32) = 0#32 := by decide
  rw [e1, BitVec.sshiftRight_eq']
  exact BitVec.sshiftRight_zero
theorem lo8_and (x : Int32) : (lo8 x &&& 255).toBitVec.toNat = x.toBitVec.toNat % 256 := by
  have h : (lo8 x).toBitVec = (x.toBitVec.signExtend 8).signExtend 32 := by rw [lo8, Int8.toBitVec_toInt32, Int32.toBitVec_toInt8]
  rw [Int32.toBitVec_and, BitVec.toNat_and, h]
  have e : ((x.toBitVec.signExtend 8).signExtend 32).toNat % 256 = x.toBitVec.toNat % 256 := by
    rw [BitVec.toNat_signExtend]
    have hlt := x.toBitVec.isLt
    simp only [BitVec.toNat_setWidth, BitVec.toNat_signExtend]
    split <;> split <;> omega
  rw [← e]
  exact Nat.and_two_pow_sub_one_eq_mod _ 8
theorem pair_says {c : Int32} (h0 : ¬ c < 0) (h1 : ¬ 65535 < c) : pairCh (lo8 c) (hi8 c) = c := by
  rw [Int32.lt_iff_toInt_lt] at h0 h1
  have e0 : (0 : Int32).toInt = 0 := rfl
  have e1 : (65535 : Int32).toInt = 65535 := rfl
  have hc : c.toInt = c.toBitVec.toNat := by
    have := c.toBitVec.isLt
    have e : c.toInt = c.toBitVec.toInt := rfl
    rw [e] at h0 h1
    rw [e]
    rw [BitVec.toInt_eq_toNat_cond] at h0 h1 ⊢
    split at h0 <;> split <;> omega
  have hn : c.toBitVec.toNat < 65536 := by omega
  have a1 := lo8_and c
  have a2 : (hi8 c &&& 255).toBitVec.toNat = c.toBitVec.toNat / 256 := by
    rw [hi8, lo8_and]
    have e : ((8 : Int32) &&& 31) = 8 := by decide
    rw [e, Int32.toBitVec_shiftRight]
    have e2 : ((8 : Int32).toBitVec.smod 32) = 8#32 := by decide
    rw [e2, BitVec.sshiftRight_eq', BitVec.toNat_sshiftRight_of_msb_false (by rw [BitVec.msb_eq_false_iff_two_mul_lt]; omega)]
    show c.toBitVec.toNat >>> 8 % 256 = _
    rw [Nat.shiftRight_eq_div_pow]
    omega
  unfold pairCh
  apply Int32.toBitVec_inj.mp
  apply BitVec.eq_of_toNat_eq
  have f0 : ((0 : Int32) &&& 31) = 0 := by decide
  have f8 : ((8 : Int32) &&& 31) = 8 := by decide
  rw [f0, f8]
  have g : (((lo8 c &&& 255) <<< (0 : Int32)) ||| ((hi8 c &&& 255) <<< (8 : Int32))).toBitVec.toNat = c.toBitVec.toNat := by
    rw [Int32.toBitVec_or, Int32.toBitVec_shiftLeft, Int32.toBitVec_shiftLeft]
    have s0 : ((0 : Int32).toBitVec.smod 32) = 0#32 := by decide
    have s8 : ((8 : Int32).toBitVec.smod 32) = 8#32 := by decide
    rw [s0, s8, BitVec.toNat_or]
    simp only [BitVec.shiftLeft_eq', BitVec.toNat_shiftLeft, a1, a2]
    show (c.toBitVec.toNat % 256) <<< 0 % 2 ^ 32 ||| (c.toBitVec.toNat / 256) <<< 8 % 2 ^ 32 = _
    rw [Nat.shiftLeft_zero, Nat.mod_eq_of_lt (show c.toBitVec.toNat % 256 < 2 ^ 32 by omega), Nat.mod_eq_of_lt (show (c.toBitVec.toNat / 256) <<< 8 < 2 ^ 32 by rw [Nat.shiftLeft_eq]; omega), Nat.or_comm, ← Nat.shiftLeft_add_eq_or_of_lt (by omega), Nat.shiftLeft_eq]
    omega
  show BitVec.toNat (((((lo8 c &&& 255) <<< (0 : Int32)) ||| ((hi8 c &&& 255) <<< (8 : Int32))).toBitVec.setWidth 16).setWidth 32) = _
  rw [BitVec.toNat_setWidth, BitVec.toNat_setWidth, g]
  omega
end StrChars
namespace StrChars
open Jvm Sem ClassFile Op Lib Jvm.Stand Jvm.Free.XT Jvm.Free.ALB Jvm.Free.JM Jvm.Free
open Jvm.Lib.Cold (StaticIs)
theorem shr1 {n : Nat} (h : 2 * n < 2 ^ 31) : Int32.ofNat (2 * n) >>> ((1 : Int32) &&& 31) = Int32.ofNat n := by
  have e : ((1 : Int32) &&& 31) = 1 := by decide
  rw [e]
  apply Int32.toBitVec_inj.mp
  rw [Int32.toBitVec_shiftRight]
  have e1 : ((1 : Int32).toBitVec.smod 32) = 1#32 := by decide
  have hm : (BitVec.ofNat 32 (2 * n)).toNat = 2 * n := by rw [BitVec.toNat_ofNat, Nat.mod_eq_of_lt (by omega)]
  rw [e1, BitVec.sshiftRight_eq']
  apply BitVec.eq_of_toNat_eq
  show ((BitVec.ofNat 32 (2 * n)).sshiftRight 1).toNat = (BitVec.ofNat 32 n).toNat
  rw [BitVec.toNat_sshiftRight_of_msb_false (by rw [BitVec.msb_eq_false_iff_two_mul_lt, hm]; omega), hm, BitVec.toNat_ofNat, Nat.shiftRight_eq_div_pow]
  omega
/-- charAt's cast of a byte read back -/
def chr8 (u : Int32) : Int32 := (u &&& 255).toUInt32.toUInt16.toUInt32.toInt32
theorem chr8_lo8 {c : Int32} (h0 : ¬ c < 0) (h1 : ¬ 255 < c) : chr8 (lo8 c) = c := by
  have t : ∀ k : Fin 256, (Int32.ofNat k.val).toUInt32.toUInt16.toUInt32.toInt32 = Int32.ofNat k.val := by decide +kernel
  unfold chr8
  rw [lo8_mask h0 h1]
  rw [Int32.lt_iff_toInt_lt] at h0 h1
  have e0 : (0 : Int32).toInt = 0 := rfl
  have e1 : (255 : Int32).toInt = 255 := rfl
  obtain ⟨k, hk⟩ : ∃ k : Nat, c.toInt = k := ⟨c.toInt.toNat, by omega⟩
  have hx : c = Int32.ofNat k := Int32.toInt_inj.mp (by rw [hk, Int32.toInt_ofNat_small (by omega)])
  rw [hx]
  exact t ⟨k, by omega⟩
theorem narrow_ch {c : Int32} (h0 : ¬ c < 0) (h1 : ¬ 65535 < c) : narrow .char (.int c) = .int c := by
  have q : narrow .char (.int (pairCh (lo8 c) (hi8 c))) = .int (pairCh (lo8 c) (hi8 c)) := narrow_c _
  rwa [pair_says h0 h1] at q
/-- the array's cell V codes the n chars f 0 .. f (n - 1) by the coder cd, as the JDK does: coder 1 just where some char is above 255 -/
def Cod (cd : Int32) (n : Nat) (f : Nat → Int32) (V : Cell) : Prop := (cd = 0 ∧ V.slots.size = n ∧ ∀ j, j < n → V.slots[j]? = some (.int (lo8 (f j))) ∧ ¬ 255 < f j) ∨ (cd = 1 ∧ V.slots.size = 2 * n ∧ (∀ j, j < n → V.slots[2 * j]? = some (.int (lo8 (f j))) ∧ V.slots[2 * j + 1]? = some (.int (hi8 (f j)))) ∧ ∃ j, j < n ∧ 255 < f j)
theorem Cod.cd {cd : Int32} {n : Nat} {f : Nat → Int32} {V : Cell} (h : Cod cd n f V) : cd = 0 ∨ cd = 1 := h.imp (fun q => q.1) fun q => q.1
theorem Cod.len {cd : Int32} {n : Nat} {f : Nat → Int32} {V : Cell} (h : Cod cd n f V) (hs : V.slots.size < 2 ^ 31) : Int32.ofNat V.slots.size >>> (cd &&& 31) = Int32.ofNat n := by
  rcases h with ⟨rfl, h, -⟩ | ⟨rfl, h, -⟩
  · rw [shr0, h]
  · rw [h, shr1 (by omega)]
/-- **x is a String of the n chars f 0 .. f (n - 1)**, Latin-1 or UTF-16; its array at t has the cell V -/
def Txt (x t : Addr) (V : Cell) (cd : Int32) (n : Nat) (f : Nat → Int32) (U : State) : Prop := Exact "java/lang/String" x U ∧ Has x "java/lang/String" "value" "[B" (.ref t) U ∧ Has x "java/lang/String" "coder" "B" (.int cd) U ∧ XT.Arr .byte t V U ∧ Cod cd n f V ∧ ∀ j, j < n → ¬ f j < 0 ∧ ¬ 65535 < f j
theorem Txt.mv {x t : Addr} {V : Cell} {cd : Int32} {n : Nat} {f : Nat → Int32} {U U' : State} (h : Txt x t V cd n f U) (hal : U.vm.Alike U'.vm) (hh : U'.heap = U.heap) : Txt x t V cd n f U' := ⟨h.1.mv hal hh, h.2.1.mv hal hh, h.2.2.1.mv hal hh, h.2.2.2.1.mv hal hh, h.2.2.2.2⟩
namespace Cdr
def yN : MethodName := ⟨"java/lang/String", "coder", "()B"⟩
abbrev yB : ByteArray := jdk_42_method_152_code
theorem d0 : decode yB 0 = .ok (.getstatic 38, 3) := by decide +kernel
theorem d3 : decode yB 3 = .ok (.ifCond (.eq) 10, 3) := by decide +kernel
theorem d6 : decode yB 6 = .ok (.aload_n 0, 1) := by decide +kernel
theorem d7 : decode yB 7 = .ok (.getfield 15, 3) := by decide +kernel
theorem d10 : decode yB 10 = .ok (.goto 4, 3) := by decide +kernel
theorem d14 : decode yB 14 = .ok (.ireturn, 1) := by decide +kernel
def site : List Cond := [.fieldLink "java/lang/String" 38 "java/lang/String" "COMPACT_STRINGS" "Z", .fieldLink "java/lang/String" 15 "java/lang/String" "coder" "B"]
def tab : Cond := tabOf yN yB 1 (some .byte) site
def P (x : Addr) (cd z : Int32) (args : Array Value) (s : State) : Prop := args = #[.ref x] ∧ Has x "java/lang/String" "coder" "B" (.int cd) s ∧ (cd = 0 ∨ cd = 1) ∧ StaticIs s "java/lang/String" "COMPACT_STRINGS" "Z" (.int z) ∧ ¬ z = 0
def E (cd : Int32) (r : Option Value) (s u : State) : Prop := XT.PureE (some (.int cd)) r s u
theorem law (l : Launch) (x : Addr) (cd z : Int32) : Law l yN 1 0 0 0 yB 1 (some .byte) site (P x cd z) (E cd) [] 0 0 := by
  refine Law.of_walk (plainFor_of_name (by decide +kernel)) (by decide +kernel) (by decide +kernel) (by decide) (fun _ _ h => by rw [h.1]; rfl) (fun _ U U' hal hh h => ⟨h.1, h.2.1.mv hal hh, h.2.2.1, h.2.2.2.1.there hal hh, h.2.2.2.2⟩) (fun r U U' V V' h1 hal h2 h => XT.PureE.mv r U U' V V' h1 hal h2 h) ?_
  intro p e s m args below meth c s₁ X0 hexec hbytes hml hret hlk hnm hown hh0 W hP
  obtain ⟨rfl, hx, hc, s1, hz⟩ := hP
  have c1 : Steps p.tables e below (s₁.setTop (entryFrame m #[.ref x] 1)) (s₁.setTop (mkF m 0 #[.val (.ref x)] [])) := entry rfl
  obtain ⟨T2, X2, q2, st2⟩ := X0.sget hexec hown (wk W (.fieldLink "java/lang/String" 38 "java/lang/String" "COMPACT_STRINGS" "Z")) s1 (fun _ _ h => by rw [hh0]; exact h) (g := (mkF m 0 #[.val (.ref x)] [])) rfl (hb hbytes d0)
  have hh2 := q2.trans hh0
  have c3 : Steps p.tables e below (s₁.setTop (entryFrame m #[.ref x] 1)) (T2.setTop (mkF m 7 #[.val (.ref x)] [.ref x])) := (c1.trans (st2 _ (Steps.refl _))).trans (by
    refine XS.ifNo X2.here hexec rfl (hb hbytes d3) rfl (i0_eq_f hz) ?_
    refine XS.aloadN X2.here hexec rfl (hb hbytes d6) rfl rfl ?_
    exact Steps.refl _)
  obtain ⟨T4, X4, q4, st4⟩ := X2.hget hexec hown (wk W (.fieldLink "java/lang/String" 15 "java/lang/String" "coder" "B")) (hx.mv X2.warmed.alike hh2) (g := (mkF m 7 #[.val (.ref x)] [.ref x])) rfl (rest := []) rfl (hb hbytes d7)
  have c5 : Steps p.tables e below (s₁.setTop (entryFrame m #[.ref x] 1)) (T4.setTop (mkF m 14 #[.val (.ref x)] [.int cd])) := (c3.trans (st4 _ (Steps.refl _))).trans (by
    refine XS.goto X4.here hexec rfl (pc0 := 10) rfl (hb hbytes d10) (by decide) rfl ?_
    exact Steps.refl _)
  exact ⟨T4, some (.int cd), _, _, _, X4, rfl, rfl, rfl, (fun h => by cases h), ⟨rfl, q4.trans hh2⟩, fun fs hl => c5.trans (X4.ireturnOut hexec hret (by rcases hc with rfl | rfl <;> rfl) (Or.inr (Or.inr (Or.inl rfl))) (hb hbytes d14) hl)⟩
end Cdr
namespace Len
def yN : MethodName := ⟨"java/lang/String", "length", "()I"⟩
abbrev yB : ByteArray := jdk_42_method_54_code
theorem d0 : decode yB 0 = .ok (.aload_n 0, 1) := by decide +kernel
theorem d1 : decode yB 1 = .ok (.getfield 9, 3) := by decide +kernel
theorem d4 : decode yB 4 = .ok (.arraylength, 1) := by decide +kernel
theorem d5 : decode yB 5 = .ok (.aload_n 0, 1) := by decide +kernel
theorem d6 : decode yB 6 = .ok (.invokevirtual 335, 3) := by decide +kernel
theorem d9 : decode yB 9 = .ok (.ishr, 1) := by decide +kernel
theorem d10 : decode yB 10 = .ok (.ireturn, 1) := by decide +kernel
def site : List Cond := [.fieldLink "java/lang/String" 9 "java/lang/String" "value" "[B", Cdr.tab] ++ virtW "java/lang/String" 335 "java/lang/String" Cdr.yN Cdr.yN
def tab : Cond := tabOf yN yB 1 (some .int) site
def P (x t : Addr) (V : Cell) (cd : Int32) (n : Nat) (f : Nat → Int32) (z : Int32) (args : Array Value) (s : State) : Prop := args = #[.ref x] ∧ Txt x t V cd n f s ∧ StaticIs s "java/lang/String" "COMPACT_STRINGS" "Z" (.int z) ∧ ¬ z = 0
def E (n : Nat) (r : Option Value) (s u : State) : Prop := XT.PureE (some (.int (Int32.ofNat n))) r s u
/-- length() of a String of n chars, in either coding -/
theorem law (l : Launch) (x t : Addr) (V : Cell) (cd : Int32) (n : Nat) (f : Nat → Int32) (z : Int32) : Law l yN 1 0 1 13 yB 1 (some .int) site (P x t V cd n f z) (E n) [] 0 0 := by
  refine Law.of_walk (plainFor_of_name (by decide +kernel)) (by decide +kernel) (by decide +kernel) (by decide) (fun _ _ h => by rw [h.1]; rfl) (fun _ U U' hal hh h => ⟨h.1, h.2.1.mv hal hh, h.2.2.1.there hal hh, h.2.2.2⟩) (fun r U U' V V' h1 hal h2 h => XT.PureE.mv r U U' V V' h1 hal h2 h) ?_
  intro p e s m args below meth c s₁ X0 hexec hbytes hml hret hlk hnm hown hh0 W hP
  obtain ⟨rfl, hx, s1, hz⟩ := hP
  have v31 := hx.2.2.2.1.2.2.2
  have c1 : Steps p.tables e below (s₁.setTop (entryFrame m #[.ref x] 1)) (s₁.setTop (mkF m 1 #[.val (.ref x)] [.ref x])) := Steps.trans (entry rfl) (by
    show Steps p.tables e below (s₁.setTop (mkF m 0 #[.val (.ref x)] [])) _
    refine XS.aloadN X0.here hexec rfl (hb hbytes d0) rfl rfl ?_
    exact Steps.refl _)
  obtain ⟨T2, X2, q2, st2⟩ := X0.hget hexec hown (wk W (.fieldLink "java/lang/String" 9 "java/lang/String" "value" "[B")) (hx.mv X0.warmed.alike hh0).2.1 (g := (mkF m 1 #[.val (.ref x)] [.ref x])) rfl (rest := []) rfl (hb hbytes d1)
  have hh2 := q2.trans hh0
  have hx2 := hx.mv X2.warmed.alike hh2
  have c3 : Steps p.tables e below (s₁.setTop (entryFrame m #[.ref x] 1)) (T2.setTop (mkF m 6 #[.val (.ref x)] [.ref x, .int (Int32.ofNat V.slots.size)])) := (c1.trans (st2 _ (Steps.refl _))).trans (by
    refine X2.alen hexec hx2.2.2.2.1 rfl rfl (hb hbytes d4) ?_
    refine XS.aloadN X2.here hexec rfl (hb hbytes d5) rfl rfl ?_
    exact Steps.refl _)
  obtain ⟨v4, T4, X4, E4, g4⟩ := X2.callV hexec (Cdr.law l x cd z) hown (wks W (virtW "java/lang/String" 335 "java/lang/String" Cdr.yN Cdr.yN)) rfl (by decide) (wk W Cdr.tab) (W := 1) (Nat.le_of_ble_eq_true rfl) (Nat.le_of_ble_eq_true rfl) (Nat.le_refl _) (Nat.le_refl _) (hx2.1.fc X2.warmed.alike) hx2.1.is (g := (mkF m 6 #[.val (.ref x)] [.ref x, .int (Int32.ofNat V.slots.size)])) rfl (by rw [hml]; rfl) c3 (argsL := []) (rest := [.int (Int32.ofNat V.slots.size)]) rfl rfl (by show 2 * 0 + (1 + 0) ≤ _; decide) (hb hbytes d6) (⟨rfl, hx2.2.2.1, hx.2.2.2.2.1.cd, s1.there X2.warmed.alike hh2, hz⟩)
  obtain ⟨rfl, q4⟩ := E4
  have c5 : Steps p.tables e below (s₁.setTop (entryFrame m #[.ref x] 1)) (T4.setTop (mkF m 10 #[.val (.ref x)] [.int (Int32.ofNat V.slots.size >>> (cd &&& 31))])) := Steps.trans g4 (by
    refine ishr X4.here hexec rfl (hb hbytes d9) rfl ?_
    exact Steps.refl _)
  rw [hx.2.2.2.2.1.len v31] at c5
  exact ⟨T4, some (.int (Int32.ofNat n)), _, _, _, X4, rfl, rfl, rfl, (fun h => by cases h), ⟨rfl, q4.trans hh2⟩, fun fs hl => c5.trans (X4.ireturnOut hexec hret rfl (Or.inl rfl) (hb hbytes d10) hl)⟩
theorem pays {l : Launch} {R : Room} {p : Program} {e : Env} {below : List Frame} {s : State} {sargs : Array Value} {len W : Nat} (x t : Addr) (V : Cell) (cd : Int32) (n : Nat) (f : Nat → Int32) (z : Int32) (htab : tab.before sargs s = true) (hfr : 2 ≤ R.frames) (hlo : W + 25 ≤ R.locals) :
    Back l R p e below s sargs yN len W (fun A₁ a₁ => A₁.cells + 0 ≤ R.cells ∧ A₁.slots + 0 ≤ R.slots ∧ P x t V cd n f z a₁ A₁.U) (fun A₁ _ v₁ B₁ => E n v₁ A₁.U B₁.U ∧ B₁.locs = A₁.locs ++ [] ∧ B₁.cells = A₁.cells + 0 ∧ B₁.slots = A₁.slots + 0) :=
  (law l x t V cd n f z).pays htab hfr (by omega)
end Len
namespace IsL
def yN : MethodName := ⟨"java/lang/String", "isLatin1", "()Z"⟩
abbrev yB : ByteArray := jdk_42_method_154_code
theorem d0 : decode yB 0 = .ok (.getstatic 38, 3) := by decide +kernel
theorem d3 : decode yB 3 = .ok (.ifCond (.eq) 14, 3) := by decide +kernel
theorem d6 : decode yB 6 = .ok (.aload_n 0, 1) := by decide +kernel
theorem d7 : decode yB 7 = .ok (.getfield 15, 3) := by decide +kernel
theorem d10 : decode yB 10 = .ok (.ifCond (.ne) 7, 3) := by decide +kernel
theorem d13 : decode yB 13 = .ok (.iconst 1, 1) := by decide +kernel
theorem d14 : decode yB 14 = .ok (.goto 4, 3) := by decide +kernel
theorem d17 : decode yB 17 = .ok (.iconst 0, 1) := by decide +kernel
theorem d18 : decode yB 18 = .ok (.ireturn, 1) := by decide +kernel
def site : List Cond := [.fieldLink "java/lang/String" 38 "java/lang/String" "COMPACT_STRINGS" "Z", .fieldLink "java/lang/String" 15 "java/lang/String" "coder" "B"]
def tab : Cond := tabOf yN yB 1 (some .boolean) site
def P (x : Addr) (cd z : Int32) (args : Array Value) (s : State) : Prop := args = #[.ref x] ∧ Has x "java/lang/String" "coder" "B" (.int cd) s ∧ (cd = 0 ∨ cd = 1) ∧ StaticIs s "java/lang/String" "COMPACT_STRINGS" "Z" (.int z) ∧ ¬ z = 0
def E (cd : Int32) (r : Option Value) (s u : State) : Prop := XT.PureE (some (.int (1 - cd))) r s u
theorem law (l : Launch) (x : Addr) (cd z : Int32) : Law l yN 1 0 0 0 yB 1 (some .boolean) site (P x cd z) (E cd) [] 0 0 := by
  refine Law.of_walk (plainFor_of_name (by decide +kernel)) (by decide +kernel) (by decide +kernel) (by decide) (fun _ _ h => by rw [h.1]; rfl) (fun _ U U' hal hh h => ⟨h.1, h.2.1.mv hal hh, h.2.2.1, h.2.2.2.1.there hal hh, h.2.2.2.2⟩) (fun r U U' V V' h1 hal h2 h => XT.PureE.mv r U U' V V' h1 hal h2 h) ?_
  intro p e s m args below meth c s₁ X0 hexec hbytes hml hret hlk hnm hown hh0 W hP
  obtain ⟨rfl, hx, hc, s1, hz⟩ := hP
  have c1 : Steps p.tables e below (s₁.setTop (entryFrame m #[.ref x] 1)) (s₁.setTop (mkF m 0 #[.val (.ref x)] [])) := entry rfl
  obtain ⟨T2, X2, q2, st2⟩ := X0.sget hexec hown (wk W (.fieldLink "java/lang/String" 38 "java/lang/String" "COMPACT_STRINGS" "Z")) s1 (fun _ _ h => by rw [hh0]; exact h) (g := (mkF m 0 #[.val (.ref x)] [])) rfl (hb hbytes d0)
  have hh2 := q2.trans hh0
  have c3 : Steps p.tables e below (s₁.setTop (entryFrame m #[.ref x] 1)) (T2.setTop (mkF m 7 #[.val (.ref x)] [.ref x])) := (c1.trans (st2 _ (Steps.refl _))).trans (by
    refine XS.ifNo X2.here hexec rfl (hb hbytes d3) rfl (i0_eq_f hz) ?_
    refine XS.aloadN X2.here hexec rfl (hb hbytes d6) rfl rfl ?_
    exact Steps.refl _)
  obtain ⟨T4, X4, q4, st4⟩ := X2.hget hexec hown (wk W (.fieldLink "java/lang/String" 15 "java/lang/String" "coder" "B")) (hx.mv X2.warmed.alike hh2) (g := (mkF m 7 #[.val (.ref x)] [.ref x])) rfl (rest := []) rfl (hb hbytes d7)
  have c5 : Steps p.tables e below (s₁.setTop (entryFrame m #[.ref x] 1)) (T4.setTop (mkF m 10 #[.val (.ref x)] [.int cd])) := c3.trans (st4 _ (Steps.refl _))
  have c6 : Steps p.tables e below (s₁.setTop (entryFrame m #[.ref x] 1)) (T4.setTop (mkF m 18 #[.val (.ref x)] [.int (1 - cd)])) := by
    rcases hc with rfl | rfl
    · exact c5.trans (by
        refine XS.ifNo X4.here hexec rfl (hb hbytes d10) rfl (i0_ne_f rfl) ?_
        refine iconstV X4.here hexec rfl 1 (hb hbytes d13) (by decide) ?_
        refine XS.goto X4.here hexec rfl (pc0 := 14) rfl (hb hbytes d14) (by decide) rfl ?_
        exact Steps.refl _)
    · exact c5.trans (by
        refine XS.ifYes X4.here hexec rfl (pc0 := 10) rfl (hb hbytes d10) rfl (i0_ne_t (by decide)) (by decide) rfl ?_
        refine iconstV X4.here hexec rfl 0 (hb hbytes d17) (by decide) ?_
        exact Steps.refl _)
  exact ⟨T4, some (.int (1 - cd)), _, _, _, X4, rfl, rfl, rfl, (fun h => by cases h), ⟨rfl, q4.trans hh2⟩, fun fs hl => c6.trans (X4.ireturnOut hexec hret (by rcases hc with rfl | rfl <;> rfl) (Or.inr (Or.inl rfl)) (hb hbytes d18) hl)⟩
end IsL
namespace LChA
def yN : MethodName := ⟨"java/lang/StringLatin1", "charAt", "([BI)C"⟩
abbrev yB : ByteArray := jdk_43_method_2_code
theorem d0 : decode yB 0 = .ok (.iload_n 1, 1) := by decide +kernel
theorem d1 : decode yB 1 = .ok (.aload_n 0, 1) := by decide +kernel
theorem d2 : decode yB 2 = .ok (.arraylength, 1) := by decide +kernel
theorem d3 : decode yB 3 = .ok (.invokestatic 9, 3) := by decide +kernel
theorem d6 : decode yB 6 = .ok (.aload_n 0, 1) := by decide +kernel
theorem d7 : decode yB 7 = .ok (.iload_n 1, 1) := by decide +kernel
theorem d8 : decode yB 8 = .ok (.baload, 1) := by decide +kernel
theorem d9 : decode yB 9 = .ok (.sipush 255, 3) := by decide +kernel
theorem d12 : decode yB 12 = .ok (.iand, 1) := by decide +kernel
theorem d13 : decode yB 13 = .ok (.i2c, 1) := by decide +kernel
theorem d14 : decode yB 14 = .ok (.ireturn, 1) := by decide +kernel
def site : List Cond := [JO.Str_checkIndex.tab] ++ staticW "java/lang/StringLatin1" 9 JO.Str_checkIndex.yN
def tab : Cond := tabOf yN yB 2 (some .char) site
def P (t : Addr) (V : Cell) (i : Nat) (u : Int32) (fm : Value) (args : Array Value) (s : State) : Prop := args = #[.ref t, .int (Int32.ofNat i)] ∧ XT.Arr .byte t V s ∧ V.slots[i]? = some (.int u) ∧ (StaticIs s "jdk/internal/util/Preconditions" "SIOOBE_FORMATTER" "Ljava/util/function/BiFunction;" fm ∧ fm.isRef = true)
def E (u : Int32) (r : Option Value) (s w : State) : Prop := XT.PureE (some (.int (chr8 u))) r s w
theorem law (l : Launch) (t : Addr) (V : Cell) (i : Nat) (u : Int32) (fm : Value) : Law l yN 2 2 2 27 yB 2 (some .char) site (P t V i u fm) (E u) [] 0 0 := by
  refine Law.of_walk (plainFor_of_name (by decide +kernel)) (by decide +kernel) (by decide +kernel) (by decide) (fun _ _ h => by rw [h.1]; rfl) (fun _ U U' hal hh h => ⟨h.1, h.2.1.mv hal hh, h.2.2.1, h.2.2.2.1.there hal hh, h.2.2.2.2⟩) (fun r U U' V V' h1 hal h2 h => XT.PureE.mv r U U' V V' h1 hal h2 h) ?_
  intro p e s m args below meth c s₁ X0 hexec hbytes hml hret hlk hnm hown hh0 W hP
  obtain ⟨rfl, hV, hu, s1, rf⟩ := hP
  have v31 := hV.2.2.2
  have hi : i < V.slots.size := (Array.getElem?_eq_some_iff.mp hu).1
  have c1 : Steps p.tables e below (s₁.setTop (entryFrame m #[.ref t, .int (Int32.ofNat i)] 2)) (s₁.setTop (mkF m 0 #[.val (.ref t), .val (.int (Int32.ofNat i))] [])) := entry rfl
  have c2 : Steps p.tables e below (s₁.setTop (entryFrame m #[.ref t, .int (Int32.ofNat i)] 2)) (s₁.setTop (mkF m 3 #[.val (.ref t), .val (.int (Int32.ofNat i))] [.int (Int32.ofNat V.slots.size), .int (Int32.ofNat i)])) := c1.trans (by
    refine XS.iloadN X0.here hexec rfl (hb hbytes d0) rfl ?_
    refine XS.aloadN X0.here hexec rfl (hb hbytes d1) rfl rfl ?_
    refine X0.alen hexec (hV.mv X0.warmed.alike hh0) rfl rfl (hb hbytes d2) ?_
    exact Steps.refl _)
  obtain ⟨v3, T3, X3, E3, g3⟩ := X0.callS hexec (JO.Str_checkIndex.law l (Int32.ofNat i) (Int32.ofNat V.slots.size) fm) hown (wks W (staticW "java/lang/StringLatin1" 9 JO.Str_checkIndex.yN)) (wk W JO.Str_checkIndex.tab) (W := 0) (Nat.le_of_ble_eq_true rfl) (Nat.le_of_ble_eq_true rfl) (Nat.le_refl _) (Nat.le_refl _) (g := (mkF m 3 #[.val (.ref t), .val (.int (Int32.ofNat i))] [.int (Int32.ofNat V.slots.size), .int (Int32.ofNat i)])) rfl (by rw [hml]; rfl) c2 (argsL := [.int (Int32.ofNat i), .int (Int32.ofNat V.slots.size)]) (rest := []) rfl rfl (by show 2 * 0 + 0 ≤ _; decide) (hb hbytes d3) (⟨rfl, rf, s1.there X0.warmed.alike hh0, Int32.ofNat_not_neg (by omega), lt32 v31 hi⟩)
  obtain ⟨rfl, q3⟩ := E3
  have hh3 := q3.trans hh0
  have c4 : Steps p.tables e below (s₁.setTop (entryFrame m #[.ref t, .int (Int32.ofNat i)] 2)) (T3.setTop (mkF m 14 #[.val (.ref t), .val (.int (Int32.ofNat i))] [.int (chr8 u)])) := Steps.trans g3 (by
    refine XS.aloadN X3.here hexec rfl (hb hbytes d6) rfl rfl ?_
    refine XS.iloadN X3.here hexec rfl (hb hbytes d7) rfl ?_
    refine X3.aget hexec (hV.mv X3.warmed.alike hh3) rfl hu rfl rfl (hb hbytes d8) ?_
    refine sipushV X3.here hexec rfl 255 (hb hbytes d9) (by decide) ?_
    refine XS.iand X3.here hexec rfl (hb hbytes d12) rfl ?_
    refine i2c X3.here hexec rfl (hb hbytes d13) rfl ?_
    exact Steps.refl _)
  exact ⟨T3, some (.int (chr8 u)), _, _, _, X3, rfl, rfl, rfl, (fun h => by cases h), ⟨rfl, hh3⟩, fun fs hl => c4.trans (X3.ireturnOut hexec hret (narrow_c _) (Or.inr (Or.inr (Or.inr (Or.inl rfl)))) (hb hbytes d14) hl)⟩
end LChA
end StrChars
namespace StrChars.Road
open Jvm Sem ClassFile Op Lib Jvm.Stand Jvm.Free Jvm.Free.XT
open Jvm.Lib.Cold (StaticIs)
theorem consq {a : Array Value} {s : State} {c : Jvm.Cond} {L : List Jvm.Cond} (h0 : c.before a s = true) (h : ∀ w ∈ L, w.before a s = true) : ∀ w ∈ c :: L, w.before a s = true := fun w hw => (List.mem_cons.mp hw).elim (fun e => e ▸ h0) (h w)
/-- the words of String.length(), either coding -/
abbrev wordsLen : List Jvm.Cond := [.code Len.yN Len.yB 1 (some .int), .initialized ST, .fieldLink ST 9 ST "value" "[B", .fieldLink ST 38 ST "COMPACT_STRINGS" "Z", .fieldLink ST 15 ST "coder" "B", .code Cdr.yN Cdr.yB 1 (some .byte), .methodLink ST 335 Cdr.yN, .declares Cdr.yN, .selects ST Cdr.yN Cdr.yN, .instanceMethod Cdr.yN]
theorem tabLen_of {a : Array Value} {s : State} (h : ∀ w ∈ wordsLen, w.before a s = true) : Len.tab.before a s = true := by
  have hc : Cdr.tab.before a s = true := unparts (wk h (.code Cdr.yN Cdr.yB 1 (some .byte))) (wks h (.initialized Cdr.yN.cls :: Cdr.site))
  have q := consq hc h
  exact unparts (wk q (.code Len.yN Len.yB 1 (some .int))) (wks q (.initialized Len.yN.cls :: Len.site))
theorem movedLen {Z s : State} {a0 args : Array Value} (hZ : Z.Warmed39 s.vm) (hw : ∀ d ∈ wordsLen, d.before a0 Z = true) : ∀ d ∈ wordsLen, d.before args s = true := fun d hd => by
  have q := hw d hd
  have t : ∀ d ∈ wordsLen, d = .arrayClass .byte ∨ (d.onTables && d.keepsFace) = true := by decide +kernel
  rcases t d hd with rfl | t
  · exact RoadKit.mvA hZ q
  · exact RoadKit.mv hZ q t
/-- the bytes of the chars cs, low before high -/
def wideBytes : List Int32 → List Value
  | [] => []
  | c :: cs => .int (lo8 c) :: .int (hi8 c) :: wideBytes cs
theorem wide_lo (d : Value) : ∀ (cs : List Int32) (j : Nat), j < cs.length → (wideBytes cs).getD (2 * j) d = .int (lo8 (cs.getD j 0))
  | [], j, h => absurd h (Nat.not_lt_zero j)
  | c :: cs, 0, _ => rfl
  | c :: cs, j + 1, h => by
    have q := wide_lo d cs j (by simpa using h)
    rw [show 2 * (j + 1) = 2 * j + 1 + 1 from by omega]
    simpa [wideBytes] using q
theorem wide_hi (d : Value) : ∀ (cs : List Int32) (j : Nat), j < cs.length → (wideBytes cs).getD (2 * j + 1) d = .int (hi8 (cs.getD j 0))
  | [], j, h => absurd h (Nat.not_lt_zero j)
  | c :: cs, 0, _ => rfl
  | c :: cs, j + 1, h => by
    have q := wide_hi d cs j (by simpa using h)
    rw [show 2 * (j + 1) + 1 = 2 * j + 1 + 1 + 1 from by omega]
    simpa [wideBytes] using q
theorem low_at (d : Value) (cs : List Int32) (j : Nat) (h : j < cs.length) : (cs.map fun c => Value.int (lo8 c)).getD j d = .int (lo8 (cs.getD j 0)) := by
  simp [List.getD_eq_getElem?_getD, h]
/-- an array of N2 bytes vs codes the chars cs by the coder cd -/
def CodA (cs : List Int32) (cd N2 : Int32) (vs : List Value) : Prop := (cd = 0 ∧ N2 = Int32.ofNat cs.length ∧ vs = (cs.map fun c => Value.int (lo8 c)) ∧ ∀ c ∈ cs, ¬ 255 < c) ∨ (cd = 1 ∧ N2 = Int32.ofNat (2 * cs.length) ∧ vs = wideBytes cs ∧ ∃ c ∈ cs, 255 < c)
theorem CodA.cod {cs : List Int32} {cd N2 : Int32} {vs : List Value} {V : Cell} (h : CodA cs cd N2 vs) (hn : 2 * cs.length < 2 ^ 31) (hs : V.slots.size = N2.toNatClampNeg) (hv : RoadKit.Has V vs (.int 0)) : Cod cd cs.length (fun j => cs.getD j 0) V := by
  rcases h with ⟨rfl, rfl, rfl, h⟩ | ⟨rfl, rfl, rfl, c, hc, hw⟩
  · rw [n32 (by omega)] at hs
    exact Or.inl ⟨rfl, hs, fun j hj => ⟨by rw [hv j (by omega), low_at _ _ _ hj], by
      have e : cs.getD j 0 = cs[j] := by simp [List.getD_eq_getElem?_getD, hj]
      show ¬ 255 < cs.getD j 0
      rw [e]; exact h _ (List.getElem_mem _)⟩⟩
  · rw [n32 (by omega)] at hs
    obtain ⟨j, hj, rfl⟩ := List.getElem_of_mem hc
    exact Or.inr ⟨rfl, hs, fun j hj => ⟨by rw [hv _ (by omega), wide_lo _ _ _ hj], by rw [hv _ (by omega), wide_hi _ _ _ hj]⟩, j, hj, by
      have e : cs.getD j 0 = cs[j] := by simp [List.getD_eq_getElem?_getD, hj]
      show 255 < cs.getD j 0
      rw [e]; exact hw⟩
/-- an object of exactly java/lang/String, its two fields found: as the laws ask it -/
theorem strObj {Z U : State} {a0 : Array Value} {kI : Nat} (wi : (Jvm.Cond.instantiable ST kI).before a0 Z = true) (al : Z.vm.Alike U.vm) {x : Addr} {v0 c0 : Value} (E : RoadKit.Exa Z U.heap x ST) (V : RoadKit.Fld Z U.heap x ST "value" "[B" v0) (C : RoadKit.Fld Z U.heap x ST "coder" "B" c0) :
    ∃ (D : Cell) (fV fC : Field), Blank ST x D U ∧ Found ST "value" "[B" fV U ∧ Found ST "coder" "B" fC U ∧ D.slots[fV.slot]? = some v0 ∧ D.slots[fC.slot]? = some c0 ∧ RoadKit.slotOf Z ST "value" "[B" = fV.slot ∧ RoadKit.slotOf Z ST "coder" "B" = fC.slot := by
  obtain ⟨D, cfV, kV, iV, fV, hD, gV, stV, knV, obV, asV, slV⟩ := V
  obtain ⟨D', cfC, kC, iC, fC, hD', gC, stC, -, -, asC, slC⟩ := C
  cases hD.symm.trans hD'
  obtain ⟨D2, kD, e1, e2, e3, e4, e5⟩ := E
  cases hD.symm.trans e1
  obtain ⟨c2, k2, i1, i2, i3, -⟩ := Cond.instantiable_spec wi
  cases e2.symm.trans i1
  cases e3.symm.trans i2
  obtain ⟨kU, u1, u2⟩ := al.2.2 _ _ e3
  exact ⟨D, fV, fC, ⟨hD, ⟨knV, fun q hq => by rw [hq] at obV; cases obV⟩, by rw [al.findClass]; exact e2, kU, u1, by rw [u2]; exact i3, by rw [u2]; exact e5 i3⟩, ⟨SBG.found_only al ⟨cfV, kV, iV, gV⟩, stV⟩, ⟨SBG.found_only al ⟨cfC, kC, iC, gC⟩, stC⟩, slV, slC, by simp [RoadKit.slotOf, gV], by simp [RoadKit.slotOf, gC]⟩
theorem sta_is {Z U : State} (al : Z.vm.Alike U.vm) {C n d : String} {v : Value} (S : RoadKit.Sta Z U.heap C n d v) : StaticIs U C n d v := by
  obtain ⟨cfS, iS, kS, fS, st, cS, t1, t2, t3, t4, t5, t6, t7⟩ := S
  exact StaticIs.there (s := { Z with heap := U.heap }) ⟨cfS, iS, kS, fS, st, cS, t1, t2, t3, t4, t5, (fun q => by rw [q] at t6; cases t6), t7⟩ al rfl
/-- **length() OF SUCH A STRING** -/
theorem lenW {p : Program} {l : Launch} {e : Env} {R : Room} {s : State} {args : Array Value} {below : List Frame} {len W : Nat} {Z : State} {a0 : Array Value} {h : Heap} (hZ : Z.Warmed39 s.vm) (hw : ∀ d ∈ wordsLen, d.before a0 Z = true) {kI : Nat} (wi : (Jvm.Cond.instantiable ST kI).before a0 Z = true)
    {x t : Addr} {kb : ClassId} {cs : List Int32} {cd N2 z : Int32} {vs : List Value} (E : RoadKit.Exa Z h x ST) (V : RoadKit.Fld Z h x ST "value" "[B" (.ref t)) (C : RoadKit.Fld Z h x ST "coder" "B" (.int cd)) (K : RoadKit.Arv Z h t kb .byte N2 vs (.int 0)) (hc : CodA cs cd N2 vs) (hb : ∀ c ∈ cs, ¬ c < 0 ∧ ¬ (65535 : Int32) < c)
    (S : RoadKit.Sta Z h ST "COMPACT_STRINGS" "Z" (.int z)) (hz : ¬ z = 0) (l2 : cs.length ≤ 4000) (hfr : 2 ≤ R.frames) (hlo : W + 25 ≤ R.locals) :
    Back l R p e below s args (⟨"java/lang/String", "length", "()I"⟩ : MethodName) len W (fun P a => a = #[.ref x] ∧ P.U.heap = h ∧ P.cells + 0 ≤ R.cells ∧ P.slots + 0 ≤ R.slots)
      (fun P _ v B => ∃ L, (v = some (.int (Int32.ofNat cs.length)) ∧ L = [] ∧ B.U.heap = h) ∧ B.locs = P.locs ++ L ∧ B.cells = P.cells + 0 ∧ B.slots = P.slots + 0) := by
  obtain ⟨A, K1, K2, K3, K4, K5, K6⟩ := K
  have hcod := hc.cod (by omega) K3 K5
  intro m meth c P g ig mk a X hg hsize hdg hW hn hp'
  obtain ⟨rfl, rfl, r1, r2⟩ := hp'
  have al : Z.vm.Alike P.U.vm := hZ.alike.trans X.warmed.alike
  obtain ⟨D, fV, fC, hB, F1, F2, g1, g2, -, -⟩ := strObj wi al E V C
  have hx : Txt x t A cd cs.length (fun j => cs.getD j 0) P.U := ⟨⟨_, hB.2.2.1, D, hB.1, rfl, by cases q : D.vm <;> first | rfl | exact absurd q (hB.2.1.2 _)⟩, Has.of hB F1 g1, Has.of hB F2 g2, ⟨K1.1, State.isArrayOf_alike al K1.2.1, K1.2.2, by rcases hcod with ⟨-, q, -⟩ | ⟨-, q, -⟩ <;> omega⟩, hcod, fun j hj => by
    have e : cs.getD j 0 = cs[j] := by simp [List.getD_eq_getElem?_getD, hj]
    show ¬ cs.getD j 0 < 0 ∧ ¬ 65535 < cs.getD j 0
    rw [e]; exact hb _ (List.getElem_mem _)⟩
  obtain ⟨v, B, X', ⟨⟨hv, hh⟩, hl, hk, hs⟩, st⟩ := Len.pays x t A cd cs.length (fun j => cs.getD j 0) z (tabLen_of (movedLen hZ hw)) hfr hlo m meth c P g ig mk _ X hg hsize hdg hW hn ⟨r1, r2, rfl, hx, sta_is al S, hz⟩
  exact ⟨v, B, X', ⟨[], ⟨hv, rfl, hh⟩, hl, hk, hs⟩, st⟩
end StrChars.Road
namespace StrChars.Road
open Jvm Sem ClassFile Op Lib Jvm.Stand Jvm.Free Jvm.Free.XT
open Jvm.Lib.Cold (StaticIs)
/-- the road's facts of a String, as the laws ask it -/
theorem txt_of {Z U : State} {a0 : Array Value} {kI : Nat} (wi : (Jvm.Cond.instantiable ST kI).before a0 Z = true) (al : Z.vm.Alike U.vm) {x t : Addr} {kb : ClassId} {cs : List Int32} {cd N2 : Int32} {vs : List Value} (E : RoadKit.Exa Z U.heap x ST) (V : RoadKit.Fld Z U.heap x ST "value" "[B" (.ref t)) (C : RoadKit.Fld Z U.heap x ST "coder" "B" (.int cd)) (K : RoadKit.Arv Z U.heap t kb .byte N2 vs (.int 0)) (hc : CodA cs cd N2 vs) (hb : ∀ c ∈ cs, ¬ c < 0 ∧ ¬ (65535 : Int32) < c) (l2 : cs.length ≤ 4000) :
    ∃ A, Txt x t A cd cs.length (fun j => cs.getD j 0) U := by
  obtain ⟨A, K1, K2, K3, K4, K5, K6⟩ := K
  have hcod := hc.cod (by omega) K3 K5
  obtain ⟨D, fV, fC, hB, F1, F2, g1, g2, -, -⟩ := strObj wi al E V C
  exact ⟨A, ⟨_, hB.2.2.1, D, hB.1, rfl, by cases q : D.vm <;> first | rfl | exact absurd q (hB.2.1.2 _)⟩, Has.of hB F1 g1, Has.of hB F2 g2, ⟨K1.1, State.isArrayOf_alike al K1.2.1, K1.2.2, by rcases hcod with ⟨-, q, -⟩ | ⟨-, q, -⟩ <;> omega⟩, hcod, fun j hj => by
    have e : cs.getD j 0 = cs[j] := by simp [List.getD_eq_getElem?_getD, hj]
    show ¬ cs.getD j 0 < 0 ∧ ¬ 65535 < cs.getD j 0
    rw [e]; exact hb _ (List.getElem_mem _)⟩
end StrChars.Road
namespace StrChars
open Jvm Sem ClassFile Op Lib Jvm.Stand Jvm.Free.XT Jvm.Free.ALB Jvm.Free.JM Jvm.Free
open Jvm.Lib.Cold (StaticIs)
namespace ChN
def yN : MethodName := ⟨"java/lang/String", "charAt", "(I)C"⟩
abbrev yB : ByteArray := jdk_42_method_56_code
theorem d0 : decode yB 0 = .ok (.aload_n 0, 1) := by decide +kernel
theorem d1 : decode yB 1 = .ok (.invokevirtual 492, 3) := by decide +kernel
theorem d4 : decode yB 4 = .ok (.ifCond (.eq) 12, 3) := by decide +kernel
theorem d7 : decode yB 7 = .ok (.aload_n 0, 1) := by decide +kernel
theorem d8 : decode yB 8 = .ok (.getfield 9, 3) := by decide +kernel
theorem d11 : decode yB 11 = .ok (.iload_n 1, 1) := by decide +kernel
theorem d12 : decode yB 12 = .ok (.invokestatic 495, 3) := by decide +kernel
theorem d15 : decode yB 15 = .ok (.ireturn, 1) := by decide +kernel
def site : List Cond := [.fieldLink "java/lang/String" 9 "java/lang/String" "value" "[B", IsL.tab, LChA.tab] ++ virtW "java/lang/String" 492 "java/lang/String" IsL.yN IsL.yN ++ staticW "java/lang/String" 495 LChA.yN
def tab : Cond := tabOf yN yB 2 (some .char) site
def P (x t : Addr) (V : Cell) (n : Nat) (f : Nat → Int32) (z : Int32) (fm : Value) (i : Nat) (args : Array Value) (s : State) : Prop := args = #[.ref x, .int (Int32.ofNat i)] ∧ Txt x t V 0 n f s ∧ i < n ∧ StaticIs s "java/lang/String" "COMPACT_STRINGS" "Z" (.int z) ∧ ¬ z = 0 ∧ StaticIs s "jdk/internal/util/Preconditions" "SIOOBE_FORMATTER" "Ljava/util/function/BiFunction;" fm ∧ fm.isRef = true
def E (f : Nat → Int32) (i : Nat) (r : Option Value) (s u : State) : Prop := XT.PureE (some (.int (f i))) r s u
/-- charAt(i) of a Latin-1 String of n chars, i < n: f i -/
theorem law (l : Launch) (x t : Addr) (V : Cell) (n : Nat) (f : Nat → Int32) (z : Int32) (fm : Value) (i : Nat) : Law l yN 2 1 3 40 yB 2 (some .char) site (P x t V n f z fm i) (E f i) [] 0 0 := by
  refine Law.of_walk (plainFor_of_name (by decide +kernel)) (by decide +kernel) (by decide +kernel) (by decide) (fun _ _ h => by rw [h.1]; rfl) (fun _ U U' hal hh h => ⟨h.1, h.2.1.mv hal hh, h.2.2.1, h.2.2.2.1.there hal hh, h.2.2.2.2.1, h.2.2.2.2.2.1.there hal hh, h.2.2.2.2.2.2⟩) (fun r U U' V V' h1 hal h2 h => XT.PureE.mv r U U' V V' h1 hal h2 h) ?_
  intro p e s m args below meth c s₁ X0 hexec hbytes hml hret hlk hnm hown hh0 W hP
  obtain ⟨rfl, hx, hi, s1, hz, s3, rf⟩ := hP
  have v31 := hx.2.2.2.1.2.2.2
  have hr := hx.2.2.2.2.2 i hi
  have hx0 := hx.mv X0.warmed.alike hh0
  have c1 : Steps p.tables e below (s₁.setTop (entryFrame m #[.ref x, .int (Int32.ofNat i)] 2)) (s₁.setTop (mkF m 1 #[.val (.ref x), .val (.int (Int32.ofNat i))] [.ref x])) := Steps.trans (entry rfl) (by
    show Steps p.tables e below (s₁.setTop (mkF m 0 #[.val (.ref x), .val (.int (Int32.ofNat i))] [])) _
    refine XS.aloadN X0.here hexec rfl (hb hbytes d0) rfl rfl ?_
    exact Steps.refl _)
  obtain ⟨v2, T2, X2, E2, g2⟩ := X0.callV hexec (IsL.law l x 0 z) hown (wks W (virtW "java/lang/String" 492 "java/lang/String" IsL.yN IsL.yN)) rfl (by decide) (wk W IsL.tab) (W := 0) (Nat.le_of_ble_eq_true rfl) (Nat.le_of_ble_eq_true rfl) (Nat.le_refl _) (Nat.le_refl _) (hx0.1.fc X0.warmed.alike) hx0.1.is (g := (mkF m 1 #[.val (.ref x), .val (.int (Int32.ofNat i))] [.ref x])) rfl (by rw [hml]; rfl) c1 (argsL := []) (rest := []) rfl rfl (by show 2 * 0 + 0 ≤ _; decide) (hb hbytes d1) (⟨rfl, hx0.2.2.1, hx.2.2.2.2.1.cd, s1.there X0.warmed.alike hh0, hz⟩)
  obtain ⟨rfl, q2⟩ := E2
  have hh2 := q2.trans hh0
  have hx2 := hx.mv X2.warmed.alike hh2
  obtain ⟨-, k1, k2⟩ | ⟨k0, -⟩ := hx.2.2.2.2.1
  · have c3 : Steps p.tables e below (s₁.setTop (entryFrame m #[.ref x, .int (Int32.ofNat i)] 2)) (T2.setTop (mkF m 8 #[.val (.ref x), .val (.int (Int32.ofNat i))] [.ref x])) := Steps.trans g2 (by
      refine XS.ifNo X2.here hexec rfl (hb hbytes d4) rfl (i0_eq_f (by decide)) ?_
      refine XS.aloadN X2.here hexec rfl (hb hbytes d7) rfl rfl ?_
      exact Steps.refl _)
    obtain ⟨T4, X4, q4, st4⟩ := X2.hget hexec hown (wk W (.fieldLink "java/lang/String" 9 "java/lang/String" "value" "[B")) hx2.2.1 (g := (mkF m 8 #[.val (.ref x), .val (.int (Int32.ofNat i))] [.ref x])) rfl (rest := []) rfl (hb hbytes d8)
    have hh4 := q4.trans hh2
    have c5 : Steps p.tables e below (s₁.setTop (entryFrame m #[.ref x, .int (Int32.ofNat i)] 2)) (T4.setTop (mkF m 12 #[.val (.ref x), .val (.int (Int32.ofNat i))] [.int (Int32.ofNat i), .ref t])) := (c3.trans (st4 _ (Steps.refl _))).trans (by
      refine XS.iloadN X4.here hexec rfl (hb hbytes d11) rfl ?_
      exact Steps.refl _)
    obtain ⟨v6, T6, X6, E6, g6⟩ := X4.callS hexec (LChA.law l t V i (lo8 (f i)) fm) hown (wks W (staticW "java/lang/String" 495 LChA.yN)) (wk W LChA.tab) (W := 0) (Nat.le_of_ble_eq_true rfl) (Nat.le_of_ble_eq_true rfl) (Nat.le_refl _) (Nat.le_refl _) (g := (mkF m 12 #[.val (.ref x), .val (.int (Int32.ofNat i))] [.int (Int32.ofNat i), .ref t])) rfl (by rw [hml]; rfl) c5 (argsL := [.ref t, .int (Int32.ofNat i)]) (rest := []) rfl rfl (by show 2 * 0 + 0 ≤ _; decide) (hb hbytes d12) (⟨rfl, hx.2.2.2.1.mv X4.warmed.alike hh4, (k2 i hi).1, s3.there X4.warmed.alike hh4, rf⟩)
    obtain ⟨rfl, q6⟩ := E6
    rw [chr8_lo8 hr.1 (k2 i hi).2] at g6
    exact ⟨T6, some (.int (f i)), _, _, _, X6, rfl, rfl, rfl, (fun h => by cases h), ⟨rfl, q6.trans hh4⟩, fun fs hl => Steps.trans g6 (X6.ireturnOut hexec hret (narrow_ch hr.1 hr.2) (Or.inr (Or.inr (Or.inr (Or.inl rfl)))) (hb hbytes d15) hl)⟩
  · exact absurd k0 (by decide)
theorem pays {l : Launch} {R : Room} {p : Program} {e : Env} {below : List Frame} {s : State} {sargs : Array Value} {len W : Nat} (x t : Addr) (V : Cell) (n : Nat) (f : Nat → Int32) (z : Int32) (fm : Value) (i : Nat) (htab : tab.before sargs s = true) (hfr : 4 ≤ R.frames) (hlo : W + 53 ≤ R.locals) :
    Back l R p e below s sargs yN len W (fun A₁ a₁ => A₁.cells + 0 ≤ R.cells ∧ A₁.slots + 0 ≤ R.slots ∧ P x t V n f z fm i a₁ A₁.U) (fun A₁ _ v₁ B₁ => E f i v₁ A₁.U B₁.U ∧ B₁.locs = A₁.locs ++ [] ∧ B₁.cells = A₁.cells + 0 ∧ B₁.slots = A₁.slots + 0) :=
  (law l x t V n f z fm i).pays htab hfr (by omega)
end ChN
end StrChars
namespace StrChars.Road
open Jvm Sem ClassFile Op Lib Jvm.Stand Jvm.Free Jvm.Free.XT
open Jvm.Lib.Cold (StaticIs)
/-- the words of String.charAt(int), the Latin-1 road alone -/
abbrev wordsChN : List Jvm.Cond := [.code ChN.yN ChN.yB 2 (some .char), .initialized ST, .fieldLink ST 9 ST "value" "[B", .fieldLink ST 38 ST "COMPACT_STRINGS" "Z", .fieldLink ST 15 ST "coder" "B", .code IsL.yN IsL.yB 1 (some .boolean), .methodLink ST 492 IsL.yN, .declares IsL.yN, .selects ST IsL.yN IsL.yN, .instanceMethod IsL.yN,
  .methodLink ST 495 LChA.yN, .static LChA.yN, .code LChA.yN LChA.yB 2 (some .char), .initialized "java/lang/StringLatin1", .methodLink "java/lang/StringLatin1" 9 JO.Str_checkIndex.yN, .static JO.Str_checkIndex.yN, .code JO.Str_checkIndex.yN JO.Str_checkIndex.yB 2 none,
  .fieldLink ST 1053 "jdk/internal/util/Preconditions" "SIOOBE_FORMATTER" "Ljava/util/function/BiFunction;", .methodLink ST 1059 JC.PreCheck.yN, .static JC.PreCheck.yN, .code JC.PreCheck.yN JC.PreCheck.yB 3 (some .int), .initialized "jdk/internal/util/Preconditions"]
theorem tabChN_of {a : Array Value} {s : State} (h : ∀ w ∈ wordsChN, w.before a s = true) : ChN.tab.before a s = true := by
  have hp : JC.PreCheck.tab.before a s = true := unparts (wk h (.code JC.PreCheck.yN JC.PreCheck.yB 3 (some .int))) (wks h (.initialized JC.PreCheck.yN.cls :: JC.PreCheck.site))
  have qk := consq hp h
  have hk : JO.Str_checkIndex.tab.before a s = true := unparts (wk qk (.code JO.Str_checkIndex.yN JO.Str_checkIndex.yB 2 none)) (wks qk (.initialized JO.Str_checkIndex.yN.cls :: JO.Str_checkIndex.site))
  have ql := consq hk h
  have hl : LChA.tab.before a s = true := unparts (wk ql (.code LChA.yN LChA.yB 2 (some .char))) (wks ql (.initialized LChA.yN.cls :: LChA.site))
  have hi : IsL.tab.before a s = true := unparts (wk h (.code IsL.yN IsL.yB 1 (some .boolean))) (wks h (.initialized IsL.yN.cls :: IsL.site))
  have q := consq hi (consq hl h)
  exact unparts (wk q (.code ChN.yN ChN.yB 2 (some .char))) (wks q (.initialized ChN.yN.cls :: ChN.site))
theorem movedChN {Z s : State} {a0 args : Array Value} (hZ : Z.Warmed39 s.vm) (hw : ∀ d ∈ wordsChN, d.before a0 Z = true) : ∀ d ∈ wordsChN, d.before args s = true := fun d hd => by
  have t : ∀ d ∈ wordsChN, (d.onTables && d.keepsFace) = true := by decide +kernel
  exact RoadKit.mv hZ (hw d hd) (t d hd)
/-- **charAt(i) OF A LATIN-1 STRING**, i < n: the char -/
theorem chN {p : Program} {l : Launch} {e : Env} {R : Room} {s : State} {args : Array Value} {below : List Frame} {len W : Nat} {Z : State} {a0 : Array Value} {h : Heap} (hZ : Z.Warmed39 s.vm) (hw : ∀ d ∈ wordsChN, d.before a0 Z = true) {kI : Nat} (wi : (Jvm.Cond.instantiable ST kI).before a0 Z = true)
    {x t : Addr} {kb : ClassId} {cs : List Int32} {N2 z : Int32} {vs : List Value} {fm : Value} {i : Nat} {j : Int32} (E : RoadKit.Exa Z h x ST) (V : RoadKit.Fld Z h x ST "value" "[B" (.ref t)) (C : RoadKit.Fld Z h x ST "coder" "B" (.int 0)) (K : RoadKit.Arv Z h t kb .byte N2 vs (.int 0)) (hc : CodA cs 0 N2 vs) (hb : ∀ c ∈ cs, ¬ c < 0 ∧ ¬ (65535 : Int32) < c)
    (S : RoadKit.Sta Z h ST "COMPACT_STRINGS" "Z" (.int z)) (hz : ¬ z = 0) (F : RoadKit.Sta Z h "jdk/internal/util/Preconditions" "SIOOBE_FORMATTER" "Ljava/util/function/BiFunction;" fm) (rf : fm.isRef = true) (l2 : cs.length ≤ 4000) (hi : i < cs.length) (hj : j = Int32.ofNat i) (hfr : 4 ≤ R.frames) (hlo : W + 53 ≤ R.locals) :
    Back l R p e below s args (⟨"java/lang/String", "charAt", "(I)C"⟩ : MethodName) len W (fun P a => a = #[.ref x, .int j] ∧ P.U.heap = h ∧ P.cells + 0 ≤ R.cells ∧ P.slots + 0 ≤ R.slots)
      (fun P _ v B => ∃ L, (v = some (.int (cs.getD i 0)) ∧ L = [] ∧ B.U.heap = h) ∧ B.locs = P.locs ++ L ∧ B.cells = P.cells + 0 ∧ B.slots = P.slots + 0) := by
  subst hj
  intro m meth c P g ig mk a X hg hsize hdg hW hn hp'
  obtain ⟨rfl, rfl, r1, r2⟩ := hp'
  have al : Z.vm.Alike P.U.vm := hZ.alike.trans X.warmed.alike
  obtain ⟨A, hx⟩ := txt_of wi al E V C K hc hb l2
  obtain ⟨v, B, X', ⟨⟨hv, hh⟩, hl, hk, hs⟩, st⟩ := ChN.pays x t A cs.length (fun j => cs.getD j 0) z fm i (tabChN_of (movedChN hZ hw)) hfr hlo m meth c P g ig mk _ X hg hsize hdg hW hn ⟨r1, r2, rfl, hx, hi, sta_is al S, hz, sta_is al F, rf⟩
  exact ⟨v, B, X', ⟨[], ⟨hv, rfl, hh⟩, hl, hk, hs⟩, st⟩
end StrChars.Road
end Jvm.Pilot.@@N@@
namespace Jvm.Pilot.@@N@@
open Jvm Jvm.ClassFile Sem Op Lib Jvm.Free Jvm.Stand Jvm.LawKit Jvm.RoadKit Bundle Jvm.Pilot.@@N@@.Jvm.D
/-! the rest of a walk, from a state on: it returns, and what it leaves -/
def OwnGo (p : Program) (e : Env) (below : List Frame) (s : State) (Q : Option Value → Heap → List Loc → Prop) (K N : Nat) (U : State) : Prop :=
  ∃ t o, Steps p.tables e below U t ∧ t.status = .running ∧ Ended t below o ∧ ∃ v L, o = .returned v ∧ Q v t.heap L ∧ FrameEnd s o t L K N
section OwnKit
variable {p : Program} {l : Launch} {e : Env} {R : Room} {s : State} {m : MethodId} {args : Array Value} {below : List Frame} {meth : Method} {c : Code} {T : State} {locs : List Loc} {cells slots : Nat} {Q : Option Value → Heap → List Loc → Prop} {K N : Nat} {U U' : State} {h : Heap}
theorem own_on (st : ∀ t, Steps p.tables e below U' t → Steps p.tables e below U t) (k : OwnGo p e below s Q K N U') : OwnGo p e below s Q K N U := by
  obtain ⟨t, o, h1, r⟩ := k; exact ⟨t, o, st t h1, r⟩
theorem own_tr (st : Steps p.tables e below U U') (k : OwnGo p e below s Q K N U') : OwnGo p e below s Q K N U := own_on (fun _ q => st.trans q) k
theorem own_num {c' n' : Nat} {l' : List Loc} (X : Stand p l e R s m args below meth c T locs cells slots) (h0 : locs = l') (h1 : cells = c') (h2 : slots = n') : Stand p l e R s m args below meth c T l' c' n' := by
  subst h0 h1 h2; exact X
theorem own_cast {g g' : JFrame} (q : g = g') (k : OwnGo p e below s Q K N (T.setTop g')) : OwnGo p e below s Q K N (T.setTop g) := q ▸ k
theorem own_end (X : Stand p l e R s m args below meth c T locs cells slots) (hlk : meth.locks = false) {v : Option Value} (hv : meth.sig.returnType = none → v = none) (eT : T.heap = h) (q : Q v h locs) (hk : cells ≤ K) (hn : slots ≤ N)
    (st : ∀ fs, (∀ (f : JFrame) (acts : List Action), f.method = m → f.locked = none → f.entered = [] → (doReturn e (T.setTop f) acts v).1 = T.setFrames fs) → Steps p.tables e below U (T.setFrames fs)) : OwnGo p e below s Q K N U := by
  obtain ⟨fs, hr, hrun, hended, hW, hsame⟩ := X.leave (v := v) hv hlk
  refine ⟨_, _, st fs hr, hrun, hended, v, locs, rfl, ?_, ⟨_, rfl⟩, hW, hsame.mono hk hn⟩
  have : (T.setFrames fs).heap = h := eT
  rw [this]; exact q
theorem own_retN (X : Stand p l e R s m args below meth c T locs cells slots) (hx : p.tables.exec = Jvm.exec) (hlk : meth.locks = false) {pc : Nat} {Ls : Array Slot} {z : Int32} {t : FieldType} {rest : List Value} (hret : meth.sig.returnType = some t) (ht : t = .boolean ∨ t = .byte ∨ t = .char ∨ t = .short)
    (hd : decode c.code pc = .ok (.ireturn, 1)) (eT : T.heap = h) (q : Q (some (.int (nar t z))) h locs) (hk : cells ≤ K) (hn : slots ≤ N) : OwnGo p e below s Q K N (T.setTop (mkF m pc Ls (.int z :: rest))) :=
  own_end X hlk (fun h => by rw [hret] at h; cases h) eT q hk hn fun fs hr => retN X hx hret ht hd hr
theorem own_retI (X : Stand p l e R s m args below meth c T locs cells slots) (hx : p.tables.exec = Jvm.exec) (hlk : meth.locks = false) {pc : Nat} {Ls : Array Slot} {z : Int32} {rest : List Value} (hret : meth.sig.returnType = some .int)
    (hd : decode c.code pc = .ok (.ireturn, 1)) (eT : T.heap = h) (q : Q (some (.int z)) h locs) (hk : cells ≤ K) (hn : slots ≤ N) : OwnGo p e below s Q K N (T.setTop (mkF m pc Ls (.int z :: rest))) :=
  own_end X hlk (fun h => by rw [hret] at h; cases h) eT q hk hn fun fs hr => retI X hx hret hd hr
theorem own_retA (X : Stand p l e R s m args below meth c T locs cells slots) (hx : p.tables.exec = Jvm.exec) (hlk : meth.locks = false) {pc : Nat} {Ls : Array Slot} {w : Value} {t : FieldType} {rest : List Value} (hret : meth.sig.returnType = some t) (ht : t.isReference = true) (hw : w.isRef = true)
    (hd : decode c.code pc = .ok (.areturn, 1)) (eT : T.heap = h) (q : Q (some w) h locs) (hk : cells ≤ K) (hn : slots ≤ N) : OwnGo p e below s Q K N (T.setTop (mkF m pc Ls (w :: rest))) :=
  own_end X hlk (fun h => by rw [hret] at h; cases h) eT q hk hn fun fs hr => retOut X hx hret (by rcases ref_cases hw with rfl | ⟨a, rfl⟩ <;> cases t <;> rfl) (Or.inr (Or.inr (Or.inr (Or.inr ⟨rfl, ht, hw⟩)))) hd hr
theorem own_retV (X : Stand p l e R s m args below meth c T locs cells slots) (hx : p.tables.exec = Jvm.exec) (hlk : meth.locks = false) {pc : Nat} {Ls : Array Slot} (hret : meth.sig.returnType = none)
    (hd : decode c.code pc = .ok (.return_, 1)) (eT : T.heap = h) (q : Q none h locs) (hk : cells ≤ K) (hn : slots ≤ N) : OwnGo p e below s Q K N (T.setTop (mkF m pc Ls [])) :=
  own_end X hlk (fun _ => rfl) eT q hk hn fun fs hr => X.returnOut hx hret hd hr
end OwnKit

theorem w0 {a0 : Array Value} {Z : State} (hw : ∀ d ∈ tables_1, d.before a0 Z = true) : ((Jvm.Cond.constant "io/loomwire/handler/codec/http/HttpResponseStatusEqualsPinLaw" (18 : Nat) (2147483647 : Int32)) : Jvm.Cond).before a0 Z = true := hw _ (List.mem_of_getElem? (i := 0) rfl)
theorem w1 {a0 : Array Value} {Z : State} (hw : ∀ d ∈ tables_1, d.before a0 Z = true) : ((Jvm.Cond.methodLink "io/loomwire/handler/codec/http/HttpResponseStatusEqualsPinLaw" (19 : Nat) ({ cls := "io/loomwire/handler/codec/http/HttpResponseStatusEqualsPinLaw", name := "phrase", desc := "(IZ)Ljava/lang/String;" } : Jvm.MethodName)) : Jvm.Cond).before a0 Z = true := hw _ (List.mem_of_getElem? (i := 1) rfl)
theorem w2 {a0 : Array Value} {Z : State} (hw : ∀ d ∈ tables_1, d.before a0 Z = true) : ((Jvm.Cond.static ({ cls := "io/loomwire/handler/codec/http/HttpResponseStatusEqualsPinLaw", name := "phrase", desc := "(IZ)Ljava/lang/String;" } : Jvm.MethodName)) : Jvm.Cond).before a0 Z = true := hw _ (List.mem_of_getElem? (i := 2) rfl)
theorem w3 {a0 : Array Value} {Z : State} (hw : ∀ d ∈ tables_1, d.before a0 Z = true) : ((Jvm.Cond.initialized "io/loomwire/handler/codec/http/HttpResponseStatusEqualsPinLaw") : Jvm.Cond).before a0 Z = true := hw _ (List.mem_of_getElem? (i := 3) rfl)
theorem w4 {a0 : Array Value} {Z : State} (hw : ∀ d ∈ tables_1, d.before a0 Z = true) : ((Jvm.Cond.code ({ cls := "io/loomwire/handler/codec/http/HttpResponseStatusEqualsPinLaw", name := "phrase", desc := "(IZ)Ljava/lang/String;" } : Jvm.MethodName) method_3_code (3 : Nat) (Option.some (Jvm.ClassFile.FieldType.object "java/lang/String"))) : Jvm.Cond).before a0 Z = true := hw _ (List.mem_of_getElem? (i := 4) rfl)
theorem w5 {a0 : Array Value} {Z : State} (hw : ∀ d ∈ tables_1, d.before a0 Z = true) : ((Jvm.Cond.classLink "io/loomwire/handler/codec/http/HttpResponseStatusEqualsPinLaw" (7 : Nat) "java/lang/String") : Jvm.Cond).before a0 Z = true := hw _ (List.mem_of_getElem? (i := 5) rfl)
theorem w6 {a0 : Array Value} {Z : State} (hw : ∀ d ∈ tables_1, d.before a0 Z = true) : ((Jvm.Cond.instantiable "java/lang/String" (4 : Nat)) : Jvm.Cond).before a0 Z = true := hw _ (List.mem_of_getElem? (i := 6) rfl)
theorem w7 {a0 : Array Value} {Z : State} (hw : ∀ d ∈ tables_1, d.before a0 Z = true) : ((Jvm.Cond.initialized "java/lang/String") : Jvm.Cond).before a0 Z = true := hw _ (List.mem_of_getElem? (i := 7) rfl)
theorem w8 {a0 : Array Value} {Z : State} (hw : ∀ d ∈ tables_1, d.before a0 Z = true) : ((Jvm.Cond.arrayClass Jvm.ClassFile.FieldType.char) : Jvm.Cond).before a0 Z = true := hw _ (List.mem_of_getElem? (i := 8) rfl)
theorem w9 {a0 : Array Value} {Z : State} (hw : ∀ d ∈ tables_1, d.before a0 Z = true) : ((Jvm.Cond.methodLink "io/loomwire/handler/codec/http/HttpResponseStatusEqualsPinLaw" (9 : Nat) ({ cls := "java/lang/String", name := "<init>", desc := "([C)V" } : Jvm.MethodName)) : Jvm.Cond).before a0 Z = true := hw _ (List.mem_of_getElem? (i := 9) rfl)
theorem w10 {a0 : Array Value} {Z : State} (hw : ∀ d ∈ tables_1, d.before a0 Z = true) : ((Jvm.Cond.instanceMethod ({ cls := "java/lang/String", name := "<init>", desc := "([C)V" } : Jvm.MethodName)) : Jvm.Cond).before a0 Z = true := hw _ (List.mem_of_getElem? (i := 10) rfl)
theorem w11 {a0 : Array Value} {Z : State} (hw : ∀ d ∈ tables_1, d.before a0 Z = true) : ((Jvm.Cond.code ({ cls := "java/lang/String", name := "<init>", desc := "([C)V" } : Jvm.MethodName) jdk_42_method_3_code (2 : Nat) (Option.none : Option Jvm.ClassFile.FieldType)) : Jvm.Cond).before a0 Z = true := hw _ (List.mem_of_getElem? (i := 11) rfl)
theorem w12 {a0 : Array Value} {Z : State} (hw : ∀ d ∈ tables_1, d.before a0 Z = true) : ((Jvm.Cond.methodLink "java/lang/String" (27 : Nat) ({ cls := "java/lang/String", name := "<init>", desc := "([CIILjava/lang/Void;)V" } : Jvm.MethodName)) : Jvm.Cond).before a0 Z = true := hw _ (List.mem_of_getElem? (i := 12) rfl)
theorem w13 {a0 : Array Value} {Z : State} (hw : ∀ d ∈ tables_1, d.before a0 Z = true) : ((Jvm.Cond.instanceMethod ({ cls := "java/lang/String", name := "<init>", desc := "([CIILjava/lang/Void;)V" } : Jvm.MethodName)) : Jvm.Cond).before a0 Z = true := hw _ (List.mem_of_getElem? (i := 13) rfl)
theorem w15 {a0 : Array Value} {Z : State} (hw : ∀ d ∈ tables_1, d.before a0 Z = true) : ((Jvm.Cond.code ({ cls := "java/lang/String", name := "<init>", desc := "([CIILjava/lang/Void;)V" } : Jvm.MethodName) jdk_42_method_149_code (6 : Nat) (Option.none : Option Jvm.ClassFile.FieldType)) : Jvm.Cond).before a0 Z = true := hw _ (List.mem_of_getElem? (i := 15) rfl)
theorem w16 {a0 : Array Value} {Z : State} (hw : ∀ d ∈ tables_1, d.before a0 Z = true) : ((Jvm.Cond.methodLink "java/lang/String" (1 : Nat) ({ cls := "java/lang/Object", name := "<init>", desc := "()V" } : Jvm.MethodName)) : Jvm.Cond).before a0 Z = true := hw _ (List.mem_of_getElem? (i := 16) rfl)
theorem w17 {a0 : Array Value} {Z : State} (hw : ∀ d ∈ tables_1, d.before a0 Z = true) : ((Jvm.Cond.instanceMethod ({ cls := "java/lang/Object", name := "<init>", desc := "()V" } : Jvm.MethodName)) : Jvm.Cond).before a0 Z = true := hw _ (List.mem_of_getElem? (i := 17) rfl)
theorem w18 {a0 : Array Value} {Z : State} (hw : ∀ d ∈ tables_1, d.before a0 Z = true) : ((Jvm.Cond.code ({ cls := "java/lang/Object", name := "<init>", desc := "()V" } : Jvm.MethodName) object_method_1_code (1 : Nat) (Option.none : Option Jvm.ClassFile.FieldType)) : Jvm.Cond).before a0 Z = true := hw _ (List.mem_of_getElem? (i := 18) rfl)
theorem w19 {a0 : Array Value} {Z : State} (hw : ∀ d ∈ tables_1, d.before a0 Z = true) : ((Jvm.Cond.stringLink "java/lang/String" (7 : Nat) "") : Jvm.Cond).before a0 Z = true := hw _ (List.mem_of_getElem? (i := 19) rfl)
theorem w21 {a0 : Array Value} {Z : State} (hw : ∀ d ∈ tables_1, d.before a0 Z = true) : ((Jvm.Cond.laysFinal "java/lang/String" "java/lang/String" "value" "[B") : Jvm.Cond).before a0 Z = true := hw _ (List.mem_of_getElem? (i := 21) rfl)
theorem w22 {a0 : Array Value} {Z : State} (hw : ∀ d ∈ tables_1, d.before a0 Z = true) : ((Jvm.Cond.laysFinal "java/lang/String" "java/lang/String" "coder" "B") : Jvm.Cond).before a0 Z = true := hw _ (List.mem_of_getElem? (i := 22) rfl)
theorem w25 {a0 : Array Value} {Z : State} (hw : ∀ d ∈ tables_1, d.before a0 Z = true) : ((Jvm.Cond.fieldLink "java/lang/String" (9 : Nat) "java/lang/String" "value" "[B") : Jvm.Cond).before a0 Z = true := hw _ (List.mem_of_getElem? (i := 25) rfl)
theorem w26 {a0 : Array Value} {Z : State} (hw : ∀ d ∈ tables_1, d.before a0 Z = true) : ((Jvm.Cond.fieldLink "java/lang/String" (15 : Nat) "java/lang/String" "coder" "B") : Jvm.Cond).before a0 Z = true := hw _ (List.mem_of_getElem? (i := 26) rfl)
theorem w27 {a0 : Array Value} {Z : State} (hw : ∀ d ∈ tables_1, d.before a0 Z = true) : ((Jvm.Cond.methodLink "io/loomwire/handler/codec/http/HttpResponseStatusEqualsPinLaw" (12 : Nat) ({ cls := "io/loomwire/handler/codec/http/HttpResponseStatusEqualsPinLaw", name := "pc", desc := "(I)C" } : Jvm.MethodName)) : Jvm.Cond).before a0 Z = true := hw _ (List.mem_of_getElem? (i := 27) rfl)
theorem w28 {a0 : Array Value} {Z : State} (hw : ∀ d ∈ tables_1, d.before a0 Z = true) : ((Jvm.Cond.static ({ cls := "io/loomwire/handler/codec/http/HttpResponseStatusEqualsPinLaw", name := "pc", desc := "(I)C" } : Jvm.MethodName)) : Jvm.Cond).before a0 Z = true := hw _ (List.mem_of_getElem? (i := 28) rfl)
theorem w29 {a0 : Array Value} {Z : State} (hw : ∀ d ∈ tables_1, d.before a0 Z = true) : ((Jvm.Cond.code ({ cls := "io/loomwire/handler/codec/http/HttpResponseStatusEqualsPinLaw", name := "pc", desc := "(I)C" } : Jvm.MethodName) method_2_code (2 : Nat) (Option.some Jvm.ClassFile.FieldType.char)) : Jvm.Cond).before a0 Z = true := hw _ (List.mem_of_getElem? (i := 29) rfl)
theorem w41 {a0 : Array Value} {Z : State} (hw : ∀ d ∈ tables_1, d.before a0 Z = true) : ((Jvm.Cond.classLink "io/loomwire/handler/codec/http/HttpResponseStatusEqualsPinLaw" (23 : Nat) "io/loomwire/handler/codec/http/HttpResponseStatus") : Jvm.Cond).before a0 Z = true := hw _ (List.mem_of_getElem? (i := 41) rfl)
theorem w42 {a0 : Array Value} {Z : State} (hw : ∀ d ∈ tables_1, d.before a0 Z = true) : ((Jvm.Cond.instantiable "io/loomwire/handler/codec/http/HttpResponseStatus" (2 : Nat)) : Jvm.Cond).before a0 Z = true := hw _ (List.mem_of_getElem? (i := 42) rfl)
theorem w43 {a0 : Array Value} {Z : State} (hw : ∀ d ∈ tables_1, d.before a0 Z = true) : ((Jvm.Cond.initialized "io/loomwire/handler/codec/http/HttpResponseStatus") : Jvm.Cond).before a0 Z = true := hw _ (List.mem_of_getElem? (i := 43) rfl)
theorem w44 {a0 : Array Value} {Z : State} (hw : ∀ d ∈ tables_1, d.before a0 Z = true) : ((Jvm.Cond.methodLink "io/loomwire/handler/codec/http/HttpResponseStatusEqualsPinLaw" (25 : Nat) ({ cls := "io/loomwire/handler/codec/http/HttpResponseStatus", name := "<init>", desc := "(ILjava/lang/String;)V" } : Jvm.MethodName)) : Jvm.Cond).before a0 Z = true := hw _ (List.mem_of_getElem? (i := 44) rfl)
theorem w45 {a0 : Array Value} {Z : State} (hw : ∀ d ∈ tables_1, d.before a0 Z = true) : ((Jvm.Cond.instanceMethod ({ cls := "io/loomwire/handler/codec/http/HttpResponseStatus", name := "<init>", desc := "(ILjava/lang/String;)V" } : Jvm.MethodName)) : Jvm.Cond).before a0 Z = true := hw _ (List.mem_of_getElem? (i := 45) rfl)
theorem w46 {a0 : Array Value} {Z : State} (hw : ∀ d ∈ tables_1, d.before a0 Z = true) : ((Jvm.Cond.code ({ cls := "io/loomwire/handler/codec/http/HttpResponseStatus", name := "<init>", desc := "(ILjava/lang/String;)V" } : Jvm.MethodName) prog_19_method_1_code (4 : Nat) (Option.none : Option Jvm.ClassFile.FieldType)) : Jvm.Cond).before a0 Z = true := hw _ (List.mem_of_getElem? (i := 46) rfl)
theorem w47 {a0 : Array Value} {Z : State} (hw : ∀ d ∈ tables_1, d.before a0 Z = true) : ((Jvm.Cond.methodLink "io/loomwire/handler/codec/http/HttpResponseStatus" (1 : Nat) ({ cls := "java/lang/Object", name := "<init>", desc := "()V" } : Jvm.MethodName)) : Jvm.Cond).before a0 Z = true := hw _ (List.mem_of_getElem? (i := 47) rfl)
theorem w48 {a0 : Array Value} {Z : State} (hw : ∀ d ∈ tables_1, d.before a0 Z = true) : ((Jvm.Cond.stringLink "io/loomwire/handler/codec/http/HttpResponseStatus" (16 : Nat) "reasonPhrase") : Jvm.Cond).before a0 Z = true := hw _ (List.mem_of_getElem? (i := 48) rfl)
theorem w49 {a0 : Array Value} {Z : State} (hw : ∀ d ∈ tables_1, d.before a0 Z = true) : ((Jvm.Cond.methodLink "io/loomwire/handler/codec/http/HttpResponseStatus" (18 : Nat) ({ cls := "java/util/Objects", name := "requireNonNull", desc := "(Ljava/lang/Object;Ljava/lang/String;)Ljava/lang/Object;" } : Jvm.MethodName)) : Jvm.Cond).before a0 Z = true := hw _ (List.mem_of_getElem? (i := 49) rfl)
theorem w50 {a0 : Array Value} {Z : State} (hw : ∀ d ∈ tables_1, d.before a0 Z = true) : ((Jvm.Cond.static ({ cls := "java/util/Objects", name := "requireNonNull", desc := "(Ljava/lang/Object;Ljava/lang/String;)Ljava/lang/Object;" } : Jvm.MethodName)) : Jvm.Cond).before a0 Z = true := hw _ (List.mem_of_getElem? (i := 50) rfl)
theorem w51 {a0 : Array Value} {Z : State} (hw : ∀ d ∈ tables_1, d.before a0 Z = true) : ((Jvm.Cond.initialized "java/util/Objects") : Jvm.Cond).before a0 Z = true := hw _ (List.mem_of_getElem? (i := 51) rfl)
theorem w52 {a0 : Array Value} {Z : State} (hw : ∀ d ∈ tables_1, d.before a0 Z = true) : ((Jvm.Cond.code ({ cls := "java/util/Objects", name := "requireNonNull", desc := "(Ljava/lang/Object;Ljava/lang/String;)Ljava/lang/Object;" } : Jvm.MethodName) jdk_31_method_11_code (2 : Nat) (Option.some (Jvm.ClassFile.FieldType.object "java/lang/Object"))) : Jvm.Cond).before a0 Z = true := hw _ (List.mem_of_getElem? (i := 52) rfl)
theorem w53 {a0 : Array Value} {Z : State} (hw : ∀ d ∈ tables_1, d.before a0 Z = true) : ((Jvm.Cond.methodLink "io/loomwire/handler/codec/http/HttpResponseStatus" (24 : Nat) ({ cls := "java/lang/String", name := "length", desc := "()I" } : Jvm.MethodName)) : Jvm.Cond).before a0 Z = true := hw _ (List.mem_of_getElem? (i := 53) rfl)
theorem w54 {a0 : Array Value} {Z : State} (hw : ∀ d ∈ tables_1, d.before a0 Z = true) : ((Jvm.Cond.declares ({ cls := "java/lang/String", name := "length", desc := "()I" } : Jvm.MethodName)) : Jvm.Cond).before a0 Z = true := hw _ (List.mem_of_getElem? (i := 54) rfl)
theorem w55 {a0 : Array Value} {Z : State} (hw : ∀ d ∈ tables_1, d.before a0 Z = true) : ((Jvm.Cond.instanceMethod ({ cls := "java/lang/String", name := "length", desc := "()I" } : Jvm.MethodName)) : Jvm.Cond).before a0 Z = true := hw _ (List.mem_of_getElem? (i := 55) rfl)
theorem w56 {a0 : Array Value} {Z : State} (hw : ∀ d ∈ tables_1, d.before a0 Z = true) : ((Jvm.Cond.selects "java/lang/String" ({ cls := "java/lang/String", name := "length", desc := "()I" } : Jvm.MethodName) ({ cls := "java/lang/String", name := "length", desc := "()I" } : Jvm.MethodName)) : Jvm.Cond).before a0 Z = true := hw _ (List.mem_of_getElem? (i := 56) rfl)
theorem w57 {a0 : Array Value} {Z : State} (hw : ∀ d ∈ tables_1, d.before a0 Z = true) : ((Jvm.Cond.code ({ cls := "java/lang/String", name := "length", desc := "()I" } : Jvm.MethodName) jdk_42_method_54_code (1 : Nat) (Option.some Jvm.ClassFile.FieldType.int)) : Jvm.Cond).before a0 Z = true := hw _ (List.mem_of_getElem? (i := 57) rfl)
theorem w63 {a0 : Array Value} {Z : State} (hw : ∀ d ∈ tables_1, d.before a0 Z = true) : ((Jvm.Cond.fieldLink "io/loomwire/handler/codec/http/HttpResponseStatus" (43 : Nat) "io/loomwire/handler/codec/http/HttpResponseStatus" "code" "I") : Jvm.Cond).before a0 Z = true := hw _ (List.mem_of_getElem? (i := 63) rfl)
theorem w64 {a0 : Array Value} {Z : State} (hw : ∀ d ∈ tables_1, d.before a0 Z = true) : ((Jvm.Cond.laysFinal "io/loomwire/handler/codec/http/HttpResponseStatus" "io/loomwire/handler/codec/http/HttpResponseStatus" "code" "I") : Jvm.Cond).before a0 Z = true := hw _ (List.mem_of_getElem? (i := 64) rfl)
theorem w65 {a0 : Array Value} {Z : State} (hw : ∀ d ∈ tables_1, d.before a0 Z = true) : ((Jvm.Cond.fieldLink "io/loomwire/handler/codec/http/HttpResponseStatus" (49 : Nat) "io/loomwire/handler/codec/http/HttpResponseStatus" "reasonPhrase" "Ljava/lang/String;") : Jvm.Cond).before a0 Z = true := hw _ (List.mem_of_getElem? (i := 65) rfl)
theorem w66 {a0 : Array Value} {Z : State} (hw : ∀ d ∈ tables_1, d.before a0 Z = true) : ((Jvm.Cond.laysFinal "io/loomwire/handler/codec/http/HttpResponseStatus" "io/loomwire/handler/codec/http/HttpResponseStatus" "reasonPhrase" "Ljava/lang/String;") : Jvm.Cond).before a0 Z = true := hw _ (List.mem_of_getElem? (i := 66) rfl)
theorem w67 {a0 : Array Value} {Z : State} (hw : ∀ d ∈ tables_1, d.before a0 Z = true) : ((Jvm.Cond.methodLink "io/loomwire/handler/codec/http/HttpResponseStatus" (30 : Nat) ({ cls := "java/lang/String", name := "charAt", desc := "(I)C" } : Jvm.MethodName)) : Jvm.Cond).before a0 Z = true := hw _ (List.mem_of_getElem? (i := 67) rfl)
theorem w68 {a0 : Array Value} {Z : State} (hw : ∀ d ∈ tables_1, d.before a0 Z = true) : ((Jvm.Cond.declares ({ cls := "java/lang/String", name := "charAt", desc := "(I)C" } : Jvm.MethodName)) : Jvm.Cond).before a0 Z = true := hw _ (List.mem_of_getElem? (i := 68) rfl)
theorem w69 {a0 : Array Value} {Z : State} (hw : ∀ d ∈ tables_1, d.before a0 Z = true) : ((Jvm.Cond.instanceMethod ({ cls := "java/lang/String", name := "charAt", desc := "(I)C" } : Jvm.MethodName)) : Jvm.Cond).before a0 Z = true := hw _ (List.mem_of_getElem? (i := 69) rfl)
theorem w70 {a0 : Array Value} {Z : State} (hw : ∀ d ∈ tables_1, d.before a0 Z = true) : ((Jvm.Cond.selects "java/lang/String" ({ cls := "java/lang/String", name := "charAt", desc := "(I)C" } : Jvm.MethodName) ({ cls := "java/lang/String", name := "charAt", desc := "(I)C" } : Jvm.MethodName)) : Jvm.Cond).before a0 Z = true := hw _ (List.mem_of_getElem? (i := 70) rfl)
theorem w71 {a0 : Array Value} {Z : State} (hw : ∀ d ∈ tables_1, d.before a0 Z = true) : ((Jvm.Cond.code ({ cls := "java/lang/String", name := "charAt", desc := "(I)C" } : Jvm.MethodName) jdk_42_method_56_code (2 : Nat) (Option.some Jvm.ClassFile.FieldType.char)) : Jvm.Cond).before a0 Z = true := hw _ (List.mem_of_getElem? (i := 71) rfl)
theorem w89 {a0 : Array Value} {Z : State} (hw : ∀ d ∈ tables_1, d.before a0 Z = true) : ((Jvm.Cond.methodLink "io/loomwire/handler/codec/http/HttpResponseStatus" (34 : Nat) ({ cls := "io/loomwire/handler/codec/http/HttpHeaders", name := "isFieldValueChar", desc := "(I)Z" } : Jvm.MethodName)) : Jvm.Cond).before a0 Z = true := hw _ (List.mem_of_getElem? (i := 89) rfl)
theorem w90 {a0 : Array Value} {Z : State} (hw : ∀ d ∈ tables_1, d.before a0 Z = true) : ((Jvm.Cond.static ({ cls := "io/loomwire/handler/codec/http/HttpHeaders", name := "isFieldValueChar", desc := "(I)Z" } : Jvm.MethodName)) : Jvm.Cond).before a0 Z = true := hw _ (List.mem_of_getElem? (i := 90) rfl)
theorem w91 {a0 : Array Value} {Z : State} (hw : ∀ d ∈ tables_1, d.before a0 Z = true) : ((Jvm.Cond.initialized "io/loomwire/handler/codec/http/HttpHeaders") : Jvm.Cond).before a0 Z = true := hw _ (List.mem_of_getElem? (i := 91) rfl)
theorem w92 {a0 : Array Value} {Z : State} (hw : ∀ d ∈ tables_1, d.before a0 Z = true) : ((Jvm.Cond.code ({ cls := "io/loomwire/handler/codec/http/HttpHeaders", name := "isFieldValueChar", desc := "(I)Z" } : Jvm.MethodName) prog_12_method_21_code (1 : Nat) (Option.some Jvm.ClassFile.FieldType.boolean)) : Jvm.Cond).before a0 Z = true := hw _ (List.mem_of_getElem? (i := 92) rfl)
theorem w93 {a0 : Array Value} {Z : State} (hw : ∀ d ∈ tables_1, d.before a0 Z = true) : ((Jvm.Cond.methodLink "io/loomwire/handler/codec/http/HttpResponseStatusEqualsPinLaw" (28 : Nat) ({ cls := "io/loomwire/handler/codec/http/HttpResponseStatus", name := "equals", desc := "(Ljava/lang/Object;)Z" } : Jvm.MethodName)) : Jvm.Cond).before a0 Z = true := hw _ (List.mem_of_getElem? (i := 93) rfl)
theorem w94 {a0 : Array Value} {Z : State} (hw : ∀ d ∈ tables_1, d.before a0 Z = true) : ((Jvm.Cond.declares ({ cls := "io/loomwire/handler/codec/http/HttpResponseStatus", name := "equals", desc := "(Ljava/lang/Object;)Z" } : Jvm.MethodName)) : Jvm.Cond).before a0 Z = true := hw _ (List.mem_of_getElem? (i := 94) rfl)
theorem w95 {a0 : Array Value} {Z : State} (hw : ∀ d ∈ tables_1, d.before a0 Z = true) : ((Jvm.Cond.instanceMethod ({ cls := "io/loomwire/handler/codec/http/HttpResponseStatus", name := "equals", desc := "(Ljava/lang/Object;)Z" } : Jvm.MethodName)) : Jvm.Cond).before a0 Z = true := hw _ (List.mem_of_getElem? (i := 95) rfl)
theorem w96 {a0 : Array Value} {Z : State} (hw : ∀ d ∈ tables_1, d.before a0 Z = true) : ((Jvm.Cond.selects "io/loomwire/handler/codec/http/HttpResponseStatus" ({ cls := "io/loomwire/handler/codec/http/HttpResponseStatus", name := "equals", desc := "(Ljava/lang/Object;)Z" } : Jvm.MethodName) ({ cls := "io/loomwire/handler/codec/http/HttpResponseStatus", name := "equals", desc := "(Ljava/lang/Object;)Z" } : Jvm.MethodName)) : Jvm.Cond).before a0 Z = true := hw _ (List.mem_of_getElem? (i := 96) rfl)
theorem w97 {a0 : Array Value} {Z : State} (hw : ∀ d ∈ tables_1, d.before a0 Z = true) : ((Jvm.Cond.code ({ cls := "io/loomwire/handler/codec/http/HttpResponseStatus", name := "equals", desc := "(Ljava/lang/Object;)Z" } : Jvm.MethodName) prog_19_method_6_code (3 : Nat) (Option.some Jvm.ClassFile.FieldType.boolean)) : Jvm.Cond).before a0 Z = true := hw _ (List.mem_of_getElem? (i := 97) rfl)
theorem w98 {a0 : Array Value} {Z : State} (hw : ∀ d ∈ tables_1, d.before a0 Z = true) : ((Jvm.Cond.classLink "io/loomwire/handler/codec/http/HttpResponseStatus" (44 : Nat) "io/loomwire/handler/codec/http/HttpResponseStatus") : Jvm.Cond).before a0 Z = true := hw _ (List.mem_of_getElem? (i := 98) rfl)
theorem w100 {a0 : Array Value} {Z : State} (hw : ∀ d ∈ tables_1, d.before a0 Z = true) : ((Jvm.Cond.methodLink "io/loomwire/handler/codec/http/HttpResponseStatusEqualsPinLaw" (32 : Nat) ({ cls := "java/lang/Integer", name := "valueOf", desc := "(I)Ljava/lang/Integer;" } : Jvm.MethodName)) : Jvm.Cond).before a0 Z = true := hw _ (List.mem_of_getElem? (i := 100) rfl)
theorem w101 {a0 : Array Value} {Z : State} (hw : ∀ d ∈ tables_1, d.before a0 Z = true) : ((Jvm.Cond.static ({ cls := "java/lang/Integer", name := "valueOf", desc := "(I)Ljava/lang/Integer;" } : Jvm.MethodName)) : Jvm.Cond).before a0 Z = true := hw _ (List.mem_of_getElem? (i := 101) rfl)
theorem w102 {a0 : Array Value} {Z : State} (hw : ∀ d ∈ tables_1, d.before a0 Z = true) : ((Jvm.Cond.initialized "java/lang/Integer") : Jvm.Cond).before a0 Z = true := hw _ (List.mem_of_getElem? (i := 102) rfl)
theorem w103 {a0 : Array Value} {Z : State} (hw : ∀ d ∈ tables_1, d.before a0 Z = true) : ((Jvm.Cond.code ({ cls := "java/lang/Integer", name := "valueOf", desc := "(I)Ljava/lang/Integer;" } : Jvm.MethodName) jdk_33_method_22_code (1 : Nat) (Option.some (Jvm.ClassFile.FieldType.object "java/lang/Integer"))) : Jvm.Cond).before a0 Z = true := hw _ (List.mem_of_getElem? (i := 103) rfl)
theorem w104 {a0 : Array Value} {Z : State} (hw : ∀ d ∈ tables_1, d.before a0 Z = true) : ((Jvm.Cond.fieldLink "java/lang/Integer" (191 : Nat) "java/lang/Integer$IntegerCache" "high" "I") : Jvm.Cond).before a0 Z = true := hw _ (List.mem_of_getElem? (i := 104) rfl)
theorem w105 {a0 : Array Value} {Z : State} (hw : ∀ d ∈ tables_1, d.before a0 Z = true) : ((Jvm.Cond.initialized "java/lang/Integer$IntegerCache") : Jvm.Cond).before a0 Z = true := hw _ (List.mem_of_getElem? (i := 105) rfl)
theorem w106 {a0 : Array Value} {Z : State} (hw : ∀ d ∈ tables_1, d.before a0 Z = true) : ((Jvm.Cond.fieldLink "java/lang/Integer" (195 : Nat) "java/lang/Integer$IntegerCache" "cache" "[Ljava/lang/Integer;") : Jvm.Cond).before a0 Z = true := hw _ (List.mem_of_getElem? (i := 106) rfl)
theorem w107 {a0 : Array Value} {Z : State} (hw : ∀ d ∈ tables_1, d.before a0 Z = true) : ((Jvm.Cond.superclass "java/lang/Integer" "java/lang/Number") : Jvm.Cond).before a0 Z = true := hw _ (List.mem_of_getElem? (i := 107) rfl)
theorem w108 {a0 : Array Value} {Z : State} (hw : ∀ d ∈ tables_1, d.before a0 Z = true) : ((Jvm.Cond.superclass "java/lang/Number" "java/lang/Object") : Jvm.Cond).before a0 Z = true := hw _ (List.mem_of_getElem? (i := 108) rfl)
theorem w109 {a0 : Array Value} {Z : State} (hw : ∀ d ∈ tables_1, d.before a0 Z = true) : ((Jvm.Cond.noSuperclass "java/lang/Object") : Jvm.Cond).before a0 Z = true := hw _ (List.mem_of_getElem? (i := 109) rfl)
theorem w110 {a0 : Array Value} {Z : State} (hw : ∀ d ∈ tables_1, d.before a0 Z = true) : ((Jvm.Cond.superclass "java/lang/String" "java/lang/Object") : Jvm.Cond).before a0 Z = true := hw _ (List.mem_of_getElem? (i := 110) rfl)
theorem w111 {a0 : Array Value} {Z : State} (hw : ∀ d ∈ tables_1, d.before a0 Z = true) : ((Jvm.Cond.classLink "java/lang/Integer" (1 : Nat) "java/lang/Integer") : Jvm.Cond).before a0 Z = true := hw _ (List.mem_of_getElem? (i := 111) rfl)
theorem w112 {a0 : Array Value} {Z : State} (hw : ∀ d ∈ tables_1, d.before a0 Z = true) : ((Jvm.Cond.instantiable "java/lang/Integer" (1 : Nat)) : Jvm.Cond).before a0 Z = true := hw _ (List.mem_of_getElem? (i := 112) rfl)
theorem w113 {a0 : Array Value} {Z : State} (hw : ∀ d ∈ tables_1, d.before a0 Z = true) : ((Jvm.Cond.methodLink "java/lang/Integer" (199 : Nat) ({ cls := "java/lang/Integer", name := "<init>", desc := "(I)V" } : Jvm.MethodName)) : Jvm.Cond).before a0 Z = true := hw _ (List.mem_of_getElem? (i := 113) rfl)
theorem w114 {a0 : Array Value} {Z : State} (hw : ∀ d ∈ tables_1, d.before a0 Z = true) : ((Jvm.Cond.instanceMethod ({ cls := "java/lang/Integer", name := "<init>", desc := "(I)V" } : Jvm.MethodName)) : Jvm.Cond).before a0 Z = true := hw _ (List.mem_of_getElem? (i := 114) rfl)
theorem w116 {a0 : Array Value} {Z : State} (hw : ∀ d ∈ tables_1, d.before a0 Z = true) : ((Jvm.Cond.code ({ cls := "java/lang/Integer", name := "<init>", desc := "(I)V" } : Jvm.MethodName) jdk_33_method_23_code (2 : Nat) (Option.none : Option Jvm.ClassFile.FieldType)) : Jvm.Cond).before a0 Z = true := hw _ (List.mem_of_getElem? (i := 116) rfl)
theorem w117 {a0 : Array Value} {Z : State} (hw : ∀ d ∈ tables_1, d.before a0 Z = true) : ((Jvm.Cond.methodLink "java/lang/Integer" (202 : Nat) ({ cls := "java/lang/Number", name := "<init>", desc := "()V" } : Jvm.MethodName)) : Jvm.Cond).before a0 Z = true := hw _ (List.mem_of_getElem? (i := 117) rfl)
theorem w118 {a0 : Array Value} {Z : State} (hw : ∀ d ∈ tables_1, d.before a0 Z = true) : ((Jvm.Cond.instanceMethod ({ cls := "java/lang/Number", name := "<init>", desc := "()V" } : Jvm.MethodName)) : Jvm.Cond).before a0 Z = true := hw _ (List.mem_of_getElem? (i := 118) rfl)
theorem w121 {a0 : Array Value} {Z : State} (hw : ∀ d ∈ tables_1, d.before a0 Z = true) : ((Jvm.Cond.initialized "java/lang/Number") : Jvm.Cond).before a0 Z = true := hw _ (List.mem_of_getElem? (i := 121) rfl)
theorem w122 {a0 : Array Value} {Z : State} (hw : ∀ d ∈ tables_1, d.before a0 Z = true) : ((Jvm.Cond.code ({ cls := "java/lang/Number", name := "<init>", desc := "()V" } : Jvm.MethodName) jdk_18_method_1_code (1 : Nat) (Option.none : Option Jvm.ClassFile.FieldType)) : Jvm.Cond).before a0 Z = true := hw _ (List.mem_of_getElem? (i := 122) rfl)
theorem w123 {a0 : Array Value} {Z : State} (hw : ∀ d ∈ tables_1, d.before a0 Z = true) : ((Jvm.Cond.methodLink "java/lang/Number" (1 : Nat) ({ cls := "java/lang/Object", name := "<init>", desc := "()V" } : Jvm.MethodName)) : Jvm.Cond).before a0 Z = true := hw _ (List.mem_of_getElem? (i := 123) rfl)
theorem w124 {a0 : Array Value} {Z : State} (hw : ∀ d ∈ tables_1, d.before a0 Z = true) : ((Jvm.Cond.fieldLink "java/lang/Integer" (205 : Nat) "java/lang/Integer" "value" "I") : Jvm.Cond).before a0 Z = true := hw _ (List.mem_of_getElem? (i := 124) rfl)
theorem w125 {a0 : Array Value} {Z : State} (hw : ∀ d ∈ tables_1, d.before a0 Z = true) : ((Jvm.Cond.laysFinal "java/lang/Integer" "java/lang/Integer" "value" "I") : Jvm.Cond).before a0 Z = true := hw _ (List.mem_of_getElem? (i := 125) rfl)
def OwnGoW (p : Program) (e : Env) (below : List Frame) (s : State) (Q : Option Value → Heap → List Loc → Prop) (K N : Nat) (U : State) : Prop :=
  ∃ t o, Steps p.tables e below U t ∧ t.status = .running ∧ Ended t below o ∧ ∃ v L, o = .returned v ∧ Q v t.heap L ∧ ReturnedEndW s o t L K N
section OwnKitW
variable {p : Program} {l : Launch} {e : Env} {R : Room} {s : State} {vm0 : Vm} {m : MethodId} {args : Array Value} {below : List Frame} {meth : Method} {c : Code} {T : State} {locs : List Loc} {cells slots : Nat} {Q : Option Value → Heap → List Loc → Prop} {K N k0 : Nat} {U U' : State} {h : Heap}
theorem own_onW (st : ∀ t, Steps p.tables e below U' t → Steps p.tables e below U t) (k : OwnGoW p e below s Q K N U') : OwnGoW p e below s Q K N U := by
  obtain ⟨t, o, h1, r⟩ := k; exact ⟨t, o, st t h1, r⟩
theorem own_trW (st : Steps p.tables e below U U') (k : OwnGoW p e below s Q K N U') : OwnGoW p e below s Q K N U := own_onW (fun _ q => st.trans q) k
theorem own_castW {g g' : JFrame} (q : g = g') (k : OwnGoW p e below s Q K N (T.setTop g')) : OwnGoW p e below s Q K N (T.setTop g) := q ▸ k
theorem own_endW (X : Stand p l e R (s.setVm vm0) m args below meth c T locs cells slots) (hlk : meth.locks = false) {v : Option Value} (hv : meth.sig.returnType = none → v = none) (eT : T.heap = h) (q : Q v h locs) (hk : cells ≤ K) (hn : slots ≤ N) (hS : s.Since vm0 k0) (hk0 : k0 ≤ T.heap.size)
    (st : ∀ fs, (∀ (f : JFrame) (acts : List Action), f.method = m → f.locked = none → f.entered = [] → (doReturn e (T.setTop f) acts v).1 = T.setFrames fs) → Steps p.tables e below U (T.setFrames fs)) : OwnGoW p e below s Q K N U := by
  obtain ⟨fs, hr, hrun, hended, ⟨h1, h2, h3, h4⟩⟩ := X.leaveW hS hk0 (v := v) hv hlk
  refine ⟨_, _, st fs hr, hrun, hended, v, locs, rfl, ?_, h1, h2, h3, h4.mono hk hn⟩
  have : (T.setFrames fs).heap = h := eT
  rw [this]; exact q
theorem own_retNW (X : Stand p l e R (s.setVm vm0) m args below meth c T locs cells slots) (hx : p.tables.exec = Jvm.exec) (hlk : meth.locks = false) {pc : Nat} {Ls : Array Slot} {z : Int32} {t : FieldType} {rest : List Value} (hret : meth.sig.returnType = some t) (ht : t = .boolean ∨ t = .byte ∨ t = .char ∨ t = .short)
    (hd : decode c.code pc = .ok (.ireturn, 1)) (eT : T.heap = h) (q : Q (some (.int (nar t z))) h locs) (hk : cells ≤ K) (hn : slots ≤ N) (hS : s.Since vm0 k0) (hk0 : k0 ≤ T.heap.size) : OwnGoW p e below s Q K N (T.setTop (mkF m pc Ls (.int z :: rest))) :=
  own_endW X hlk (fun h => by rw [hret] at h; cases h) eT q hk hn hS hk0 fun fs hr => retN X hx hret ht hd hr
theorem own_retIW (X : Stand p l e R (s.setVm vm0) m args below meth c T locs cells slots) (hx : p.tables.exec = Jvm.exec) (hlk : meth.locks = false) {pc : Nat} {Ls : Array Slot} {z : Int32} {rest : List Value} (hret : meth.sig.returnType = some .int)
    (hd : decode c.code pc = .ok (.ireturn, 1)) (eT : T.heap = h) (q : Q (some (.int z)) h locs) (hk : cells ≤ K) (hn : slots ≤ N) (hS : s.Since vm0 k0) (hk0 : k0 ≤ T.heap.size) : OwnGoW p e below s Q K N (T.setTop (mkF m pc Ls (.int z :: rest))) :=
  own_endW X hlk (fun h => by rw [hret] at h; cases h) eT q hk hn hS hk0 fun fs hr => retI X hx hret hd hr
theorem own_retAW (X : Stand p l e R (s.setVm vm0) m args below meth c T locs cells slots) (hx : p.tables.exec = Jvm.exec) (hlk : meth.locks = false) {pc : Nat} {Ls : Array Slot} {w : Value} {t : FieldType} {rest : List Value} (hret : meth.sig.returnType = some t) (ht : t.isReference = true) (hw : w.isRef = true)
    (hd : decode c.code pc = .ok (.areturn, 1)) (eT : T.heap = h) (q : Q (some w) h locs) (hk : cells ≤ K) (hn : slots ≤ N) (hS : s.Since vm0 k0) (hk0 : k0 ≤ T.heap.size) : OwnGoW p e below s Q K N (T.setTop (mkF m pc Ls (w :: rest))) :=
  own_endW X hlk (fun h => by rw [hret] at h; cases h) eT q hk hn hS hk0 fun fs hr => retOut X hx hret (by rcases ref_cases hw with rfl | ⟨a, rfl⟩ <;> cases t <;> rfl) (Or.inr (Or.inr (Or.inr (Or.inr ⟨rfl, ht, hw⟩)))) hd hr
theorem own_retVW (X : Stand p l e R (s.setVm vm0) m args below meth c T locs cells slots) (hx : p.tables.exec = Jvm.exec) (hlk : meth.locks = false) {pc : Nat} {Ls : Array Slot} (hret : meth.sig.returnType = none)
    (hd : decode c.code pc = .ok (.return_, 1)) (eT : T.heap = h) (q : Q none h locs) (hk : cells ≤ K) (hn : slots ≤ N) (hS : s.Since vm0 k0) (hk0 : k0 ≤ T.heap.size) : OwnGoW p e below s Q K N (T.setTop (mkF m pc Ls [])) :=
  own_endW X hlk (fun _ => rfl) eT q hk hn hS hk0 fun fs hr => X.returnOut hx hret hd hr
end OwnKitW

def OwnGoJ (p : Program) (e : Env) (below : List Frame) (s : State) (Q : Option Value → Vm → Heap → List Loc → Prop) (K N : Nat) (U : State) : Prop :=
  ∃ t o, Steps p.tables e below U t ∧ t.status = .running ∧ Ended t below o ∧ ∃ v L, o = .returned v ∧ Q v t.vm t.heap L ∧ ReturnedEndW s o t L K N
section OwnKitJ
variable {p : Program} {l : Launch} {e : Env} {R : Room} {s Z : State} {a0 : Array Value} {vm0 : Vm} {m : MethodId} {args : Array Value} {below : List Frame} {meth : Method} {c : Code} {T : State} {locs : List Loc} {cells slots : Nat} {Q : Option Value → Vm → Heap → List Loc → Prop} {K N k0 : Nat} {U U' : State} {h : Heap}
theorem own_onJ (st : ∀ t, Steps p.tables e below U' t → Steps p.tables e below U t) (k : OwnGoJ p e below s Q K N U') : OwnGoJ p e below s Q K N U := by
  obtain ⟨t, o, h1, r⟩ := k; exact ⟨t, o, st t h1, r⟩
theorem own_trJ (st : Steps p.tables e below U U') (k : OwnGoJ p e below s Q K N U') : OwnGoJ p e below s Q K N U := own_onJ (fun _ q => st.trans q) k
theorem own_castJ {g g' : JFrame} (q : g = g') (k : OwnGoJ p e below s Q K N (T.setTop g')) : OwnGoJ p e below s Q K N (T.setTop g) := q ▸ k
theorem own_endJ (X : Stand p l e R (s.setVm vm0) m args below meth c T locs cells slots) (hlk : meth.locks = false) {v : Option Value} (hv : meth.sig.returnType = none → v = none) (eT : T.heap = h) (q : Q v T.vm h locs) (hk : cells ≤ K) (hn : slots ≤ N) (hS : s.Since vm0 k0) (hk0 : k0 ≤ T.heap.size)
    (st : ∀ fs, (∀ (f : JFrame) (acts : List Action), f.method = m → f.locked = none → f.entered = [] → (doReturn e (T.setTop f) acts v).1 = T.setFrames fs) → Steps p.tables e below U (T.setFrames fs)) : OwnGoJ p e below s Q K N U := by
  obtain ⟨fs, hr, hrun, hended, ⟨h1, h2, h3, h4⟩⟩ := X.leaveW hS hk0 (v := v) hv hlk
  refine ⟨_, _, st fs hr, hrun, hended, v, locs, rfl, ?_, h1, h2, h3, h4.mono hk hn⟩
  have : (T.setFrames fs).heap = h := eT
  rw [this]; exact q
theorem own_retNJ (X : Stand p l e R (s.setVm vm0) m args below meth c T locs cells slots) (hx : p.tables.exec = Jvm.exec) (hlk : meth.locks = false) {pc : Nat} {Ls : Array Slot} {z : Int32} {t : FieldType} {rest : List Value} (hret : meth.sig.returnType = some t) (ht : t = .boolean ∨ t = .byte ∨ t = .char ∨ t = .short)
    (hd : decode c.code pc = .ok (.ireturn, 1)) (eT : T.heap = h) (q : Q (some (.int (nar t z))) T.vm h locs) (hk : cells ≤ K) (hn : slots ≤ N) (hS : s.Since vm0 k0) (hk0 : k0 ≤ T.heap.size) : OwnGoJ p e below s Q K N (T.setTop (mkF m pc Ls (.int z :: rest))) :=
  own_endJ X hlk (fun h => by rw [hret] at h; cases h) eT q hk hn hS hk0 fun fs hr => retN X hx hret ht hd hr
theorem own_retAJ (X : Stand p l e R (s.setVm vm0) m args below meth c T locs cells slots) (hx : p.tables.exec = Jvm.exec) (hlk : meth.locks = false) {pc : Nat} {Ls : Array Slot} {w : Value} {t : FieldType} {rest : List Value} (hret : meth.sig.returnType = some t) (ht : t.isReference = true) (hw : w.isRef = true)
    (hd : decode c.code pc = .ok (.areturn, 1)) (eT : T.heap = h) (q : Q (some w) T.vm h locs) (hk : cells ≤ K) (hn : slots ≤ N) (hS : s.Since vm0 k0) (hk0 : k0 ≤ T.heap.size) : OwnGoJ p e below s Q K N (T.setTop (mkF m pc Ls (w :: rest))) :=
  own_endJ X hlk (fun h => by rw [hret] at h; cases h) eT q hk hn hS hk0 fun fs hr => retOut X hx hret (by rcases ref_cases hw with rfl | ⟨a, rfl⟩ <;> cases t <;> rfl) (Or.inr (Or.inr (Or.inr (Or.inr ⟨rfl, ht, hw⟩)))) hd hr
theorem own_retVJ (X : Stand p l e R (s.setVm vm0) m args below meth c T locs cells slots) (hx : p.tables.exec = Jvm.exec) (hlk : meth.locks = false) {pc : Nat} {Ls : Array Slot} (hret : meth.sig.returnType = none)
    (hd : decode c.code pc = .ok (.return_, 1)) (eT : T.heap = h) (q : Q none T.vm h locs) (hk : cells ≤ K) (hn : slots ≤ N) (hS : s.Since vm0 k0) (hk0 : k0 ≤ T.heap.size) : OwnGoJ p e below s Q K N (T.setTop (mkF m pc Ls [])) :=
  own_endJ X hlk (fun _ => rfl) eT q hk hn hS hk0 fun fs hr => X.returnOut hx hret hd hr
theorem own_backJ {J : Vm → Prop} {y : MethodName} {bytes : ByteArray} {maxL : Nat} {ret : Option FieldType} {rm : Room} {len W : Nat} {as' : Array Value}
    (hM : MetFree l y (head1 [Cond.code y bytes maxL ret] rm) (fun a U => a = as' ∧ Z.Warmed39 U.vm ∧ U.heap = h ∧ J U.vm) (fun _ _ _ _ _ => True) (fun _ U o U' => ∃ v L, o = .returned v ∧ Q v U'.vm U'.heap L ∧ ReturnedEndW U o U' L rm.cells rm.slots))
    (hZ : Z.Warmed39 s.vm) (wc : (Cond.code y bytes maxL ret).before a0 Z = true) (wz : (Cond.initialized y.cls).before a0 Z = true) (hf : rm.frames + 1 ≤ R.frames) (hl : W + (maxL + 11) + rm.locals ≤ R.locals) :
    BackS l R p e below s args y len W (fun A a => a = as' ∧ A.U.heap = h ∧ J A.U.vm ∧ A.cells + rm.cells ≤ R.cells ∧ A.slots + rm.slots ≤ R.slots)
      (fun A _ v B => ∃ L, Q v B.U.vm B.U.heap L ∧ B.locs = A.locs ++ L ∧ B.cells = A.cells + rm.cells ∧ B.slots = A.slots + rm.slots) := by
  refine BackS.of_freeW (bytes := bytes) (maxL := maxL) (ret := ret) (E := fun _ _ o t L k n => k = rm.cells ∧ n = rm.slots ∧ ∃ v, o = .returned v ∧ Q v t.vm t.heap L) hM hf hl ?_ ?_ ?_ ?_ ?_
  · intro m meth c A a Y hp
    have hU : Z.Warmed39 A.U.vm := wtrans hZ Y.warmed
    refine ⟨?_, mv hU wc, mv hU wz, hp.2.2.2.1, hp.2.2.2.2⟩
    show (Cond.and _ .tt).before a A.U = true
    rw [Cond.before_and, mv hU wc]; rfl
  · intro m meth c A a g mk Y hp; exact ⟨hp.1, wtrans hZ Y.warmed, hp.2.1, hp.2.2.1⟩
  · intros; trivial
  · rintro _ _ _ _ ⟨v, L, h1, h2, h3⟩; exact ⟨L, _, _, h3, rfl, rfl, v, h1, h2⟩
  · rintro m meth c A a g mk v t L k n Y hp _ _ ⟨e1, e2, v', e3, e4⟩
    cases e3; subst e1 e2; exact ⟨L, e4, rfl, rfl, rfl⟩
end OwnKitJ

theorem own_ib {Z s : State} {vm1 : Vm} {Ts : List String} (I : IB Z s.vm Ts) (h : s.WarmedH vm1) : IB Z vm1 Ts := by
  obtain ⟨more, e, r⟩ := I; exact ⟨more, by rw [h.interned_eq]; exact e, r⟩
theorem own_i2c (x : Int32) : (x &&& (255 : Int32)).toUInt32.toUInt16.toUInt32.toInt32 = x &&& (255 : Int32) := by
  apply Int32.toBitVec_inj.mp
  simp only [UInt32.toBitVec_toInt32, UInt16.toBitVec_toUInt32, UInt32.toBitVec_toUInt16, Int32.toBitVec_toUInt32, Int32.toBitVec_and]
  have e : (255 : Int32).toBitVec = 255#32 := rfl
  rw [e]; generalize x.toBitVec = y
  apply BitVec.eq_of_toNat_eq
  have : (y &&& 255#32).toNat ≤ 255 := by rw [BitVec.toNat_and]; exact Nat.and_le_right
  simp only [BitVec.toNat_setWidth]; omega
theorem own_chr (x : Int32) : nar .char ((x &&& (255 : Int32)).toUInt32.toUInt16.toUInt32.toInt32) = x &&& (255 : Int32) ∧ nar .char (x &&& (255 : Int32)) = x &&& (255 : Int32) :=
  ⟨by simp only [nar, own_i2c], by simp only [nar, own_i2c]⟩
theorem own_shr0 (z : Int32) : z >>> ((0 : Int32) &&& 31) = z := by
  have : ((0 : Int32) &&& 31) = 0 := by decide
  rw [this]; simp
def own_isz (z : Int32) : Int32 := if z = 0 then 1 else 0
def OwnS (Z : State) (h : Heap) (x : Addr) (cs : List Int32) : Prop := ∃ (t : Addr) (kb : ClassId) (N2 : Int32) (vs : List Value), Exa Z h x "java/lang/String" ∧ Fld Z h x "java/lang/String" "coder" "B" (.int (0 : Int32)) ∧ Fld Z h x "java/lang/String" "value" "[B" (.ref t) ∧ Arv Z h t kb .byte N2 vs (.int (0 : Int32)) ∧ StrChars.Road.CodA cs 0 N2 vs ∧ (∀ c ∈ cs, ¬ c < 0 ∧ ¬ (65535 : Int32) < c) ∧ cs.length ≤ 4000
def OwnObj (Z : State) (a0 : Array Value) (h : Heap) (w : Addr) : Prop := ∃ (C : String) (n : Nat), Exa Z h w C ∧ (Cond.instantiable C n).before a0 Z = true
section OwnStr
variable {Z : State} {a0 : Array Value} {h h' : Heap} {x a : Addr} {cs : List Int32} {sl : Nat} {v : Value} {ws : List Addr}
theorem OwnS.exa (F : OwnS Z h x cs) : Exa Z h x "java/lang/String" := by obtain ⟨t, kb, N2, vs, h1, -⟩ := F; exact h1
theorem OwnS.ext (F : OwnS Z h x cs) (E : Ext h h') : OwnS Z h' x cs := by obtain ⟨t, kb, N2, vs, h1, h2, h3, h4, r⟩ := F; exact ⟨t, kb, N2, vs, h1.ext E, h2.ext E, h3.ext E, h4.ext E, r⟩
theorem OwnS.keep (F : OwnS Z h x cs) (K : Keep h h' ws) (q : x ∉ ws) (o : ∀ w ∈ ws, OwnObj Z a0 h w) : OwnS Z h' x cs := by
  obtain ⟨t, kb, N2, vs, h1, h2, h3, h4, r⟩ := F
  have ht : t ∉ ws := fun z => by obtain ⟨C, n, e, w⟩ := o t z; exact Exa.neArv e h4 w rfl
  exact ⟨t, kb, N2, vs, h1.keep K, h2.keep K q, h3.keep K q, h4.keep K ht, r⟩
theorem OwnS.other (F : OwnS Z h x cs) (W : Wr h h' a sl v) (q : x ≠ a) (o : OwnObj Z a0 h a) : OwnS Z h' x cs :=
  F.keep (Keep.of_wr W) (ninS q nin0) (allS o all0)
end OwnStr
def own_e (cs ds : List Int32) : Int32 := if cs = ds then 1 else 0
theorem own_lt {c : Int32} (h : (65535 : Int32) < c) : (255 : Int32) < c := by
  rw [Int32.lt_iff_toInt_lt] at h ⊢; simp only [Int32.reduceToInt] at h ⊢; omega
theorem own_wnew {Z : State} {a0 : Array Value} (hw : ∀ d ∈ tables_1, d.before a0 Z = true) : ∀ d ∈ StrChars.Road.words, d.before a0 Z = true := fun d hd => hw d ((by decide +kernel : ∀ d ∈ StrChars.Road.words, d ∈ tables_1) d hd)
theorem own_newS {p : Program} {l : Launch} {e : Env} {R : Room} {s : State} {args : Array Value} {below : List Frame} {W : Nat} {Z : State} {a0 : Array Value} {h : Heap} {n0 : Nat} (hZ : Z.Warmed39 s.vm) (hw : ∀ d ∈ tables_1, d.before a0 Z = true) {x b : Addr} {kC : ClassId} {cs : List Int32} {d v0 c0 : Value} {z N : Int32} {n : Nat}
    (hx0 : n0 ≤ x) (hh0 : n0 ≤ h.size) (E : Exa Z h x "java/lang/String") (V : Fld Z h x "java/lang/String" "value" "[B" v0) (C : Fld Z h x "java/lang/String" "coder" "B" c0) (K : Arv Z h b kC .char N (cs.map Value.int) d) (O : Old Z n0 h) (S : Sta Z Z.heap "java/lang/String" "COMPACT_STRINGS" "Z" (.int z)) (hz : ¬ z = 0)
    (hn : cs.length = n) (hN : N = Int32.ofNat n) (l0 : 0 < n) (l2 : n ≤ 4000) (hp : ∀ c ∈ cs, ¬ c < 0 ∧ ¬ (255 : Int32) < c) (hfr : 4 ≤ R.frames) (hlo : W + 65 ≤ R.locals) :
    Back l R p e below s args (⟨"java/lang/String", "<init>", "([C)V"⟩ : MethodName) 3 W (fun P a => a = #[.ref x, .ref b] ∧ P.U.heap = h ∧ P.cells + 1 ≤ R.cells ∧ P.slots + n ≤ R.slots)
      (fun P _ v B => ∃ L, (v = none ∧ Fr n0 L ∧ Keep h B.U.heap [x] ∧ Exa Z B.U.heap x "java/lang/String" ∧ OwnS Z B.U.heap x cs) ∧ B.locs = P.locs ++ L ∧ B.cells = P.cells + 1 ∧ B.slots = P.slots + n) := by
  refine Back.mono (StrChars.Road.backV hZ (own_wnew hw) (kI := 4) (w6 hw) hx0 hh0 E V C K (S.ext O.2) hz hn hN l0 l2 hp rfl hfr hlo) (fun P a hp => hp) (fun P a v B hq' hq => ?_)
  obtain ⟨L, ⟨q1, q2, q3, q4, q5, t, kb, q6, q7, q8, q9, q10⟩, r⟩ := hq
  refine ⟨L, ⟨q1, q2, q3, q4, t, kb, N, _, q4, q5, q9, q10, ?_, fun c hc => ⟨(hp c hc).1, fun q => (hp c hc).2 (own_lt q)⟩, by omega⟩, r⟩
  exact Or.inl ⟨rfl, by rw [hn]; exact hN, by rw [List.map_map]; rfl, fun c hc => (hp c hc).2⟩

theorem own_wlen {Z : State} {a0 : Array Value} (hw : ∀ d ∈ tables_1, d.before a0 Z = true) : ∀ d ∈ StrChars.Road.wordsLen, d.before a0 Z = true := fun d hd => hw d ((by decide +kernel : ∀ d ∈ StrChars.Road.wordsLen, d ∈ tables_1) d hd)
theorem own_lenS {p : Program} {l : Launch} {e : Env} {R : Room} {s : State} {args : Array Value} {below : List Frame} {W : Nat} {Z : State} {a0 : Array Value} {h : Heap} {n0 : Nat} (hZ : Z.Warmed39 s.vm) (hw : ∀ d ∈ tables_1, d.before a0 Z = true) {x : Addr} {cs : List Int32} {z : Int32}
    (A : OwnS Z h x cs) (O : Old Z n0 h) (S : Sta Z Z.heap "java/lang/String" "COMPACT_STRINGS" "Z" (.int z)) (hz : ¬ z = 0) (hfr : 2 ≤ R.frames) (hlo : W + 25 ≤ R.locals) :
    Back l R p e below s args (⟨"java/lang/String", "length", "()I"⟩ : MethodName) 3 W (fun P a => a = #[.ref x] ∧ P.U.heap = h ∧ P.cells + 0 ≤ R.cells ∧ P.slots + 0 ≤ R.slots)
      (fun P _ v B => ∃ L, (v = some (.int (Int32.ofNat cs.length)) ∧ Fr n0 L ∧ B.U.heap = h) ∧ B.locs = P.locs ++ L ∧ B.cells = P.cells + 0 ∧ B.slots = P.slots + 0) := by
  obtain ⟨t, kb, N2, vs, a1, a2, a3, a4, a5, a6, a7⟩ := A
  refine Back.mono (StrChars.Road.lenW hZ (own_wlen hw) (kI := 4) (w6 hw) a1 a3 a2 a4 a5 a6 (S.ext O.2) hz a7 hfr hlo) (fun P a hp => hp) (fun P a v B hp hq => ?_)
  obtain ⟨L, ⟨q, rfl, qh⟩, r⟩ := hq
  exact ⟨[], ⟨q, Fr.nil _, qh⟩, r⟩

theorem own_wch {Z : State} {a0 : Array Value} (hw : ∀ d ∈ tables_1, d.before a0 Z = true) : ∀ d ∈ StrChars.Road.wordsChN, d.before a0 Z = true := fun d hd => hw d ((by decide +kernel : ∀ d ∈ StrChars.Road.wordsChN, d ∈ tables_1) d hd)
theorem own_chS {p : Program} {l : Launch} {e : Env} {R : Room} {s : State} {args : Array Value} {below : List Frame} {W : Nat} {Z : State} {a0 : Array Value} {h : Heap} {n0 : Nat} (hZ : Z.Warmed39 s.vm) (hw : ∀ d ∈ tables_1, d.before a0 Z = true) {x : Addr} {cs : List Int32} {z j : Int32} {i : Nat} {fm : Value}
    (A : OwnS Z h x cs) (O : Old Z n0 h) (S : Sta Z Z.heap "java/lang/String" "COMPACT_STRINGS" "Z" (.int z)) (hz : ¬ z = 0) (F : Sta Z Z.heap "jdk/internal/util/Preconditions" "SIOOBE_FORMATTER" "Ljava/util/function/BiFunction;" fm) (rf : fm.isRef = true) (hi : i < cs.length) (hj : j = Int32.ofNat i) (hfr : 4 ≤ R.frames) (hlo : W + 53 ≤ R.locals) :
    Back l R p e below s args (⟨"java/lang/String", "charAt", "(I)C"⟩ : MethodName) 3 W (fun P a => a = #[.ref x, .int j] ∧ P.U.heap = h ∧ P.cells + 0 ≤ R.cells ∧ P.slots + 0 ≤ R.slots)
      (fun P _ v B => ∃ L, (v = some (.int (cs.getD i 0)) ∧ Fr n0 L ∧ B.U.heap = h) ∧ B.locs = P.locs ++ L ∧ B.cells = P.cells + 0 ∧ B.slots = P.slots + 0) := by
  obtain ⟨t, kb, N2, vs, a1, a2, a3, a4, a5, a6, a7⟩ := A
  refine Back.mono (StrChars.Road.chN hZ (own_wch hw) (kI := 4) (w6 hw) a1 a3 a2 a4 a5 a6 (S.ext O.2) hz (F.ext O.2) rf a7 hi hj hfr hlo) (fun P a hp => hp) (fun P a v B hp hq => ?_)
  obtain ⟨L, ⟨q, rfl, qh⟩, r⟩ := hq
  exact ⟨[], ⟨q, Fr.nil _, qh⟩, r⟩

def OwnCache (Z : State) (ca : Addr) : Prop := ∃ cl : Cell, Arr Z Z.heap ca cl (.object "java/lang/Integer") ∧ cl.slots.size = 256 ∧ ∀ j, j < 256 → ∃ r, cl.slots[j]? = some (.ref r) ∧ Exa Z Z.heap r "java/lang/Integer"
theorem own_cj (k : Int32) (h1 : ¬ k < -128) (h2 : ¬ 127 < k) : (k + 128).toNatClampNeg < 256 ∧ ¬ ((k + 128) < 0 ∨ 256 ≤ (k + 128).toNatClampNeg) :=
  ⟨(Jvm.Free.IntBox.place_ok k h1 h2).2, (Jvm.Free.IntBox.place_ok k h1 h2).1⟩
theorem own_ns_root {Z : State} {a0 : Array Value} {O K : String} {n : Nat} (w : (Cond.noSuperclass O).before a0 Z = true) (wk : (Cond.instantiable K n).before a0 Z = true) (hn : O ≠ K) : NS Z O K := by
  obtain ⟨c, k, h1, h2, h3, -, -⟩ := Cond.noSuperclass_spec w
  obtain ⟨t, kt, g1, -⟩ := Cond.instantiable_spec wk
  refine ⟨c, t, h1, g1, fun fuel => ?_⟩
  cases fuel with
  | zero => rfl
  | succ f => simp [Vm.isSubclassAux, ids_ne h1 g1 hn, h2, h3]
theorem own_no {Z : State} {a0 : Array Value} {C S K : String} {n : Nat} (w : (Cond.superclass C S).before a0 Z = true) (wk : (Cond.instantiable K n).before a0 Z = true) (q : NS Z C K) (hn : C ≠ K) : ∃ c t, Z.vm.findClass C = some c ∧ Z.vm.findClass K = some t ∧ Z.vm.assignable c t = false := by
  obtain ⟨c, t, h0, g0, n3⟩ := q
  obtain ⟨p, k, kp, h1, h2, h3, h4, h5, -, h7⟩ := Cond.superclass_spec h0 w
  obtain ⟨t', k', g1, g2, g5, g6, -⟩ := Cond.instantiable_spec wk
  cases g0.symm.trans g1
  have g7 : k'.isInterface = false := by simp only [Bool.or_eq_false_iff] at g6; exact g6.1
  refine ⟨c, t, h0, g0, ?_⟩
  show Z.vm.assignableAux (255 + 1) c t = false
  simp [Vm.assignableAux, ids_ne h0 g0 hn, h2, g2, h5, g5, g7, Vm.isSubclass, n3]
theorem own_cache {s : State} {args : Array Value} {ca : Addr} (hf : Fit s) (ev : (Term.static "java/lang/Integer$IntegerCache" "cache" "[Ljava/lang/Integer;").eval args s none [] s = some (.ref ca))
    (h4 : (Cond.arrayOf (Term.static "java/lang/Integer$IntegerCache" "cache" "[Ljava/lang/Integer;") (.object "java/lang/Integer")).before args s = true)
    (h6 : (Cond.eq (.length (Term.static "java/lang/Integer$IntegerCache" "cache" "[Ljava/lang/Integer;")) (.int 256)).before args s = true)
    (h7 : (Cond.all (Term.static "java/lang/Integer$IntegerCache" "cache" "[Ljava/lang/Integer;") (.and (.exactly (.elem (Term.static "java/lang/Integer$IntegerCache" "cache" "[Ljava/lang/Integer;") (.index 0)) "java/lang/Integer") (.eq (.field (.elem (Term.static "java/lang/Integer$IntegerCache" "cache" "[Ljava/lang/Integer;") (.index 0)) "java/lang/Integer" "value" "I") (.sub (.index 0) (.int 128))))).before args s = true) : OwnCache s ca := by
  obtain ⟨cl, A⟩ := Arr.start ev (Cond.before_iff.mp h4)
  have hA := A.fin (Vm.Alike.refl _)
  obtain ⟨q1, q2⟩ := Jvm.Free.IntBox.length_fwd h6 ev A.1 A.2.1 A.2.2
  have hsz : cl.slots.size = 256 := by
    have q3 := len_toInt q1
    rw [q2] at q3; have q4 : (256 : Int32).toInt = 256 := rfl
    omega
  refine ⟨cl, A, hsz, fun j hj => ?_⟩
  have h := Cond.all_elim ev hA (Cond.before_iff.mp h7) j (by omega)
  obtain ⟨h1, -⟩ := and_e h
  obtain ⟨x, c', cell, k, e1, e2, e3, e4, e5, e6, e7⟩ := Cond.exactly_spec (beq_iff_eq.mpr h1 : (Cond.exactly _ _).holds args s none s [j] = true)
  have ev' : (Term.static "java/lang/Integer$IntegerCache" "cache" "[Ljava/lang/Integer;").eval args s none [j] s = some (.ref ca) := ev
  have r := (elem_in e1 ev' (j := j.toInt32) (by simp [Term.eval]) A.1).2
  have e : j.toInt32.toNatClampNeg = j := by simp only [Int32.toNatClampNeg, len_toInt (show j < 2 ^ 31 by omega)]; rfl
  rw [e] at r; subst e6
  exact ⟨x, r, cell, k, e3, e2, e4, e5, e7⟩
theorem own_str {Z : State} {a0 : Array Value} (hw : ∀ d ∈ tables_1, d.before a0 Z = true) : ∀ a ∈ Bundle.stringAtoms, a.before a0 Z = true := fun d hd => hw d (by
  simp only [Bundle.stringAtoms, Bundle.sN, List.mem_cons, List.not_mem_nil, or_false] at hd
  rcases hd with rfl | rfl | rfl | rfl | rfl | rfl | rfl <;> (simp [tables_1]))
theorem own_nz {t : Term} {args : Array Value} {s : State} {z : Int32} (ev : t.eval args s none [] s = some (.int z)) (h : (Cond.not (Cond.eq t (.int 0))).value args s none s [] = some true) : ¬ (z = (0 : Int32)) := by
  have h1 := not_v h
  rintro rfl
  simp [Cond.value, Term.eval, ev] at h1
theorem own_eqi {t : Term} {args : Array Value} {s : State} {n : Int32} (h : (Cond.eq t (.int n)).value args s none s [] = some true) : t.eval args s none [] s = some (.int n) := by
  simp only [Cond.value, Term.eval] at h
  cases ht : t.eval args s none [] s with
  | none => simp [ht] at h
  | some x => cases x <;> simp [ht] at h ⊢; exact h
theorem own_wide {Z s : State} {vm1 : Vm} (hW : s.WarmedH vm1) : (Z.setVm s.vm).Warmed39 vm1 := by
  exact hW.wide
def OwnLd (Z : State) (vm : Vm) (h : Heap) : Prop := IB Z vm [] ∨ ∃ (x t : Addr) (kb : ClassId), Lit (Z.setVm vm) "java/lang/String" 7 x ∧ Exa Z h x "java/lang/String" ∧ Fld Z h x "java/lang/String" "coder" "B" (.int (0 : Int32)) ∧ Fld Z h x "java/lang/String" "value" "[B" (.ref t) ∧ Arv Z h t kb .byte (0 : Int32) [] (.int (0 : Int32))
theorem OwnLd.warm {Z s : State} {vm1 : Vm} {h : Heap} (F : OwnLd Z s.vm h) (hW : s.WarmedH vm1) : OwnLd Z vm1 h := by
  rcases F with F | ⟨x, t, kb, L, r⟩
  · exact Or.inl (own_ib F hW)
  · exact Or.inr ⟨x, t, kb, Lit.stays (s := Z) (vm0 := s.vm) (vm1 := vm1) L (own_wide hW), r⟩
theorem OwnLd.ext {Z : State} {vm : Vm} {h h' : Heap} (F : OwnLd Z vm h) (E : Ext h h') : OwnLd Z vm h' := by
  rcases F with F | ⟨x, t, kb, L, a, b, c, d⟩
  · exact Or.inl F
  · exact Or.inr ⟨x, t, kb, L, a.ext E, b.ext E, c.ext E, d.ext E⟩
theorem OwnLd.keep {Z : State} {vm : Vm} {h h' : Heap} (F : OwnLd Z vm h) (K : Keep h h' []) : OwnLd Z vm h' := by
  rcases F with F | ⟨x, t, kb, L, a, b, c, d⟩
  · exact Or.inl F
  · exact Or.inr ⟨x, t, kb, L, a.keep K, b.keep K nin0, c.keep K nin0, d.keep K nin0⟩
def own_fvc (c : Int32) : Int32 := if c = 9 then 1 else if c < 32 then 0 else if c = 127 then 0 else if 255 < c then 0 else 1
def own_pc (k : Int32) : Int32 := if (k &&& (255 : Int32)) < 32 then 120 else if (k &&& (255 : Int32)) = 127 then 120 else (k &&& (255 : Int32))
def own_ph (v z : Int32) : List Int32 := if z = 0 then [own_pc v, own_pc (v >>> ((8 : Int32) &&& 31))] else []
def own_eqc (x y : Int32) : Int32 := if x = y then 1 else 0
theorem own_pcr (k : Int32) : ¬ own_pc k < 0 ∧ ¬ (255 : Int32) < own_pc k := by
  have := c_and k 255 (by decide); simp only [Int32.reduceToInt] at this
  unfold own_pc; split
  · decide
  · split
    · decide
    · simp only [Int32.lt_iff_toInt_lt]; simp only [Int32.reduceToInt]; omega
theorem own_pcn (k : Int32) : nar .char (own_pc k) = own_pc k := by
  have h := own_pcr k; have := c_i2c (own_pc k); simp only [Int32.lt_iff_toInt_lt] at h; simp only [Int32.reduceToInt] at h
  simp only [nar]; apply Int32.toInt_inj.mp; omega
theorem own_pcf (k : Int32) : own_fvc (own_pc k) = 1 := by
  have h := c_and k 255 (by decide); simp only [Int32.reduceToInt] at h
  unfold own_pc; split
  · decide
  · rename_i h1; split
    · decide
    · rename_i h2
      have e0 : ∀ x y : Int32, x = y ↔ x.toInt = y.toInt := fun x y => Int32.toInt_inj.symm
      simp only [own_fvc, e0, Int32.lt_iff_toInt_lt] at *; simp only [Int32.reduceToInt] at *
      rw [if_neg (by omega), if_neg (by omega), if_neg (by omega), if_neg (by omega)]; rfl
def own_okl (cl : List Int32) : Prop := cl = [] ∨ ∃ c1 c2, cl = [c1, c2] ∧ own_fvc c1 = 1 ∧ own_fvc c2 = 1
theorem own_oph (v z : Int32) : own_okl (own_ph v z) := by
  unfold own_ph; split
  · exact Or.inr ⟨_, _, rfl, own_pcf _, own_pcf _⟩
  · exact Or.inl rfl
theorem own_rng (x : Int32) : ¬ ((100 : Int32) + ((x &&& (2147483647 : Int32)) % (900 : Int32))) < (100 : Int32) ∧ ¬ (999 : Int32) < ((100 : Int32) + ((x &&& (2147483647 : Int32)) % (900 : Int32))) := by
  have h1 := c_and x 2147483647 (by decide); have h2 := (c_irem (x &&& (2147483647 : Int32)) 900 900 (by decide)).1 h1.1; have h3 := c_iadd 100 ((x &&& (2147483647 : Int32)) % (900 : Int32)); have h4 := rng32 ((100 : Int32) + ((x &&& (2147483647 : Int32)) % (900 : Int32)))
  simp only [Int32.lt_iff_toInt_lt]; simp only [Int32.reduceToInt] at *; omega
theorem own_noI {Z : State} {a0 : Array Value} (hw : ∀ d ∈ tables_1, d.before a0 Z = true) : ∃ c t, Z.vm.findClass "java/lang/Integer" = some c ∧ Z.vm.findClass "io/loomwire/handler/codec/http/HttpResponseStatus" = some t ∧ Z.vm.assignable c t = false :=
  own_no (w107 hw) (w42 hw) (NS.step (w107 hw) (NS.step (w108 hw) (own_ns_root (w109 hw) (w42 hw) (by decide)) (by decide)) (by decide)) (by decide)
theorem own_noS {Z : State} {a0 : Array Value} (hw : ∀ d ∈ tables_1, d.before a0 Z = true) : ∃ c t, Z.vm.findClass "java/lang/String" = some c ∧ Z.vm.findClass "io/loomwire/handler/codec/http/HttpResponseStatus" = some t ∧ Z.vm.assignable c t = false :=
  own_no (w110 hw) (w42 hw) (NS.step (w110 hw) (own_ns_root (w109 hw) (w42 hw) (by decide)) (by decide)) (by decide)
theorem d18_0 : decode prog_12_method_21_code 0 = .ok (.iload_n 0, 1) := by decide +kernel
theorem d18_1 : decode prog_12_method_21_code 1 = .ok (.bipush 9, 2) := by decide +kernel
theorem d18_3 : decode prog_12_method_21_code 3 = .ok (.if_icmp .eq 22, 3) := by decide +kernel
theorem d18_25 : decode prog_12_method_21_code 25 = .ok (.iconst 1, 1) := by decide +kernel
theorem d18_26 : decode prog_12_method_21_code 26 = .ok (.goto 4, 3) := by decide +kernel
theorem d18_30 : decode prog_12_method_21_code 30 = .ok (.ireturn, 1) := by decide +kernel
theorem d18_6 : decode prog_12_method_21_code 6 = .ok (.iload_n 0, 1) := by decide +kernel
theorem d18_7 : decode prog_12_method_21_code 7 = .ok (.bipush 32, 2) := by decide +kernel
theorem d18_9 : decode prog_12_method_21_code 9 = .ok (.if_icmp .lt 20, 3) := by decide +kernel
theorem d18_29 : decode prog_12_method_21_code 29 = .ok (.iconst 0, 1) := by decide +kernel
theorem d18_12 : decode prog_12_method_21_code 12 = .ok (.iload_n 0, 1) := by decide +kernel
theorem d18_13 : decode prog_12_method_21_code 13 = .ok (.bipush 127, 2) := by decide +kernel
theorem d18_15 : decode prog_12_method_21_code 15 = .ok (.if_icmp .eq 14, 3) := by decide +kernel
theorem d18_18 : decode prog_12_method_21_code 18 = .ok (.iload_n 0, 1) := by decide +kernel
theorem d18_19 : decode prog_12_method_21_code 19 = .ok (.sipush 255, 3) := by decide +kernel
theorem d18_22 : decode prog_12_method_21_code 22 = .ok (.if_icmp .gt 7, 3) := by decide +kernel
theorem pn_0 : plainName "io/loomwire/handler/codec/http/HttpHeaders" = true := by first | (simp [plainName, overriddenIn]; done) | decide +kernel
theorem d5_0 : decode method_2_code 0 = .ok (.iload_n 0, 1) := by decide +kernel
theorem d5_1 : decode method_2_code 1 = .ok (.sipush 255, 3) := by decide +kernel
theorem d5_4 : decode method_2_code 4 = .ok (.iand, 1) := by decide +kernel
theorem d5_5 : decode method_2_code 5 = .ok (.istore_n 1, 1) := by decide +kernel
theorem d5_6 : decode method_2_code 6 = .ok (.iload_n 1, 1) := by decide +kernel
theorem d5_7 : decode method_2_code 7 = .ok (.bipush 32, 2) := by decide +kernel
theorem d5_9 : decode method_2_code 9 = .ok (.if_icmp .lt 9, 3) := by decide +kernel
theorem d5_18 : decode method_2_code 18 = .ok (.bipush 120, 2) := by decide +kernel
theorem d5_20 : decode method_2_code 20 = .ok (.ireturn, 1) := by decide +kernel
theorem d5_12 : decode method_2_code 12 = .ok (.iload_n 1, 1) := by decide +kernel
theorem d5_13 : decode method_2_code 13 = .ok (.bipush 127, 2) := by decide +kernel
theorem d5_15 : decode method_2_code 15 = .ok (.if_icmp .ne 6, 3) := by decide +kernel
theorem d5_21 : decode method_2_code 21 = .ok (.iload_n 1, 1) := by decide +kernel
theorem d5_22 : decode method_2_code 22 = .ok (.i2c, 1) := by decide +kernel
theorem d5_23 : decode method_2_code 23 = .ok (.ireturn, 1) := by decide +kernel
theorem pn_1 : plainName "io/loomwire/handler/codec/http/HttpResponseStatusEqualsPinLaw" = true := by first | (simp [plainName, overriddenIn]; done) | decide +kernel
theorem d3_0 : decode jdk_42_method_149_code 0 = .ok (.aload_n 0, 1) := by decide +kernel
theorem d3_1 : decode jdk_42_method_149_code 1 = .ok (.invokespecial 1, 3) := by decide +kernel
theorem d3_4 : decode jdk_42_method_149_code 4 = .ok (.iload_n 3, 1) := by decide +kernel
theorem d3_5 : decode jdk_42_method_149_code 5 = .ok (.ifCond .ne 22, 3) := by decide +kernel
theorem d3_8 : decode jdk_42_method_149_code 8 = .ok (.aload_n 0, 1) := by decide +kernel
theorem d3_9 : decode jdk_42_method_149_code 9 = .ok (.ldc 7, 2) := by decide +kernel
theorem d3_11 : decode jdk_42_method_149_code 11 = .ok (.getfield 9, 3) := by decide +kernel
theorem d3_14 : decode jdk_42_method_149_code 14 = .ok (.putfield 9, 3) := by decide +kernel
theorem d3_17 : decode jdk_42_method_149_code 17 = .ok (.aload_n 0, 1) := by decide +kernel
theorem d3_18 : decode jdk_42_method_149_code 18 = .ok (.ldc 7, 2) := by decide +kernel
theorem d3_20 : decode jdk_42_method_149_code 20 = .ok (.getfield 15, 3) := by decide +kernel
theorem d3_23 : decode jdk_42_method_149_code 23 = .ok (.putfield 15, 3) := by decide +kernel
theorem d3_26 : decode jdk_42_method_149_code 26 = .ok (.return_, 1) := by decide +kernel
theorem pn_2 : plainName "java/lang/String" = true := by first | (simp [plainName, overriddenIn]; done) | decide +kernel
theorem d2_0 : decode jdk_42_method_3_code 0 = .ok (.aload_n 0, 1) := by decide +kernel
theorem d2_1 : decode jdk_42_method_3_code 1 = .ok (.aload_n 1, 1) := by decide +kernel
theorem d2_2 : decode jdk_42_method_3_code 2 = .ok (.iconst 0, 1) := by decide +kernel
theorem d2_3 : decode jdk_42_method_3_code 3 = .ok (.aload_n 1, 1) := by decide +kernel
theorem d2_4 : decode jdk_42_method_3_code 4 = .ok (.arraylength, 1) := by decide +kernel
theorem d2_5 : decode jdk_42_method_3_code 5 = .ok (.aconst_null, 1) := by decide +kernel
theorem d2_6 : decode jdk_42_method_3_code 6 = .ok (.invokespecial 27, 3) := by decide +kernel
theorem pd_0 : parseMethodDescriptor "([CIILjava/lang/Void;)V" = some ⟨[(.array .char), .int, .int, (.object "java/lang/Void")], none⟩ := by decide +kernel
theorem d2_9 : decode jdk_42_method_3_code 9 = .ok (.return_, 1) := by decide +kernel
theorem d1_0 : decode method_3_code 0 = .ok (.iload_n 1, 1) := by decide +kernel
theorem d1_1 : decode method_3_code 1 = .ok (.ifCond .eq 14, 3) := by decide +kernel
theorem d1_15 : decode method_3_code 15 = .ok (.iconst 2, 1) := by decide +kernel
theorem d1_16 : decode method_3_code 16 = .ok (.newarray .char, 2) := by decide +kernel
theorem d1_18 : decode method_3_code 18 = .ok (.astore_n 2, 1) := by decide +kernel
theorem d1_19 : decode method_3_code 19 = .ok (.aload_n 2, 1) := by decide +kernel
theorem d1_20 : decode method_3_code 20 = .ok (.iconst 0, 1) := by decide +kernel
theorem d1_21 : decode method_3_code 21 = .ok (.iload_n 0, 1) := by decide +kernel
theorem d1_22 : decode method_3_code 22 = .ok (.invokestatic 12, 3) := by decide +kernel
theorem pd_1 : parseMethodDescriptor "(I)C" = some ⟨[.int], some .char⟩ := by decide +kernel
theorem d1_25 : decode method_3_code 25 = .ok (.castore, 1) := by decide +kernel
theorem d1_26 : decode method_3_code 26 = .ok (.aload_n 2, 1) := by decide +kernel
theorem d1_27 : decode method_3_code 27 = .ok (.iconst 1, 1) := by decide +kernel
theorem d1_28 : decode method_3_code 28 = .ok (.iload_n 0, 1) := by decide +kernel
theorem d1_29 : decode method_3_code 29 = .ok (.bipush 8, 2) := by decide +kernel
theorem d1_31 : decode method_3_code 31 = .ok (.ishr, 1) := by decide +kernel
theorem d1_32 : decode method_3_code 32 = .ok (.invokestatic 12, 3) := by decide +kernel
theorem d1_35 : decode method_3_code 35 = .ok (.castore, 1) := by decide +kernel
theorem d1_36 : decode method_3_code 36 = .ok (.new 7, 3) := by decide +kernel
theorem d1_39 : decode method_3_code 39 = .ok (.dup, 1) := by decide +kernel
theorem d1_40 : decode method_3_code 40 = .ok (.aload_n 2, 1) := by decide +kernel
theorem d1_41 : decode method_3_code 41 = .ok (.invokespecial 9, 3) := by decide +kernel
theorem pd_2 : parseMethodDescriptor "([C)V" = some ⟨[(.array .char)], none⟩ := by decide +kernel
theorem d1_44 : decode method_3_code 44 = .ok (.areturn, 1) := by decide +kernel
theorem d1_4 : decode method_3_code 4 = .ok (.new 7, 3) := by decide +kernel
theorem d1_7 : decode method_3_code 7 = .ok (.dup, 1) := by decide +kernel
theorem d1_8 : decode method_3_code 8 = .ok (.iconst 0, 1) := by decide +kernel
theorem d1_9 : decode method_3_code 9 = .ok (.newarray .char, 2) := by decide +kernel
theorem d1_11 : decode method_3_code 11 = .ok (.invokespecial 9, 3) := by decide +kernel
theorem d1_14 : decode method_3_code 14 = .ok (.areturn, 1) := by decide +kernel
theorem d10_0 : decode jdk_31_method_11_code 0 = .ok (.aload_n 0, 1) := by decide +kernel
theorem d10_1 : decode jdk_31_method_11_code 1 = .ok (.ifnonnull 12, 3) := by decide +kernel
theorem d10_13 : decode jdk_31_method_11_code 13 = .ok (.aload_n 0, 1) := by decide +kernel
theorem d10_14 : decode jdk_31_method_11_code 14 = .ok (.areturn, 1) := by decide +kernel
theorem pn_3 : plainName "java/util/Objects" = true := by first | (simp [plainName, overriddenIn]; done) | decide +kernel
theorem d9_0 : decode prog_19_method_1_code 0 = .ok (.aload_n 0, 1) := by decide +kernel
theorem d9_1 : decode prog_19_method_1_code 1 = .ok (.invokespecial 1, 3) := by decide +kernel
theorem d9_4 : decode prog_19_method_1_code 4 = .ok (.iload_n 1, 1) := by decide +kernel
theorem d9_5 : decode prog_19_method_1_code 5 = .ok (.bipush 100, 2) := by decide +kernel
theorem d9_7 : decode prog_19_method_1_code 7 = .ok (.if_icmp .lt 10, 3) := by decide +kernel
theorem d9_10 : decode prog_19_method_1_code 10 = .ok (.iload_n 1, 1) := by decide +kernel
theorem d9_11 : decode prog_19_method_1_code 11 = .ok (.sipush 999, 3) := by decide +kernel
theorem d9_14 : decode prog_19_method_1_code 14 = .ok (.if_icmp .le 17, 3) := by decide +kernel
theorem d9_31 : decode prog_19_method_1_code 31 = .ok (.aload_n 2, 1) := by decide +kernel
theorem d9_32 : decode prog_19_method_1_code 32 = .ok (.ldc 16, 2) := by decide +kernel
theorem d9_34 : decode prog_19_method_1_code 34 = .ok (.invokestatic 18, 3) := by decide +kernel
theorem pd_3 : parseMethodDescriptor "(Ljava/lang/Object;Ljava/lang/String;)Ljava/lang/Object;" = some ⟨[(.object "java/lang/Object"), (.object "java/lang/String")], some (.object "java/lang/Object")⟩ := by decide +kernel
theorem d9_37 : decode prog_19_method_1_code 37 = .ok (.pop, 1) := by decide +kernel
theorem d9_38 : decode prog_19_method_1_code 38 = .ok (.iconst 0, 1) := by decide +kernel
theorem d9_39 : decode prog_19_method_1_code 39 = .ok (.istore_n 3, 1) := by decide +kernel
theorem d9_40 : decode prog_19_method_1_code 40 = .ok (.iload_n 3, 1) := by decide +kernel
theorem d9_41 : decode prog_19_method_1_code 41 = .ok (.aload_n 2, 1) := by decide +kernel
theorem d9_42 : decode prog_19_method_1_code 42 = .ok (.invokevirtual 24, 3) := by decide +kernel
theorem pd_4 : parseMethodDescriptor "()I" = some ⟨[], some .int⟩ := by decide +kernel
theorem d9_45 : decode prog_19_method_1_code 45 = .ok (.if_icmp .ge 34, 3) := by decide +kernel
theorem d9_79 : decode prog_19_method_1_code 79 = .ok (.aload_n 0, 1) := by decide +kernel
theorem d9_80 : decode prog_19_method_1_code 80 = .ok (.iload_n 1, 1) := by decide +kernel
theorem d9_81 : decode prog_19_method_1_code 81 = .ok (.putfield 43, 3) := by decide +kernel
theorem d9_84 : decode prog_19_method_1_code 84 = .ok (.aload_n 0, 1) := by decide +kernel
theorem d9_85 : decode prog_19_method_1_code 85 = .ok (.aload_n 2, 1) := by decide +kernel
theorem d9_86 : decode prog_19_method_1_code 86 = .ok (.putfield 49, 3) := by decide +kernel
theorem d9_89 : decode prog_19_method_1_code 89 = .ok (.return_, 1) := by decide +kernel
theorem d9_48 : decode prog_19_method_1_code 48 = .ok (.aload_n 2, 1) := by decide +kernel
theorem d9_49 : decode prog_19_method_1_code 49 = .ok (.iload_n 3, 1) := by decide +kernel
theorem d9_50 : decode prog_19_method_1_code 50 = .ok (.invokevirtual 30, 3) := by decide +kernel
theorem d9_53 : decode prog_19_method_1_code 53 = .ok (.invokestatic 34, 3) := by decide +kernel
theorem pd_5 : parseMethodDescriptor "(I)Z" = some ⟨[.int], some .boolean⟩ := by decide +kernel
theorem d9_56 : decode prog_19_method_1_code 56 = .ok (.ifCond .ne 17, 3) := by decide +kernel
theorem d9_73 : decode prog_19_method_1_code 73 = .ok (.iinc 3 1, 3) := by decide +kernel
theorem d9_76 : decode prog_19_method_1_code 76 = .ok (.goto (-36), 3) := by decide +kernel
theorem pn_4 : plainName "io/loomwire/handler/codec/http/HttpResponseStatus" = true := by first | (simp [plainName, overriddenIn]; done) | decide +kernel
theorem d19_0 : decode prog_19_method_6_code 0 = .ok (.aload_n 1, 1) := by decide +kernel
theorem d19_1 : decode prog_19_method_6_code 1 = .ok (.instanceof 44, 3) := by decide +kernel
theorem d19_4 : decode prog_19_method_6_code 4 = .ok (.ifCond .eq 23, 3) := by decide +kernel
theorem d19_7 : decode prog_19_method_6_code 7 = .ok (.aload_n 1, 1) := by decide +kernel
theorem d19_8 : decode prog_19_method_6_code 8 = .ok (.checkcast 44, 3) := by decide +kernel
theorem d19_11 : decode prog_19_method_6_code 11 = .ok (.astore_n 2, 1) := by decide +kernel
theorem d19_12 : decode prog_19_method_6_code 12 = .ok (.aload_n 0, 1) := by decide +kernel
theorem d19_13 : decode prog_19_method_6_code 13 = .ok (.getfield 43, 3) := by decide +kernel
theorem d19_16 : decode prog_19_method_6_code 16 = .ok (.aload_n 2, 1) := by decide +kernel
theorem d19_17 : decode prog_19_method_6_code 17 = .ok (.getfield 43, 3) := by decide +kernel
theorem d19_20 : decode prog_19_method_6_code 20 = .ok (.if_icmp .ne 7, 3) := by decide +kernel
theorem d19_23 : decode prog_19_method_6_code 23 = .ok (.iconst 1, 1) := by decide +kernel
theorem d19_24 : decode prog_19_method_6_code 24 = .ok (.goto 4, 3) := by decide +kernel
theorem d19_28 : decode prog_19_method_6_code 28 = .ok (.ireturn, 1) := by decide +kernel
theorem d19_27 : decode prog_19_method_6_code 27 = .ok (.iconst 0, 1) := by decide +kernel
theorem d22_0 : decode jdk_18_method_1_code 0 = .ok (.aload_n 0, 1) := by decide +kernel
theorem d22_1 : decode jdk_18_method_1_code 1 = .ok (.invokespecial 1, 3) := by decide +kernel
theorem d22_4 : decode jdk_18_method_1_code 4 = .ok (.return_, 1) := by decide +kernel
theorem pn_5 : plainName "java/lang/Number" = true := by first | (simp [plainName, overriddenIn]; done) | decide +kernel
theorem d21_0 : decode jdk_33_method_23_code 0 = .ok (.aload_n 0, 1) := by decide +kernel
theorem d21_1 : decode jdk_33_method_23_code 1 = .ok (.invokespecial 202, 3) := by decide +kernel
theorem pd_6 : parseMethodDescriptor "()V" = some ⟨[], none⟩ := by decide +kernel
theorem d21_4 : decode jdk_33_method_23_code 4 = .ok (.aload_n 0, 1) := by decide +kernel
theorem d21_5 : decode jdk_33_method_23_code 5 = .ok (.iload_n 1, 1) := by decide +kernel
theorem d21_6 : decode jdk_33_method_23_code 6 = .ok (.putfield 205, 3) := by decide +kernel
theorem d21_9 : decode jdk_33_method_23_code 9 = .ok (.return_, 1) := by decide +kernel
theorem pn_6 : plainName "java/lang/Integer" = true := by first | (simp [plainName, overriddenIn]; done) | decide +kernel
theorem d20_0 : decode jdk_33_method_22_code 0 = .ok (.iload_n 0, 1) := by decide +kernel
theorem d20_1 : decode jdk_33_method_22_code 1 = .ok (.bipush (-128), 2) := by decide +kernel
theorem d20_3 : decode jdk_33_method_22_code 3 = .ok (.if_icmp .lt 20, 3) := by decide +kernel
theorem d20_23 : decode jdk_33_method_22_code 23 = .ok (.new 1, 3) := by decide +kernel
theorem d20_26 : decode jdk_33_method_22_code 26 = .ok (.dup, 1) := by decide +kernel
theorem d20_27 : decode jdk_33_method_22_code 27 = .ok (.iload_n 0, 1) := by decide +kernel
theorem d20_28 : decode jdk_33_method_22_code 28 = .ok (.invokespecial 199, 3) := by decide +kernel
theorem pd_7 : parseMethodDescriptor "(I)V" = some ⟨[.int], none⟩ := by decide +kernel
theorem d20_31 : decode jdk_33_method_22_code 31 = .ok (.areturn, 1) := by decide +kernel
theorem d20_6 : decode jdk_33_method_22_code 6 = .ok (.iload_n 0, 1) := by decide +kernel
theorem d20_7 : decode jdk_33_method_22_code 7 = .ok (.getstatic 191, 3) := by decide +kernel
theorem d20_10 : decode jdk_33_method_22_code 10 = .ok (.if_icmp .gt 13, 3) := by decide +kernel
theorem d20_13 : decode jdk_33_method_22_code 13 = .ok (.getstatic 195, 3) := by decide +kernel
theorem d20_16 : decode jdk_33_method_22_code 16 = .ok (.iload_n 0, 1) := by decide +kernel
theorem d20_17 : decode jdk_33_method_22_code 17 = .ok (.sipush 128, 3) := by decide +kernel
theorem d20_20 : decode jdk_33_method_22_code 20 = .ok (.iadd, 1) := by decide +kernel
theorem d20_21 : decode jdk_33_method_22_code 21 = .ok (.aaload, 1) := by decide +kernel
theorem d20_22 : decode jdk_33_method_22_code 22 = .ok (.areturn, 1) := by decide +kernel
theorem pd_8 : parseMethodDescriptor "(IZ)Ljava/lang/String;" = some ⟨[.int, .boolean], some (.object "java/lang/String")⟩ := by decide +kernel
theorem pd_9 : parseMethodDescriptor "(ILjava/lang/String;)V" = some ⟨[.int, (.object "java/lang/String")], none⟩ := by decide +kernel
theorem pd_10 : parseMethodDescriptor "(Ljava/lang/Object;)Z" = some ⟨[(.object "java/lang/Object")], some .boolean⟩ := by decide +kernel
theorem pd_11 : parseMethodDescriptor "(I)Ljava/lang/Integer;" = some ⟨[.int], some (.object "java/lang/Integer")⟩ := by decide +kernel
theorem ef_18 (m : MethodId) (k : Int32)  : entryFrame m #[(.int k)] 1 = mkF m 0 #[.val (.int k)] [] := by first | (simp [entryFrame, mkF, argsToLocals, Value.category]; done) | rfl
def Q18 (Z : State) (k : Int32) (h0 : Heap) (n0 : Nat) (v_ : Option Value) (h_ : Heap) (L_ : List Loc) : Prop := v_ = some (.int (own_fvc k)) ∧ Fr n0 L_ ∧ h_ = h0
set_option maxRecDepth 65536 in
set_option maxHeartbeats 40000000 in
theorem rm18 (l : Launch) (Z : State) (a0 : Array Value) (hw : ∀ d ∈ tables_1, d.before a0 Z = true) (ws : List Jvm.Cond) (k : Int32) (h0 : Heap) (n0 : Nat) (Z0 : n0 ≤ h0.size)  :
    MetFree l (⟨"io/loomwire/handler/codec/http/HttpHeaders", "isFieldValueChar", "(I)Z"⟩ : MethodName) (head1 (Jvm.Cond.code (⟨"io/loomwire/handler/codec/http/HttpHeaders", "isFieldValueChar", "(I)Z"⟩ : MethodName) prog_12_method_21_code 1 (some .boolean) :: ws) ({ frames := 0, cells := 0, slots := 0, locals := 0 } : Room)) (fun A_ U => A_ = #[(.int k)] ∧ Z.Warmed39 U.vm ∧ U.heap = h0) (fun _ _ _ _ _ => True) (fun _ U_ o_ U'_ => ∃ v_ L_, o_ = .returned v_ ∧ Q18 Z k h0 n0 v_ U'_.heap L_ ∧ FrameEnd U_ o_ U'_ L_ ({ frames := 0, cells := 0, slots := 0, locals := 0 } : Room).cells ({ frames := 0, cells := 0, slots := 0, locals := 0 } : Room).slots) := by
  refine MetFree.of_bodySF (plainFor_of_name pn_0) hisR ?_
  intro p e s m args below meth c s₁ Bd hml0 hP hK
  obtain ⟨rfl, hZ, hh⟩ := hP
  have hx := Bd.exec
  have hby := Bd.bytes
  have hml : c.maxLocals = 1 := hml0
  have hown : s.vm.findClass "io/loomwire/handler/codec/http/HttpHeaders" = some m.cls := findClass_of_methodNamed Bd.named
  have hnm := (name_of_methodNamed Bd.named Bd.method).1
  have hlk : meth.locks = false := Bd.notSynchronized
  have X0 : Stand p l e ({ frames := 0, cells := 0, slots := 0, locals := 0 } : Room) s m #[(.int k)] below meth c s₁ [] 0 0 := Stand.of_body Bd
  have e0 : s₁.heap = h0 := by rw [← hh, Bd.state]; rfl
  have N0 := Fr.nil n0
  have K0 : Keep h0 h0 [] := Keep.refl _ _
  refine own_cast (ef_18 m k) ?_
  show OwnGo p e below s (Q18 Z k h0 n0) ({ frames := 0, cells := 0, slots := 0, locals := 0 } : Room).cells ({ frames := 0, cells := 0, slots := 0, locals := 0 } : Room).slots (s₁.setTop (mkF m 0 #[.val (.int k)] []))
  refine own_on (fun t_ k_ => XS.iloadN X0.here hx rfl (hb hby d18_0) rfl k_) ?_
  show OwnGo p e below s _ _ _ (s₁.setTop (mkF m 1 #[.val (.int k)] [(.int k)]))
  refine own_on (fun t_ k_ => XS.bipush X0.here hx rfl (hb hby d18_1) k_) ?_
  show OwnGo p e below s _ _ _ (s₁.setTop (mkF m 3 #[.val (.int k)] [(.int (9 : Int32)), (.int k)]))
  by_cases q0 : k = (9 : Int32)
  · refine own_on (fun t_ k_ => XS.icmpYes X0.here hx rfl (pc0 := 3) (pc' := 25) rfl (hb hby d18_3) rfl (teq q0).1 (by decide) (by decide) k_) ?_
    show OwnGo p e below s _ _ _ (s₁.setTop (mkF m 25 #[.val (.int k)] []))
    refine own_on (fun t_ k_ => XS.iconst X0.here hx rfl (hb hby d18_25) k_) ?_
    show OwnGo p e below s _ _ _ (s₁.setTop (mkF m 26 #[.val (.int k)] [(.int (1 : Int32))]))
    refine own_on (fun t_ k_ => XS.goto X0.here hx rfl (pc0 := 26) (pc' := 30) rfl (hb hby d18_26) (by decide) (by decide) k_) ?_
    show OwnGo p e below s _ _ _ (s₁.setTop (mkF m 30 #[.val (.int k)] [(.int (1 : Int32))]))
    exact own_retN X0 hx hlk (t := .boolean) Bd.returns (by simp) (hb hby d18_30) e0 ⟨(congrArg (fun z => some (Value.int z)) (by simp [own_fvc, nar, *])), N0, rfl⟩ (by decide) (by decide)
  · refine own_on (fun t_ k_ => XS.icmpNo X0.here hx rfl (hb hby d18_3) rfl (feq q0).1 k_) ?_
    show OwnGo p e below s _ _ _ (s₁.setTop (mkF m 6 #[.val (.int k)] []))
    refine own_on (fun t_ k_ => XS.iloadN X0.here hx rfl (hb hby d18_6) rfl k_) ?_
    show OwnGo p e below s _ _ _ (s₁.setTop (mkF m 7 #[.val (.int k)] [(.int k)]))
    refine own_on (fun t_ k_ => XS.bipush X0.here hx rfl (hb hby d18_7) k_) ?_
    show OwnGo p e below s _ _ _ (s₁.setTop (mkF m 9 #[.val (.int k)] [(.int (32 : Int32)), (.int k)]))
    by_cases q1 : k < (32 : Int32)
    · refine own_on (fun t_ k_ => XS.icmpYes X0.here hx rfl (pc0 := 9) (pc' := 29) rfl (hb hby d18_9) rfl (tlt q1).1 (by decide) (by decide) k_) ?_
      show OwnGo p e below s _ _ _ (s₁.setTop (mkF m 29 #[.val (.int k)] []))
      refine own_on (fun t_ k_ => XS.iconst X0.here hx rfl (hb hby d18_29) k_) ?_
      show OwnGo p e below s _ _ _ (s₁.setTop (mkF m 30 #[.val (.int k)] [(.int (0 : Int32))]))
      exact own_retN X0 hx hlk (t := .boolean) Bd.returns (by simp) (hb hby d18_30) e0 ⟨(congrArg (fun z => some (Value.int z)) (by simp [own_fvc, nar, *])), N0, rfl⟩ (by decide) (by decide)
    · refine own_on (fun t_ k_ => XS.icmpNo X0.here hx rfl (hb hby d18_9) rfl (flt q1).1 k_) ?_
      show OwnGo p e below s _ _ _ (s₁.setTop (mkF m 12 #[.val (.int k)] []))
      refine own_on (fun t_ k_ => XS.iloadN X0.here hx rfl (hb hby d18_12) rfl k_) ?_
      show OwnGo p e below s _ _ _ (s₁.setTop (mkF m 13 #[.val (.int k)] [(.int k)]))
      refine own_on (fun t_ k_ => XS.bipush X0.here hx rfl (hb hby d18_13) k_) ?_
      show OwnGo p e below s _ _ _ (s₁.setTop (mkF m 15 #[.val (.int k)] [(.int (127 : Int32)), (.int k)]))
      by_cases q2 : k = (127 : Int32)
      · refine own_on (fun t_ k_ => XS.icmpYes X0.here hx rfl (pc0 := 15) (pc' := 29) rfl (hb hby d18_15) rfl (teq q2).1 (by decide) (by decide) k_) ?_
        show OwnGo p e below s _ _ _ (s₁.setTop (mkF m 29 #[.val (.int k)] []))
        refine own_on (fun t_ k_ => XS.iconst X0.here hx rfl (hb hby d18_29) k_) ?_
        show OwnGo p e below s _ _ _ (s₁.setTop (mkF m 30 #[.val (.int k)] [(.int (0 : Int32))]))
        exact own_retN X0 hx hlk (t := .boolean) Bd.returns (by simp) (hb hby d18_30) e0 ⟨(congrArg (fun z => some (Value.int z)) (by simp [own_fvc, nar, *])), N0, rfl⟩ (by decide) (by decide)
      · refine own_on (fun t_ k_ => XS.icmpNo X0.here hx rfl (hb hby d18_15) rfl (feq q2).1 k_) ?_
        show OwnGo p e below s _ _ _ (s₁.setTop (mkF m 18 #[.val (.int k)] []))
        refine own_on (fun t_ k_ => XS.iloadN X0.here hx rfl (hb hby d18_18) rfl k_) ?_
        show OwnGo p e below s _ _ _ (s₁.setTop (mkF m 19 #[.val (.int k)] [(.int k)]))
        refine own_on (fun t_ k_ => XS.sipush X0.here hx rfl (hb hby d18_19) k_) ?_
        show OwnGo p e below s _ _ _ (s₁.setTop (mkF m 22 #[.val (.int k)] [(.int (255 : Int32)), (.int k)]))
        by_cases q3 : (255 : Int32) < k
        · refine own_on (fun t_ k_ => XS.icmpYes X0.here hx rfl (pc0 := 22) (pc' := 29) rfl (hb hby d18_22) rfl (tlt q3).2.2.1 (by decide) (by decide) k_) ?_
          show OwnGo p e below s _ _ _ (s₁.setTop (mkF m 29 #[.val (.int k)] []))
          refine own_on (fun t_ k_ => XS.iconst X0.here hx rfl (hb hby d18_29) k_) ?_
          show OwnGo p e below s _ _ _ (s₁.setTop (mkF m 30 #[.val (.int k)] [(.int (0 : Int32))]))
          exact own_retN X0 hx hlk (t := .boolean) Bd.returns (by simp) (hb hby d18_30) e0 ⟨(congrArg (fun z => some (Value.int z)) (by simp [own_fvc, nar, *])), N0, rfl⟩ (by decide) (by decide)
        · refine own_on (fun t_ k_ => XS.icmpNo X0.here hx rfl (hb hby d18_22) rfl (flt q3).2.2.1 k_) ?_
          show OwnGo p e below s _ _ _ (s₁.setTop (mkF m 25 #[.val (.int k)] []))
          refine own_on (fun t_ k_ => XS.iconst X0.here hx rfl (hb hby d18_25) k_) ?_
          show OwnGo p e below s _ _ _ (s₁.setTop (mkF m 26 #[.val (.int k)] [(.int (1 : Int32))]))
          refine own_on (fun t_ k_ => XS.goto X0.here hx rfl (pc0 := 26) (pc' := 30) rfl (hb hby d18_26) (by decide) (by decide) k_) ?_
          show OwnGo p e below s _ _ _ (s₁.setTop (mkF m 30 #[.val (.int k)] [(.int (1 : Int32))]))
          exact own_retN X0 hx hlk (t := .boolean) Bd.returns (by simp) (hb hby d18_30) e0 ⟨(congrArg (fun z => some (Value.int z)) (by simp [own_fvc, nar, *])), N0, rfl⟩ (by decide) (by decide)
theorem ef_5 (m : MethodId) (k : Int32)  : entryFrame m #[(.int k)] 2 = mkF m 0 #[.val (.int k), .unset] [] := by first | (simp [entryFrame, mkF, argsToLocals, Value.category]; done) | rfl
def Q5 (Z : State) (k : Int32) (h0 : Heap) (n0 : Nat) (v_ : Option Value) (h_ : Heap) (L_ : List Loc) : Prop := v_ = some (.int (own_pc k)) ∧ Fr n0 L_ ∧ h_ = h0
set_option maxRecDepth 65536 in
set_option maxHeartbeats 40000000 in
theorem rm5 (l : Launch) (Z : State) (a0 : Array Value) (hw : ∀ d ∈ tables_1, d.before a0 Z = true) (ws : List Jvm.Cond) (k : Int32) (h0 : Heap) (n0 : Nat) (Z0 : n0 ≤ h0.size)  :
    MetFree l (⟨"io/loomwire/handler/codec/http/HttpResponseStatusEqualsPinLaw", "pc", "(I)C"⟩ : MethodName) (head1 (Jvm.Cond.code (⟨"io/loomwire/handler/codec/http/HttpResponseStatusEqualsPinLaw", "pc", "(I)C"⟩ : MethodName) method_2_code 2 (some .char) :: ws) ({ frames := 0, cells := 0, slots := 0, locals := 0 } : Room)) (fun A_ U => A_ = #[(.int k)] ∧ Z.Warmed39 U.vm ∧ U.heap = h0) (fun _ _ _ _ _ => True) (fun _ U_ o_ U'_ => ∃ v_ L_, o_ = .returned v_ ∧ Q5 Z k h0 n0 v_ U'_.heap L_ ∧ FrameEnd U_ o_ U'_ L_ ({ frames := 0, cells := 0, slots := 0, locals := 0 } : Room).cells ({ frames := 0, cells := 0, slots := 0, locals := 0 } : Room).slots) := by
  refine MetFree.of_bodySF (plainFor_of_name pn_1) hisR ?_
  intro p e s m args below meth c s₁ Bd hml0 hP hK
  obtain ⟨rfl, hZ, hh⟩ := hP
  have hx := Bd.exec
  have hby := Bd.bytes
  have hml : c.maxLocals = 2 := hml0
  have hown : s.vm.findClass "io/loomwire/handler/codec/http/HttpResponseStatusEqualsPinLaw" = some m.cls := findClass_of_methodNamed Bd.named
  have hnm := (name_of_methodNamed Bd.named Bd.method).1
  have hlk : meth.locks = false := Bd.notSynchronized
  have X0 : Stand p l e ({ frames := 0, cells := 0, slots := 0, locals := 0 } : Room) s m #[(.int k)] below meth c s₁ [] 0 0 := Stand.of_body Bd
  have e0 : s₁.heap = h0 := by rw [← hh, Bd.state]; rfl
  have N0 := Fr.nil n0
  have K0 : Keep h0 h0 [] := Keep.refl _ _
  refine own_cast (ef_5 m k) ?_
  show OwnGo p e below s (Q5 Z k h0 n0) ({ frames := 0, cells := 0, slots := 0, locals := 0 } : Room).cells ({ frames := 0, cells := 0, slots := 0, locals := 0 } : Room).slots (s₁.setTop (mkF m 0 #[.val (.int k), .unset] []))
  refine own_on (fun t_ k_ => XS.iloadN X0.here hx rfl (hb hby d5_0) rfl k_) ?_
  show OwnGo p e below s _ _ _ (s₁.setTop (mkF m 1 #[.val (.int k), .unset] [(.int k)]))
  refine own_on (fun t_ k_ => XS.sipush X0.here hx rfl (hb hby d5_1) k_) ?_
  show OwnGo p e below s _ _ _ (s₁.setTop (mkF m 4 #[.val (.int k), .unset] [(.int (255 : Int32)), (.int k)]))
  refine own_on (fun t_ k_ => XS.iand X0.here hx rfl (hb hby d5_4) rfl k_) ?_
  show OwnGo p e below s _ _ _ (s₁.setTop (mkF m 5 #[.val (.int k), .unset] [(.int (k &&& (255 : Int32)))]))
  refine own_on (fun t_ k_ => XS.istoreN X0.here hx rfl (hb hby d5_5) rfl (l' := #[.val (.int k), .val (.int (k &&& (255 : Int32)))]) rfl k_) ?_
  show OwnGo p e below s _ _ _ (s₁.setTop (mkF m 6 #[.val (.int k), .val (.int (k &&& (255 : Int32)))] []))
  refine own_on (fun t_ k_ => XS.iloadN X0.here hx rfl (hb hby d5_6) rfl k_) ?_
  show OwnGo p e below s _ _ _ (s₁.setTop (mkF m 7 #[.val (.int k), .val (.int (k &&& (255 : Int32)))] [(.int (k &&& (255 : Int32)))]))
  refine own_on (fun t_ k_ => XS.bipush X0.here hx rfl (hb hby d5_7) k_) ?_
  show OwnGo p e below s _ _ _ (s₁.setTop (mkF m 9 #[.val (.int k), .val (.int (k &&& (255 : Int32)))] [(.int (32 : Int32)), (.int (k &&& (255 : Int32)))]))
  by_cases q0 : (k &&& (255 : Int32)) < (32 : Int32)
  · refine own_on (fun t_ k_ => XS.icmpYes X0.here hx rfl (pc0 := 9) (pc' := 18) rfl (hb hby d5_9) rfl (tlt q0).1 (by decide) (by decide) k_) ?_
    show OwnGo p e below s _ _ _ (s₁.setTop (mkF m 18 #[.val (.int k), .val (.int (k &&& (255 : Int32)))] []))
    refine own_on (fun t_ k_ => XS.bipush X0.here hx rfl (hb hby d5_18) k_) ?_
    show OwnGo p e below s _ _ _ (s₁.setTop (mkF m 20 #[.val (.int k), .val (.int (k &&& (255 : Int32)))] [(.int (120 : Int32))]))
    exact own_retN X0 hx hlk (t := .char) Bd.returns (by simp) (hb hby d5_20) e0 ⟨(congrArg (fun z => some (Value.int z)) (by rw [own_pc, if_pos q0]; rfl)), N0, rfl⟩ (by decide) (by decide)
  · refine own_on (fun t_ k_ => XS.icmpNo X0.here hx rfl (hb hby d5_9) rfl (flt q0).1 k_) ?_
    show OwnGo p e below s _ _ _ (s₁.setTop (mkF m 12 #[.val (.int k), .val (.int (k &&& (255 : Int32)))] []))
    refine own_on (fun t_ k_ => XS.iloadN X0.here hx rfl (hb hby d5_12) rfl k_) ?_
    show OwnGo p e below s _ _ _ (s₁.setTop (mkF m 13 #[.val (.int k), .val (.int (k &&& (255 : Int32)))] [(.int (k &&& (255 : Int32)))]))
    refine own_on (fun t_ k_ => XS.bipush X0.here hx rfl (hb hby d5_13) k_) ?_
    show OwnGo p e below s _ _ _ (s₁.setTop (mkF m 15 #[.val (.int k), .val (.int (k &&& (255 : Int32)))] [(.int (127 : Int32)), (.int (k &&& (255 : Int32)))]))
    by_cases q1 : (k &&& (255 : Int32)) = (127 : Int32)
    · refine own_on (fun t_ k_ => XS.icmpNo X0.here hx rfl (hb hby d5_15) rfl (teq q1).2 k_) ?_
      show OwnGo p e below s _ _ _ (s₁.setTop (mkF m 18 #[.val (.int k), .val (.int (k &&& (255 : Int32)))] []))
      refine own_on (fun t_ k_ => XS.bipush X0.here hx rfl (hb hby d5_18) k_) ?_
      show OwnGo p e below s _ _ _ (s₁.setTop (mkF m 20 #[.val (.int k), .val (.int (k &&& (255 : Int32)))] [(.int (120 : Int32))]))
      exact own_retN X0 hx hlk (t := .char) Bd.returns (by simp) (hb hby d5_20) e0 ⟨(congrArg (fun z => some (Value.int z)) (by rw [own_pc, if_neg q0, if_pos q1]; rfl)), N0, rfl⟩ (by decide) (by decide)
    · refine own_on (fun t_ k_ => XS.icmpYes X0.here hx rfl (pc0 := 15) (pc' := 21) rfl (hb hby d5_15) rfl (feq q1).2 (by decide) (by decide) k_) ?_
      show OwnGo p e below s _ _ _ (s₁.setTop (mkF m 21 #[.val (.int k), .val (.int (k &&& (255 : Int32)))] []))
      refine own_on (fun t_ k_ => XS.iloadN X0.here hx rfl (hb hby d5_21) rfl k_) ?_
      show OwnGo p e below s _ _ _ (s₁.setTop (mkF m 22 #[.val (.int k), .val (.int (k &&& (255 : Int32)))] [(.int (k &&& (255 : Int32)))]))
      refine own_on (fun t_ k_ => XS.i2c X0.here hx rfl (hb hby d5_22) rfl k_) ?_
      show OwnGo p e below s _ _ _ (s₁.setTop (mkF m 23 #[.val (.int k), .val (.int (k &&& (255 : Int32)))] [(.int ((k &&& (255 : Int32)).toUInt32.toUInt16.toUInt32.toInt32))]))
      exact own_retN X0 hx hlk (t := .char) Bd.returns (by simp) (hb hby d5_23) e0 ⟨(congrArg (fun z => some (Value.int z)) (by rw [own_pc, if_neg q0, if_neg q1]; exact (own_chr k).1)), N0, rfl⟩ (by decide) (by decide)
theorem ef_sE (m : MethodId) (a : Addr) (b : Addr)  : entryFrame m #[(.ref a), (.ref b), (.int (0 : Int32)), (.int (0 : Int32)), .null] 6 = mkF m 0 #[.val (.ref a), .val (.ref b), .val (.int (0 : Int32)), .val (.int (0 : Int32)), .val .null, .unset] [] := by first | (simp [entryFrame, mkF, argsToLocals, Value.category]; done) | rfl
def QsE (Z : State) (a : Addr) (b : Addr) (cs : Int32) (u : Value) (h0 : Heap) (n0 : Nat) (v_ : Option Value) (vm_ : Vm) (h_ : Heap) (L_ : List Loc) : Prop := v_ = none ∧ Fr n0 L_ ∧ Keep h0 h_ [a] ∧ (Exa Z h_ a "java/lang/String") ∧ (OwnS Z h_ a []) ∧ (OwnLd Z vm_ h_) ∧ (Old Z n0 h_)
set_option maxRecDepth 65536 in
set_option maxHeartbeats 40000000 in
theorem rmsE (l : Launch) (Z : State) (a0 : Array Value) (hw : ∀ d ∈ tables_1, d.before a0 Z = true) (ws : List Jvm.Cond) (a : Addr) (b : Addr) (cs : Int32) (u : Value) (h0 : Heap) (n0 : Nat) (Z0 : n0 ≤ h0.size) (P0 : Old Z n0 h0) (P1 : Sta Z Z.heap "java/lang/String" "COMPACT_STRINGS" "Z" (.int cs)) (P2 : ¬ (cs = (0 : Int32))) (P3 : Exa Z h0 a "java/lang/String") (P4 : Fld Z h0 a "java/lang/String" "value" "[B" .null) (P5 : Fld Z h0 a "java/lang/String" "coder" "B" u) (P6 : n0 ≤ a) (P7 : Jvm.Lit.constHeld Z "java/lang/String" 7) (P8 : Jvm.Lit.compactW.before a0 Z = true) :
    MetFree l (⟨"java/lang/String", "<init>", "([CIILjava/lang/Void;)V"⟩ : MethodName) (head1 (Jvm.Cond.code (⟨"java/lang/String", "<init>", "([CIILjava/lang/Void;)V"⟩ : MethodName) jdk_42_method_149_code 6 none :: ws) ({ frames := 1, cells := 2, slots := 8, locals := 12 } : Room)) (fun A_ U => A_ = #[(.ref a), (.ref b), (.int (0 : Int32)), (.int (0 : Int32)), .null] ∧ Z.Warmed39 U.vm ∧ U.heap = h0 ∧ OwnLd Z U.vm h0) (fun _ _ _ _ _ => True) (fun _ U_ o_ U'_ => ∃ v_ L_, o_ = .returned v_ ∧ QsE Z a b cs u h0 n0 v_ U'_.vm U'_.heap L_ ∧ ReturnedEndW U_ o_ U'_ L_ ({ frames := 1, cells := 2, slots := 8, locals := 12 } : Room).cells ({ frames := 1, cells := 2, slots := 8, locals := 12 } : Room).slots) := by
  refine MetFree.of_bodySF (plainFor_of_name pn_2) hisR ?_
  intro p e s m args below meth c s₁ Bd hml0 hP hK
  obtain ⟨rfl, hZ, hh, hJ⟩ := hP
  have hx := Bd.exec
  have hby := Bd.bytes
  have hml : c.maxLocals = 6 := hml0
  have hown : s.vm.findClass "java/lang/String" = some m.cls := findClass_of_methodNamed Bd.named
  have hnm := (name_of_methodNamed Bd.named Bd.method).1
  have hlk : meth.locks = false := Bd.notSynchronized
  have X0 : Stand p l e ({ frames := 1, cells := 2, slots := 8, locals := 12 } : Room) s m #[(.ref a), (.ref b), (.int (0 : Int32)), (.int (0 : Int32)), .null] below meth c s₁ [] 0 0 := Stand.of_body Bd
  have e0 : s₁.heap = h0 := by rw [← hh, Bd.state]; rfl
  have N0 := Fr.nil n0
  have K0 : Keep h0 h0 [a] := Keep.refl _ _
  have hJ0 : OwnLd Z (s.setVm s₁.vm).vm h0 := hJ.warm X0.warmed
  have hS0 : s.Since s₁.vm 0 := X0.warmed.since _
  have hZ : Z.Warmed39 (s.setVm s₁.vm).vm := wtrans hZ X0.warmed
  have hown : (s.setVm s₁.vm).vm.findClass "java/lang/String" = some m.cls := (X0.warmed.alike.findClass _ _).trans hown
  have X0 : Stand p l e ({ frames := 1, cells := 2, slots := 8, locals := 12 } : Room) (s.setVm s₁.vm) m #[(.ref a), (.ref b), (.int (0 : Int32)), (.int (0 : Int32)), .null] below meth c s₁ [] 0 0 := X0.retabled X0.warmed.wide
  have hml : c.maxLocals = 6 := hml
  refine own_castJ (ef_sE m a b) ?_
  show OwnGoJ p e below s (QsE Z a b cs u h0 n0) ({ frames := 1, cells := 2, slots := 8, locals := 12 } : Room).cells ({ frames := 1, cells := 2, slots := 8, locals := 12 } : Room).slots (s₁.setTop (mkF m 0 #[.val (.ref a), .val (.ref b), .val (.int (0 : Int32)), .val (.int (0 : Int32)), .val .null, .unset] []))
  refine own_onJ (fun t_ k_ => XS.aloadN X0.here hx rfl (hb hby d3_0) rfl rfl k_) ?_
  show OwnGoJ p e below s _ _ _ (s₁.setTop (mkF m 1 #[.val (.ref a), .val (.ref b), .val (.int (0 : Int32)), .val (.int (0 : Int32)), .val .null, .unset] [(.ref a)]))
  obtain ⟨T1, X1, e1, st1⟩ := initO X0 hx hZ hown (w16 hw) (w17 hw) (w18 hw) e0 (g := (mkF m 1 #[.val (.ref a), .val (.ref b), .val (.int (0 : Int32)), .val (.int (0 : Int32)), .val .null, .unset] [(.ref a)])) rfl (by rw [hml]; rfl) rfl (hb hby d3_1) (by decide) (W := 0) (by show 2 * 0 + _ ≤ _; exact Nat.le_of_eq rfl) (by decide)
  refine own_onJ st1 ?_
  show OwnGoJ p e below s _ _ _ (T1.setTop (mkF m 4 #[.val (.ref a), .val (.ref b), .val (.int (0 : Int32)), .val (.int (0 : Int32)), .val .null, .unset] []))
  refine own_onJ (fun t_ k_ => XS.iloadN X1.here hx rfl (hb hby d3_4) rfl k_) ?_
  show OwnGoJ p e below s _ _ _ (T1.setTop (mkF m 5 #[.val (.ref a), .val (.ref b), .val (.int (0 : Int32)), .val (.int (0 : Int32)), .val .null, .unset] [(.int (0 : Int32))]))
  refine own_onJ (fun t_ k_ => XS.ifNo X1.here hx rfl (hb hby d3_5) rfl ((if0 _ _).trans (teq (by decide : (0 : Int32) = (0 : Int32))).2) k_) ?_
  show OwnGoJ p e below s _ _ _ (T1.setTop (mkF m 8 #[.val (.ref a), .val (.ref b), .val (.int (0 : Int32)), .val (.int (0 : Int32)), .val .null, .unset] []))
  refine own_onJ (fun t_ k_ => XS.aloadN X1.here hx rfl (hb hby d3_8) rfl rfl k_) ?_
  show OwnGoJ p e below s _ _ _ (T1.setTop (mkF m 9 #[.val (.ref a), .val (.ref b), .val (.int (0 : Int32)), .val (.int (0 : Int32)), .val .null, .unset] [(.ref a)]))
  rcases hJ0 with hI | ⟨x, t, kb, hL, xE, xC, xV, xA⟩
  · obtain ⟨b2, T2, h2, k2, c2, d2, X2, e2, E2, hS2, hk2, hZ, hown, xE2, xC2, xV2, xA2, xl2, xm2, IB2, hL2, st2⟩ := ldcSVL (Ts := []) X1 hx hZ hown (w19 hw) (own_str hw) e1 hS0 (Nat.zero_le _) (Fr.nil _) (fun b cl q => by rw [hh]; exact P0.2.2 b cl q) hI (by decide) P7 P8 (vs := []) (z := 0) (by decide) (by decide) (by decide) (g := (mkF m 9 #[.val (.ref a), .val (.ref b), .val (.int (0 : Int32)), .val (.int (0 : Int32)), .val .null, .unset] [(.ref a)])) rfl (hb hby d3_9) (n := 4) (by decide) (by decide) (by decide) (by decide)
    have Z2 : n0 ≤ h2.size := Nat.le_trans Z0 E2.1
    have K2 : Keep h0 h2 [a] := K0.ext E2
    refine own_onJ st2 ?_
    show OwnGoJ p e below s _ _ _ (T2.setTop (mkF m 11 #[.val (.ref a), .val (.ref b), .val (.int (0 : Int32)), .val (.int (0 : Int32)), .val .null, .unset] [(.ref b2), (.ref a)]))
    have f3 : Fld Z h2 a "java/lang/String" "value" "[B" .null := P4.ext E2
    have nxa : b2 ≠ a := Fld.ne xV2 f3 nofun
    have f4 : Exa Z h2 a "java/lang/String" := P3.ext E2
    have nta : a ≠ c2 := Exa.neArv f4 xA2 (w6 hw)
    obtain ⟨T5, X5, e5, st5⟩ := getF X2 hx hZ hown (host := "") (Or.inl (w25 hw)) Via.refl e2 xV2 (g := (mkF m 11 #[.val (.ref a), .val (.ref b), .val (.int (0 : Int32)), .val (.int (0 : Int32)), .val .null, .unset] [(.ref b2), (.ref a)])) rfl rfl (hb hby d3_11)
    refine own_onJ st5 ?_
    show OwnGoJ p e below s _ _ _ (T5.setTop (mkF m 14 #[.val (.ref a), .val (.ref b), .val (.int (0 : Int32)), .val (.int (0 : Int32)), .val .null, .unset] [(.ref c2), (.ref a)]))
    obtain ⟨T6, h6, X6, e6, W6, st6⟩ := putF X5 hx hZ hown (host := "") (Or.inl (w25 hw)) Via.refl e5 f3 f4 (Or.inr ⟨(w21 hw), rfl, hnm⟩) (w6 hw) (ty := (.array .byte)) (by decide) rfl rfl (g := (mkF m 14 #[.val (.ref a), .val (.ref b), .val (.int (0 : Int32)), .val (.int (0 : Int32)), .val .null, .unset] [(.ref c2), (.ref a)])) rfl rfl (hb hby d3_14)
    have F6 := f3.same W6
    have N6 := Fr.snoc X6 N0 P6
    have Z6 : n0 ≤ h6.size := Nat.le_trans Z2 (Keep.of_wr W6).1
    have K6 : Keep h0 h6 [a] := K2.wr W6 (Or.inl (List.mem_of_getElem? (i := 0) rfl))
    refine own_onJ st6 ?_
    show OwnGoJ p e below s _ _ _ (T6.setTop (mkF m 17 #[.val (.ref a), .val (.ref b), .val (.int (0 : Int32)), .val (.int (0 : Int32)), .val .null, .unset] []))
    refine own_onJ (fun t_ k_ => XS.aloadN X6.here hx rfl (hb hby d3_17) rfl rfl k_) ?_
    show OwnGoJ p e below s _ _ _ (T6.setTop (mkF m 18 #[.val (.ref a), .val (.ref b), .val (.int (0 : Int32)), .val (.int (0 : Int32)), .val .null, .unset] [(.ref a)]))
    refine own_onJ (ldcAgain X6 hx hZ hown (w19 hw) hL2 (g := (mkF m 18 #[.val (.ref a), .val (.ref b), .val (.int (0 : Int32)), .val (.int (0 : Int32)), .val .null, .unset] [(.ref a)])) rfl (hb hby d3_18)) ?_
    show OwnGoJ p e below s _ _ _ (T6.setTop (mkF m 20 #[.val (.ref a), .val (.ref b), .val (.int (0 : Int32)), .val (.int (0 : Int32)), .val .null, .unset] [(.ref b2), (.ref a)]))
    have f7 : Fld Z h6 b2 "java/lang/String" "coder" "B" (.int (0 : Int32)) := xC2.other W6 (Or.inl nxa)
    obtain ⟨T8, X8, e8, st8⟩ := getF X6 hx hZ hown (host := "") (Or.inl (w26 hw)) Via.refl e6 f7 (g := (mkF m 20 #[.val (.ref a), .val (.ref b), .val (.int (0 : Int32)), .val (.int (0 : Int32)), .val .null, .unset] [(.ref b2), (.ref a)])) rfl rfl (hb hby d3_20)
    refine own_onJ st8 ?_
    show OwnGoJ p e below s _ _ _ (T8.setTop (mkF m 23 #[.val (.ref a), .val (.ref b), .val (.int (0 : Int32)), .val (.int (0 : Int32)), .val .null, .unset] [(.int (0 : Int32)), (.ref a)]))
    have f9 : Fld Z h2 a "java/lang/String" "coder" "B" u := P5.ext E2
    have f10 : Fld Z h6 a "java/lang/String" "coder" "B" u := f9.other W6 (Or.inr (slot_ne (Or.inr (w22 hw)) (Or.inr (w21 hw)) (by decide) (t := .byte) (t' := (.array .byte)) (by decide) (by decide)))
    have f11 : Exa Z h6 a "java/lang/String" := f4.wr W6
    obtain ⟨T12, h12, X12, e12, W12, st12⟩ := putFN X8 hx hZ hown (w26 hw) Via.refl e8 f10 f11 (Or.inr ⟨(w22 hw), rfl, hnm⟩) (w6 hw) (ty := .byte) (v' := .int (0 : Int32)) (by decide) rfl rfl (g := (mkF m 23 #[.val (.ref a), .val (.ref b), .val (.int (0 : Int32)), .val (.int (0 : Int32)), .val .null, .unset] [(.int (0 : Int32)), (.ref a)])) rfl rfl (hb hby d3_23)
    have F12 := f10.same W12
    have N12 := Fr.snoc X12 N6 P6
    have Z12 : n0 ≤ h12.size := Nat.le_trans Z6 (Keep.of_wr W12).1
    have K12 : Keep h0 h12 [a] := K6.wr W12 (Or.inl (List.mem_of_getElem? (i := 0) rfl))
    refine own_onJ st12 ?_
    show OwnGoJ p e below s _ _ _ (T12.setTop (mkF m 26 #[.val (.ref a), .val (.ref b), .val (.int (0 : Int32)), .val (.int (0 : Int32)), .val .null, .unset] []))
    have f13 : Exa Z h12 a "java/lang/String" := f11.wr W12
    have f14 : Fld Z h12 a "java/lang/String" "value" "[B" (.ref c2) := F6.other W12 (Or.inr (slot_ne (Or.inr (w21 hw)) (Or.inr (w22 hw)) (by decide) (t := (.array .byte)) (t' := .byte) (by decide) (by decide)))
    have f15 : Arv Z h6 c2 d2 .byte (0 : Int32) [] (.int (0 : Int32)) := xA2.other W6 (Ne.symm nta)
    have f16 : Arv Z h12 c2 d2 .byte (0 : Int32) [] (.int (0 : Int32)) := f15.other W12 (Ne.symm nta)
    have sx : OwnS Z h12 a [] := ⟨c2, d2, 0, [], f13, F12, f14, f16, Or.inl ⟨rfl, rfl, rfl, by simp⟩, by simp, by simp⟩
    have f17 : Exa Z h6 b2 "java/lang/String" := xE2.wr W6
    have f18 : Exa Z h12 b2 "java/lang/String" := f17.wr W12
    have f19 : Fld Z h12 b2 "java/lang/String" "coder" "B" (.int (0 : Int32)) := f7.other W12 (Or.inl nxa)
    have f20 : Fld Z h6 b2 "java/lang/String" "value" "[B" (.ref c2) := xV2.other W6 (Or.inl nxa)
    have f21 : Fld Z h12 b2 "java/lang/String" "value" "[B" (.ref c2) := f20.other W12 (Or.inl nxa)
    have jz : OwnLd Z T12.vm h12 := Or.inr ⟨b2, c2, d2, Lit.stays (s := s) hL2 (own_wide (Z := s) X12.warmed), f18, f19, f21, f16⟩
    have f22 : Old Z n0 h2 := P0.ext E2
    have f23 : Old Z n0 h6 := f22.wr W6 P6
    have f24 : Old Z n0 h12 := f23.wr W12 P6
    have f25 : k2 ≤ h6.size := Nat.le_trans hk2 (Keep.of_wr W6).1
    have f26 : k2 ≤ h12.size := Nat.le_trans f25 (Keep.of_wr W12).1
    exact own_retVJ X12 hx hlk Bd.returns (hb hby d3_26) e12 ⟨rfl, N12, K12, f13, sx, jz, f24⟩ (by decide) (by decide) hS2 (Nat.le_trans f26 (Nat.le_of_eq (congrArg Array.size e12.symm)))
  · refine own_onJ (ldcAgain X1 hx hZ hown (w19 hw) hL (g := (mkF m 9 #[.val (.ref a), .val (.ref b), .val (.int (0 : Int32)), .val (.int (0 : Int32)), .val .null, .unset] [(.ref a)])) rfl (hb hby d3_9)) ?_
    show OwnGoJ p e below s _ _ _ (T1.setTop (mkF m 11 #[.val (.ref a), .val (.ref b), .val (.int (0 : Int32)), .val (.int (0 : Int32)), .val .null, .unset] [(.ref x), (.ref a)]))
    have nxa : x ≠ a := Fld.ne xV P4 nofun
    have nta : a ≠ t := Exa.neArv P3 xA (w6 hw)
    obtain ⟨T27, X27, e27, st27⟩ := getF X1 hx hZ hown (host := "") (Or.inl (w25 hw)) Via.refl e1 xV (g := (mkF m 11 #[.val (.ref a), .val (.ref b), .val (.int (0 : Int32)), .val (.int (0 : Int32)), .val .null, .unset] [(.ref x), (.ref a)])) rfl rfl (hb hby d3_11)
    refine own_onJ st27 ?_
    show OwnGoJ p e below s _ _ _ (T27.setTop (mkF m 14 #[.val (.ref a), .val (.ref b), .val (.int (0 : Int32)), .val (.int (0 : Int32)), .val .null, .unset] [(.ref t), (.ref a)]))
    obtain ⟨T28, h28, X28, e28, W28, st28⟩ := putF X27 hx hZ hown (host := "") (Or.inl (w25 hw)) Via.refl e27 P4 P3 (Or.inr ⟨(w21 hw), rfl, hnm⟩) (w6 hw) (ty := (.array .byte)) (by decide) rfl rfl (g := (mkF m 14 #[.val (.ref a), .val (.ref b), .val (.int (0 : Int32)), .val (.int (0 : Int32)), .val .null, .unset] [(.ref t), (.ref a)])) rfl rfl (hb hby d3_14)
    have F28 := P4.same W28
    have N28 := Fr.snoc X28 N0 P6
    have Z28 : n0 ≤ h28.size := Nat.le_trans Z0 (Keep.of_wr W28).1
    have K28 : Keep h0 h28 [a] := K0.wr W28 (Or.inl (List.mem_of_getElem? (i := 0) rfl))
    refine own_onJ st28 ?_
    show OwnGoJ p e below s _ _ _ (T28.setTop (mkF m 17 #[.val (.ref a), .val (.ref b), .val (.int (0 : Int32)), .val (.int (0 : Int32)), .val .null, .unset] []))
    refine own_onJ (fun t_ k_ => XS.aloadN X28.here hx rfl (hb hby d3_17) rfl rfl k_) ?_
    show OwnGoJ p e below s _ _ _ (T28.setTop (mkF m 18 #[.val (.ref a), .val (.ref b), .val (.int (0 : Int32)), .val (.int (0 : Int32)), .val .null, .unset] [(.ref a)]))
    refine own_onJ (ldcAgain X28 hx hZ hown (w19 hw) hL (g := (mkF m 18 #[.val (.ref a), .val (.ref b), .val (.int (0 : Int32)), .val (.int (0 : Int32)), .val .null, .unset] [(.ref a)])) rfl (hb hby d3_18)) ?_
    show OwnGoJ p e below s _ _ _ (T28.setTop (mkF m 20 #[.val (.ref a), .val (.ref b), .val (.int (0 : Int32)), .val (.int (0 : Int32)), .val .null, .unset] [(.ref x), (.ref a)]))
    have f29 : Fld Z h28 x "java/lang/String" "coder" "B" (.int (0 : Int32)) := xC.other W28 (Or.inl nxa)
    obtain ⟨T30, X30, e30, st30⟩ := getF X28 hx hZ hown (host := "") (Or.inl (w26 hw)) Via.refl e28 f29 (g := (mkF m 20 #[.val (.ref a), .val (.ref b), .val (.int (0 : Int32)), .val (.int (0 : Int32)), .val .null, .unset] [(.ref x), (.ref a)])) rfl rfl (hb hby d3_20)
    refine own_onJ st30 ?_
    show OwnGoJ p e below s _ _ _ (T30.setTop (mkF m 23 #[.val (.ref a), .val (.ref b), .val (.int (0 : Int32)), .val (.int (0 : Int32)), .val .null, .unset] [(.int (0 : Int32)), (.ref a)]))
    have f31 : Fld Z h28 a "java/lang/String" "coder" "B" u := P5.other W28 (Or.inr (slot_ne (Or.inr (w22 hw)) (Or.inr (w21 hw)) (by decide) (t := .byte) (t' := (.array .byte)) (by decide) (by decide)))
    have f32 : Exa Z h28 a "java/lang/String" := P3.wr W28
    obtain ⟨T33, h33, X33, e33, W33, st33⟩ := putFN X30 hx hZ hown (w26 hw) Via.refl e30 f31 f32 (Or.inr ⟨(w22 hw), rfl, hnm⟩) (w6 hw) (ty := .byte) (v' := .int (0 : Int32)) (by decide) rfl rfl (g := (mkF m 23 #[.val (.ref a), .val (.ref b), .val (.int (0 : Int32)), .val (.int (0 : Int32)), .val .null, .unset] [(.int (0 : Int32)), (.ref a)])) rfl rfl (hb hby d3_23)
    have F33 := f31.same W33
    have N33 := Fr.snoc X33 N28 P6
    have Z33 : n0 ≤ h33.size := Nat.le_trans Z28 (Keep.of_wr W33).1
    have K33 : Keep h0 h33 [a] := K28.wr W33 (Or.inl (List.mem_of_getElem? (i := 0) rfl))
    refine own_onJ st33 ?_
    show OwnGoJ p e below s _ _ _ (T33.setTop (mkF m 26 #[.val (.ref a), .val (.ref b), .val (.int (0 : Int32)), .val (.int (0 : Int32)), .val .null, .unset] []))
    have f34 : Exa Z h33 a "java/lang/String" := f32.wr W33
    have f35 : Fld Z h33 a "java/lang/String" "value" "[B" (.ref t) := F28.other W33 (Or.inr (slot_ne (Or.inr (w21 hw)) (Or.inr (w22 hw)) (by decide) (t := (.array .byte)) (t' := .byte) (by decide) (by decide)))
    have f36 : Arv Z h28 t kb .byte (0 : Int32) [] (.int (0 : Int32)) := xA.other W28 (Ne.symm nta)
    have f37 : Arv Z h33 t kb .byte (0 : Int32) [] (.int (0 : Int32)) := f36.other W33 (Ne.symm nta)
    have sx : OwnS Z h33 a [] := ⟨t, kb, 0, [], f34, F33, f35, f37, Or.inl ⟨rfl, rfl, rfl, by simp⟩, by simp, by simp⟩
    have f38 : Exa Z h28 x "java/lang/String" := xE.wr W28
    have f39 : Exa Z h33 x "java/lang/String" := f38.wr W33
    have f40 : Fld Z h33 x "java/lang/String" "coder" "B" (.int (0 : Int32)) := f29.other W33 (Or.inl nxa)
    have f41 : Fld Z h28 x "java/lang/String" "value" "[B" (.ref t) := xV.other W28 (Or.inl nxa)
    have f42 : Fld Z h33 x "java/lang/String" "value" "[B" (.ref t) := f41.other W33 (Or.inl nxa)
    have jz : OwnLd Z T33.vm h33 := Or.inr ⟨x, t, kb, Lit.stays (s := s) hL (own_wide (Z := s) X33.warmed), f39, f40, f42, f37⟩
    have f43 : Old Z n0 h28 := P0.wr W28 P6
    have f44 : Old Z n0 h33 := f43.wr W33 P6
    have f45 : 0 ≤ h28.size := Nat.le_trans (Nat.zero_le _) (Keep.of_wr W28).1
    have f46 : 0 ≤ h33.size := Nat.le_trans f45 (Keep.of_wr W33).1
    exact own_retVJ X33 hx hlk Bd.returns (hb hby d3_26) e33 ⟨rfl, N33, K33, f34, sx, jz, f44⟩ (by decide) (by decide) hS0 (Nat.le_trans f46 (Nat.le_of_eq (congrArg Array.size e33.symm)))
theorem ef_sC (m : MethodId) (a : Addr) (b : Addr)  : entryFrame m #[(.ref a), (.ref b)] 2 = mkF m 0 #[.val (.ref a), .val (.ref b)] [] := by first | (simp [entryFrame, mkF, argsToLocals, Value.category]; done) | rfl
def QsC (Z : State) (a : Addr) (b : Addr) (cs : Int32) (u : Value) (kC : ClassId) (dv : Value) (h0 : Heap) (n0 : Nat) (v_ : Option Value) (vm_ : Vm) (h_ : Heap) (L_ : List Loc) : Prop := v_ = none ∧ Fr n0 L_ ∧ Keep h0 h_ [a] ∧ (Exa Z h_ a "java/lang/String") ∧ (OwnS Z h_ a []) ∧ (OwnLd Z vm_ h_) ∧ (Old Z n0 h_)
set_option maxRecDepth 65536 in
set_option maxHeartbeats 40000000 in
theorem rmsC (l : Launch) (Z : State) (a0 : Array Value) (hw : ∀ d ∈ tables_1, d.before a0 Z = true) (ws : List Jvm.Cond) (a : Addr) (b : Addr) (cs : Int32) (u : Value) (kC : ClassId) (dv : Value) (h0 : Heap) (n0 : Nat) (Z0 : n0 ≤ h0.size) (P0 : Old Z n0 h0) (P1 : Sta Z Z.heap "java/lang/String" "COMPACT_STRINGS" "Z" (.int cs)) (P2 : ¬ (cs = (0 : Int32))) (P3 : Exa Z h0 a "java/lang/String") (P4 : Fld Z h0 a "java/lang/String" "value" "[B" .null) (P5 : Fld Z h0 a "java/lang/String" "coder" "B" u) (P6 : n0 ≤ a) (P7 : Jvm.Lit.constHeld Z "java/lang/String" 7) (P8 : Jvm.Lit.compactW.before a0 Z = true) (P9 : Arv Z h0 b kC .char (0 : Int32) [] dv) :
    MetFree l (⟨"java/lang/String", "<init>", "([C)V"⟩ : MethodName) (head1 (Jvm.Cond.code (⟨"java/lang/String", "<init>", "([C)V"⟩ : MethodName) jdk_42_method_3_code 2 none :: ws) ({ frames := 2, cells := 2, slots := 8, locals := 29 } : Room)) (fun A_ U => A_ = #[(.ref a), (.ref b)] ∧ Z.Warmed39 U.vm ∧ U.heap = h0 ∧ OwnLd Z U.vm h0) (fun _ _ _ _ _ => True) (fun _ U_ o_ U'_ => ∃ v_ L_, o_ = .returned v_ ∧ QsC Z a b cs u kC dv h0 n0 v_ U'_.vm U'_.heap L_ ∧ ReturnedEndW U_ o_ U'_ L_ ({ frames := 2, cells := 2, slots := 8, locals := 29 } : Room).cells ({ frames := 2, cells := 2, slots := 8, locals := 29 } : Room).slots) := by
  refine MetFree.of_bodySF (plainFor_of_name pn_2) hisR ?_
  intro p e s m args below meth c s₁ Bd hml0 hP hK
  obtain ⟨rfl, hZ, hh, hJ⟩ := hP
  have hx := Bd.exec
  have hby := Bd.bytes
  have hml : c.maxLocals = 2 := hml0
  have hown : s.vm.findClass "java/lang/String" = some m.cls := findClass_of_methodNamed Bd.named
  have hnm := (name_of_methodNamed Bd.named Bd.method).1
  have hlk : meth.locks = false := Bd.notSynchronized
  have X0 : Stand p l e ({ frames := 2, cells := 2, slots := 8, locals := 29 } : Room) s m #[(.ref a), (.ref b)] below meth c s₁ [] 0 0 := Stand.of_body Bd
  have e0 : s₁.heap = h0 := by rw [← hh, Bd.state]; rfl
  have N0 := Fr.nil n0
  have K0 : Keep h0 h0 [a] := Keep.refl _ _
  have hJ0 : OwnLd Z (s.setVm s₁.vm).vm h0 := hJ.warm X0.warmed
  have hS0 : s.Since s₁.vm 0 := X0.warmed.since _
  have hZ : Z.Warmed39 (s.setVm s₁.vm).vm := wtrans hZ X0.warmed
  have hown : (s.setVm s₁.vm).vm.findClass "java/lang/String" = some m.cls := (X0.warmed.alike.findClass _ _).trans hown
  have X0 : Stand p l e ({ frames := 2, cells := 2, slots := 8, locals := 29 } : Room) (s.setVm s₁.vm) m #[(.ref a), (.ref b)] below meth c s₁ [] 0 0 := X0.retabled X0.warmed.wide
  have hml : c.maxLocals = 2 := hml
  refine own_castJ (ef_sC m a b) ?_
  show OwnGoJ p e below s (QsC Z a b cs u kC dv h0 n0) ({ frames := 2, cells := 2, slots := 8, locals := 29 } : Room).cells ({ frames := 2, cells := 2, slots := 8, locals := 29 } : Room).slots (s₁.setTop (mkF m 0 #[.val (.ref a), .val (.ref b)] []))
  refine own_onJ (fun t_ k_ => XS.aloadN X0.here hx rfl (hb hby d2_0) rfl rfl k_) ?_
  show OwnGoJ p e below s _ _ _ (s₁.setTop (mkF m 1 #[.val (.ref a), .val (.ref b)] [(.ref a)]))
  refine own_onJ (fun t_ k_ => XS.aloadN X0.here hx rfl (hb hby d2_1) rfl rfl k_) ?_
  show OwnGoJ p e below s _ _ _ (s₁.setTop (mkF m 2 #[.val (.ref a), .val (.ref b)] [(.ref b), (.ref a)]))
  refine own_onJ (fun t_ k_ => XS.iconst X0.here hx rfl (hb hby d2_2) k_) ?_
  show OwnGoJ p e below s _ _ _ (s₁.setTop (mkF m 3 #[.val (.ref a), .val (.ref b)] [(.int (0 : Int32)), (.ref b), (.ref a)]))
  refine own_onJ (fun t_ k_ => XS.aloadN X0.here hx rfl (hb hby d2_3) rfl rfl k_) ?_
  show OwnGoJ p e below s _ _ _ (s₁.setTop (mkF m 4 #[.val (.ref a), .val (.ref b)] [(.ref b), (.int (0 : Int32)), (.ref b), (.ref a)]))
  obtain ⟨cl1, Ar1, q1, S1, M1, H1, G1⟩ := id P9
  refine own_onJ (X0.arraylength hx (by rw [e0]; exact Ar1.1) (State.isArrayOf_alike hZ.alike Ar1.2.1) (g := (mkF m 4 #[.val (.ref a), .val (.ref b)] [(.ref b), (.int (0 : Int32)), (.ref b), (.ref a)])) rfl rfl (hb hby d2_4)) ?_
  rw [len_of S1 M1]
  show OwnGoJ p e below s _ _ _ (s₁.setTop (mkF m 5 #[.val (.ref a), .val (.ref b)] [(.int (0 : Int32)), (.int (0 : Int32)), (.ref b), (.ref a)]))
  refine own_onJ (fun t_ k_ => XS.aconstNull X0.here hx rfl (hb hby d2_5) k_) ?_
  show OwnGoJ p e below s _ _ _ (s₁.setTop (mkF m 6 #[.val (.ref a), .val (.ref b)] [.null, (.int (0 : Int32)), (.int (0 : Int32)), (.ref b), (.ref a)]))
  obtain ⟨_, _, ⟨T2, L2, k2, n2⟩, -, X2, hS2, hG2, ⟨Lc2, hQ2, l2, y2, z2⟩, st2⟩ := X0.specialBackS hx (y := (⟨"java/lang/String", "<init>", "([CIILjava/lang/Void;)V"⟩ : MethodName)) rfl hown (mvT hZ (w12 hw)) (mvT hZ (w13 hw)) (mvT hZ (w15 hw)) (by decide) (own_backJ (J := fun vm_ => OwnLd Z vm_ h0) (Q := QsE Z a b cs u h0 n0) (W := 0) (rmsE l Z a0 hw [] a b cs u h0 n0 Z0 P0 P1 P2 P3 P4 P5 P6 P7 P8) hZ (w15 hw) (w7 hw) (by decide) (by decide)) (g := (mkF m 6 #[.val (.ref a), .val (.ref b)] [.null, (.int (0 : Int32)), (.int (0 : Int32)), (.ref b), (.ref a)])) rfl (by rw [hml]; rfl) (Steps.refl _) (a := a) (argsL := [(.ref b), (.int (0 : Int32)), (.int (0 : Int32)), .null]) (rest := []) (lenOf pd_0 rfl) rfl (by show 2 * 0 + _ ≤ _; exact Nat.le_of_eq rfl) (hb hby d2_6) (fun _ hWx => ⟨rfl, e0, hJ0.warm hWx, (by decide : 0 + 2 ≤ _), (by decide : 0 + 8 ≤ _)⟩)
  dsimp only [Pt.U, Pt.locs, Pt.cells, Pt.slots] at X2 l2 y2 z2 st2 hQ2 hS2 hG2
  obtain ⟨X2, hS2, hZ, hown⟩ := rebS hS0 (Nat.le_trans (Nat.zero_le _) (Nat.le_of_eq (congrArg Array.size e0.symm))) X2 hS2 hG2 hZ hown
  replace X2 := own_num (c' := 2) (n' := 8) X2 l2 (y2.trans rfl) (z2.trans rfl)
  obtain ⟨rfl, N2q, K2q, c2_0, c2_1, c2_2, c2_3⟩ := hQ2
  have N2 := Fr.app N0 N2q
  have Z2 : n0 ≤ T2.heap.size := Nat.le_trans Z0 K2q.1
  have K2 : Keep h0 T2.heap [a] := K0.trans K2q (allS (P := fun x => x ∈ [a] ∨ h0.size ≤ x) (Or.inl (List.mem_of_getElem? (i := 0) rfl)) all0)
  have hk2 : T2.heap.size ≤ T2.heap.size := Nat.le_refl _
  refine own_trJ st2 ?_
  show OwnGoJ p e below s _ _ _ (T2.setTop (mkF m 9 #[.val (.ref a), .val (.ref b)] []))
  have j3 := c2_2.warm X2.warmed
  exact own_retVJ X2 hx hlk Bd.returns (hb hby d2_9) rfl ⟨rfl, N2, K2, c2_0, c2_1, j3, c2_3⟩ (by decide) (by decide) hS2 hk2
theorem ef_1 (m : MethodId) (vv : Int32) (fl : Int32)  : entryFrame m #[(.int vv), (.int fl)] 3 = mkF m 0 #[.val (.int vv), .val (.int fl), .unset] [] := by first | (simp [entryFrame, mkF, argsToLocals, Value.category]; done) | rfl
def Q1 (Z : State) (vv : Int32) (fl : Int32) (cs : Int32) (h0 : Heap) (n0 : Nat) (v_ : Option Value) (vm_ : Vm) (h_ : Heap) (L_ : List Loc) : Prop := ∃ r : Addr, v_ = some (.ref r) ∧ Fr n0 L_ ∧ Keep h0 h_ [] ∧ (Exa Z h_ r "java/lang/String") ∧ (OwnS Z h_ r (own_ph vv fl)) ∧ (n0 ≤ r) ∧ (h0.size ≤ r) ∧ (OwnLd Z vm_ h_) ∧ (Old Z n0 h_)
set_option maxRecDepth 65536 in
set_option maxHeartbeats 40000000 in
theorem rm1 (l : Launch) (Z : State) (a0 : Array Value) (hw : ∀ d ∈ tables_1, d.before a0 Z = true) (ws : List Jvm.Cond) (vv : Int32) (fl : Int32) (cs : Int32) (h0 : Heap) (n0 : Nat) (Z0 : n0 ≤ h0.size) (P0 : Old Z n0 h0) (P1 : Sta Z Z.heap "java/lang/String" "COMPACT_STRINGS" "Z" (.int cs)) (P2 : ¬ (cs = (0 : Int32))) (P3 : Jvm.Lit.constHeld Z "java/lang/String" 7) (P4 : Jvm.Lit.compactW.before a0 Z = true) :
    MetFree l (⟨"io/loomwire/handler/codec/http/HttpResponseStatusEqualsPinLaw", "phrase", "(IZ)Ljava/lang/String;"⟩ : MethodName) (head1 (Jvm.Cond.code (⟨"io/loomwire/handler/codec/http/HttpResponseStatusEqualsPinLaw", "phrase", "(IZ)Ljava/lang/String;"⟩ : MethodName) method_3_code 3 (some (.object "java/lang/String")) :: ws) ({ frames := 4, cells := 4, slots := 12, locals := 66 } : Room)) (fun A_ U => A_ = #[(.int vv), (.int fl)] ∧ Z.Warmed39 U.vm ∧ U.heap = h0 ∧ OwnLd Z U.vm h0) (fun _ _ _ _ _ => True) (fun _ U_ o_ U'_ => ∃ v_ L_, o_ = .returned v_ ∧ Q1 Z vv fl cs h0 n0 v_ U'_.vm U'_.heap L_ ∧ ReturnedEndW U_ o_ U'_ L_ ({ frames := 4, cells := 4, slots := 12, locals := 66 } : Room).cells ({ frames := 4, cells := 4, slots := 12, locals := 66 } : Room).slots) := by
  refine MetFree.of_bodySF (plainFor_of_name pn_1) hisR ?_
  intro p e s m args below meth c s₁ Bd hml0 hP hK
  obtain ⟨rfl, hZ, hh, hJ⟩ := hP
  have hx := Bd.exec
  have hby := Bd.bytes
  have hml : c.maxLocals = 3 := hml0
  have hown : s.vm.findClass "io/loomwire/handler/codec/http/HttpResponseStatusEqualsPinLaw" = some m.cls := findClass_of_methodNamed Bd.named
  have hnm := (name_of_methodNamed Bd.named Bd.method).1
  have hlk : meth.locks = false := Bd.notSynchronized
  have X0 : Stand p l e ({ frames := 4, cells := 4, slots := 12, locals := 66 } : Room) s m #[(.int vv), (.int fl)] below meth c s₁ [] 0 0 := Stand.of_body Bd
  have e0 : s₁.heap = h0 := by rw [← hh, Bd.state]; rfl
  have N0 := Fr.nil n0
  have K0 : Keep h0 h0 [] := Keep.refl _ _
  have hJ0 : OwnLd Z (s.setVm s₁.vm).vm h0 := hJ.warm X0.warmed
  have hS0 : s.Since s₁.vm 0 := X0.warmed.since _
  have hZ : Z.Warmed39 (s.setVm s₁.vm).vm := wtrans hZ X0.warmed
  have hown : (s.setVm s₁.vm).vm.findClass "io/loomwire/handler/codec/http/HttpResponseStatusEqualsPinLaw" = some m.cls := (X0.warmed.alike.findClass _ _).trans hown
  have X0 : Stand p l e ({ frames := 4, cells := 4, slots := 12, locals := 66 } : Room) (s.setVm s₁.vm) m #[(.int vv), (.int fl)] below meth c s₁ [] 0 0 := X0.retabled X0.warmed.wide
  have hml : c.maxLocals = 3 := hml
  refine own_castJ (ef_1 m vv fl) ?_
  show OwnGoJ p e below s (Q1 Z vv fl cs h0 n0) ({ frames := 4, cells := 4, slots := 12, locals := 66 } : Room).cells ({ frames := 4, cells := 4, slots := 12, locals := 66 } : Room).slots (s₁.setTop (mkF m 0 #[.val (.int vv), .val (.int fl), .unset] []))
  refine own_onJ (fun t_ k_ => XS.iloadN X0.here hx rfl (hb hby d1_0) rfl k_) ?_
  show OwnGoJ p e below s _ _ _ (s₁.setTop (mkF m 1 #[.val (.int vv), .val (.int fl), .unset] [(.int fl)]))
  by_cases q0 : fl = (0 : Int32)
  · refine own_onJ (fun t_ k_ => XS.ifYes X0.here hx rfl (pc0 := 1) (pc' := 15) rfl (hb hby d1_1) rfl ((if0 _ _).trans (teq q0).1) (by decide) (by decide) k_) ?_
    show OwnGoJ p e below s _ _ _ (s₁.setTop (mkF m 15 #[.val (.int vv), .val (.int fl), .unset] []))
    refine own_onJ (fun t_ k_ => XS.iconst X0.here hx rfl (hb hby d1_15) k_) ?_
    show OwnGoJ p e below s _ _ _ (s₁.setTop (mkF m 16 #[.val (.int vv), .val (.int fl), .unset] [(.int (2 : Int32))]))
    obtain ⟨T1, h1, k1, X1, e1, E1, A1, st1⟩ := newP (aty := .char) X0 hx hZ (w8 hw) e0 (g := (mkF m 16 #[.val (.int vv), .val (.int fl), .unset] [(.int (2 : Int32))])) rfl (hb hby d1_16) rfl (by decide) (cap := 2) (by decide) (by decide) (by decide) (by decide)
    obtain ⟨b1, g1⟩ : ∃ z, z = h0.size := ⟨_, rfl⟩
    rw [← g1] at A1 st1
    have g2 : n0 ≤ b1 := Nat.le_trans Z0 (Nat.le_of_eq g1.symm)
    have z3 : h0.size ≤ b1 := Nat.le_trans K0.1 (Nat.le_of_eq g1.symm)
    have V1 : Arv Z h1 b1 k1 .char (2 : Int32) [(.int (0 : Int32)), (.int (0 : Int32))] (.int (0 : Int32)) := (Arv.new A1 (by decide)).pad (pad_rep [] (.int (0 : Int32)) 2)
    have Z1 : n0 ≤ h1.size := Nat.le_trans Z0 E1.1
    have K1 : Keep h0 h1 [] := K0.ext E1
    refine own_onJ st1 ?_
    show OwnGoJ p e below s _ _ _ (T1.setTop (mkF m 18 #[.val (.int vv), .val (.int fl), .unset] [(.ref b1)]))
    refine own_onJ (fun t_ k_ => XS.astoreN X1.here hx rfl (hb hby d1_18) rfl rfl (l' := #[.val (.int vv), .val (.int fl), .val (.ref b1)]) rfl k_) ?_
    show OwnGoJ p e below s _ _ _ (T1.setTop (mkF m 19 #[.val (.int vv), .val (.int fl), .val (.ref b1)] []))
    refine own_onJ (fun t_ k_ => XS.aloadN X1.here hx rfl (hb hby d1_19) rfl rfl k_) ?_
    show OwnGoJ p e below s _ _ _ (T1.setTop (mkF m 20 #[.val (.int vv), .val (.int fl), .val (.ref b1)] [(.ref b1)]))
    refine own_onJ (fun t_ k_ => XS.iconst X1.here hx rfl (hb hby d1_20) k_) ?_
    show OwnGoJ p e below s _ _ _ (T1.setTop (mkF m 21 #[.val (.int vv), .val (.int fl), .val (.ref b1)] [(.int (0 : Int32)), (.ref b1)]))
    refine own_onJ (fun t_ k_ => XS.iloadN X1.here hx rfl (hb hby d1_21) rfl k_) ?_
    show OwnGoJ p e below s _ _ _ (T1.setTop (mkF m 22 #[.val (.int vv), .val (.int fl), .val (.ref b1)] [(.int vv), (.int (0 : Int32)), (.ref b1)]))
    obtain ⟨_, _, ⟨T4, L4, k4, n4⟩, -, X4, ⟨Lc4, hQ4, l4, y4, z4⟩, st4⟩ := Jvm.LawKit.callS X1 hx (y := (⟨"io/loomwire/handler/codec/http/HttpResponseStatusEqualsPinLaw", "pc", "(I)C"⟩ : MethodName)) hown (mvT hZ (w27 hw)) (mvT hZ (w28 hw)) (mvT hZ (w3 hw)) (mvT hZ (w29 hw)) (by decide) (backOf (W := 2) (rm5 l Z a0 hw [] vv h1 n0 Z1 ) hZ (w29 hw) (w3 hw) (by decide) (by decide)) (g := (mkF m 22 #[.val (.int vv), .val (.int fl), .val (.ref b1)] [(.int vv), (.int (0 : Int32)), (.ref b1)])) rfl (by rw [hml]; rfl) (argsL := [(.int vv)]) (rest := [(.int (0 : Int32)), (.ref b1)]) (lenOf pd_1 rfl) rfl (by show 2 * 0 + _ ≤ _; exact Nat.le_of_eq rfl) (hb hby d1_22) (fun _ hWx => ⟨rfl, e1, (by decide : 1 + 0 ≤ _), (by decide : 2 + 0 ≤ _)⟩)
    dsimp only [Pt.U, Pt.locs, Pt.cells, Pt.slots] at X4 l4 y4 z4 st4 hQ4
    replace X4 := own_num (c' := 1) (n' := 2) X4 l4 (y4.trans rfl) (z4.trans rfl)
    obtain ⟨rfl, N4q, e4⟩ := hQ4
    have N4 := Fr.app N0 N4q
    refine own_onJ st4 ?_
    show OwnGoJ p e below s _ _ _ (T4.setTop (mkF m 25 #[.val (.int vv), .val (.int fl), .val (.ref b1)] [(.int (own_pc vv)), (.int (0 : Int32)), (.ref b1)]))
    obtain ⟨cl5, Ar5, q5, S5, M5, H5, G5⟩ := id V1
    have hin5 : ¬ ((0 : Int32) < 0 ∨ cl5.slots.size ≤ ((0 : Int32)).toNatClampNeg) := inb_of S5 ⟨by decide, by decide⟩
    obtain ⟨T6, h6, X6, e6, W6, st6⟩ := stC X4 hx hZ e4 Ar5 (j := (0 : Int32)) hin5 (g := (mkF m 25 #[.val (.int vv), .val (.int fl), .val (.ref b1)] [(.int (own_pc vv)), (.int (0 : Int32)), (.ref b1)])) rfl rfl (hb hby d1_25)
    have V6 : Arv Z h6 b1 k1 .char (2 : Int32) [(.int (nar .char (own_pc vv))), (.int (0 : Int32))] (.int (0 : Int32)) :=  Arv.set Ar5 q5 S5 M5 H5 G5 (fits_nar_char _) W6 0 rfl (Nat.le_of_ble_eq_true rfl)
    have N6 := Fr.snoc X6 N4 g2
    have Z6 : n0 ≤ h6.size := Nat.le_trans Z1 (Keep.of_wr W6).1
    have K6 : Keep h0 h6 [] := K1.wr W6 (Or.inr z3)
    refine own_onJ st6 ?_
    show OwnGoJ p e below s _ _ _ (T6.setTop (mkF m 26 #[.val (.int vv), .val (.int fl), .val (.ref b1)] []))
    refine own_onJ (fun t_ k_ => XS.aloadN X6.here hx rfl (hb hby d1_26) rfl rfl k_) ?_
    show OwnGoJ p e below s _ _ _ (T6.setTop (mkF m 27 #[.val (.int vv), .val (.int fl), .val (.ref b1)] [(.ref b1)]))
    refine own_onJ (fun t_ k_ => XS.iconst X6.here hx rfl (hb hby d1_27) k_) ?_
    show OwnGoJ p e below s _ _ _ (T6.setTop (mkF m 28 #[.val (.int vv), .val (.int fl), .val (.ref b1)] [(.int (1 : Int32)), (.ref b1)]))
    refine own_onJ (fun t_ k_ => XS.iloadN X6.here hx rfl (hb hby d1_28) rfl k_) ?_
    show OwnGoJ p e below s _ _ _ (T6.setTop (mkF m 29 #[.val (.int vv), .val (.int fl), .val (.ref b1)] [(.int vv), (.int (1 : Int32)), (.ref b1)]))
    refine own_onJ (fun t_ k_ => XS.bipush X6.here hx rfl (hb hby d1_29) k_) ?_
    show OwnGoJ p e below s _ _ _ (T6.setTop (mkF m 31 #[.val (.int vv), .val (.int fl), .val (.ref b1)] [(.int (8 : Int32)), (.int vv), (.int (1 : Int32)), (.ref b1)]))
    refine own_onJ (fun t_ k_ => XS.ishr X6.here hx rfl (hb hby d1_31) rfl k_) ?_
    show OwnGoJ p e below s _ _ _ (T6.setTop (mkF m 32 #[.val (.int vv), .val (.int fl), .val (.ref b1)] [(.int (vv >>> ((8 : Int32) &&& 31))), (.int (1 : Int32)), (.ref b1)]))
    obtain ⟨_, _, ⟨T7, L7, k7, n7⟩, -, X7, ⟨Lc7, hQ7, l7, y7, z7⟩, st7⟩ := Jvm.LawKit.callS X6 hx (y := (⟨"io/loomwire/handler/codec/http/HttpResponseStatusEqualsPinLaw", "pc", "(I)C"⟩ : MethodName)) hown (mvT hZ (w27 hw)) (mvT hZ (w28 hw)) (mvT hZ (w3 hw)) (mvT hZ (w29 hw)) (by decide) (backOf (W := 2) (rm5 l Z a0 hw [] (vv >>> ((8 : Int32) &&& 31)) h6 n0 Z6 ) hZ (w29 hw) (w3 hw) (by decide) (by decide)) (g := (mkF m 32 #[.val (.int vv), .val (.int fl), .val (.ref b1)] [(.int (vv >>> ((8 : Int32) &&& 31))), (.int (1 : Int32)), (.ref b1)])) rfl (by rw [hml]; rfl) (argsL := [(.int (vv >>> ((8 : Int32) &&& 31)))]) (rest := [(.int (1 : Int32)), (.ref b1)]) (lenOf pd_1 rfl) rfl (by show 2 * 0 + _ ≤ _; exact Nat.le_of_eq rfl) (hb hby d1_32) (fun _ hWx => ⟨rfl, e6, (by decide : 1 + 0 ≤ _), (by decide : 2 + 0 ≤ _)⟩)
    dsimp only [Pt.U, Pt.locs, Pt.cells, Pt.slots] at X7 l7 y7 z7 st7 hQ7
    replace X7 := own_num (c' := 1) (n' := 2) X7 l7 (y7.trans rfl) (z7.trans rfl)
    obtain ⟨rfl, N7q, e7⟩ := hQ7
    have N7 := Fr.app N6 N7q
    refine own_onJ st7 ?_
    show OwnGoJ p e below s _ _ _ (T7.setTop (mkF m 35 #[.val (.int vv), .val (.int fl), .val (.ref b1)] [(.int (own_pc (vv >>> ((8 : Int32) &&& 31)))), (.int (1 : Int32)), (.ref b1)]))
    obtain ⟨cl8, Ar8, q8, S8, M8, H8, G8⟩ := id V6
    have hin8 : ¬ ((1 : Int32) < 0 ∨ cl8.slots.size ≤ ((1 : Int32)).toNatClampNeg) := inb_of S8 ⟨by decide, by decide⟩
    obtain ⟨T9, h9, X9, e9, W9, st9⟩ := stC X7 hx hZ e7 Ar8 (j := (1 : Int32)) hin8 (g := (mkF m 35 #[.val (.int vv), .val (.int fl), .val (.ref b1)] [(.int (own_pc (vv >>> ((8 : Int32) &&& 31)))), (.int (1 : Int32)), (.ref b1)])) rfl rfl (hb hby d1_35)
    have V9 : Arv Z h9 b1 k1 .char (2 : Int32) [(.int (nar .char (own_pc vv))), (.int (nar .char (own_pc (vv >>> ((8 : Int32) &&& 31)))))] (.int (0 : Int32)) :=  Arv.set Ar8 q8 S8 M8 H8 G8 (fits_nar_char _) W9 1 rfl (Nat.le_of_ble_eq_true rfl)
    have N9 := Fr.snoc X9 N7 g2
    have Z9 : n0 ≤ h9.size := Nat.le_trans Z6 (Keep.of_wr W9).1
    have K9 : Keep h0 h9 [] := K6.wr W9 (Or.inr z3)
    refine own_onJ st9 ?_
    show OwnGoJ p e below s _ _ _ (T9.setTop (mkF m 36 #[.val (.int vv), .val (.int fl), .val (.ref b1)] []))
    rw [own_pcn, own_pcn] at V9
    obtain ⟨T10, h10, X10, e10, E10, A10, D10, u10, st10⟩ := newO X9 hx hZ hown (w5 hw) (w6 hw) (w7 hw) e9 (g := (mkF m 36 #[.val (.int vv), .val (.int fl), .val (.ref b1)] [])) rfl (hb hby d1_36) (by decide) (by decide)
    obtain ⟨b10, g10⟩ : ∃ z, z = h9.size := ⟨_, rfl⟩
    rw [← g10] at A10 D10 st10
    have ne11 : b1 ≠ b10 := Nat.ne_of_lt (Nat.lt_of_lt_of_le V9.lt (Nat.le_of_eq g10.symm))
    have g12 : n0 ≤ b10 := Nat.le_trans Z9 (Nat.le_of_eq g10.symm)
    have z13 : h0.size ≤ b10 := Nat.le_trans K9.1 (Nat.le_of_eq g10.symm)
    have Z10 : n0 ≤ h10.size := Nat.le_trans Z9 E10.1
    have K10 : Keep h0 h10 [] := K9.ext E10
    have F10_value : Fld Z h10 b10 "java/lang/String" "value" "[B" .null := D10 (Or.inr (w21 hw)) (ty := (.array .byte)) (by decide)
    have F10_coder : Fld Z h10 b10 "java/lang/String" "coder" "B" (.int (0 : Int32)) := D10 (Or.inr (w22 hw)) (ty := .byte) (by decide)
    refine own_onJ st10 ?_
    show OwnGoJ p e below s _ _ _ (T10.setTop (mkF m 39 #[.val (.int vv), .val (.int fl), .val (.ref b1)] [(.ref b10)]))
    refine own_onJ (fun t_ k_ => XS.dup X10.here hx rfl (hb hby d1_39) rfl rfl k_) ?_
    show OwnGoJ p e below s _ _ _ (T10.setTop (mkF m 40 #[.val (.int vv), .val (.int fl), .val (.ref b1)] [(.ref b10), (.ref b10)]))
    refine own_onJ (fun t_ k_ => XS.aloadN X10.here hx rfl (hb hby d1_40) rfl rfl k_) ?_
    show OwnGoJ p e below s _ _ _ (T10.setTop (mkF m 41 #[.val (.int vv), .val (.int fl), .val (.ref b1)] [(.ref b1), (.ref b10), (.ref b10)]))
    have f14 : Arv Z h10 b1 k1 .char (2 : Int32) [(.int (own_pc vv)), (.int (own_pc (vv >>> ((8 : Int32) &&& 31))))] (.int (0 : Int32)) := V9.ext E10
    have f15 : Old Z n0 h1 := P0.ext E1
    have f16 : Old Z n0 h6 := f15.wr W6 g2
    have f17 : Old Z n0 h9 := f16.wr W9 g2
    have f18 : Old Z n0 h10 := f17.ext E10
    obtain ⟨_, _, ⟨T19, L19, k19, n19⟩, -, X19, ⟨Lc19, hQ19, l19, y19, z19⟩, st19⟩ := X10.specialBack hx (y := (⟨"java/lang/String", "<init>", "([C)V"⟩ : MethodName)) rfl hown (mvT hZ (w9 hw)) (mvT hZ (w10 hw)) (mvT hZ (w11 hw)) (by decide) (own_newS (n0 := n0) (W := 1) (cs := [(own_pc vv), (own_pc (vv >>> ((8 : Int32) &&& 31)))]) (n := 2) hZ hw g12 Z10 A10 F10_value F10_coder f14 f18 P1 P2 rfl rfl (by decide) (by decide) (by intro c hc; simp only [List.mem_cons, List.not_mem_nil, or_false] at hc; rcases hc with rfl | rfl <;> exact own_pcr _) (by decide) (by decide)) (g := (mkF m 41 #[.val (.int vv), .val (.int fl), .val (.ref b1)] [(.ref b1), (.ref b10), (.ref b10)])) rfl (by rw [hml]; rfl) (Steps.refl _) (a := b10) (argsL := [(.ref b1)]) (rest := [(.ref b10)]) (lenOf pd_2 rfl) rfl (by show 2 * 0 + _ ≤ _; exact Nat.le_of_eq rfl) (hb hby d1_41) (fun _ hWx => ⟨rfl, e10, (by decide : 2 + 1 ≤ _), (by decide : 6 + 2 ≤ _)⟩)
    dsimp only [Pt.U, Pt.locs, Pt.cells, Pt.slots] at X19 l19 y19 z19 st19 hQ19
    replace X19 := own_num (c' := 3) (n' := 8) X19 l19 (y19.trans rfl) (z19.trans rfl)
    obtain ⟨rfl, N19q, K19q, c19_0, c19_1⟩ := hQ19
    have N19 := Fr.app N9 N19q
    have Z19 : n0 ≤ T19.heap.size := Nat.le_trans Z10 K19q.1
    have K19 : Keep h0 T19.heap [] := K10.trans K19q (allS (P := fun x => x ∈ [] ∨ h0.size ≤ x) (Or.inr z13) all0)
    refine own_trJ st19 ?_
    show OwnGoJ p e below s _ _ _ (T19.setTop (mkF m 44 #[.val (.int vv), .val (.int fl), .val (.ref b1)] [(.ref b10)]))
    have sp20 : OwnS Z T19.heap b10 (own_ph vv fl) := by rw [own_ph, if_pos q0]; exact c19_1
    have j22 := hJ0.keep K19
    have j21 := j22.warm X19.warmed
    have f23 : Old Z n0 T19.heap := f18.keep K19q (allS g12 all0)
    have f24 : 0 ≤ h1.size := Nat.le_trans (Nat.zero_le _) E1.1
    have f25 : 0 ≤ h6.size := Nat.le_trans f24 (Keep.of_wr W6).1
    have f26 : 0 ≤ h9.size := Nat.le_trans f25 (Keep.of_wr W9).1
    have f27 : 0 ≤ h10.size := Nat.le_trans f26 E10.1
    have f28 : 0 ≤ T19.heap.size := Nat.le_trans f27 K19q.1
    exact own_retAJ X19 hx hlk Bd.returns rfl rfl (hb hby d1_44) rfl ⟨b10, rfl, N19, K19, c19_0, sp20, g12, z13, j21, f23⟩ (by decide) (by decide) hS0 f28
  · refine own_onJ (fun t_ k_ => XS.ifNo X0.here hx rfl (hb hby d1_1) rfl ((if0 _ _).trans (feq q0).1) k_) ?_
    show OwnGoJ p e below s _ _ _ (s₁.setTop (mkF m 4 #[.val (.int vv), .val (.int fl), .unset] []))
    obtain ⟨T29, h29, X29, e29, E29, A29, D29, u29, st29⟩ := newO X0 hx hZ hown (w5 hw) (w6 hw) (w7 hw) e0 (g := (mkF m 4 #[.val (.int vv), .val (.int fl), .unset] [])) rfl (hb hby d1_4) (by decide) (by decide)
    obtain ⟨b29, g29⟩ : ∃ z, z = h0.size := ⟨_, rfl⟩
    rw [← g29] at A29 D29 st29
    have g30 : n0 ≤ b29 := Nat.le_trans Z0 (Nat.le_of_eq g29.symm)
    have z31 : h0.size ≤ b29 := Nat.le_trans K0.1 (Nat.le_of_eq g29.symm)
    have Z29 : n0 ≤ h29.size := Nat.le_trans Z0 E29.1
    have K29 : Keep h0 h29 [] := K0.ext E29
    have F29_value : Fld Z h29 b29 "java/lang/String" "value" "[B" .null := D29 (Or.inr (w21 hw)) (ty := (.array .byte)) (by decide)
    have F29_coder : Fld Z h29 b29 "java/lang/String" "coder" "B" (.int (0 : Int32)) := D29 (Or.inr (w22 hw)) (ty := .byte) (by decide)
    refine own_onJ st29 ?_
    show OwnGoJ p e below s _ _ _ (T29.setTop (mkF m 7 #[.val (.int vv), .val (.int fl), .unset] [(.ref b29)]))
    refine own_onJ (fun t_ k_ => XS.dup X29.here hx rfl (hb hby d1_7) rfl rfl k_) ?_
    show OwnGoJ p e below s _ _ _ (T29.setTop (mkF m 8 #[.val (.int vv), .val (.int fl), .unset] [(.ref b29), (.ref b29)]))
    refine own_onJ (fun t_ k_ => XS.iconst X29.here hx rfl (hb hby d1_8) k_) ?_
    show OwnGoJ p e below s _ _ _ (T29.setTop (mkF m 9 #[.val (.int vv), .val (.int fl), .unset] [(.int (0 : Int32)), (.ref b29), (.ref b29)]))
    obtain ⟨T32, h32, k32, X32, e32, E32, A32, st32⟩ := newP (aty := .char) X29 hx hZ (w8 hw) e29 (g := (mkF m 9 #[.val (.int vv), .val (.int fl), .unset] [(.int (0 : Int32)), (.ref b29), (.ref b29)])) rfl (hb hby d1_9) rfl (by decide) (cap := 0) (by decide) (by decide) (by decide) (by decide)
    obtain ⟨b32, g32⟩ : ∃ z, z = h29.size := ⟨_, rfl⟩
    rw [← g32] at A32 st32
    have ne33 : b29 ≠ b32 := Nat.ne_of_lt (Nat.lt_of_lt_of_le A29.lt (Nat.le_of_eq g32.symm))
    have g34 : n0 ≤ b32 := Nat.le_trans Z29 (Nat.le_of_eq g32.symm)
    have z35 : h0.size ≤ b32 := Nat.le_trans K29.1 (Nat.le_of_eq g32.symm)
    have V32 : Arv Z h32 b32 k32 .char (0 : Int32) [] (.int (0 : Int32)) := Arv.new A32 (by decide)
    have Z32 : n0 ≤ h32.size := Nat.le_trans Z29 E32.1
    have K32 : Keep h0 h32 [] := K29.ext E32
    refine own_onJ st32 ?_
    show OwnGoJ p e below s _ _ _ (T32.setTop (mkF m 11 #[.val (.int vv), .val (.int fl), .unset] [(.ref b32), (.ref b29), (.ref b29)]))
    have f36 : Old Z n0 h29 := P0.ext E29
    have f37 : Old Z n0 h32 := f36.ext E32
    have f38 : Exa Z h32 b29 "java/lang/String" := A29.ext E32
    have f39 : Fld Z h32 b29 "java/lang/String" "value" "[B" .null := F29_value.ext E32
    have f40 : Fld Z h32 b29 "java/lang/String" "coder" "B" (.int (0 : Int32)) := F29_coder.ext E32
    have j41 := hJ0.keep K32
    obtain ⟨_, _, ⟨T42, L42, k42, n42⟩, -, X42, hS42, hG42, ⟨Lc42, hQ42, l42, y42, z42⟩, st42⟩ := X32.specialBackS hx (y := (⟨"java/lang/String", "<init>", "([C)V"⟩ : MethodName)) rfl hown (mvT hZ (w9 hw)) (mvT hZ (w10 hw)) (mvT hZ (w11 hw)) (by decide) (own_backJ (J := fun vm_ => OwnLd Z vm_ h32) (Q := QsC Z b29 b32 cs (.int (0 : Int32)) k32 (.int (0 : Int32)) h32 n0) (W := 1) (rmsC l Z a0 hw [] b29 b32 cs (.int (0 : Int32)) k32 (.int (0 : Int32)) h32 n0 Z32 f37 P1 P2 f38 f39 f40 g30 P3 P4 V32) hZ (w11 hw) (w7 hw) (by decide) (by decide)) (g := (mkF m 11 #[.val (.int vv), .val (.int fl), .unset] [(.ref b32), (.ref b29), (.ref b29)])) rfl (by rw [hml]; rfl) (Steps.refl _) (a := b29) (argsL := [(.ref b32)]) (rest := [(.ref b29)]) (lenOf pd_2 rfl) rfl (by show 2 * 0 + _ ≤ _; exact Nat.le_of_eq rfl) (hb hby d1_11) (fun _ hWx => ⟨rfl, e32, j41.warm hWx, (by decide : 2 + 2 ≤ _), (by decide : 4 + 8 ≤ _)⟩)
    dsimp only [Pt.U, Pt.locs, Pt.cells, Pt.slots] at X42 l42 y42 z42 st42 hQ42 hS42 hG42
    have f43 : 0 ≤ h29.size := Nat.le_trans (Nat.zero_le _) E29.1
    have f44 : 0 ≤ h32.size := Nat.le_trans f43 E32.1
    obtain ⟨X42, hS42, hZ, hown⟩ := rebS hS0 (Nat.le_trans f44 (Nat.le_of_eq (congrArg Array.size e32.symm))) X42 hS42 hG42 hZ hown
    replace X42 := own_num (c' := 4) (n' := 12) X42 l42 (y42.trans rfl) (z42.trans rfl)
    obtain ⟨rfl, N42q, K42q, c42_0, c42_1, c42_2, c42_3⟩ := hQ42
    have N42 := Fr.app N0 N42q
    have Z42 : n0 ≤ T42.heap.size := Nat.le_trans Z32 K42q.1
    have K42 : Keep h0 T42.heap [] := K32.trans K42q (allS (P := fun x => x ∈ [] ∨ h0.size ≤ x) (Or.inr z31) all0)
    have hk42 : T42.heap.size ≤ T42.heap.size := Nat.le_refl _
    refine own_trJ st42 ?_
    show OwnGoJ p e below s _ _ _ (T42.setTop (mkF m 14 #[.val (.int vv), .val (.int fl), .unset] [(.ref b29)]))
    have sp45 : OwnS Z T42.heap b29 (own_ph vv fl) := by rw [own_ph, if_neg q0]; exact c42_1
    have j46 := c42_2.warm X42.warmed
    exact own_retAJ X42 hx hlk Bd.returns rfl rfl (hb hby d1_14) rfl ⟨b29, rfl, N42, K42, c42_0, sp45, g30, z31, j46, c42_3⟩ (by decide) (by decide) hS42 hk42
theorem ef_10 (m : MethodId) (a : Addr) (b : Addr)  : entryFrame m #[(.ref a), (.ref b)] 2 = mkF m 0 #[.val (.ref a), .val (.ref b)] [] := by first | (simp [entryFrame, mkF, argsToLocals, Value.category]; done) | rfl
def Q10 (Z : State) (a : Addr) (b : Addr) (h0 : Heap) (n0 : Nat) (v_ : Option Value) (h_ : Heap) (L_ : List Loc) : Prop := v_ = some (.ref a) ∧ Fr n0 L_ ∧ h_ = h0
set_option maxRecDepth 65536 in
set_option maxHeartbeats 40000000 in
theorem rm10 (l : Launch) (Z : State) (a0 : Array Value) (hw : ∀ d ∈ tables_1, d.before a0 Z = true) (ws : List Jvm.Cond) (a : Addr) (b : Addr) (h0 : Heap) (n0 : Nat) (Z0 : n0 ≤ h0.size)  :
    MetFree l (⟨"java/util/Objects", "requireNonNull", "(Ljava/lang/Object;Ljava/lang/String;)Ljava/lang/Object;"⟩ : MethodName) (head1 (Jvm.Cond.code (⟨"java/util/Objects", "requireNonNull", "(Ljava/lang/Object;Ljava/lang/String;)Ljava/lang/Object;"⟩ : MethodName) jdk_31_method_11_code 2 (some (.object "java/lang/Object")) :: ws) ({ frames := 0, cells := 0, slots := 0, locals := 0 } : Room)) (fun A_ U => A_ = #[(.ref a), (.ref b)] ∧ Z.Warmed39 U.vm ∧ U.heap = h0) (fun _ _ _ _ _ => True) (fun _ U_ o_ U'_ => ∃ v_ L_, o_ = .returned v_ ∧ Q10 Z a b h0 n0 v_ U'_.heap L_ ∧ FrameEnd U_ o_ U'_ L_ ({ frames := 0, cells := 0, slots := 0, locals := 0 } : Room).cells ({ frames := 0, cells := 0, slots := 0, locals := 0 } : Room).slots) := by
  refine MetFree.of_bodySF (plainFor_of_name pn_3) hisR ?_
  intro p e s m args below meth c s₁ Bd hml0 hP hK
  obtain ⟨rfl, hZ, hh⟩ := hP
  have hx := Bd.exec
  have hby := Bd.bytes
  have hml : c.maxLocals = 2 := hml0
  have hown : s.vm.findClass "java/util/Objects" = some m.cls := findClass_of_methodNamed Bd.named
  have hnm := (name_of_methodNamed Bd.named Bd.method).1
  have hlk : meth.locks = false := Bd.notSynchronized
  have X0 : Stand p l e ({ frames := 0, cells := 0, slots := 0, locals := 0 } : Room) s m #[(.ref a), (.ref b)] below meth c s₁ [] 0 0 := Stand.of_body Bd
  have e0 : s₁.heap = h0 := by rw [← hh, Bd.state]; rfl
  have N0 := Fr.nil n0
  have K0 : Keep h0 h0 [] := Keep.refl _ _
  refine own_cast (ef_10 m a b) ?_
  show OwnGo p e below s (Q10 Z a b h0 n0) ({ frames := 0, cells := 0, slots := 0, locals := 0 } : Room).cells ({ frames := 0, cells := 0, slots := 0, locals := 0 } : Room).slots (s₁.setTop (mkF m 0 #[.val (.ref a), .val (.ref b)] []))
  refine own_on (fun t_ k_ => XS.aloadN X0.here hx rfl (hb hby d10_0) rfl rfl k_) ?_
  show OwnGo p e below s _ _ _ (s₁.setTop (mkF m 1 #[.val (.ref a), .val (.ref b)] [(.ref a)]))
  refine own_on (fun t_ k_ => XS.ifnonnullYes X0.here hx rfl (pc0 := 1) (pc' := 13) rfl (hb hby d10_1) rfl (by decide) (by decide) k_) ?_
  show OwnGo p e below s _ _ _ (s₁.setTop (mkF m 13 #[.val (.ref a), .val (.ref b)] []))
  refine own_on (fun t_ k_ => XS.aloadN X0.here hx rfl (hb hby d10_13) rfl rfl k_) ?_
  show OwnGo p e below s _ _ _ (s₁.setTop (mkF m 14 #[.val (.ref a), .val (.ref b)] [(.ref a)]))
  exact own_retA X0 hx hlk Bd.returns rfl rfl (hb hby d10_14) e0 ⟨rfl, N0, rfl⟩ (by decide) (by decide)
theorem ef_9 (m : MethodId) (a : Addr) (cd : Int32) (sx : Addr)  : entryFrame m #[(.ref a), (.int cd), (.ref sx)] 4 = mkF m 0 #[.val (.ref a), .val (.int cd), .val (.ref sx), .unset] [] := by first | (simp [entryFrame, mkF, argsToLocals, Value.category]; done) | rfl
def Q9 (Z : State) (a : Addr) (cd : Int32) (sx : Addr) (cs : Int32) (sf : Value) (cl : List Int32) (u : Value) (u' : Value) (h0 : Heap) (n0 : Nat) (v_ : Option Value) (h_ : Heap) (L_ : List Loc) : Prop := v_ = none ∧ Fr n0 L_ ∧ Keep h0 h_ [a] ∧ (Exa Z h_ a "io/loomwire/handler/codec/http/HttpResponseStatus") ∧ (Fld Z h_ a "io/loomwire/handler/codec/http/HttpResponseStatus" "code" "I" (.int cd)) ∧ (Old Z n0 h_)
set_option maxRecDepth 65536 in
set_option maxHeartbeats 40000000 in
theorem rm9 (l : Launch) (Z : State) (a0 : Array Value) (hw : ∀ d ∈ tables_1, d.before a0 Z = true) (ws : List Jvm.Cond) (a : Addr) (cd : Int32) (sx : Addr) (cs : Int32) (sf : Value) (cl : List Int32) (u : Value) (u' : Value) (h0 : Heap) (n0 : Nat) (Z0 : n0 ≤ h0.size) (P0 : Old Z n0 h0) (P1 : Sta Z Z.heap "java/lang/String" "COMPACT_STRINGS" "Z" (.int cs)) (P2 : ¬ (cs = (0 : Int32))) (P3 : Sta Z Z.heap "jdk/internal/util/Preconditions" "SIOOBE_FORMATTER" "Ljava/util/function/BiFunction;" sf) (P4 : sf.isRef = true) (P5 : Exa Z h0 a "io/loomwire/handler/codec/http/HttpResponseStatus") (P6 : Fld Z h0 a "io/loomwire/handler/codec/http/HttpResponseStatus" "code" "I" u) (P7 : Fld Z h0 a "io/loomwire/handler/codec/http/HttpResponseStatus" "reasonPhrase" "Ljava/lang/String;" u') (P8 : n0 ≤ a) (P9 : OwnS Z h0 sx cl) (P10 : ¬ cd < (100 : Int32)) (P11 : ¬ (999 : Int32) < cd) (P12 : own_okl cl) :
    MetFree l (⟨"io/loomwire/handler/codec/http/HttpResponseStatus", "<init>", "(ILjava/lang/String;)V"⟩ : MethodName) (head1 (Jvm.Cond.code (⟨"io/loomwire/handler/codec/http/HttpResponseStatus", "<init>", "(ILjava/lang/String;)V"⟩ : MethodName) prog_19_method_1_code 4 none :: ws) ({ frames := 4, cells := 2, slots := 52, locals := 53 } : Room)) (fun A_ U => A_ = #[(.ref a), (.int cd), (.ref sx)] ∧ Z.Warmed39 U.vm ∧ U.heap = h0) (fun _ _ _ _ _ => True) (fun _ U_ o_ U'_ => ∃ v_ L_, o_ = .returned v_ ∧ Q9 Z a cd sx cs sf cl u u' h0 n0 v_ U'_.heap L_ ∧ ReturnedEndW U_ o_ U'_ L_ ({ frames := 4, cells := 2, slots := 52, locals := 53 } : Room).cells ({ frames := 4, cells := 2, slots := 52, locals := 53 } : Room).slots) := by
  refine MetFree.of_bodySF (plainFor_of_name pn_4) hisR ?_
  intro p e s m args below meth c s₁ Bd hml0 hP hK
  obtain ⟨rfl, hZ, hh⟩ := hP
  have hx := Bd.exec
  have hby := Bd.bytes
  have hml : c.maxLocals = 4 := hml0
  have hown : s.vm.findClass "io/loomwire/handler/codec/http/HttpResponseStatus" = some m.cls := findClass_of_methodNamed Bd.named
  have hnm := (name_of_methodNamed Bd.named Bd.method).1
  have hlk : meth.locks = false := Bd.notSynchronized
  have X0 : Stand p l e ({ frames := 4, cells := 2, slots := 52, locals := 53 } : Room) s m #[(.ref a), (.int cd), (.ref sx)] below meth c s₁ [] 0 0 := Stand.of_body Bd
  have e0 : s₁.heap = h0 := by rw [← hh, Bd.state]; rfl
  have N0 := Fr.nil n0
  have K0 : Keep h0 h0 [a] := Keep.refl _ _
  have hS0 : s.Since s₁.vm 0 := X0.warmed.since _
  have hZ : Z.Warmed39 (s.setVm s₁.vm).vm := wtrans hZ X0.warmed
  have hown : (s.setVm s₁.vm).vm.findClass "io/loomwire/handler/codec/http/HttpResponseStatus" = some m.cls := (X0.warmed.alike.findClass _ _).trans hown
  have X0 : Stand p l e ({ frames := 4, cells := 2, slots := 52, locals := 53 } : Room) (s.setVm s₁.vm) m #[(.ref a), (.int cd), (.ref sx)] below meth c s₁ [] 0 0 := X0.retabled X0.warmed.wide
  have hml : c.maxLocals = 4 := hml
  refine own_castW (ef_9 m a cd sx) ?_
  show OwnGoW p e below s (Q9 Z a cd sx cs sf cl u u' h0 n0) ({ frames := 4, cells := 2, slots := 52, locals := 53 } : Room).cells ({ frames := 4, cells := 2, slots := 52, locals := 53 } : Room).slots (s₁.setTop (mkF m 0 #[.val (.ref a), .val (.int cd), .val (.ref sx), .unset] []))
  refine own_onW (fun t_ k_ => XS.aloadN X0.here hx rfl (hb hby d9_0) rfl rfl k_) ?_
  show OwnGoW p e below s _ _ _ (s₁.setTop (mkF m 1 #[.val (.ref a), .val (.int cd), .val (.ref sx), .unset] [(.ref a)]))
  obtain ⟨T1, X1, e1, st1⟩ := initO X0 hx hZ hown (w47 hw) (w17 hw) (w18 hw) e0 (g := (mkF m 1 #[.val (.ref a), .val (.int cd), .val (.ref sx), .unset] [(.ref a)])) rfl (by rw [hml]; rfl) rfl (hb hby d9_1) (by decide) (W := 0) (by show 2 * 0 + _ ≤ _; exact Nat.le_of_eq rfl) (by decide)
  refine own_onW st1 ?_
  show OwnGoW p e below s _ _ _ (T1.setTop (mkF m 4 #[.val (.ref a), .val (.int cd), .val (.ref sx), .unset] []))
  refine own_onW (fun t_ k_ => XS.iloadN X1.here hx rfl (hb hby d9_4) rfl k_) ?_
  show OwnGoW p e below s _ _ _ (T1.setTop (mkF m 5 #[.val (.ref a), .val (.int cd), .val (.ref sx), .unset] [(.int cd)]))
  refine own_onW (fun t_ k_ => XS.bipush X1.here hx rfl (hb hby d9_5) k_) ?_
  show OwnGoW p e below s _ _ _ (T1.setTop (mkF m 7 #[.val (.ref a), .val (.int cd), .val (.ref sx), .unset] [(.int (100 : Int32)), (.int cd)]))
  refine own_onW (fun t_ k_ => XS.icmpNo X1.here hx rfl (hb hby d9_7) rfl (flt P10).1 k_) ?_
  show OwnGoW p e below s _ _ _ (T1.setTop (mkF m 10 #[.val (.ref a), .val (.int cd), .val (.ref sx), .unset] []))
  refine own_onW (fun t_ k_ => XS.iloadN X1.here hx rfl (hb hby d9_10) rfl k_) ?_
  show OwnGoW p e below s _ _ _ (T1.setTop (mkF m 11 #[.val (.ref a), .val (.int cd), .val (.ref sx), .unset] [(.int cd)]))
  refine own_onW (fun t_ k_ => XS.sipush X1.here hx rfl (hb hby d9_11) k_) ?_
  show OwnGoW p e below s _ _ _ (T1.setTop (mkF m 14 #[.val (.ref a), .val (.int cd), .val (.ref sx), .unset] [(.int (999 : Int32)), (.int cd)]))
  refine own_onW (fun t_ k_ => XS.icmpYes X1.here hx rfl (pc0 := 14) (pc' := 31) rfl (hb hby d9_14) rfl (flt P11).2.2.2 (by decide) (by decide) k_) ?_
  show OwnGoW p e below s _ _ _ (T1.setTop (mkF m 31 #[.val (.ref a), .val (.int cd), .val (.ref sx), .unset] []))
  refine own_onW (fun t_ k_ => XS.aloadN X1.here hx rfl (hb hby d9_31) rfl rfl k_) ?_
  show OwnGoW p e below s _ _ _ (T1.setTop (mkF m 32 #[.val (.ref a), .val (.int cd), .val (.ref sx), .unset] [(.ref sx)]))
  obtain ⟨b2, T2, h2, k2, X2, e2, E2, hS2, hk2, hZ, hown, st2⟩ := ldcS X1 hx hZ hown (w48 hw) (own_str hw) e1 hS0 (Nat.zero_le _) (g := (mkF m 32 #[.val (.ref a), .val (.int cd), .val (.ref sx), .unset] [(.ref sx)])) rfl (hb hby d9_32) (n := 48) (by decide) (by decide) (by decide) (by decide)
  have Z2 : n0 ≤ h2.size := Nat.le_trans Z0 E2.1
  have K2 : Keep h0 h2 [a] := K0.ext E2
  refine own_onW st2 ?_
  show OwnGoW p e below s _ _ _ (T2.setTop (mkF m 34 #[.val (.ref a), .val (.int cd), .val (.ref sx), .unset] [(.ref b2), (.ref sx)]))
  obtain ⟨_, _, ⟨T3, L3, k3, n3⟩, -, X3, ⟨Lc3, hQ3, l3, y3, z3⟩, st3⟩ := Jvm.LawKit.callS X2 hx (y := (⟨"java/util/Objects", "requireNonNull", "(Ljava/lang/Object;Ljava/lang/String;)Ljava/lang/Object;"⟩ : MethodName)) hown (mvT hZ (w49 hw)) (mvT hZ (w50 hw)) (mvT hZ (w51 hw)) (mvT hZ (w52 hw)) (by decide) (backOf (W := 0) (rm10 l Z a0 hw [] sx b2 h2 n0 Z2 ) hZ (w52 hw) (w51 hw) (by decide) (by decide)) (g := (mkF m 34 #[.val (.ref a), .val (.int cd), .val (.ref sx), .unset] [(.ref b2), (.ref sx)])) rfl (by rw [hml]; rfl) (argsL := [(.ref sx), (.ref b2)]) (rest := []) (lenOf pd_3 rfl) rfl (by show 2 * 0 + _ ≤ _; exact Nat.le_of_eq rfl) (hb hby d9_34) (fun _ hWx => ⟨rfl, e2, (by decide : 2 + 0 ≤ _), (by decide : 52 + 0 ≤ _)⟩)
  dsimp only [Pt.U, Pt.locs, Pt.cells, Pt.slots] at X3 l3 y3 z3 st3 hQ3
  replace X3 := own_num (c' := 2) (n' := 52) X3 l3 (y3.trans rfl) (z3.trans rfl)
  obtain ⟨rfl, N3q, e3⟩ := hQ3
  have N3 := Fr.app N0 N3q
  refine own_onW st3 ?_
  show OwnGoW p e below s _ _ _ (T3.setTop (mkF m 37 #[.val (.ref a), .val (.int cd), .val (.ref sx), .unset] [(.ref sx)]))
  refine own_onW (fun t_ k_ => XS.pop X3.here hx rfl (hb hby d9_37) rfl rfl k_) ?_
  show OwnGoW p e below s _ _ _ (T3.setTop (mkF m 38 #[.val (.ref a), .val (.int cd), .val (.ref sx), .unset] []))
  refine own_onW (fun t_ k_ => XS.iconst X3.here hx rfl (hb hby d9_38) k_) ?_
  show OwnGoW p e below s _ _ _ (T3.setTop (mkF m 39 #[.val (.ref a), .val (.int cd), .val (.ref sx), .unset] [(.int (0 : Int32))]))
  refine own_onW (fun t_ k_ => XS.istoreN X3.here hx rfl (hb hby d9_39) rfl (l' := #[.val (.ref a), .val (.int cd), .val (.ref sx), .val (.int (0 : Int32))]) rfl k_) ?_
  show OwnGoW p e below s _ _ _ (T3.setTop (mkF m 40 #[.val (.ref a), .val (.int cd), .val (.ref sx), .val (.int (0 : Int32))] []))
  have f4 : OwnS Z h2 sx cl := P9.ext E2
  rcases P12 with rfl | ⟨c1, c2, rfl, hc1, hc2⟩
  · refine own_onW (fun t_ k_ => XS.iloadN X3.here hx rfl (hb hby d9_40) rfl k_) ?_
    show OwnGoW p e below s _ _ _ (T3.setTop (mkF m 41 #[.val (.ref a), .val (.int cd), .val (.ref sx), .val (.int (0 : Int32))] [(.int (0 : Int32))]))
    refine own_onW (fun t_ k_ => XS.aloadN X3.here hx rfl (hb hby d9_41) rfl rfl k_) ?_
    show OwnGoW p e below s _ _ _ (T3.setTop (mkF m 42 #[.val (.ref a), .val (.int cd), .val (.ref sx), .val (.int (0 : Int32))] [(.ref sx), (.int (0 : Int32))]))
    have f5 : Exa Z h2 sx "java/lang/String" := f4.exa
    have f6 : Old Z n0 h2 := P0.ext E2
    obtain ⟨cq7, kq7, q7a, q7b, q7c⟩ := isOf hZ e3 f5
    obtain ⟨_, _, ⟨T7, L7, k7, n7⟩, -, X7, ⟨Lc7, hQ7, l7, y7, z7⟩, st7⟩ := X3.virtualBack hx (y := (⟨"java/lang/String", "length", "()I"⟩ : MethodName)) (z := (⟨"java/lang/String", "length", "()I"⟩ : MethodName)) hown (mvT hZ (w53 hw)) (mvT hZ (w54 hw)) (notFace_of_selects (args := #[]) (mvT hZ (w56 hw))) (mvT hZ (w56 hw)) (mvT hZ (w55 hw)) (by decide) (own_lenS (n0 := n0) (W := 1) hZ hw f4 f6 P1 P2 (by decide) (by decide)) q7a q7c (g := (mkF m 42 #[.val (.ref a), .val (.int cd), .val (.ref sx), .val (.int (0 : Int32))] [(.ref sx), (.int (0 : Int32))])) rfl (by rw [hml]; rfl) (Steps.refl _) (argsL := []) (rest := [(.int (0 : Int32))]) (lenOf pd_4 rfl) rfl (by show 2 * 0 + _ ≤ _; exact Nat.le_of_eq rfl) (hb hby d9_42) (fun _ hWx => ⟨rfl, e3, (by decide : 2 + 0 ≤ _), (by decide : 52 + 0 ≤ _)⟩)
    dsimp only [Pt.U, Pt.locs, Pt.cells, Pt.slots] at X7 l7 y7 z7 st7 hQ7
    replace X7 := own_num (c' := 2) (n' := 52) X7 l7 (y7.trans rfl) (z7.trans rfl)
    obtain ⟨rfl, N7q, e7⟩ := hQ7
    have N7 := Fr.app N3 N7q
    refine own_trW st7 ?_
    show OwnGoW p e below s _ _ _ (T7.setTop (mkF m 45 #[.val (.ref a), .val (.int cd), .val (.ref sx), .val (.int (0 : Int32))] [(.int (Int32.ofNat ([]).length)), (.int (0 : Int32))]))
    rw [show (Int32.ofNat ([]).length) = (0 : Int32) from rfl]
    show OwnGoW p e below s _ _ _ (T7.setTop (mkF m 45 #[.val (.ref a), .val (.int cd), .val (.ref sx), .val (.int (0 : Int32))] [(.int (0 : Int32)), (.int (0 : Int32))]))
    refine own_onW (fun t_ k_ => XS.icmpYes X7.here hx rfl (pc0 := 45) (pc' := 79) rfl (hb hby d9_45) rfl (flt (by decide : ¬ ((0 : Int32) < (0 : Int32)))).2.1 (by decide) (by decide) k_) ?_
    show OwnGoW p e below s _ _ _ (T7.setTop (mkF m 79 #[.val (.ref a), .val (.int cd), .val (.ref sx), .val (.int (0 : Int32))] []))
    refine own_onW (fun t_ k_ => XS.aloadN X7.here hx rfl (hb hby d9_79) rfl rfl k_) ?_
    show OwnGoW p e below s _ _ _ (T7.setTop (mkF m 80 #[.val (.ref a), .val (.int cd), .val (.ref sx), .val (.int (0 : Int32))] [(.ref a)]))
    refine own_onW (fun t_ k_ => XS.iloadN X7.here hx rfl (hb hby d9_80) rfl k_) ?_
    show OwnGoW p e below s _ _ _ (T7.setTop (mkF m 81 #[.val (.ref a), .val (.int cd), .val (.ref sx), .val (.int (0 : Int32))] [(.int cd), (.ref a)]))
    have f8 : Fld Z h2 a "io/loomwire/handler/codec/http/HttpResponseStatus" "code" "I" u := P6.ext E2
    have f9 : Exa Z h2 a "io/loomwire/handler/codec/http/HttpResponseStatus" := P5.ext E2
    obtain ⟨T10, h10, X10, e10, W10, st10⟩ := putF X7 hx hZ hown (host := "") (Or.inl (w63 hw)) Via.refl e7 f8 f9 (Or.inr ⟨(w64 hw), rfl, hnm⟩) (w42 hw) (ty := .int) (by decide) rfl rfl (g := (mkF m 81 #[.val (.ref a), .val (.int cd), .val (.ref sx), .val (.int (0 : Int32))] [(.int cd), (.ref a)])) rfl rfl (hb hby d9_81)
    have F10 := f8.same W10
    have N10 := Fr.snoc X10 N7 P8
    have Z10 : n0 ≤ h10.size := Nat.le_trans Z2 (Keep.of_wr W10).1
    have K10 : Keep h0 h10 [a] := K2.wr W10 (Or.inl (List.mem_of_getElem? (i := 0) rfl))
    refine own_onW st10 ?_
    show OwnGoW p e below s _ _ _ (T10.setTop (mkF m 84 #[.val (.ref a), .val (.int cd), .val (.ref sx), .val (.int (0 : Int32))] []))
    refine own_onW (fun t_ k_ => XS.aloadN X10.here hx rfl (hb hby d9_84) rfl rfl k_) ?_
    show OwnGoW p e below s _ _ _ (T10.setTop (mkF m 85 #[.val (.ref a), .val (.int cd), .val (.ref sx), .val (.int (0 : Int32))] [(.ref a)]))
    refine own_onW (fun t_ k_ => XS.aloadN X10.here hx rfl (hb hby d9_85) rfl rfl k_) ?_
    show OwnGoW p e below s _ _ _ (T10.setTop (mkF m 86 #[.val (.ref a), .val (.int cd), .val (.ref sx), .val (.int (0 : Int32))] [(.ref sx), (.ref a)]))
    have f11 : Fld Z h2 a "io/loomwire/handler/codec/http/HttpResponseStatus" "reasonPhrase" "Ljava/lang/String;" u' := P7.ext E2
    have f12 : Fld Z h10 a "io/loomwire/handler/codec/http/HttpResponseStatus" "reasonPhrase" "Ljava/lang/String;" u' := f11.other W10 (Or.inr (slot_ne (Or.inr (w66 hw)) (Or.inr (w64 hw)) (by decide) (t := (.object "java/lang/String")) (t' := .int) (by decide) (by decide)))
    have f13 : Exa Z h10 a "io/loomwire/handler/codec/http/HttpResponseStatus" := f9.wr W10
    obtain ⟨T14, h14, X14, e14, W14, st14⟩ := putF X10 hx hZ hown (host := "") (Or.inl (w65 hw)) Via.refl e10 f12 f13 (Or.inr ⟨(w66 hw), rfl, hnm⟩) (w42 hw) (ty := (.object "java/lang/String")) (by decide) rfl rfl (g := (mkF m 86 #[.val (.ref a), .val (.int cd), .val (.ref sx), .val (.int (0 : Int32))] [(.ref sx), (.ref a)])) rfl rfl (hb hby d9_86)
    have F14 := f12.same W14
    have N14 := Fr.snoc X14 N10 P8
    have Z14 : n0 ≤ h14.size := Nat.le_trans Z10 (Keep.of_wr W14).1
    have K14 : Keep h0 h14 [a] := K10.wr W14 (Or.inl (List.mem_of_getElem? (i := 0) rfl))
    refine own_onW st14 ?_
    show OwnGoW p e below s _ _ _ (T14.setTop (mkF m 89 #[.val (.ref a), .val (.int cd), .val (.ref sx), .val (.int (0 : Int32))] []))
    have f15 : Exa Z h14 a "io/loomwire/handler/codec/http/HttpResponseStatus" := f13.wr W14
    have f16 : Fld Z h14 a "io/loomwire/handler/codec/http/HttpResponseStatus" "code" "I" (.int cd) := F10.other W14 (Or.inr (slot_ne (Or.inr (w64 hw)) (Or.inr (w66 hw)) (by decide) (t := .int) (t' := (.object "java/lang/String")) (by decide) (by decide)))
    have f17 : Old Z n0 h10 := f6.wr W10 P8
    have f18 : Old Z n0 h14 := f17.wr W14 P8
    have f19 : k2 ≤ h10.size := Nat.le_trans hk2 (Keep.of_wr W10).1
    have f20 : k2 ≤ h14.size := Nat.le_trans f19 (Keep.of_wr W14).1
    exact own_retVW X14 hx hlk Bd.returns (hb hby d9_89) e14 ⟨rfl, N14, K14, f15, f16, f18⟩ (by decide) (by decide) hS2 (Nat.le_trans f20 (Nat.le_of_eq (congrArg Array.size e14.symm)))
  · refine own_onW (fun t_ k_ => XS.iloadN X3.here hx rfl (hb hby d9_40) rfl k_) ?_
    show OwnGoW p e below s _ _ _ (T3.setTop (mkF m 41 #[.val (.ref a), .val (.int cd), .val (.ref sx), .val (.int (0 : Int32))] [(.int (0 : Int32))]))
    refine own_onW (fun t_ k_ => XS.aloadN X3.here hx rfl (hb hby d9_41) rfl rfl k_) ?_
    show OwnGoW p e below s _ _ _ (T3.setTop (mkF m 42 #[.val (.ref a), .val (.int cd), .val (.ref sx), .val (.int (0 : Int32))] [(.ref sx), (.int (0 : Int32))]))
    have f21 : Exa Z h2 sx "java/lang/String" := f4.exa
    have f22 : Old Z n0 h2 := P0.ext E2
    obtain ⟨cq23, kq23, q23a, q23b, q23c⟩ := isOf hZ e3 f21
    obtain ⟨_, _, ⟨T23, L23, k23, n23⟩, -, X23, ⟨Lc23, hQ23, l23, y23, z23⟩, st23⟩ := X3.virtualBack hx (y := (⟨"java/lang/String", "length", "()I"⟩ : MethodName)) (z := (⟨"java/lang/String", "length", "()I"⟩ : MethodName)) hown (mvT hZ (w53 hw)) (mvT hZ (w54 hw)) (notFace_of_selects (args := #[]) (mvT hZ (w56 hw))) (mvT hZ (w56 hw)) (mvT hZ (w55 hw)) (by decide) (own_lenS (n0 := n0) (W := 1) hZ hw f4 f22 P1 P2 (by decide) (by decide)) q23a q23c (g := (mkF m 42 #[.val (.ref a), .val (.int cd), .val (.ref sx), .val (.int (0 : Int32))] [(.ref sx), (.int (0 : Int32))])) rfl (by rw [hml]; rfl) (Steps.refl _) (argsL := []) (rest := [(.int (0 : Int32))]) (lenOf pd_4 rfl) rfl (by show 2 * 0 + _ ≤ _; exact Nat.le_of_eq rfl) (hb hby d9_42) (fun _ hWx => ⟨rfl, e3, (by decide : 2 + 0 ≤ _), (by decide : 52 + 0 ≤ _)⟩)
    dsimp only [Pt.U, Pt.locs, Pt.cells, Pt.slots] at X23 l23 y23 z23 st23 hQ23
    replace X23 := own_num (c' := 2) (n' := 52) X23 l23 (y23.trans rfl) (z23.trans rfl)
    obtain ⟨rfl, N23q, e23⟩ := hQ23
    have N23 := Fr.app N3 N23q
    refine own_trW st23 ?_
    show OwnGoW p e below s _ _ _ (T23.setTop (mkF m 45 #[.val (.ref a), .val (.int cd), .val (.ref sx), .val (.int (0 : Int32))] [(.int (Int32.ofNat ([c1, c2]).length)), (.int (0 : Int32))]))
    rw [show (Int32.ofNat ([c1, c2]).length) = (2 : Int32) from rfl]
    show OwnGoW p e below s _ _ _ (T23.setTop (mkF m 45 #[.val (.ref a), .val (.int cd), .val (.ref sx), .val (.int (0 : Int32))] [(.int (2 : Int32)), (.int (0 : Int32))]))
    refine own_onW (fun t_ k_ => XS.icmpNo X23.here hx rfl (hb hby d9_45) rfl (tlt (by decide : (0 : Int32) < (2 : Int32))).2.1 k_) ?_
    show OwnGoW p e below s _ _ _ (T23.setTop (mkF m 48 #[.val (.ref a), .val (.int cd), .val (.ref sx), .val (.int (0 : Int32))] []))
    refine own_onW (fun t_ k_ => XS.aloadN X23.here hx rfl (hb hby d9_48) rfl rfl k_) ?_
    show OwnGoW p e below s _ _ _ (T23.setTop (mkF m 49 #[.val (.ref a), .val (.int cd), .val (.ref sx), .val (.int (0 : Int32))] [(.ref sx)]))
    refine own_onW (fun t_ k_ => XS.iloadN X23.here hx rfl (hb hby d9_49) rfl k_) ?_
    show OwnGoW p e below s _ _ _ (T23.setTop (mkF m 50 #[.val (.ref a), .val (.int cd), .val (.ref sx), .val (.int (0 : Int32))] [(.int (0 : Int32)), (.ref sx)]))
    obtain ⟨cq24, kq24, q24a, q24b, q24c⟩ := isOf hZ e23 f21
    obtain ⟨_, _, ⟨T24, L24, k24, n24⟩, -, X24, ⟨Lc24, hQ24, l24, y24, z24⟩, st24⟩ := X23.virtualBack hx (y := (⟨"java/lang/String", "charAt", "(I)C"⟩ : MethodName)) (z := (⟨"java/lang/String", "charAt", "(I)C"⟩ : MethodName)) hown (mvT hZ (w67 hw)) (mvT hZ (w68 hw)) (notFace_of_selects (args := #[]) (mvT hZ (w70 hw))) (mvT hZ (w70 hw)) (mvT hZ (w69 hw)) (by decide) (own_chS (n0 := n0) (W := 0) (i := 0) hZ hw f4 f22 P1 P2 P3 P4 (Nat.le_of_ble_eq_true rfl) rfl (by decide) (by decide)) q24a q24c (g := (mkF m 50 #[.val (.ref a), .val (.int cd), .val (.ref sx), .val (.int (0 : Int32))] [(.int (0 : Int32)), (.ref sx)])) rfl (by rw [hml]; rfl) (Steps.refl _) (argsL := [(.int (0 : Int32))]) (rest := []) (lenOf pd_1 rfl) rfl (by show 2 * 0 + _ ≤ _; exact Nat.le_of_eq rfl) (hb hby d9_50) (fun _ hWx => ⟨rfl, e23, (by decide : 2 + 0 ≤ _), (by decide : 52 + 0 ≤ _)⟩)
    dsimp only [Pt.U, Pt.locs, Pt.cells, Pt.slots] at X24 l24 y24 z24 st24 hQ24
    replace X24 := own_num (c' := 2) (n' := 52) X24 l24 (y24.trans rfl) (z24.trans rfl)
    obtain ⟨rfl, N24q, e24⟩ := hQ24
    have N24 := Fr.app N23 N24q
    refine own_trW st24 ?_
    show OwnGoW p e below s _ _ _ (T24.setTop (mkF m 53 #[.val (.ref a), .val (.int cd), .val (.ref sx), .val (.int (0 : Int32))] [(.int (([c1, c2]).getD 0 0))]))
    rw [show (([c1, c2]).getD 0 0) = c1 from rfl]
    show OwnGoW p e below s _ _ _ (T24.setTop (mkF m 53 #[.val (.ref a), .val (.int cd), .val (.ref sx), .val (.int (0 : Int32))] [(.int c1)]))
    obtain ⟨_, _, ⟨T25, L25, k25, n25⟩, -, X25, ⟨Lc25, hQ25, l25, y25, z25⟩, st25⟩ := Jvm.LawKit.callS X24 hx (y := (⟨"io/loomwire/handler/codec/http/HttpHeaders", "isFieldValueChar", "(I)Z"⟩ : MethodName)) hown (mvT hZ (w89 hw)) (mvT hZ (w90 hw)) (mvT hZ (w91 hw)) (mvT hZ (w92 hw)) (by decide) (backOf (W := 0) (rm18 l Z a0 hw [] c1 h2 n0 Z2 ) hZ (w92 hw) (w91 hw) (by decide) (by decide)) (g := (mkF m 53 #[.val (.ref a), .val (.int cd), .val (.ref sx), .val (.int (0 : Int32))] [(.int c1)])) rfl (by rw [hml]; rfl) (argsL := [(.int c1)]) (rest := []) (lenOf pd_5 rfl) rfl (by show 2 * 0 + _ ≤ _; exact Nat.le_of_eq rfl) (hb hby d9_53) (fun _ hWx => ⟨rfl, e24, (by decide : 2 + 0 ≤ _), (by decide : 52 + 0 ≤ _)⟩)
    dsimp only [Pt.U, Pt.locs, Pt.cells, Pt.slots] at X25 l25 y25 z25 st25 hQ25
    replace X25 := own_num (c' := 2) (n' := 52) X25 l25 (y25.trans rfl) (z25.trans rfl)
    obtain ⟨rfl, N25q, e25⟩ := hQ25
    have N25 := Fr.app N24 N25q
    refine own_onW st25 ?_
    show OwnGoW p e below s _ _ _ (T25.setTop (mkF m 56 #[.val (.ref a), .val (.int cd), .val (.ref sx), .val (.int (0 : Int32))] [(.int (own_fvc c1))]))
    rw [show (own_fvc c1) = (1 : Int32) from hc1]
    show OwnGoW p e below s _ _ _ (T25.setTop (mkF m 56 #[.val (.ref a), .val (.int cd), .val (.ref sx), .val (.int (0 : Int32))] [(.int (1 : Int32))]))
    refine own_onW (fun t_ k_ => XS.ifYes X25.here hx rfl (pc0 := 56) (pc' := 73) rfl (hb hby d9_56) rfl ((if0 _ _).trans (feq (by decide : ¬ ((1 : Int32) = (0 : Int32)))).2) (by decide) (by decide) k_) ?_
    show OwnGoW p e below s _ _ _ (T25.setTop (mkF m 73 #[.val (.ref a), .val (.int cd), .val (.ref sx), .val (.int (0 : Int32))] []))
    refine own_onW (fun t_ k_ => XS.iinc X25.here hx rfl (hb hby d9_73) rfl (l' := #[.val (.ref a), .val (.int cd), .val (.ref sx), .val (.int (1 : Int32))]) rfl k_) ?_
    show OwnGoW p e below s _ _ _ (T25.setTop (mkF m 76 #[.val (.ref a), .val (.int cd), .val (.ref sx), .val (.int (1 : Int32))] []))
    refine own_onW (fun t_ k_ => XS.goto X25.here hx rfl (pc0 := 76) (pc' := 40) rfl (hb hby d9_76) (by decide) (by decide) k_) ?_
    show OwnGoW p e below s _ _ _ (T25.setTop (mkF m 40 #[.val (.ref a), .val (.int cd), .val (.ref sx), .val (.int (1 : Int32))] []))
    refine own_onW (fun t_ k_ => XS.iloadN X25.here hx rfl (hb hby d9_40) rfl k_) ?_
    show OwnGoW p e below s _ _ _ (T25.setTop (mkF m 41 #[.val (.ref a), .val (.int cd), .val (.ref sx), .val (.int (1 : Int32))] [(.int (1 : Int32))]))
    refine own_onW (fun t_ k_ => XS.aloadN X25.here hx rfl (hb hby d9_41) rfl rfl k_) ?_
    show OwnGoW p e below s _ _ _ (T25.setTop (mkF m 42 #[.val (.ref a), .val (.int cd), .val (.ref sx), .val (.int (1 : Int32))] [(.ref sx), (.int (1 : Int32))]))
    obtain ⟨cq26, kq26, q26a, q26b, q26c⟩ := isOf hZ e25 f21
    obtain ⟨_, _, ⟨T26, L26, k26, n26⟩, -, X26, ⟨Lc26, hQ26, l26, y26, z26⟩, st26⟩ := X25.virtualBack hx (y := (⟨"java/lang/String", "length", "()I"⟩ : MethodName)) (z := (⟨"java/lang/String", "length", "()I"⟩ : MethodName)) hown (mvT hZ (w53 hw)) (mvT hZ (w54 hw)) (notFace_of_selects (args := #[]) (mvT hZ (w56 hw))) (mvT hZ (w56 hw)) (mvT hZ (w55 hw)) (by decide) (own_lenS (n0 := n0) (W := 1) hZ hw f4 f22 P1 P2 (by decide) (by decide)) q26a q26c (g := (mkF m 42 #[.val (.ref a), .val (.int cd), .val (.ref sx), .val (.int (1 : Int32))] [(.ref sx), (.int (1 : Int32))])) rfl (by rw [hml]; rfl) (Steps.refl _) (argsL := []) (rest := [(.int (1 : Int32))]) (lenOf pd_4 rfl) rfl (by show 2 * 0 + _ ≤ _; exact Nat.le_of_eq rfl) (hb hby d9_42) (fun _ hWx => ⟨rfl, e25, (by decide : 2 + 0 ≤ _), (by decide : 52 + 0 ≤ _)⟩)
    dsimp only [Pt.U, Pt.locs, Pt.cells, Pt.slots] at X26 l26 y26 z26 st26 hQ26
    replace X26 := own_num (c' := 2) (n' := 52) X26 l26 (y26.trans rfl) (z26.trans rfl)
    obtain ⟨rfl, N26q, e26⟩ := hQ26
    have N26 := Fr.app N25 N26q
    refine own_trW st26 ?_
    show OwnGoW p e below s _ _ _ (T26.setTop (mkF m 45 #[.val (.ref a), .val (.int cd), .val (.ref sx), .val (.int (1 : Int32))] [(.int (Int32.ofNat ([c1, c2]).length)), (.int (1 : Int32))]))
    rw [show (Int32.ofNat ([c1, c2]).length) = (2 : Int32) from rfl]
    show OwnGoW p e below s _ _ _ (T26.setTop (mkF m 45 #[.val (.ref a), .val (.int cd), .val (.ref sx), .val (.int (1 : Int32))] [(.int (2 : Int32)), (.int (1 : Int32))]))
    refine own_onW (fun t_ k_ => XS.icmpNo X26.here hx rfl (hb hby d9_45) rfl (tlt (by decide : (1 : Int32) < (2 : Int32))).2.1 k_) ?_
    show OwnGoW p e below s _ _ _ (T26.setTop (mkF m 48 #[.val (.ref a), .val (.int cd), .val (.ref sx), .val (.int (1 : Int32))] []))
    refine own_onW (fun t_ k_ => XS.aloadN X26.here hx rfl (hb hby d9_48) rfl rfl k_) ?_
    show OwnGoW p e below s _ _ _ (T26.setTop (mkF m 49 #[.val (.ref a), .val (.int cd), .val (.ref sx), .val (.int (1 : Int32))] [(.ref sx)]))
    refine own_onW (fun t_ k_ => XS.iloadN X26.here hx rfl (hb hby d9_49) rfl k_) ?_
    show OwnGoW p e below s _ _ _ (T26.setTop (mkF m 50 #[.val (.ref a), .val (.int cd), .val (.ref sx), .val (.int (1 : Int32))] [(.int (1 : Int32)), (.ref sx)]))
    obtain ⟨cq27, kq27, q27a, q27b, q27c⟩ := isOf hZ e26 f21
    obtain ⟨_, _, ⟨T27, L27, k27, n27⟩, -, X27, ⟨Lc27, hQ27, l27, y27, z27⟩, st27⟩ := X26.virtualBack hx (y := (⟨"java/lang/String", "charAt", "(I)C"⟩ : MethodName)) (z := (⟨"java/lang/String", "charAt", "(I)C"⟩ : MethodName)) hown (mvT hZ (w67 hw)) (mvT hZ (w68 hw)) (notFace_of_selects (args := #[]) (mvT hZ (w70 hw))) (mvT hZ (w70 hw)) (mvT hZ (w69 hw)) (by decide) (own_chS (n0 := n0) (W := 0) (i := 1) hZ hw f4 f22 P1 P2 P3 P4 (Nat.le_of_ble_eq_true rfl) rfl (by decide) (by decide)) q27a q27c (g := (mkF m 50 #[.val (.ref a), .val (.int cd), .val (.ref sx), .val (.int (1 : Int32))] [(.int (1 : Int32)), (.ref sx)])) rfl (by rw [hml]; rfl) (Steps.refl _) (argsL := [(.int (1 : Int32))]) (rest := []) (lenOf pd_1 rfl) rfl (by show 2 * 0 + _ ≤ _; exact Nat.le_of_eq rfl) (hb hby d9_50) (fun _ hWx => ⟨rfl, e26, (by decide : 2 + 0 ≤ _), (by decide : 52 + 0 ≤ _)⟩)
    dsimp only [Pt.U, Pt.locs, Pt.cells, Pt.slots] at X27 l27 y27 z27 st27 hQ27
    replace X27 := own_num (c' := 2) (n' := 52) X27 l27 (y27.trans rfl) (z27.trans rfl)
    obtain ⟨rfl, N27q, e27⟩ := hQ27
    have N27 := Fr.app N26 N27q
    refine own_trW st27 ?_
    show OwnGoW p e below s _ _ _ (T27.setTop (mkF m 53 #[.val (.ref a), .val (.int cd), .val (.ref sx), .val (.int (1 : Int32))] [(.int (([c1, c2]).getD 1 0))]))
    rw [show (([c1, c2]).getD 1 0) = c2 from rfl]
    show OwnGoW p e below s _ _ _ (T27.setTop (mkF m 53 #[.val (.ref a), .val (.int cd), .val (.ref sx), .val (.int (1 : Int32))] [(.int c2)]))
    obtain ⟨_, _, ⟨T28, L28, k28, n28⟩, -, X28, ⟨Lc28, hQ28, l28, y28, z28⟩, st28⟩ := Jvm.LawKit.callS X27 hx (y := (⟨"io/loomwire/handler/codec/http/HttpHeaders", "isFieldValueChar", "(I)Z"⟩ : MethodName)) hown (mvT hZ (w89 hw)) (mvT hZ (w90 hw)) (mvT hZ (w91 hw)) (mvT hZ (w92 hw)) (by decide) (backOf (W := 0) (rm18 l Z a0 hw [] c2 h2 n0 Z2 ) hZ (w92 hw) (w91 hw) (by decide) (by decide)) (g := (mkF m 53 #[.val (.ref a), .val (.int cd), .val (.ref sx), .val (.int (1 : Int32))] [(.int c2)])) rfl (by rw [hml]; rfl) (argsL := [(.int c2)]) (rest := []) (lenOf pd_5 rfl) rfl (by show 2 * 0 + _ ≤ _; exact Nat.le_of_eq rfl) (hb hby d9_53) (fun _ hWx => ⟨rfl, e27, (by decide : 2 + 0 ≤ _), (by decide : 52 + 0 ≤ _)⟩)
    dsimp only [Pt.U, Pt.locs, Pt.cells, Pt.slots] at X28 l28 y28 z28 st28 hQ28
    replace X28 := own_num (c' := 2) (n' := 52) X28 l28 (y28.trans rfl) (z28.trans rfl)
    obtain ⟨rfl, N28q, e28⟩ := hQ28
    have N28 := Fr.app N27 N28q
    refine own_onW st28 ?_
    show OwnGoW p e below s _ _ _ (T28.setTop (mkF m 56 #[.val (.ref a), .val (.int cd), .val (.ref sx), .val (.int (1 : Int32))] [(.int (own_fvc c2))]))
    rw [show (own_fvc c2) = (1 : Int32) from hc2]
    show OwnGoW p e below s _ _ _ (T28.setTop (mkF m 56 #[.val (.ref a), .val (.int cd), .val (.ref sx), .val (.int (1 : Int32))] [(.int (1 : Int32))]))
    refine own_onW (fun t_ k_ => XS.ifYes X28.here hx rfl (pc0 := 56) (pc' := 73) rfl (hb hby d9_56) rfl ((if0 _ _).trans (feq (by decide : ¬ ((1 : Int32) = (0 : Int32)))).2) (by decide) (by decide) k_) ?_
    show OwnGoW p e below s _ _ _ (T28.setTop (mkF m 73 #[.val (.ref a), .val (.int cd), .val (.ref sx), .val (.int (1 : Int32))] []))
    refine own_onW (fun t_ k_ => XS.iinc X28.here hx rfl (hb hby d9_73) rfl (l' := #[.val (.ref a), .val (.int cd), .val (.ref sx), .val (.int (2 : Int32))]) rfl k_) ?_
    show OwnGoW p e below s _ _ _ (T28.setTop (mkF m 76 #[.val (.ref a), .val (.int cd), .val (.ref sx), .val (.int (2 : Int32))] []))
    refine own_onW (fun t_ k_ => XS.goto X28.here hx rfl (pc0 := 76) (pc' := 40) rfl (hb hby d9_76) (by decide) (by decide) k_) ?_
    show OwnGoW p e below s _ _ _ (T28.setTop (mkF m 40 #[.val (.ref a), .val (.int cd), .val (.ref sx), .val (.int (2 : Int32))] []))
    refine own_onW (fun t_ k_ => XS.iloadN X28.here hx rfl (hb hby d9_40) rfl k_) ?_
    show OwnGoW p e below s _ _ _ (T28.setTop (mkF m 41 #[.val (.ref a), .val (.int cd), .val (.ref sx), .val (.int (2 : Int32))] [(.int (2 : Int32))]))
    refine own_onW (fun t_ k_ => XS.aloadN X28.here hx rfl (hb hby d9_41) rfl rfl k_) ?_
    show OwnGoW p e below s _ _ _ (T28.setTop (mkF m 42 #[.val (.ref a), .val (.int cd), .val (.ref sx), .val (.int (2 : Int32))] [(.ref sx), (.int (2 : Int32))]))
    obtain ⟨cq29, kq29, q29a, q29b, q29c⟩ := isOf hZ e28 f21
    obtain ⟨_, _, ⟨T29, L29, k29, n29⟩, -, X29, ⟨Lc29, hQ29, l29, y29, z29⟩, st29⟩ := X28.virtualBack hx (y := (⟨"java/lang/String", "length", "()I"⟩ : MethodName)) (z := (⟨"java/lang/String", "length", "()I"⟩ : MethodName)) hown (mvT hZ (w53 hw)) (mvT hZ (w54 hw)) (notFace_of_selects (args := #[]) (mvT hZ (w56 hw))) (mvT hZ (w56 hw)) (mvT hZ (w55 hw)) (by decide) (own_lenS (n0 := n0) (W := 1) hZ hw f4 f22 P1 P2 (by decide) (by decide)) q29a q29c (g := (mkF m 42 #[.val (.ref a), .val (.int cd), .val (.ref sx), .val (.int (2 : Int32))] [(.ref sx), (.int (2 : Int32))])) rfl (by rw [hml]; rfl) (Steps.refl _) (argsL := []) (rest := [(.int (2 : Int32))]) (lenOf pd_4 rfl) rfl (by show 2 * 0 + _ ≤ _; exact Nat.le_of_eq rfl) (hb hby d9_42) (fun _ hWx => ⟨rfl, e28, (by decide : 2 + 0 ≤ _), (by decide : 52 + 0 ≤ _)⟩)
    dsimp only [Pt.U, Pt.locs, Pt.cells, Pt.slots] at X29 l29 y29 z29 st29 hQ29
    replace X29 := own_num (c' := 2) (n' := 52) X29 l29 (y29.trans rfl) (z29.trans rfl)
    obtain ⟨rfl, N29q, e29⟩ := hQ29
    have N29 := Fr.app N28 N29q
    refine own_trW st29 ?_
    show OwnGoW p e below s _ _ _ (T29.setTop (mkF m 45 #[.val (.ref a), .val (.int cd), .val (.ref sx), .val (.int (2 : Int32))] [(.int (Int32.ofNat ([c1, c2]).length)), (.int (2 : Int32))]))
    rw [show (Int32.ofNat ([c1, c2]).length) = (2 : Int32) from rfl]
    show OwnGoW p e below s _ _ _ (T29.setTop (mkF m 45 #[.val (.ref a), .val (.int cd), .val (.ref sx), .val (.int (2 : Int32))] [(.int (2 : Int32)), (.int (2 : Int32))]))
    refine own_onW (fun t_ k_ => XS.icmpYes X29.here hx rfl (pc0 := 45) (pc' := 79) rfl (hb hby d9_45) rfl (flt (by decide : ¬ ((2 : Int32) < (2 : Int32)))).2.1 (by decide) (by decide) k_) ?_
    show OwnGoW p e below s _ _ _ (T29.setTop (mkF m 79 #[.val (.ref a), .val (.int cd), .val (.ref sx), .val (.int (2 : Int32))] []))
    refine own_onW (fun t_ k_ => XS.aloadN X29.here hx rfl (hb hby d9_79) rfl rfl k_) ?_
    show OwnGoW p e below s _ _ _ (T29.setTop (mkF m 80 #[.val (.ref a), .val (.int cd), .val (.ref sx), .val (.int (2 : Int32))] [(.ref a)]))
    refine own_onW (fun t_ k_ => XS.iloadN X29.here hx rfl (hb hby d9_80) rfl k_) ?_
    show OwnGoW p e below s _ _ _ (T29.setTop (mkF m 81 #[.val (.ref a), .val (.int cd), .val (.ref sx), .val (.int (2 : Int32))] [(.int cd), (.ref a)]))
    have f30 : Fld Z h2 a "io/loomwire/handler/codec/http/HttpResponseStatus" "code" "I" u := P6.ext E2
    have f31 : Exa Z h2 a "io/loomwire/handler/codec/http/HttpResponseStatus" := P5.ext E2
    obtain ⟨T32, h32, X32, e32, W32, st32⟩ := putF X29 hx hZ hown (host := "") (Or.inl (w63 hw)) Via.refl e29 f30 f31 (Or.inr ⟨(w64 hw), rfl, hnm⟩) (w42 hw) (ty := .int) (by decide) rfl rfl (g := (mkF m 81 #[.val (.ref a), .val (.int cd), .val (.ref sx), .val (.int (2 : Int32))] [(.int cd), (.ref a)])) rfl rfl (hb hby d9_81)
    have F32 := f30.same W32
    have N32 := Fr.snoc X32 N29 P8
    have Z32 : n0 ≤ h32.size := Nat.le_trans Z2 (Keep.of_wr W32).1
    have K32 : Keep h0 h32 [a] := K2.wr W32 (Or.inl (List.mem_of_getElem? (i := 0) rfl))
    refine own_onW st32 ?_
    show OwnGoW p e below s _ _ _ (T32.setTop (mkF m 84 #[.val (.ref a), .val (.int cd), .val (.ref sx), .val (.int (2 : Int32))] []))
    refine own_onW (fun t_ k_ => XS.aloadN X32.here hx rfl (hb hby d9_84) rfl rfl k_) ?_
    show OwnGoW p e below s _ _ _ (T32.setTop (mkF m 85 #[.val (.ref a), .val (.int cd), .val (.ref sx), .val (.int (2 : Int32))] [(.ref a)]))
    refine own_onW (fun t_ k_ => XS.aloadN X32.here hx rfl (hb hby d9_85) rfl rfl k_) ?_
    show OwnGoW p e below s _ _ _ (T32.setTop (mkF m 86 #[.val (.ref a), .val (.int cd), .val (.ref sx), .val (.int (2 : Int32))] [(.ref sx), (.ref a)]))
    have f33 : Fld Z h2 a "io/loomwire/handler/codec/http/HttpResponseStatus" "reasonPhrase" "Ljava/lang/String;" u' := P7.ext E2
    have f34 : Fld Z h32 a "io/loomwire/handler/codec/http/HttpResponseStatus" "reasonPhrase" "Ljava/lang/String;" u' := f33.other W32 (Or.inr (slot_ne (Or.inr (w66 hw)) (Or.inr (w64 hw)) (by decide) (t := (.object "java/lang/String")) (t' := .int) (by decide) (by decide)))
    have f35 : Exa Z h32 a "io/loomwire/handler/codec/http/HttpResponseStatus" := f31.wr W32
    obtain ⟨T36, h36, X36, e36, W36, st36⟩ := putF X32 hx hZ hown (host := "") (Or.inl (w65 hw)) Via.refl e32 f34 f35 (Or.inr ⟨(w66 hw), rfl, hnm⟩) (w42 hw) (ty := (.object "java/lang/String")) (by decide) rfl rfl (g := (mkF m 86 #[.val (.ref a), .val (.int cd), .val (.ref sx), .val (.int (2 : Int32))] [(.ref sx), (.ref a)])) rfl rfl (hb hby d9_86)
    have F36 := f34.same W36
    have N36 := Fr.snoc X36 N32 P8
    have Z36 : n0 ≤ h36.size := Nat.le_trans Z32 (Keep.of_wr W36).1
    have K36 : Keep h0 h36 [a] := K32.wr W36 (Or.inl (List.mem_of_getElem? (i := 0) rfl))
    refine own_onW st36 ?_
    show OwnGoW p e below s _ _ _ (T36.setTop (mkF m 89 #[.val (.ref a), .val (.int cd), .val (.ref sx), .val (.int (2 : Int32))] []))
    have f37 : Exa Z h36 a "io/loomwire/handler/codec/http/HttpResponseStatus" := f35.wr W36
    have f38 : Fld Z h36 a "io/loomwire/handler/codec/http/HttpResponseStatus" "code" "I" (.int cd) := F32.other W36 (Or.inr (slot_ne (Or.inr (w64 hw)) (Or.inr (w66 hw)) (by decide) (t := .int) (t' := (.object "java/lang/String")) (by decide) (by decide)))
    have f39 : Old Z n0 h32 := f22.wr W32 P8
    have f40 : Old Z n0 h36 := f39.wr W36 P8
    have f41 : k2 ≤ h32.size := Nat.le_trans hk2 (Keep.of_wr W32).1
    have f42 : k2 ≤ h36.size := Nat.le_trans f41 (Keep.of_wr W36).1
    exact own_retVW X36 hx hlk Bd.returns (hb hby d9_89) e36 ⟨rfl, N36, K36, f37, f38, f40⟩ (by decide) (by decide) hS2 (Nat.le_trans f42 (Nat.le_of_eq (congrArg Array.size e36.symm)))
theorem ef_eqM (m : MethodId) (a : Addr) (b : Addr)  : entryFrame m #[(.ref a), (.ref b)] 3 = mkF m 0 #[.val (.ref a), .val (.ref b), .unset] [] := by first | (simp [entryFrame, mkF, argsToLocals, Value.category]; done) | rfl
def QeqM (Z : State) (a : Addr) (b : Addr) (ca : Int32) (cb : Int32) (h0 : Heap) (n0 : Nat) (v_ : Option Value) (h_ : Heap) (L_ : List Loc) : Prop := v_ = some (.int (own_eqc ca cb)) ∧ Fr n0 L_ ∧ h_ = h0
set_option maxRecDepth 65536 in
set_option maxHeartbeats 40000000 in
theorem rmeqM (l : Launch) (Z : State) (a0 : Array Value) (hw : ∀ d ∈ tables_1, d.before a0 Z = true) (ws : List Jvm.Cond) (a : Addr) (b : Addr) (ca : Int32) (cb : Int32) (h0 : Heap) (n0 : Nat) (Z0 : n0 ≤ h0.size) (P0 : Exa Z h0 a "io/loomwire/handler/codec/http/HttpResponseStatus") (P1 : Exa Z h0 b "io/loomwire/handler/codec/http/HttpResponseStatus") (P2 : Fld Z h0 a "io/loomwire/handler/codec/http/HttpResponseStatus" "code" "I" (.int ca)) (P3 : Fld Z h0 b "io/loomwire/handler/codec/http/HttpResponseStatus" "code" "I" (.int cb)) :
    MetFree l (⟨"io/loomwire/handler/codec/http/HttpResponseStatus", "equals", "(Ljava/lang/Object;)Z"⟩ : MethodName) (head1 (Jvm.Cond.code (⟨"io/loomwire/handler/codec/http/HttpResponseStatus", "equals", "(Ljava/lang/Object;)Z"⟩ : MethodName) prog_19_method_6_code 3 (some .boolean) :: ws) ({ frames := 0, cells := 0, slots := 0, locals := 0 } : Room)) (fun A_ U => A_ = #[(.ref a), (.ref b)] ∧ Z.Warmed39 U.vm ∧ U.heap = h0) (fun _ _ _ _ _ => True) (fun _ U_ o_ U'_ => ∃ v_ L_, o_ = .returned v_ ∧ QeqM Z a b ca cb h0 n0 v_ U'_.heap L_ ∧ FrameEnd U_ o_ U'_ L_ ({ frames := 0, cells := 0, slots := 0, locals := 0 } : Room).cells ({ frames := 0, cells := 0, slots := 0, locals := 0 } : Room).slots) := by
  refine MetFree.of_bodySF (plainFor_of_name pn_4) hisR ?_
  intro p e s m args below meth c s₁ Bd hml0 hP hK
  obtain ⟨rfl, hZ, hh⟩ := hP
  have hx := Bd.exec
  have hby := Bd.bytes
  have hml : c.maxLocals = 3 := hml0
  have hown : s.vm.findClass "io/loomwire/handler/codec/http/HttpResponseStatus" = some m.cls := findClass_of_methodNamed Bd.named
  have hnm := (name_of_methodNamed Bd.named Bd.method).1
  have hlk : meth.locks = false := Bd.notSynchronized
  have X0 : Stand p l e ({ frames := 0, cells := 0, slots := 0, locals := 0 } : Room) s m #[(.ref a), (.ref b)] below meth c s₁ [] 0 0 := Stand.of_body Bd
  have e0 : s₁.heap = h0 := by rw [← hh, Bd.state]; rfl
  have N0 := Fr.nil n0
  have K0 : Keep h0 h0 [] := Keep.refl _ _
  refine own_cast (ef_eqM m a b) ?_
  show OwnGo p e below s (QeqM Z a b ca cb h0 n0) ({ frames := 0, cells := 0, slots := 0, locals := 0 } : Room).cells ({ frames := 0, cells := 0, slots := 0, locals := 0 } : Room).slots (s₁.setTop (mkF m 0 #[.val (.ref a), .val (.ref b), .unset] []))
  refine own_on (fun t_ k_ => XS.aloadN X0.here hx rfl (hb hby d19_0) rfl rfl k_) ?_
  show OwnGo p e below s _ _ _ (s₁.setTop (mkF m 1 #[.val (.ref a), .val (.ref b), .unset] [(.ref b)]))
  obtain ⟨T1, X1, e1, st1⟩ := instY X0 hx hZ hown (w98 hw) e0 (Ins.self P1) (g := (mkF m 1 #[.val (.ref a), .val (.ref b), .unset] [(.ref b)])) rfl rfl (hb hby d19_1)
  refine own_on st1 ?_
  show OwnGo p e below s _ _ _ (T1.setTop (mkF m 4 #[.val (.ref a), .val (.ref b), .unset] [(.int (1 : Int32))]))
  refine own_on (fun t_ k_ => XS.ifNo X1.here hx rfl (hb hby d19_4) rfl ((if0 _ _).trans (feq (by decide : ¬ ((1 : Int32) = (0 : Int32)))).1) k_) ?_
  show OwnGo p e below s _ _ _ (T1.setTop (mkF m 7 #[.val (.ref a), .val (.ref b), .unset] []))
  refine own_on (fun t_ k_ => XS.aloadN X1.here hx rfl (hb hby d19_7) rfl rfl k_) ?_
  show OwnGo p e below s _ _ _ (T1.setTop (mkF m 8 #[.val (.ref a), .val (.ref b), .unset] [(.ref b)]))
  obtain ⟨T2, X2, e2, st2⟩ := castY X1 hx hZ hown (w98 hw) e1 (Ins.self P1) (g := (mkF m 8 #[.val (.ref a), .val (.ref b), .unset] [(.ref b)])) rfl rfl (hb hby d19_8)
  refine own_on st2 ?_
  show OwnGo p e below s _ _ _ (T2.setTop (mkF m 11 #[.val (.ref a), .val (.ref b), .unset] [(.ref b)]))
  refine own_on (fun t_ k_ => XS.astoreN X2.here hx rfl (hb hby d19_11) rfl rfl (l' := #[.val (.ref a), .val (.ref b), .val (.ref b)]) rfl k_) ?_
  show OwnGo p e below s _ _ _ (T2.setTop (mkF m 12 #[.val (.ref a), .val (.ref b), .val (.ref b)] []))
  refine own_on (fun t_ k_ => XS.aloadN X2.here hx rfl (hb hby d19_12) rfl rfl k_) ?_
  show OwnGo p e below s _ _ _ (T2.setTop (mkF m 13 #[.val (.ref a), .val (.ref b), .val (.ref b)] [(.ref a)]))
  obtain ⟨T3, X3, e3, st3⟩ := getF X2 hx hZ hown (host := "") (Or.inl (w63 hw)) Via.refl e2 P2 (g := (mkF m 13 #[.val (.ref a), .val (.ref b), .val (.ref b)] [(.ref a)])) rfl rfl (hb hby d19_13)
  refine own_on st3 ?_
  show OwnGo p e below s _ _ _ (T3.setTop (mkF m 16 #[.val (.ref a), .val (.ref b), .val (.ref b)] [(.int ca)]))
  refine own_on (fun t_ k_ => XS.aloadN X3.here hx rfl (hb hby d19_16) rfl rfl k_) ?_
  show OwnGo p e below s _ _ _ (T3.setTop (mkF m 17 #[.val (.ref a), .val (.ref b), .val (.ref b)] [(.ref b), (.int ca)]))
  obtain ⟨T4, X4, e4, st4⟩ := getF X3 hx hZ hown (host := "") (Or.inl (w63 hw)) Via.refl e3 P3 (g := (mkF m 17 #[.val (.ref a), .val (.ref b), .val (.ref b)] [(.ref b), (.int ca)])) rfl rfl (hb hby d19_17)
  refine own_on st4 ?_
  show OwnGo p e below s _ _ _ (T4.setTop (mkF m 20 #[.val (.ref a), .val (.ref b), .val (.ref b)] [(.int cb), (.int ca)]))
  by_cases q0 : ca = cb
  · refine own_on (fun t_ k_ => XS.icmpNo X4.here hx rfl (hb hby d19_20) rfl (teq q0).2 k_) ?_
    show OwnGo p e below s _ _ _ (T4.setTop (mkF m 23 #[.val (.ref a), .val (.ref b), .val (.ref b)] []))
    refine own_on (fun t_ k_ => XS.iconst X4.here hx rfl (hb hby d19_23) k_) ?_
    show OwnGo p e below s _ _ _ (T4.setTop (mkF m 24 #[.val (.ref a), .val (.ref b), .val (.ref b)] [(.int (1 : Int32))]))
    refine own_on (fun t_ k_ => XS.goto X4.here hx rfl (pc0 := 24) (pc' := 28) rfl (hb hby d19_24) (by decide) (by decide) k_) ?_
    show OwnGo p e below s _ _ _ (T4.setTop (mkF m 28 #[.val (.ref a), .val (.ref b), .val (.ref b)] [(.int (1 : Int32))]))
    exact own_retN X4 hx hlk (t := .boolean) Bd.returns (by simp) (hb hby d19_28) e4 ⟨(congrArg (fun z => some (Value.int z)) (by simp [own_eqc, nar, *])), N0, rfl⟩ (by decide) (by decide)
  · refine own_on (fun t_ k_ => XS.icmpYes X4.here hx rfl (pc0 := 20) (pc' := 27) rfl (hb hby d19_20) rfl (feq q0).2 (by decide) (by decide) k_) ?_
    show OwnGo p e below s _ _ _ (T4.setTop (mkF m 27 #[.val (.ref a), .val (.ref b), .val (.ref b)] []))
    refine own_on (fun t_ k_ => XS.iconst X4.here hx rfl (hb hby d19_27) k_) ?_
    show OwnGo p e below s _ _ _ (T4.setTop (mkF m 28 #[.val (.ref a), .val (.ref b), .val (.ref b)] [(.int (0 : Int32))]))
    exact own_retN X4 hx hlk (t := .boolean) Bd.returns (by simp) (hb hby d19_28) e4 ⟨(congrArg (fun z => some (Value.int z)) (by simp [own_eqc, nar, *])), N0, rfl⟩ (by decide) (by decide)
theorem ef_eqN (m : MethodId) (a : Addr)  : entryFrame m #[(.ref a), .null] 3 = mkF m 0 #[.val (.ref a), .val .null, .unset] [] := by first | (simp [entryFrame, mkF, argsToLocals, Value.category]; done) | rfl
def QeqN (Z : State) (a : Addr) (h0 : Heap) (n0 : Nat) (v_ : Option Value) (h_ : Heap) (L_ : List Loc) : Prop := v_ = some (.int (0 : Int32)) ∧ Fr n0 L_ ∧ h_ = h0
set_option maxRecDepth 65536 in
set_option maxHeartbeats 40000000 in
theorem rmeqN (l : Launch) (Z : State) (a0 : Array Value) (hw : ∀ d ∈ tables_1, d.before a0 Z = true) (ws : List Jvm.Cond) (a : Addr) (h0 : Heap) (n0 : Nat) (Z0 : n0 ≤ h0.size) (P0 : Exa Z h0 a "io/loomwire/handler/codec/http/HttpResponseStatus") :
    MetFree l (⟨"io/loomwire/handler/codec/http/HttpResponseStatus", "equals", "(Ljava/lang/Object;)Z"⟩ : MethodName) (head1 (Jvm.Cond.code (⟨"io/loomwire/handler/codec/http/HttpResponseStatus", "equals", "(Ljava/lang/Object;)Z"⟩ : MethodName) prog_19_method_6_code 3 (some .boolean) :: ws) ({ frames := 0, cells := 0, slots := 0, locals := 0 } : Room)) (fun A_ U => A_ = #[(.ref a), .null] ∧ Z.Warmed39 U.vm ∧ U.heap = h0) (fun _ _ _ _ _ => True) (fun _ U_ o_ U'_ => ∃ v_ L_, o_ = .returned v_ ∧ QeqN Z a h0 n0 v_ U'_.heap L_ ∧ FrameEnd U_ o_ U'_ L_ ({ frames := 0, cells := 0, slots := 0, locals := 0 } : Room).cells ({ frames := 0, cells := 0, slots := 0, locals := 0 } : Room).slots) := by
  refine MetFree.of_bodySF (plainFor_of_name pn_4) hisR ?_
  intro p e s m args below meth c s₁ Bd hml0 hP hK
  obtain ⟨rfl, hZ, hh⟩ := hP
  have hx := Bd.exec
  have hby := Bd.bytes
  have hml : c.maxLocals = 3 := hml0
  have hown : s.vm.findClass "io/loomwire/handler/codec/http/HttpResponseStatus" = some m.cls := findClass_of_methodNamed Bd.named
  have hnm := (name_of_methodNamed Bd.named Bd.method).1
  have hlk : meth.locks = false := Bd.notSynchronized
  have X0 : Stand p l e ({ frames := 0, cells := 0, slots := 0, locals := 0 } : Room) s m #[(.ref a), .null] below meth c s₁ [] 0 0 := Stand.of_body Bd
  have e0 : s₁.heap = h0 := by rw [← hh, Bd.state]; rfl
  have N0 := Fr.nil n0
  have K0 : Keep h0 h0 [] := Keep.refl _ _
  refine own_cast (ef_eqN m a) ?_
  show OwnGo p e below s (QeqN Z a h0 n0) ({ frames := 0, cells := 0, slots := 0, locals := 0 } : Room).cells ({ frames := 0, cells := 0, slots := 0, locals := 0 } : Room).slots (s₁.setTop (mkF m 0 #[.val (.ref a), .val .null, .unset] []))
  refine own_on (fun t_ k_ => XS.aloadN X0.here hx rfl (hb hby d19_0) rfl rfl k_) ?_
  show OwnGo p e below s _ _ _ (s₁.setTop (mkF m 1 #[.val (.ref a), .val .null, .unset] [.null]))
  refine own_on (X0.instanceofNull hx (g := (mkF m 1 #[.val (.ref a), .val .null, .unset] [.null])) rfl rfl (hb hby d19_1)) ?_
  show OwnGo p e below s _ _ _ (s₁.setTop (mkF m 4 #[.val (.ref a), .val .null, .unset] [(.int (0 : Int32))]))
  refine own_on (fun t_ k_ => XS.ifYes X0.here hx rfl (pc0 := 4) (pc' := 27) rfl (hb hby d19_4) rfl ((if0 _ _).trans (teq (by decide : (0 : Int32) = (0 : Int32))).1) (by decide) (by decide) k_) ?_
  show OwnGo p e below s _ _ _ (s₁.setTop (mkF m 27 #[.val (.ref a), .val .null, .unset] []))
  refine own_on (fun t_ k_ => XS.iconst X0.here hx rfl (hb hby d19_27) k_) ?_
  show OwnGo p e below s _ _ _ (s₁.setTop (mkF m 28 #[.val (.ref a), .val .null, .unset] [(.int (0 : Int32))]))
  exact own_retN X0 hx hlk (t := .boolean) Bd.returns (by simp) (hb hby d19_28) e0 ⟨rfl, N0, rfl⟩ (by decide) (by decide)
theorem ef_eqI (m : MethodId) (a : Addr) (b : Addr)  : entryFrame m #[(.ref a), (.ref b)] 3 = mkF m 0 #[.val (.ref a), .val (.ref b), .unset] [] := by first | (simp [entryFrame, mkF, argsToLocals, Value.category]; done) | rfl
def QeqI (Z : State) (a : Addr) (b : Addr) (h0 : Heap) (n0 : Nat) (v_ : Option Value) (h_ : Heap) (L_ : List Loc) : Prop := v_ = some (.int (0 : Int32)) ∧ Fr n0 L_ ∧ h_ = h0
set_option maxRecDepth 65536 in
set_option maxHeartbeats 40000000 in
theorem rmeqI (l : Launch) (Z : State) (a0 : Array Value) (hw : ∀ d ∈ tables_1, d.before a0 Z = true) (ws : List Jvm.Cond) (a : Addr) (b : Addr) (h0 : Heap) (n0 : Nat) (Z0 : n0 ≤ h0.size) (P0 : Exa Z h0 a "io/loomwire/handler/codec/http/HttpResponseStatus") (P1 : Exa Z h0 b "java/lang/Integer") :
    MetFree l (⟨"io/loomwire/handler/codec/http/HttpResponseStatus", "equals", "(Ljava/lang/Object;)Z"⟩ : MethodName) (head1 (Jvm.Cond.code (⟨"io/loomwire/handler/codec/http/HttpResponseStatus", "equals", "(Ljava/lang/Object;)Z"⟩ : MethodName) prog_19_method_6_code 3 (some .boolean) :: ws) ({ frames := 0, cells := 0, slots := 0, locals := 0 } : Room)) (fun A_ U => A_ = #[(.ref a), (.ref b)] ∧ Z.Warmed39 U.vm ∧ U.heap = h0) (fun _ _ _ _ _ => True) (fun _ U_ o_ U'_ => ∃ v_ L_, o_ = .returned v_ ∧ QeqI Z a b h0 n0 v_ U'_.heap L_ ∧ FrameEnd U_ o_ U'_ L_ ({ frames := 0, cells := 0, slots := 0, locals := 0 } : Room).cells ({ frames := 0, cells := 0, slots := 0, locals := 0 } : Room).slots) := by
  refine MetFree.of_bodySF (plainFor_of_name pn_4) hisR ?_
  intro p e s m args below meth c s₁ Bd hml0 hP hK
  obtain ⟨rfl, hZ, hh⟩ := hP
  have hx := Bd.exec
  have hby := Bd.bytes
  have hml : c.maxLocals = 3 := hml0
  have hown : s.vm.findClass "io/loomwire/handler/codec/http/HttpResponseStatus" = some m.cls := findClass_of_methodNamed Bd.named
  have hnm := (name_of_methodNamed Bd.named Bd.method).1
  have hlk : meth.locks = false := Bd.notSynchronized
  have X0 : Stand p l e ({ frames := 0, cells := 0, slots := 0, locals := 0 } : Room) s m #[(.ref a), (.ref b)] below meth c s₁ [] 0 0 := Stand.of_body Bd
  have e0 : s₁.heap = h0 := by rw [← hh, Bd.state]; rfl
  have N0 := Fr.nil n0
  have K0 : Keep h0 h0 [] := Keep.refl _ _
  refine own_cast (ef_eqI m a b) ?_
  show OwnGo p e below s (QeqI Z a b h0 n0) ({ frames := 0, cells := 0, slots := 0, locals := 0 } : Room).cells ({ frames := 0, cells := 0, slots := 0, locals := 0 } : Room).slots (s₁.setTop (mkF m 0 #[.val (.ref a), .val (.ref b), .unset] []))
  refine own_on (fun t_ k_ => XS.aloadN X0.here hx rfl (hb hby d19_0) rfl rfl k_) ?_
  show OwnGo p e below s _ _ _ (s₁.setTop (mkF m 1 #[.val (.ref a), .val (.ref b), .unset] [(.ref b)]))
  obtain ⟨T1, X1, e1, st1⟩ := instNo X0 hx hZ hown (w98 hw) e0 P1 (own_noI hw) (g := (mkF m 1 #[.val (.ref a), .val (.ref b), .unset] [(.ref b)])) rfl rfl (hb hby d19_1)
  refine own_on st1 ?_
  show OwnGo p e below s _ _ _ (T1.setTop (mkF m 4 #[.val (.ref a), .val (.ref b), .unset] [(.int (0 : Int32))]))
  refine own_on (fun t_ k_ => XS.ifYes X1.here hx rfl (pc0 := 4) (pc' := 27) rfl (hb hby d19_4) rfl ((if0 _ _).trans (teq (by decide : (0 : Int32) = (0 : Int32))).1) (by decide) (by decide) k_) ?_
  show OwnGo p e below s _ _ _ (T1.setTop (mkF m 27 #[.val (.ref a), .val (.ref b), .unset] []))
  refine own_on (fun t_ k_ => XS.iconst X1.here hx rfl (hb hby d19_27) k_) ?_
  show OwnGo p e below s _ _ _ (T1.setTop (mkF m 28 #[.val (.ref a), .val (.ref b), .unset] [(.int (0 : Int32))]))
  exact own_retN X1 hx hlk (t := .boolean) Bd.returns (by simp) (hb hby d19_28) e1 ⟨rfl, N0, rfl⟩ (by decide) (by decide)
theorem ef_eqS (m : MethodId) (a : Addr) (b : Addr)  : entryFrame m #[(.ref a), (.ref b)] 3 = mkF m 0 #[.val (.ref a), .val (.ref b), .unset] [] := by first | (simp [entryFrame, mkF, argsToLocals, Value.category]; done) | rfl
def QeqS (Z : State) (a : Addr) (b : Addr) (h0 : Heap) (n0 : Nat) (v_ : Option Value) (h_ : Heap) (L_ : List Loc) : Prop := v_ = some (.int (0 : Int32)) ∧ Fr n0 L_ ∧ h_ = h0
set_option maxRecDepth 65536 in
set_option maxHeartbeats 40000000 in
theorem rmeqS (l : Launch) (Z : State) (a0 : Array Value) (hw : ∀ d ∈ tables_1, d.before a0 Z = true) (ws : List Jvm.Cond) (a : Addr) (b : Addr) (h0 : Heap) (n0 : Nat) (Z0 : n0 ≤ h0.size) (P0 : Exa Z h0 a "io/loomwire/handler/codec/http/HttpResponseStatus") (P1 : Exa Z h0 b "java/lang/String") :
    MetFree l (⟨"io/loomwire/handler/codec/http/HttpResponseStatus", "equals", "(Ljava/lang/Object;)Z"⟩ : MethodName) (head1 (Jvm.Cond.code (⟨"io/loomwire/handler/codec/http/HttpResponseStatus", "equals", "(Ljava/lang/Object;)Z"⟩ : MethodName) prog_19_method_6_code 3 (some .boolean) :: ws) ({ frames := 0, cells := 0, slots := 0, locals := 0 } : Room)) (fun A_ U => A_ = #[(.ref a), (.ref b)] ∧ Z.Warmed39 U.vm ∧ U.heap = h0) (fun _ _ _ _ _ => True) (fun _ U_ o_ U'_ => ∃ v_ L_, o_ = .returned v_ ∧ QeqS Z a b h0 n0 v_ U'_.heap L_ ∧ FrameEnd U_ o_ U'_ L_ ({ frames := 0, cells := 0, slots := 0, locals := 0 } : Room).cells ({ frames := 0, cells := 0, slots := 0, locals := 0 } : Room).slots) := by
  refine MetFree.of_bodySF (plainFor_of_name pn_4) hisR ?_
  intro p e s m args below meth c s₁ Bd hml0 hP hK
  obtain ⟨rfl, hZ, hh⟩ := hP
  have hx := Bd.exec
  have hby := Bd.bytes
  have hml : c.maxLocals = 3 := hml0
  have hown : s.vm.findClass "io/loomwire/handler/codec/http/HttpResponseStatus" = some m.cls := findClass_of_methodNamed Bd.named
  have hnm := (name_of_methodNamed Bd.named Bd.method).1
  have hlk : meth.locks = false := Bd.notSynchronized
  have X0 : Stand p l e ({ frames := 0, cells := 0, slots := 0, locals := 0 } : Room) s m #[(.ref a), (.ref b)] below meth c s₁ [] 0 0 := Stand.of_body Bd
  have e0 : s₁.heap = h0 := by rw [← hh, Bd.state]; rfl
  have N0 := Fr.nil n0
  have K0 : Keep h0 h0 [] := Keep.refl _ _
  refine own_cast (ef_eqS m a b) ?_
  show OwnGo p e below s (QeqS Z a b h0 n0) ({ frames := 0, cells := 0, slots := 0, locals := 0 } : Room).cells ({ frames := 0, cells := 0, slots := 0, locals := 0 } : Room).slots (s₁.setTop (mkF m 0 #[.val (.ref a), .val (.ref b), .unset] []))
  refine own_on (fun t_ k_ => XS.aloadN X0.here hx rfl (hb hby d19_0) rfl rfl k_) ?_
  show OwnGo p e below s _ _ _ (s₁.setTop (mkF m 1 #[.val (.ref a), .val (.ref b), .unset] [(.ref b)]))
  obtain ⟨T1, X1, e1, st1⟩ := instNo X0 hx hZ hown (w98 hw) e0 P1 (own_noS hw) (g := (mkF m 1 #[.val (.ref a), .val (.ref b), .unset] [(.ref b)])) rfl rfl (hb hby d19_1)
  refine own_on st1 ?_
  show OwnGo p e below s _ _ _ (T1.setTop (mkF m 4 #[.val (.ref a), .val (.ref b), .unset] [(.int (0 : Int32))]))
  refine own_on (fun t_ k_ => XS.ifYes X1.here hx rfl (pc0 := 4) (pc' := 27) rfl (hb hby d19_4) rfl ((if0 _ _).trans (teq (by decide : (0 : Int32) = (0 : Int32))).1) (by decide) (by decide) k_) ?_
  show OwnGo p e below s _ _ _ (T1.setTop (mkF m 27 #[.val (.ref a), .val (.ref b), .unset] []))
  refine own_on (fun t_ k_ => XS.iconst X1.here hx rfl (hb hby d19_27) k_) ?_
  show OwnGo p e below s _ _ _ (T1.setTop (mkF m 28 #[.val (.ref a), .val (.ref b), .unset] [(.int (0 : Int32))]))
  exact own_retN X1 hx hlk (t := .boolean) Bd.returns (by simp) (hb hby d19_28) e1 ⟨rfl, N0, rfl⟩ (by decide) (by decide)
theorem ef_22 (m : MethodId) (a : Addr)  : entryFrame m #[(.ref a)] 1 = mkF m 0 #[.val (.ref a)] [] := by first | (simp [entryFrame, mkF, argsToLocals, Value.category]; done) | rfl
def Q22 (Z : State) (a : Addr) (h0 : Heap) (n0 : Nat) (v_ : Option Value) (h_ : Heap) (L_ : List Loc) : Prop := v_ = none ∧ Fr n0 L_ ∧ h_ = h0
set_option maxRecDepth 65536 in
set_option maxHeartbeats 40000000 in
theorem rm22 (l : Launch) (Z : State) (a0 : Array Value) (hw : ∀ d ∈ tables_1, d.before a0 Z = true) (ws : List Jvm.Cond) (a : Addr) (h0 : Heap) (n0 : Nat) (Z0 : n0 ≤ h0.size)  :
    MetFree l (⟨"java/lang/Number", "<init>", "()V"⟩ : MethodName) (head1 (Jvm.Cond.code (⟨"java/lang/Number", "<init>", "()V"⟩ : MethodName) jdk_18_method_1_code 1 none :: ws) ({ frames := 1, cells := 0, slots := 0, locals := 12 } : Room)) (fun A_ U => A_ = #[(.ref a)] ∧ Z.Warmed39 U.vm ∧ U.heap = h0) (fun _ _ _ _ _ => True) (fun _ U_ o_ U'_ => ∃ v_ L_, o_ = .returned v_ ∧ Q22 Z a h0 n0 v_ U'_.heap L_ ∧ FrameEnd U_ o_ U'_ L_ ({ frames := 1, cells := 0, slots := 0, locals := 12 } : Room).cells ({ frames := 1, cells := 0, slots := 0, locals := 12 } : Room).slots) := by
  refine MetFree.of_bodySF (plainFor_of_name pn_5) hisR ?_
  intro p e s m args below meth c s₁ Bd hml0 hP hK
  obtain ⟨rfl, hZ, hh⟩ := hP
  have hx := Bd.exec
  have hby := Bd.bytes
  have hml : c.maxLocals = 1 := hml0
  have hown : s.vm.findClass "java/lang/Number" = some m.cls := findClass_of_methodNamed Bd.named
  have hnm := (name_of_methodNamed Bd.named Bd.method).1
  have hlk : meth.locks = false := Bd.notSynchronized
  have X0 : Stand p l e ({ frames := 1, cells := 0, slots := 0, locals := 12 } : Room) s m #[(.ref a)] below meth c s₁ [] 0 0 := Stand.of_body Bd
  have e0 : s₁.heap = h0 := by rw [← hh, Bd.state]; rfl
  have N0 := Fr.nil n0
  have K0 : Keep h0 h0 [] := Keep.refl _ _
  refine own_cast (ef_22 m a) ?_
  show OwnGo p e below s (Q22 Z a h0 n0) ({ frames := 1, cells := 0, slots := 0, locals := 12 } : Room).cells ({ frames := 1, cells := 0, slots := 0, locals := 12 } : Room).slots (s₁.setTop (mkF m 0 #[.val (.ref a)] []))
  refine own_on (fun t_ k_ => XS.aloadN X0.here hx rfl (hb hby d22_0) rfl rfl k_) ?_
  show OwnGo p e below s _ _ _ (s₁.setTop (mkF m 1 #[.val (.ref a)] [(.ref a)]))
  obtain ⟨T1, X1, e1, st1⟩ := initO X0 hx hZ hown (w123 hw) (w17 hw) (w18 hw) e0 (g := (mkF m 1 #[.val (.ref a)] [(.ref a)])) rfl (by rw [hml]; rfl) rfl (hb hby d22_1) (by decide) (W := 0) (by show 2 * 0 + _ ≤ _; exact Nat.le_of_eq rfl) (by decide)
  refine own_on st1 ?_
  show OwnGo p e below s _ _ _ (T1.setTop (mkF m 4 #[.val (.ref a)] []))
  exact own_retV X1 hx hlk Bd.returns (hb hby d22_4) e1 ⟨rfl, N0, rfl⟩ (by decide) (by decide)
theorem ef_21 (m : MethodId) (a : Addr) (k : Int32)  : entryFrame m #[(.ref a), (.int k)] 2 = mkF m 0 #[.val (.ref a), .val (.int k)] [] := by first | (simp [entryFrame, mkF, argsToLocals, Value.category]; done) | rfl
def Q21 (Z : State) (a : Addr) (k : Int32) (u : Value) (h0 : Heap) (n0 : Nat) (v_ : Option Value) (h_ : Heap) (L_ : List Loc) : Prop := v_ = none ∧ Fr n0 L_ ∧ Keep h0 h_ [a] ∧ (Exa Z h_ a "java/lang/Integer")
set_option maxRecDepth 65536 in
set_option maxHeartbeats 40000000 in
theorem rm21 (l : Launch) (Z : State) (a0 : Array Value) (hw : ∀ d ∈ tables_1, d.before a0 Z = true) (ws : List Jvm.Cond) (a : Addr) (k : Int32) (u : Value) (h0 : Heap) (n0 : Nat) (Z0 : n0 ≤ h0.size) (P0 : Exa Z h0 a "java/lang/Integer") (P1 : Fld Z h0 a "java/lang/Integer" "value" "I" u) (P2 : n0 ≤ a) :
    MetFree l (⟨"java/lang/Integer", "<init>", "(I)V"⟩ : MethodName) (head1 (Jvm.Cond.code (⟨"java/lang/Integer", "<init>", "(I)V"⟩ : MethodName) jdk_33_method_23_code 2 none :: ws) ({ frames := 2, cells := 0, slots := 0, locals := 24 } : Room)) (fun A_ U => A_ = #[(.ref a), (.int k)] ∧ Z.Warmed39 U.vm ∧ U.heap = h0) (fun _ _ _ _ _ => True) (fun _ U_ o_ U'_ => ∃ v_ L_, o_ = .returned v_ ∧ Q21 Z a k u h0 n0 v_ U'_.heap L_ ∧ FrameEnd U_ o_ U'_ L_ ({ frames := 2, cells := 0, slots := 0, locals := 24 } : Room).cells ({ frames := 2, cells := 0, slots := 0, locals := 24 } : Room).slots) := by
  refine MetFree.of_bodySF (plainFor_of_name pn_6) hisR ?_
  intro p e s m args below meth c s₁ Bd hml0 hP hK
  obtain ⟨rfl, hZ, hh⟩ := hP
  have hx := Bd.exec
  have hby := Bd.bytes
  have hml : c.maxLocals = 2 := hml0
  have hown : s.vm.findClass "java/lang/Integer" = some m.cls := findClass_of_methodNamed Bd.named
  have hnm := (name_of_methodNamed Bd.named Bd.method).1
  have hlk : meth.locks = false := Bd.notSynchronized
  have X0 : Stand p l e ({ frames := 2, cells := 0, slots := 0, locals := 24 } : Room) s m #[(.ref a), (.int k)] below meth c s₁ [] 0 0 := Stand.of_body Bd
  have e0 : s₁.heap = h0 := by rw [← hh, Bd.state]; rfl
  have N0 := Fr.nil n0
  have K0 : Keep h0 h0 [a] := Keep.refl _ _
  refine own_cast (ef_21 m a k) ?_
  show OwnGo p e below s (Q21 Z a k u h0 n0) ({ frames := 2, cells := 0, slots := 0, locals := 24 } : Room).cells ({ frames := 2, cells := 0, slots := 0, locals := 24 } : Room).slots (s₁.setTop (mkF m 0 #[.val (.ref a), .val (.int k)] []))
  refine own_on (fun t_ k_ => XS.aloadN X0.here hx rfl (hb hby d21_0) rfl rfl k_) ?_
  show OwnGo p e below s _ _ _ (s₁.setTop (mkF m 1 #[.val (.ref a), .val (.int k)] [(.ref a)]))
  obtain ⟨_, _, ⟨T1, L1, k1, n1⟩, -, X1, ⟨Lc1, hQ1, l1, y1, z1⟩, st1⟩ := X0.specialBack hx (y := (⟨"java/lang/Number", "<init>", "()V"⟩ : MethodName)) rfl hown (mvT hZ (w117 hw)) (mvT hZ (w118 hw)) (mvT hZ (w122 hw)) (by decide) (backOf (W := 0) (rm22 l Z a0 hw [] a h0 n0 Z0 ) hZ (w122 hw) (w121 hw) (by decide) (by decide)) (g := (mkF m 1 #[.val (.ref a), .val (.int k)] [(.ref a)])) rfl (by rw [hml]; rfl) (Steps.refl _) (a := a) (argsL := []) (rest := []) (lenOf pd_6 rfl) rfl (by show 2 * 0 + _ ≤ _; exact Nat.le_of_eq rfl) (hb hby d21_1) (fun _ hWx => ⟨rfl, e0, (by decide : 0 + 0 ≤ _), (by decide : 0 + 0 ≤ _)⟩)
  dsimp only [Pt.U, Pt.locs, Pt.cells, Pt.slots] at X1 l1 y1 z1 st1 hQ1
  replace X1 := own_num (c' := 0) (n' := 0) X1 l1 (y1.trans rfl) (z1.trans rfl)
  obtain ⟨rfl, N1q, e1⟩ := hQ1
  have N1 := Fr.app N0 N1q
  refine own_tr st1 ?_
  show OwnGo p e below s _ _ _ (T1.setTop (mkF m 4 #[.val (.ref a), .val (.int k)] []))
  refine own_on (fun t_ k_ => XS.aloadN X1.here hx rfl (hb hby d21_4) rfl rfl k_) ?_
  show OwnGo p e below s _ _ _ (T1.setTop (mkF m 5 #[.val (.ref a), .val (.int k)] [(.ref a)]))
  refine own_on (fun t_ k_ => XS.iloadN X1.here hx rfl (hb hby d21_5) rfl k_) ?_
  show OwnGo p e below s _ _ _ (T1.setTop (mkF m 6 #[.val (.ref a), .val (.int k)] [(.int k), (.ref a)]))
  obtain ⟨T2, h2, X2, e2, W2, st2⟩ := putF X1 hx hZ hown (host := "") (Or.inl (w124 hw)) Via.refl e1 P1 P0 (Or.inr ⟨(w125 hw), rfl, hnm⟩) (w112 hw) (ty := .int) (by decide) rfl rfl (g := (mkF m 6 #[.val (.ref a), .val (.int k)] [(.int k), (.ref a)])) rfl rfl (hb hby d21_6)
  have F2 := P1.same W2
  have N2 := Fr.snoc X2 N1 P2
  have Z2 : n0 ≤ h2.size := Nat.le_trans Z0 (Keep.of_wr W2).1
  have K2 : Keep h0 h2 [a] := K0.wr W2 (Or.inl (List.mem_of_getElem? (i := 0) rfl))
  refine own_on st2 ?_
  show OwnGo p e below s _ _ _ (T2.setTop (mkF m 9 #[.val (.ref a), .val (.int k)] []))
  have f3 : Exa Z h2 a "java/lang/Integer" := P0.wr W2
  exact own_retV X2 hx hlk Bd.returns (hb hby d21_9) e2 ⟨rfl, N2, K2, f3⟩ (by decide) (by decide)
theorem ef_20 (m : MethodId) (k : Int32)  : entryFrame m #[(.int k)] 1 = mkF m 0 #[.val (.int k)] [] := by first | (simp [entryFrame, mkF, argsToLocals, Value.category]; done) | rfl
def Q20 (Z : State) (k : Int32) (ca : Addr) (h0 : Heap) (n0 : Nat) (v_ : Option Value) (h_ : Heap) (L_ : List Loc) : Prop := ∃ r : Addr, v_ = some (.ref r) ∧ Fr n0 L_ ∧ Keep h0 h_ [] ∧ (Exa Z h_ r "java/lang/Integer") ∧ (Old Z n0 h_)
set_option maxRecDepth 65536 in
set_option maxHeartbeats 40000000 in
theorem rm20 (l : Launch) (Z : State) (a0 : Array Value) (hw : ∀ d ∈ tables_1, d.before a0 Z = true) (ws : List Jvm.Cond) (k : Int32) (ca : Addr) (h0 : Heap) (n0 : Nat) (Z0 : n0 ≤ h0.size) (P0 : Old Z n0 h0) (P1 : Sta Z Z.heap "java/lang/Integer$IntegerCache" "high" "I" (.int (127 : Int32))) (P2 : Sta Z Z.heap "java/lang/Integer$IntegerCache" "cache" "[Ljava/lang/Integer;" (.ref ca)) (P3 : OwnCache Z ca) :
    MetFree l (⟨"java/lang/Integer", "valueOf", "(I)Ljava/lang/Integer;"⟩ : MethodName) (head1 (Jvm.Cond.code (⟨"java/lang/Integer", "valueOf", "(I)Ljava/lang/Integer;"⟩ : MethodName) jdk_33_method_22_code 1 (some (.object "java/lang/Integer")) :: ws) ({ frames := 3, cells := 1, slots := 1, locals := 38 } : Room)) (fun A_ U => A_ = #[(.int k)] ∧ Z.Warmed39 U.vm ∧ U.heap = h0) (fun _ _ _ _ _ => True) (fun _ U_ o_ U'_ => ∃ v_ L_, o_ = .returned v_ ∧ Q20 Z k ca h0 n0 v_ U'_.heap L_ ∧ FrameEnd U_ o_ U'_ L_ ({ frames := 3, cells := 1, slots := 1, locals := 38 } : Room).cells ({ frames := 3, cells := 1, slots := 1, locals := 38 } : Room).slots) := by
  refine MetFree.of_bodySF (plainFor_of_name pn_6) hisR ?_
  intro p e s m args below meth c s₁ Bd hml0 hP hK
  obtain ⟨rfl, hZ, hh⟩ := hP
  have hx := Bd.exec
  have hby := Bd.bytes
  have hml : c.maxLocals = 1 := hml0
  have hown : s.vm.findClass "java/lang/Integer" = some m.cls := findClass_of_methodNamed Bd.named
  have hnm := (name_of_methodNamed Bd.named Bd.method).1
  have hlk : meth.locks = false := Bd.notSynchronized
  have X0 : Stand p l e ({ frames := 3, cells := 1, slots := 1, locals := 38 } : Room) s m #[(.int k)] below meth c s₁ [] 0 0 := Stand.of_body Bd
  have e0 : s₁.heap = h0 := by rw [← hh, Bd.state]; rfl
  have N0 := Fr.nil n0
  have K0 : Keep h0 h0 [] := Keep.refl _ _
  refine own_cast (ef_20 m k) ?_
  show OwnGo p e below s (Q20 Z k ca h0 n0) ({ frames := 3, cells := 1, slots := 1, locals := 38 } : Room).cells ({ frames := 3, cells := 1, slots := 1, locals := 38 } : Room).slots (s₁.setTop (mkF m 0 #[.val (.int k)] []))
  refine own_on (fun t_ k_ => XS.iloadN X0.here hx rfl (hb hby d20_0) rfl k_) ?_
  show OwnGo p e below s _ _ _ (s₁.setTop (mkF m 1 #[.val (.int k)] [(.int k)]))
  refine own_on (fun t_ k_ => XS.bipush X0.here hx rfl (hb hby d20_1) k_) ?_
  show OwnGo p e below s _ _ _ (s₁.setTop (mkF m 3 #[.val (.int k)] [(.int (-128 : Int32)), (.int k)]))
  by_cases q0 : k < (-128 : Int32)
  · refine own_on (fun t_ k_ => XS.icmpYes X0.here hx rfl (pc0 := 3) (pc' := 23) rfl (hb hby d20_3) rfl (tlt q0).1 (by decide) (by decide) k_) ?_
    show OwnGo p e below s _ _ _ (s₁.setTop (mkF m 23 #[.val (.int k)] []))
    obtain ⟨T1, h1, X1, e1, E1, A1, D1, u1, st1⟩ := newO X0 hx hZ hown (w111 hw) (w112 hw) (w102 hw) e0 (g := (mkF m 23 #[.val (.int k)] [])) rfl (hb hby d20_23) (by decide) (by decide)
    obtain ⟨b1, g1⟩ : ∃ z, z = h0.size := ⟨_, rfl⟩
    rw [← g1] at A1 D1 st1
    have g2 : n0 ≤ b1 := Nat.le_trans Z0 (Nat.le_of_eq g1.symm)
    have z3 : h0.size ≤ b1 := Nat.le_trans K0.1 (Nat.le_of_eq g1.symm)
    have Z1 : n0 ≤ h1.size := Nat.le_trans Z0 E1.1
    have K1 : Keep h0 h1 [] := K0.ext E1
    have F1_value : Fld Z h1 b1 "java/lang/Integer" "value" "I" (.int (0 : Int32)) := D1 (Or.inr (w125 hw)) (ty := .int) (by decide)
    refine own_on st1 ?_
    show OwnGo p e below s _ _ _ (T1.setTop (mkF m 26 #[.val (.int k)] [(.ref b1)]))
    refine own_on (fun t_ k_ => XS.dup X1.here hx rfl (hb hby d20_26) rfl rfl k_) ?_
    show OwnGo p e below s _ _ _ (T1.setTop (mkF m 27 #[.val (.int k)] [(.ref b1), (.ref b1)]))
    refine own_on (fun t_ k_ => XS.iloadN X1.here hx rfl (hb hby d20_27) rfl k_) ?_
    show OwnGo p e below s _ _ _ (T1.setTop (mkF m 28 #[.val (.int k)] [(.int k), (.ref b1), (.ref b1)]))
    obtain ⟨_, _, ⟨T4, L4, k4, n4⟩, -, X4, ⟨Lc4, hQ4, l4, y4, z4⟩, st4⟩ := X1.specialBack hx (y := (⟨"java/lang/Integer", "<init>", "(I)V"⟩ : MethodName)) rfl hown (mvT hZ (w113 hw)) (mvT hZ (w114 hw)) (mvT hZ (w116 hw)) (by decide) (backOf (W := 1) (rm21 l Z a0 hw [] b1 k (.int (0 : Int32)) h1 n0 Z1 A1 F1_value g2) hZ (w116 hw) (w102 hw) (by decide) (by decide)) (g := (mkF m 28 #[.val (.int k)] [(.int k), (.ref b1), (.ref b1)])) rfl (by rw [hml]; rfl) (Steps.refl _) (a := b1) (argsL := [(.int k)]) (rest := [(.ref b1)]) (lenOf pd_7 rfl) rfl (by show 2 * 0 + _ ≤ _; exact Nat.le_of_eq rfl) (hb hby d20_28) (fun _ hWx => ⟨rfl, e1, (by decide : 1 + 0 ≤ _), (by decide : 1 + 0 ≤ _)⟩)
    dsimp only [Pt.U, Pt.locs, Pt.cells, Pt.slots] at X4 l4 y4 z4 st4 hQ4
    replace X4 := own_num (c' := 1) (n' := 1) X4 l4 (y4.trans rfl) (z4.trans rfl)
    obtain ⟨rfl, N4q, K4q, c4_0⟩ := hQ4
    have N4 := Fr.app N0 N4q
    have Z4 : n0 ≤ T4.heap.size := Nat.le_trans Z1 K4q.1
    have K4 : Keep h0 T4.heap [] := K1.trans K4q (allS (P := fun x => x ∈ [] ∨ h0.size ≤ x) (Or.inr z3) all0)
    refine own_tr st4 ?_
    show OwnGo p e below s _ _ _ (T4.setTop (mkF m 31 #[.val (.int k)] [(.ref b1)]))
    have f5 : Old Z n0 h1 := P0.ext E1
    have f6 : Old Z n0 T4.heap := f5.keep K4q (allS g2 all0)
    exact own_retA X4 hx hlk Bd.returns rfl rfl (hb hby d20_31) rfl ⟨b1, rfl, N4, K4, c4_0, f6⟩ (by decide) (by decide)
  · refine own_on (fun t_ k_ => XS.icmpNo X0.here hx rfl (hb hby d20_3) rfl (flt q0).1 k_) ?_
    show OwnGo p e below s _ _ _ (s₁.setTop (mkF m 6 #[.val (.int k)] []))
    refine own_on (fun t_ k_ => XS.iloadN X0.here hx rfl (hb hby d20_6) rfl k_) ?_
    show OwnGo p e below s _ _ _ (s₁.setTop (mkF m 7 #[.val (.int k)] [(.int k)]))
    obtain ⟨T7, X7, e7, st7⟩ := getS2 X0 hx hZ hown (host := "") (Or.inl (w104 hw)) Via.refl e0 (P1.ext P0.2) (g := (mkF m 7 #[.val (.int k)] [(.int k)])) rfl (hb hby d20_7)
    refine own_on st7 ?_
    show OwnGo p e below s _ _ _ (T7.setTop (mkF m 10 #[.val (.int k)] [(.int (127 : Int32)), (.int k)]))
    by_cases q1 : (127 : Int32) < k
    · refine own_on (fun t_ k_ => XS.icmpYes X7.here hx rfl (pc0 := 10) (pc' := 23) rfl (hb hby d20_10) rfl (tlt q1).2.2.1 (by decide) (by decide) k_) ?_
      show OwnGo p e below s _ _ _ (T7.setTop (mkF m 23 #[.val (.int k)] []))
      obtain ⟨T8, h8, X8, e8, E8, A8, D8, u8, st8⟩ := newO X7 hx hZ hown (w111 hw) (w112 hw) (w102 hw) e7 (g := (mkF m 23 #[.val (.int k)] [])) rfl (hb hby d20_23) (by decide) (by decide)
      obtain ⟨b8, g8⟩ : ∃ z, z = h0.size := ⟨_, rfl⟩
      rw [← g8] at A8 D8 st8
      have g9 : n0 ≤ b8 := Nat.le_trans Z0 (Nat.le_of_eq g8.symm)
      have z10 : h0.size ≤ b8 := Nat.le_trans K0.1 (Nat.le_of_eq g8.symm)
      have Z8 : n0 ≤ h8.size := Nat.le_trans Z0 E8.1
      have K8 : Keep h0 h8 [] := K0.ext E8
      have F8_value : Fld Z h8 b8 "java/lang/Integer" "value" "I" (.int (0 : Int32)) := D8 (Or.inr (w125 hw)) (ty := .int) (by decide)
      refine own_on st8 ?_
      show OwnGo p e below s _ _ _ (T8.setTop (mkF m 26 #[.val (.int k)] [(.ref b8)]))
      refine own_on (fun t_ k_ => XS.dup X8.here hx rfl (hb hby d20_26) rfl rfl k_) ?_
      show OwnGo p e below s _ _ _ (T8.setTop (mkF m 27 #[.val (.int k)] [(.ref b8), (.ref b8)]))
      refine own_on (fun t_ k_ => XS.iloadN X8.here hx rfl (hb hby d20_27) rfl k_) ?_
      show OwnGo p e below s _ _ _ (T8.setTop (mkF m 28 #[.val (.int k)] [(.int k), (.ref b8), (.ref b8)]))
      obtain ⟨_, _, ⟨T11, L11, k11, n11⟩, -, X11, ⟨Lc11, hQ11, l11, y11, z11⟩, st11⟩ := X8.specialBack hx (y := (⟨"java/lang/Integer", "<init>", "(I)V"⟩ : MethodName)) rfl hown (mvT hZ (w113 hw)) (mvT hZ (w114 hw)) (mvT hZ (w116 hw)) (by decide) (backOf (W := 1) (rm21 l Z a0 hw [] b8 k (.int (0 : Int32)) h8 n0 Z8 A8 F8_value g9) hZ (w116 hw) (w102 hw) (by decide) (by decide)) (g := (mkF m 28 #[.val (.int k)] [(.int k), (.ref b8), (.ref b8)])) rfl (by rw [hml]; rfl) (Steps.refl _) (a := b8) (argsL := [(.int k)]) (rest := [(.ref b8)]) (lenOf pd_7 rfl) rfl (by show 2 * 0 + _ ≤ _; exact Nat.le_of_eq rfl) (hb hby d20_28) (fun _ hWx => ⟨rfl, e8, (by decide : 1 + 0 ≤ _), (by decide : 1 + 0 ≤ _)⟩)
      dsimp only [Pt.U, Pt.locs, Pt.cells, Pt.slots] at X11 l11 y11 z11 st11 hQ11
      replace X11 := own_num (c' := 1) (n' := 1) X11 l11 (y11.trans rfl) (z11.trans rfl)
      obtain ⟨rfl, N11q, K11q, c11_0⟩ := hQ11
      have N11 := Fr.app N0 N11q
      have Z11 : n0 ≤ T11.heap.size := Nat.le_trans Z8 K11q.1
      have K11 : Keep h0 T11.heap [] := K8.trans K11q (allS (P := fun x => x ∈ [] ∨ h0.size ≤ x) (Or.inr z10) all0)
      refine own_tr st11 ?_
      show OwnGo p e below s _ _ _ (T11.setTop (mkF m 31 #[.val (.int k)] [(.ref b8)]))
      have f12 : Old Z n0 h8 := P0.ext E8
      have f13 : Old Z n0 T11.heap := f12.keep K11q (allS g9 all0)
      exact own_retA X11 hx hlk Bd.returns rfl rfl (hb hby d20_31) rfl ⟨b8, rfl, N11, K11, c11_0, f13⟩ (by decide) (by decide)
    · refine own_on (fun t_ k_ => XS.icmpNo X7.here hx rfl (hb hby d20_10) rfl (flt q1).2.2.1 k_) ?_
      show OwnGo p e below s _ _ _ (T7.setTop (mkF m 13 #[.val (.int k)] []))
      obtain ⟨T14, X14, e14, st14⟩ := getS2 X7 hx hZ hown (host := "") (Or.inl (w106 hw)) Via.refl e7 (P2.ext P0.2) (g := (mkF m 13 #[.val (.int k)] [])) rfl (hb hby d20_13)
      refine own_on st14 ?_
      show OwnGo p e below s _ _ _ (T14.setTop (mkF m 16 #[.val (.int k)] [(.ref ca)]))
      refine own_on (fun t_ k_ => XS.iloadN X14.here hx rfl (hb hby d20_16) rfl k_) ?_
      show OwnGo p e below s _ _ _ (T14.setTop (mkF m 17 #[.val (.int k)] [(.int k), (.ref ca)]))
      refine own_on (fun t_ k_ => XS.sipush X14.here hx rfl (hb hby d20_17) k_) ?_
      show OwnGo p e below s _ _ _ (T14.setTop (mkF m 20 #[.val (.int k)] [(.int (128 : Int32)), (.int k), (.ref ca)]))
      refine own_on (fun t_ k_ => XS.iadd X14.here hx rfl (hb hby d20_20) rfl k_) ?_
      show OwnGo p e below s _ _ _ (T14.setTop (mkF m 21 #[.val (.int k)] [(.int (k + (128 : Int32))), (.ref ca)]))
      obtain ⟨clc, Arc, szc, hcc⟩ := P3
      have hj := own_cj k q0 q1
      obtain ⟨r, hr, Er⟩ := hcc _ hj.1
      have Er' : Exa Z h0 r "java/lang/Integer" := Er.ext P0.2
      refine own_on (X14.aaload hx (j := (k + (128 : Int32))) (v := .ref r) (by rw [e14]; exact (Arc.ext P0.2).1) (State.isArrayOf_alike hZ.alike Arc.2.1) rfl Arc.2.2 (by rw [szc]; exact hj.2) hr (g := (mkF m 21 #[.val (.int k)] [(.int (k + (128 : Int32))), (.ref ca)])) rfl rfl (hb hby d20_21)) ?_
      show OwnGo p e below s _ _ _ (T14.setTop (mkF m 22 #[.val (.int k)] [(.ref r)]))
      exact own_retA X14 hx hlk Bd.returns rfl rfl (hb hby d20_22) e14 ⟨r, rfl, N0, K0, Er', P0⟩ (by decide) (by decide)
theorem ef_0 (m : MethodId) (xa : Int32) (xb : Int32) (fg : Int32) (c1 : Int32) (c2 : Int32)  : entryFrame m #[(.int xa), (.int xb), (.int fg), (.int c1), (.int c2)] maxLocals = mkF m 0 #[.val (.int xa), .val (.int xb), .val (.int fg), .val (.int c1), .val (.int c2), .unset, .unset, .unset, .unset, .unset, .unset, .unset, .unset, .unset, .unset, .unset, .unset, .unset, .unset] [] := by first | (simp [entryFrame, mkF, argsToLocals, Value.category, maxLocals]; done) | rfl
def Q0 (Z : State) (xa : Int32) (xb : Int32) (fg : Int32) (c1 : Int32) (c2 : Int32) (cs : Int32) (sf : Value) (ca : Addr) (h0 : Heap) (n0 : Nat) (v_ : Option Value) (vm_ : Vm) (h_ : Heap) (L_ : List Loc) : Prop := v_ = some (.int (1 : Int32)) ∧ Fr n0 L_ ∧ Keep h0 h_ []
set_option maxRecDepth 65536 in
set_option maxHeartbeats 40000000 in
theorem rm0 (l : Launch) (Z : State) (a0 : Array Value) (hw : ∀ d ∈ tables_1, d.before a0 Z = true) (ws : List Jvm.Cond) (xa : Int32) (xb : Int32) (fg : Int32) (c1 : Int32) (c2 : Int32) (cs : Int32) (sf : Value) (ca : Addr) (h0 : Heap) (n0 : Nat) (Z0 : n0 ≤ h0.size) (P0 : Old Z n0 h0) (P1 : Sta Z Z.heap "java/lang/String" "COMPACT_STRINGS" "Z" (.int cs)) (P2 : ¬ (cs = (0 : Int32))) (P3 : Sta Z Z.heap "jdk/internal/util/Preconditions" "SIOOBE_FORMATTER" "Ljava/util/function/BiFunction;" sf) (P4 : sf.isRef = true) (P5 : Sta Z Z.heap "java/lang/Integer$IntegerCache" "high" "I" (.int (127 : Int32))) (P6 : Sta Z Z.heap "java/lang/Integer$IntegerCache" "cache" "[Ljava/lang/Integer;" (.ref ca)) (P7 : OwnCache Z ca) (P8 : Jvm.Lit.constHeld Z "java/lang/String" 7) (P9 : Jvm.Lit.compactW.before a0 Z = true) :
    MetFree l x (head1 (Jvm.Cond.code x code maxLocals ret :: ws) room_1) (fun A_ U => A_ = #[(.int xa), (.int xb), (.int fg), (.int c1), (.int c2)] ∧ Z.Warmed39 U.vm ∧ U.heap = h0 ∧ OwnLd Z U.vm h0) (fun _ _ _ _ _ => True) (fun _ U_ o_ U'_ => ∃ v_ L_, o_ = .returned v_ ∧ Q0 Z xa xb fg c1 c2 cs sf ca h0 n0 v_ U'_.vm U'_.heap L_ ∧ ReturnedEndW U_ o_ U'_ L_ room_1.cells room_1.slots) := by
  refine MetFree.of_bodySF (plainFor_of_name pn_1) hisR ?_
  intro p e s m args below meth c s₁ Bd hml0 hP hK
  obtain ⟨rfl, hZ, hh, hJ⟩ := hP
  have hx := Bd.exec
  have hby := Bd.bytes
  have hml : c.maxLocals = 19 := hml0
  have hown : s.vm.findClass "io/loomwire/handler/codec/http/HttpResponseStatusEqualsPinLaw" = some m.cls := findClass_of_methodNamed Bd.named
  have hnm := (name_of_methodNamed Bd.named Bd.method).1
  have hlk : meth.locks = false := Bd.notSynchronized
  have X0 : Stand p l e room_1 s m #[(.int xa), (.int xb), (.int fg), (.int c1), (.int c2)] below meth c s₁ [] 0 0 := Stand.of_body Bd
  have e0 : s₁.heap = h0 := by rw [← hh, Bd.state]; rfl
  have N0 := Fr.nil n0
  have K0 : Keep h0 h0 [] := Keep.refl _ _
  have hJ0 : OwnLd Z (s.setVm s₁.vm).vm h0 := hJ.warm X0.warmed
  have hS0 : s.Since s₁.vm 0 := X0.warmed.since _
  have hZ : Z.Warmed39 (s.setVm s₁.vm).vm := wtrans hZ X0.warmed
  have hown : (s.setVm s₁.vm).vm.findClass "io/loomwire/handler/codec/http/HttpResponseStatusEqualsPinLaw" = some m.cls := (X0.warmed.alike.findClass _ _).trans hown
  have X0 : Stand p l e room_1 (s.setVm s₁.vm) m #[(.int xa), (.int xb), (.int fg), (.int c1), (.int c2)] below meth c s₁ [] 0 0 := X0.retabled X0.warmed.wide
  have hml : c.maxLocals = 19 := hml
  refine own_castJ (ef_0 m xa xb fg c1 c2) ?_
  show OwnGoJ p e below s (Q0 Z xa xb fg c1 c2 cs sf ca h0 n0) room_1.cells room_1.slots (s₁.setTop (mkF m 0 #[.val (.int xa), .val (.int xb), .val (.int fg), .val (.int c1), .val (.int c2), .unset, .unset, .unset, .unset, .unset, .unset, .unset, .unset, .unset, .unset, .unset, .unset, .unset, .unset] []))
  refine own_onJ (fun t_ k_ => XS.bipush X0.here hx rfl (hb hby at_0) k_) ?_
  show OwnGoJ p e below s _ _ _ (s₁.setTop (mkF m 2 #[.val (.int xa), .val (.int xb), .val (.int fg), .val (.int c1), .val (.int c2), .unset, .unset, .unset, .unset, .unset, .unset, .unset, .unset, .unset, .unset, .unset, .unset, .unset, .unset] [(.int (100 : Int32))]))
  refine own_onJ (fun t_ k_ => XS.iloadN X0.here hx rfl (hb hby at_2) rfl k_) ?_
  show OwnGoJ p e below s _ _ _ (s₁.setTop (mkF m 3 #[.val (.int xa), .val (.int xb), .val (.int fg), .val (.int c1), .val (.int c2), .unset, .unset, .unset, .unset, .unset, .unset, .unset, .unset, .unset, .unset, .unset, .unset, .unset, .unset] [(.int xa), (.int (100 : Int32))]))
  refine own_onJ (X0.ldcInt hx hown (mvT hZ (w0 hw)) (g := (mkF m 3 #[.val (.int xa), .val (.int xb), .val (.int fg), .val (.int c1), .val (.int c2), .unset, .unset, .unset, .unset, .unset, .unset, .unset, .unset, .unset, .unset, .unset, .unset, .unset, .unset] [(.int xa), (.int (100 : Int32))])) rfl (hb hby at_3)) ?_
  show OwnGoJ p e below s _ _ _ (s₁.setTop (mkF m 5 #[.val (.int xa), .val (.int xb), .val (.int fg), .val (.int c1), .val (.int c2), .unset, .unset, .unset, .unset, .unset, .unset, .unset, .unset, .unset, .unset, .unset, .unset, .unset, .unset] [(.int (2147483647 : Int32)), (.int xa), (.int (100 : Int32))]))
  refine own_onJ (fun t_ k_ => XS.iand X0.here hx rfl (hb hby at_5) rfl k_) ?_
  show OwnGoJ p e below s _ _ _ (s₁.setTop (mkF m 6 #[.val (.int xa), .val (.int xb), .val (.int fg), .val (.int c1), .val (.int c2), .unset, .unset, .unset, .unset, .unset, .unset, .unset, .unset, .unset, .unset, .unset, .unset, .unset, .unset] [(.int (xa &&& (2147483647 : Int32))), (.int (100 : Int32))]))
  refine own_onJ (fun t_ k_ => XS.sipush X0.here hx rfl (hb hby at_6) k_) ?_
  show OwnGoJ p e below s _ _ _ (s₁.setTop (mkF m 9 #[.val (.int xa), .val (.int xb), .val (.int fg), .val (.int c1), .val (.int c2), .unset, .unset, .unset, .unset, .unset, .unset, .unset, .unset, .unset, .unset, .unset, .unset, .unset, .unset] [(.int (900 : Int32)), (.int (xa &&& (2147483647 : Int32))), (.int (100 : Int32))]))
  refine own_onJ (fun t_ k_ => iremM X0 hx rfl (hb hby at_9) rfl (by decide) k_) ?_
  show OwnGoJ p e below s _ _ _ (s₁.setTop (mkF m 10 #[.val (.int xa), .val (.int xb), .val (.int fg), .val (.int c1), .val (.int c2), .unset, .unset, .unset, .unset, .unset, .unset, .unset, .unset, .unset, .unset, .unset, .unset, .unset, .unset] [(.int ((xa &&& (2147483647 : Int32)) % (900 : Int32))), (.int (100 : Int32))]))
  refine own_onJ (fun t_ k_ => XS.iadd X0.here hx rfl (hb hby at_10) rfl k_) ?_
  show OwnGoJ p e below s _ _ _ (s₁.setTop (mkF m 11 #[.val (.int xa), .val (.int xb), .val (.int fg), .val (.int c1), .val (.int c2), .unset, .unset, .unset, .unset, .unset, .unset, .unset, .unset, .unset, .unset, .unset, .unset, .unset, .unset] [(.int ((100 : Int32) + ((xa &&& (2147483647 : Int32)) % (900 : Int32))))]))
  refine own_onJ (fun t_ k_ => XS.istore X0.here hx rfl (hb hby at_11) rfl (l' := #[.val (.int xa), .val (.int xb), .val (.int fg), .val (.int c1), .val (.int c2), .val (.int ((100 : Int32) + ((xa &&& (2147483647 : Int32)) % (900 : Int32)))), .unset, .unset, .unset, .unset, .unset, .unset, .unset, .unset, .unset, .unset, .unset, .unset, .unset]) rfl k_) ?_
  show OwnGoJ p e below s _ _ _ (s₁.setTop (mkF m 13 #[.val (.int xa), .val (.int xb), .val (.int fg), .val (.int c1), .val (.int c2), .val (.int ((100 : Int32) + ((xa &&& (2147483647 : Int32)) % (900 : Int32)))), .unset, .unset, .unset, .unset, .unset, .unset, .unset, .unset, .unset, .unset, .unset, .unset, .unset] []))
  have hr1 : ¬ ((100 : Int32) + ((xa &&& (2147483647 : Int32)) % (900 : Int32))) < (100 : Int32) := (own_rng _).1
  have hr2 : ¬ (999 : Int32) < ((100 : Int32) + ((xa &&& (2147483647 : Int32)) % (900 : Int32))) := (own_rng _).2
  have J49 : ∀ (zq bb : Int32) (hb1 : ¬ bb < (100 : Int32)) (hb2 : ¬ (999 : Int32) < bb), OwnGoJ p e below s (Q0 Z xa xb fg c1 c2 cs sf ca h0 n0) room_1.cells room_1.slots (s₁.setTop (mkF m 49 #[.val (.int xa), .val (.int xb), .val (.int fg), .val (.int c1), .val (.int c2), .val (.int ((100 : Int32) + ((xa &&& (2147483647 : Int32)) % (900 : Int32)))), .val (.int zq), .val (.int bb), .unset, .unset, .unset, .unset, .unset, .unset, .unset, .unset, .unset, .unset, .unset] [])) := by
    intro zq bb hb1 hb2
    have J61 : ∀ (zz : Int32), OwnGoJ p e below s (Q0 Z xa xb fg c1 c2 cs sf ca h0 n0) room_1.cells room_1.slots (s₁.setTop (mkF m 61 #[.val (.int xa), .val (.int xb), .val (.int fg), .val (.int c1), .val (.int c2), .val (.int ((100 : Int32) + ((xa &&& (2147483647 : Int32)) % (900 : Int32)))), .val (.int zq), .val (.int bb), .unset, .unset, .unset, .unset, .unset, .unset, .unset, .unset, .unset, .unset, .unset] [(.int zz), (.int c1)])) := by
      intro zz
      obtain ⟨_, _, ⟨T3, L3, k3, n3⟩, -, X3, hS3, hG3, ⟨Lc3, hQ3, l3, y3, z3⟩, st3⟩ := callSS X0 hx (y := (⟨"io/loomwire/handler/codec/http/HttpResponseStatusEqualsPinLaw", "phrase", "(IZ)Ljava/lang/String;"⟩ : MethodName)) hown (mvT hZ (w1 hw)) (mvT hZ (w2 hw)) (mvT hZ (w3 hw)) (mvT hZ (w4 hw)) (by decide) (own_backJ (J := fun vm_ => OwnLd Z vm_ h0) (Q := Q1 Z c1 zz cs h0 n0) (W := 0) (rm1 l Z a0 hw [] c1 zz cs h0 n0 Z0 P0 P1 P2 P8 P9) hZ (w4 hw) (w3 hw) (by decide) (by decide)) (g := (mkF m 61 #[.val (.int xa), .val (.int xb), .val (.int fg), .val (.int c1), .val (.int c2), .val (.int ((100 : Int32) + ((xa &&& (2147483647 : Int32)) % (900 : Int32)))), .val (.int zq), .val (.int bb), .unset, .unset, .unset, .unset, .unset, .unset, .unset, .unset, .unset, .unset, .unset] [(.int zz), (.int c1)])) rfl (by rw [hml]; rfl) (argsL := [(.int c1), (.int zz)]) (rest := []) (lenOf pd_8 rfl) rfl (by show 2 * 0 + _ ≤ _; exact Nat.le_of_eq rfl) (hb hby at_61) (fun _ hWx => ⟨rfl, e0, hJ0.warm hWx, (by decide : 0 + 4 ≤ _), (by decide : 0 + 12 ≤ _)⟩)
      dsimp only [Pt.U, Pt.locs, Pt.cells, Pt.slots] at X3 l3 y3 z3 st3 hQ3 hS3 hG3
      obtain ⟨X3, hS3, hZ, hown⟩ := rebS hS0 (Nat.le_trans (Nat.zero_le _) (Nat.le_of_eq (congrArg Array.size e0.symm))) X3 hS3 hG3 hZ hown
      replace X3 := own_num (c' := 4) (n' := 12) X3 l3 (y3.trans rfl) (z3.trans rfl)
      obtain ⟨r_3, rfl, N3q, K3q, c3_0, c3_1, c3_2, c3_3, c3_4, c3_5⟩ := hQ3
      have N3 := Fr.app N0 N3q
      have Z3 : n0 ≤ T3.heap.size := Nat.le_trans Z0 K3q.1
      have K3 : Keep h0 T3.heap [] := K0.trans K3q all0
      have z4 : h0.size ≤ r_3 := Nat.le_trans K0.1 c3_3
      have hk3 : T3.heap.size ≤ T3.heap.size := Nat.le_refl _
      refine own_trJ st3 ?_
      show OwnGoJ p e below s _ _ _ (T3.setTop (mkF m 64 #[.val (.int xa), .val (.int xb), .val (.int fg), .val (.int c1), .val (.int c2), .val (.int ((100 : Int32) + ((xa &&& (2147483647 : Int32)) % (900 : Int32)))), .val (.int zq), .val (.int bb), .unset, .unset, .unset, .unset, .unset, .unset, .unset, .unset, .unset, .unset, .unset] [(.ref r_3)]))
      refine own_onJ (fun t_ k_ => XS.astore X3.here hx rfl (hb hby at_64) rfl rfl (l' := #[.val (.int xa), .val (.int xb), .val (.int fg), .val (.int c1), .val (.int c2), .val (.int ((100 : Int32) + ((xa &&& (2147483647 : Int32)) % (900 : Int32)))), .val (.int zq), .val (.int bb), .val (.ref r_3), .unset, .unset, .unset, .unset, .unset, .unset, .unset, .unset, .unset, .unset]) rfl k_) ?_
      show OwnGoJ p e below s _ _ _ (T3.setTop (mkF m 66 #[.val (.int xa), .val (.int xb), .val (.int fg), .val (.int c1), .val (.int c2), .val (.int ((100 : Int32) + ((xa &&& (2147483647 : Int32)) % (900 : Int32)))), .val (.int zq), .val (.int bb), .val (.ref r_3), .unset, .unset, .unset, .unset, .unset, .unset, .unset, .unset, .unset, .unset] []))
      have hr5 : own_okl (own_ph c1 zz) := own_oph _ _
      have J79 : ∀ (zy : Int32), OwnGoJ p e below s (Q0 Z xa xb fg c1 c2 cs sf ca h0 n0) room_1.cells room_1.slots (T3.setTop (mkF m 79 #[.val (.int xa), .val (.int xb), .val (.int fg), .val (.int c1), .val (.int c2), .val (.int ((100 : Int32) + ((xa &&& (2147483647 : Int32)) % (900 : Int32)))), .val (.int zq), .val (.int bb), .val (.ref r_3), .unset, .unset, .unset, .unset, .unset, .unset, .unset, .unset, .unset, .unset] [(.int zy), (.int c2)])) := by
        intro zy
        obtain ⟨_, _, ⟨T6, L6, k6, n6⟩, -, X6, hS6, hG6, ⟨Lc6, hQ6, l6, y6, z6⟩, st6⟩ := callSS X3 hx (y := (⟨"io/loomwire/handler/codec/http/HttpResponseStatusEqualsPinLaw", "phrase", "(IZ)Ljava/lang/String;"⟩ : MethodName)) hown (mvT hZ (w1 hw)) (mvT hZ (w2 hw)) (mvT hZ (w3 hw)) (mvT hZ (w4 hw)) (by decide) (own_backJ (J := fun vm_ => OwnLd Z vm_ T3.heap) (Q := Q1 Z c2 zy cs T3.heap n0) (W := 0) (rm1 l Z a0 hw [] c2 zy cs T3.heap n0 Z3 c3_5 P1 P2 P8 P9) hZ (w4 hw) (w3 hw) (by decide) (by decide)) (g := (mkF m 79 #[.val (.int xa), .val (.int xb), .val (.int fg), .val (.int c1), .val (.int c2), .val (.int ((100 : Int32) + ((xa &&& (2147483647 : Int32)) % (900 : Int32)))), .val (.int zq), .val (.int bb), .val (.ref r_3), .unset, .unset, .unset, .unset, .unset, .unset, .unset, .unset, .unset, .unset] [(.int zy), (.int c2)])) rfl (by rw [hml]; rfl) (argsL := [(.int c2), (.int zy)]) (rest := []) (lenOf pd_8 rfl) rfl (by show 2 * 0 + _ ≤ _; exact Nat.le_of_eq rfl) (hb hby at_79) (fun _ hWx => ⟨rfl, rfl, c3_4.warm hWx, (by decide : 4 + 4 ≤ _), (by decide : 12 + 12 ≤ _)⟩)
        dsimp only [Pt.U, Pt.locs, Pt.cells, Pt.slots] at X6 l6 y6 z6 st6 hQ6 hS6 hG6
        obtain ⟨X6, hS6, hZ, hown⟩ := rebS hS3 hk3 X6 hS6 hG6 hZ hown
        replace X6 := own_num (c' := 8) (n' := 24) X6 l6 (y6.trans rfl) (z6.trans rfl)
        obtain ⟨r_6, rfl, N6q, K6q, c6_0, c6_1, c6_2, c6_3, c6_4, c6_5⟩ := hQ6
        have N6 := Fr.app N3 N6q
        have Z6 : n0 ≤ T6.heap.size := Nat.le_trans Z3 K6q.1
        have K6 : Keep h0 T6.heap [] := K3.trans K6q all0
        have ne7 : r_3 ≠ r_6 := Nat.ne_of_lt (Nat.lt_of_lt_of_le c3_0.lt c6_3)
        have z8 : h0.size ≤ r_6 := Nat.le_trans K3.1 c6_3
        have hk6 : T6.heap.size ≤ T6.heap.size := Nat.le_refl _
        refine own_trJ st6 ?_
        show OwnGoJ p e below s _ _ _ (T6.setTop (mkF m 82 #[.val (.int xa), .val (.int xb), .val (.int fg), .val (.int c1), .val (.int c2), .val (.int ((100 : Int32) + ((xa &&& (2147483647 : Int32)) % (900 : Int32)))), .val (.int zq), .val (.int bb), .val (.ref r_3), .unset, .unset, .unset, .unset, .unset, .unset, .unset, .unset, .unset, .unset] [(.ref r_6)]))
        refine own_onJ (fun t_ k_ => XS.astore X6.here hx rfl (hb hby at_82) rfl rfl (l' := #[.val (.int xa), .val (.int xb), .val (.int fg), .val (.int c1), .val (.int c2), .val (.int ((100 : Int32) + ((xa &&& (2147483647 : Int32)) % (900 : Int32)))), .val (.int zq), .val (.int bb), .val (.ref r_3), .val (.ref r_6), .unset, .unset, .unset, .unset, .unset, .unset, .unset, .unset, .unset]) rfl k_) ?_
        show OwnGoJ p e below s _ _ _ (T6.setTop (mkF m 84 #[.val (.int xa), .val (.int xb), .val (.int fg), .val (.int c1), .val (.int c2), .val (.int ((100 : Int32) + ((xa &&& (2147483647 : Int32)) % (900 : Int32)))), .val (.int zq), .val (.int bb), .val (.ref r_3), .val (.ref r_6), .unset, .unset, .unset, .unset, .unset, .unset, .unset, .unset, .unset] []))
        have hr9 : own_okl (own_ph c2 zy) := own_oph _ _
        obtain ⟨T10, h10, X10, e10, E10, A10, D10, u10, st10⟩ := newO X6 hx hZ hown (w41 hw) (w42 hw) (w43 hw) rfl (g := (mkF m 84 #[.val (.int xa), .val (.int xb), .val (.int fg), .val (.int c1), .val (.int c2), .val (.int ((100 : Int32) + ((xa &&& (2147483647 : Int32)) % (900 : Int32)))), .val (.int zq), .val (.int bb), .val (.ref r_3), .val (.ref r_6), .unset, .unset, .unset, .unset, .unset, .unset, .unset, .unset, .unset] [])) rfl (hb hby at_84) (by decide) (by decide)
        obtain ⟨b10, g10⟩ : ∃ z, z = T6.heap.size := ⟨_, rfl⟩
        rw [← g10] at A10 D10 st10
        have f11 : Exa Z T6.heap r_3 "java/lang/String" := c3_0.keep K6q
        have ne12 : r_3 ≠ b10 := Nat.ne_of_lt (Nat.lt_of_lt_of_le f11.lt (Nat.le_of_eq g10.symm))
        have ne13 : r_6 ≠ b10 := Nat.ne_of_lt (Nat.lt_of_lt_of_le c6_0.lt (Nat.le_of_eq g10.symm))
        have g14 : n0 ≤ b10 := Nat.le_trans Z6 (Nat.le_of_eq g10.symm)
        have z15 : h0.size ≤ b10 := Nat.le_trans K6.1 (Nat.le_of_eq g10.symm)
        have Z10 : n0 ≤ h10.size := Nat.le_trans Z6 E10.1
        have K10 : Keep h0 h10 [] := K6.ext E10
        have F10_code : Fld Z h10 b10 "io/loomwire/handler/codec/http/HttpResponseStatus" "code" "I" (.int (0 : Int32)) := D10 (Or.inr (w64 hw)) (ty := .int) (by decide)
        have F10_reasonPhrase : Fld Z h10 b10 "io/loomwire/handler/codec/http/HttpResponseStatus" "reasonPhrase" "Ljava/lang/String;" .null := D10 (Or.inr (w66 hw)) (ty := (.object "java/lang/String")) (by decide)
        refine own_onJ st10 ?_
        show OwnGoJ p e below s _ _ _ (T10.setTop (mkF m 87 #[.val (.int xa), .val (.int xb), .val (.int fg), .val (.int c1), .val (.int c2), .val (.int ((100 : Int32) + ((xa &&& (2147483647 : Int32)) % (900 : Int32)))), .val (.int zq), .val (.int bb), .val (.ref r_3), .val (.ref r_6), .unset, .unset, .unset, .unset, .unset, .unset, .unset, .unset, .unset] [(.ref b10)]))
        refine own_onJ (fun t_ k_ => XS.dup X10.here hx rfl (hb hby at_87) rfl rfl k_) ?_
        show OwnGoJ p e below s _ _ _ (T10.setTop (mkF m 88 #[.val (.int xa), .val (.int xb), .val (.int fg), .val (.int c1), .val (.int c2), .val (.int ((100 : Int32) + ((xa &&& (2147483647 : Int32)) % (900 : Int32)))), .val (.int zq), .val (.int bb), .val (.ref r_3), .val (.ref r_6), .unset, .unset, .unset, .unset, .unset, .unset, .unset, .unset, .unset] [(.ref b10), (.ref b10)]))
        refine own_onJ (fun t_ k_ => XS.iload X10.here hx rfl (hb hby at_88) rfl k_) ?_
        show OwnGoJ p e below s _ _ _ (T10.setTop (mkF m 90 #[.val (.int xa), .val (.int xb), .val (.int fg), .val (.int c1), .val (.int c2), .val (.int ((100 : Int32) + ((xa &&& (2147483647 : Int32)) % (900 : Int32)))), .val (.int zq), .val (.int bb), .val (.ref r_3), .val (.ref r_6), .unset, .unset, .unset, .unset, .unset, .unset, .unset, .unset, .unset] [(.int ((100 : Int32) + ((xa &&& (2147483647 : Int32)) % (900 : Int32)))), (.ref b10), (.ref b10)]))
        refine own_onJ (fun t_ k_ => XS.aload X10.here hx rfl (hb hby at_90) rfl rfl k_) ?_
        show OwnGoJ p e below s _ _ _ (T10.setTop (mkF m 92 #[.val (.int xa), .val (.int xb), .val (.int fg), .val (.int c1), .val (.int c2), .val (.int ((100 : Int32) + ((xa &&& (2147483647 : Int32)) % (900 : Int32)))), .val (.int zq), .val (.int bb), .val (.ref r_3), .val (.ref r_6), .unset, .unset, .unset, .unset, .unset, .unset, .unset, .unset, .unset] [(.ref r_3), (.int ((100 : Int32) + ((xa &&& (2147483647 : Int32)) % (900 : Int32)))), (.ref b10), (.ref b10)]))
        have f16 : Old Z n0 h10 := c6_5.ext E10
        have f17 : OwnS Z T6.heap r_3 (own_ph c1 zz) := c3_1.keep (a0 := a0) K6q nin0 all0
        have f18 : OwnS Z h10 r_3 (own_ph c1 zz) := f17.ext E10
        obtain ⟨_, _, ⟨T19, L19, k19, n19⟩, -, X19, hS19, hG19, ⟨Lc19, hQ19, l19, y19, z19⟩, st19⟩ := X10.specialBackS hx (y := (⟨"io/loomwire/handler/codec/http/HttpResponseStatus", "<init>", "(ILjava/lang/String;)V"⟩ : MethodName)) rfl hown (mvT hZ (w44 hw)) (mvT hZ (w45 hw)) (mvT hZ (w46 hw)) (by decide) (backOfS (W := 1) (rm9 l Z a0 hw [] b10 ((100 : Int32) + ((xa &&& (2147483647 : Int32)) % (900 : Int32))) r_3 cs sf (own_ph c1 zz) (.int (0 : Int32)) .null h10 n0 Z10 f16 P1 P2 P3 P4 A10 F10_code F10_reasonPhrase g14 f18 hr1 hr2 hr5) hZ (w46 hw) (w43 hw) (by decide) (by decide)) (g := (mkF m 92 #[.val (.int xa), .val (.int xb), .val (.int fg), .val (.int c1), .val (.int c2), .val (.int ((100 : Int32) + ((xa &&& (2147483647 : Int32)) % (900 : Int32)))), .val (.int zq), .val (.int bb), .val (.ref r_3), .val (.ref r_6), .unset, .unset, .unset, .unset, .unset, .unset, .unset, .unset, .unset] [(.ref r_3), (.int ((100 : Int32) + ((xa &&& (2147483647 : Int32)) % (900 : Int32)))), (.ref b10), (.ref b10)])) rfl (by rw [hml]; rfl) (Steps.refl _) (a := b10) (argsL := [(.int ((100 : Int32) + ((xa &&& (2147483647 : Int32)) % (900 : Int32)))), (.ref r_3)]) (rest := [(.ref b10)]) (lenOf pd_9 rfl) rfl (by show 2 * 0 + _ ≤ _; exact Nat.le_of_eq rfl) (hb hby at_92) (fun _ hWx => ⟨rfl, e10, (by decide : 9 + 2 ≤ _), (by decide : 26 + 52 ≤ _)⟩)
        dsimp only [Pt.U, Pt.locs, Pt.cells, Pt.slots] at X19 l19 y19 z19 st19 hQ19 hS19 hG19
        have f20 : T6.heap.size ≤ h10.size := Nat.le_trans hk6 E10.1
        obtain ⟨X19, hS19, hZ, hown⟩ := rebS hS6 (Nat.le_trans f20 (Nat.le_of_eq (congrArg Array.size e10.symm))) X19 hS19 hG19 hZ hown
        replace X19 := own_num (c' := 11) (n' := 78) X19 l19 (y19.trans rfl) (z19.trans rfl)
        obtain ⟨rfl, N19q, K19q, c19_0, c19_1, c19_2⟩ := hQ19
        have N19 := Fr.app N6 N19q
        have Z19 : n0 ≤ T19.heap.size := Nat.le_trans Z10 K19q.1
        have K19 : Keep h0 T19.heap [] := K10.trans K19q (allS (P := fun x => x ∈ [] ∨ h0.size ≤ x) (Or.inr z15) all0)
        have hk19 : T19.heap.size ≤ T19.heap.size := Nat.le_refl _
        refine own_trJ st19 ?_
        show OwnGoJ p e below s _ _ _ (T19.setTop (mkF m 95 #[.val (.int xa), .val (.int xb), .val (.int fg), .val (.int c1), .val (.int c2), .val (.int ((100 : Int32) + ((xa &&& (2147483647 : Int32)) % (900 : Int32)))), .val (.int zq), .val (.int bb), .val (.ref r_3), .val (.ref r_6), .unset, .unset, .unset, .unset, .unset, .unset, .unset, .unset, .unset] [(.ref b10)]))
        refine own_onJ (fun t_ k_ => XS.astore X19.here hx rfl (hb hby at_95) rfl rfl (l' := #[.val (.int xa), .val (.int xb), .val (.int fg), .val (.int c1), .val (.int c2), .val (.int ((100 : Int32) + ((xa &&& (2147483647 : Int32)) % (900 : Int32)))), .val (.int zq), .val (.int bb), .val (.ref r_3), .val (.ref r_6), .val (.ref b10), .unset, .unset, .unset, .unset, .unset, .unset, .unset, .unset]) rfl k_) ?_
        show OwnGoJ p e below s _ _ _ (T19.setTop (mkF m 97 #[.val (.int xa), .val (.int xb), .val (.int fg), .val (.int c1), .val (.int c2), .val (.int ((100 : Int32) + ((xa &&& (2147483647 : Int32)) % (900 : Int32)))), .val (.int zq), .val (.int bb), .val (.ref r_3), .val (.ref r_6), .val (.ref b10), .unset, .unset, .unset, .unset, .unset, .unset, .unset, .unset] []))
        obtain ⟨T21, h21, X21, e21, E21, A21, D21, u21, st21⟩ := newO X19 hx hZ hown (w41 hw) (w42 hw) (w43 hw) rfl (g := (mkF m 97 #[.val (.int xa), .val (.int xb), .val (.int fg), .val (.int c1), .val (.int c2), .val (.int ((100 : Int32) + ((xa &&& (2147483647 : Int32)) % (900 : Int32)))), .val (.int zq), .val (.int bb), .val (.ref r_3), .val (.ref r_6), .val (.ref b10), .unset, .unset, .unset, .unset, .unset, .unset, .unset, .unset] [])) rfl (hb hby at_97) (by decide) (by decide)
        obtain ⟨b21, g21⟩ : ∃ z, z = T19.heap.size := ⟨_, rfl⟩
        rw [← g21] at A21 D21 st21
        have f22 : Exa Z h10 r_3 "java/lang/String" := f11.ext E10
        have f23 : Exa Z T19.heap r_3 "java/lang/String" := f22.keep K19q
        have ne24 : r_3 ≠ b21 := Nat.ne_of_lt (Nat.lt_of_lt_of_le f23.lt (Nat.le_of_eq g21.symm))
        have f25 : Exa Z h10 r_6 "java/lang/String" := c6_0.ext E10
        have f26 : Exa Z T19.heap r_6 "java/lang/String" := f25.keep K19q
        have ne27 : r_6 ≠ b21 := Nat.ne_of_lt (Nat.lt_of_lt_of_le f26.lt (Nat.le_of_eq g21.symm))
        have f28 : Exa Z T19.heap b10 "io/loomwire/handler/codec/http/HttpResponseStatus" := A10.keep K19q
        have ne29 : b10 ≠ b21 := Nat.ne_of_lt (Nat.lt_of_lt_of_le f28.lt (Nat.le_of_eq g21.symm))
        have g30 : n0 ≤ b21 := Nat.le_trans Z19 (Nat.le_of_eq g21.symm)
        have z31 : h0.size ≤ b21 := Nat.le_trans K19.1 (Nat.le_of_eq g21.symm)
        have Z21 : n0 ≤ h21.size := Nat.le_trans Z19 E21.1
        have K21 : Keep h0 h21 [] := K19.ext E21
        have F21_code : Fld Z h21 b21 "io/loomwire/handler/codec/http/HttpResponseStatus" "code" "I" (.int (0 : Int32)) := D21 (Or.inr (w64 hw)) (ty := .int) (by decide)
        have F21_reasonPhrase : Fld Z h21 b21 "io/loomwire/handler/codec/http/HttpResponseStatus" "reasonPhrase" "Ljava/lang/String;" .null := D21 (Or.inr (w66 hw)) (ty := (.object "java/lang/String")) (by decide)
        refine own_onJ st21 ?_
        show OwnGoJ p e below s _ _ _ (T21.setTop (mkF m 100 #[.val (.int xa), .val (.int xb), .val (.int fg), .val (.int c1), .val (.int c2), .val (.int ((100 : Int32) + ((xa &&& (2147483647 : Int32)) % (900 : Int32)))), .val (.int zq), .val (.int bb), .val (.ref r_3), .val (.ref r_6), .val (.ref b10), .unset, .unset, .unset, .unset, .unset, .unset, .unset, .unset] [(.ref b21)]))
        refine own_onJ (fun t_ k_ => XS.dup X21.here hx rfl (hb hby at_100) rfl rfl k_) ?_
        show OwnGoJ p e below s _ _ _ (T21.setTop (mkF m 101 #[.val (.int xa), .val (.int xb), .val (.int fg), .val (.int c1), .val (.int c2), .val (.int ((100 : Int32) + ((xa &&& (2147483647 : Int32)) % (900 : Int32)))), .val (.int zq), .val (.int bb), .val (.ref r_3), .val (.ref r_6), .val (.ref b10), .unset, .unset, .unset, .unset, .unset, .unset, .unset, .unset] [(.ref b21), (.ref b21)]))
        refine own_onJ (fun t_ k_ => XS.iload X21.here hx rfl (hb hby at_101) rfl k_) ?_
        show OwnGoJ p e below s _ _ _ (T21.setTop (mkF m 103 #[.val (.int xa), .val (.int xb), .val (.int fg), .val (.int c1), .val (.int c2), .val (.int ((100 : Int32) + ((xa &&& (2147483647 : Int32)) % (900 : Int32)))), .val (.int zq), .val (.int bb), .val (.ref r_3), .val (.ref r_6), .val (.ref b10), .unset, .unset, .unset, .unset, .unset, .unset, .unset, .unset] [(.int bb), (.ref b21), (.ref b21)]))
        refine own_onJ (fun t_ k_ => XS.aload X21.here hx rfl (hb hby at_103) rfl rfl k_) ?_
        show OwnGoJ p e below s _ _ _ (T21.setTop (mkF m 105 #[.val (.int xa), .val (.int xb), .val (.int fg), .val (.int c1), .val (.int c2), .val (.int ((100 : Int32) + ((xa &&& (2147483647 : Int32)) % (900 : Int32)))), .val (.int zq), .val (.int bb), .val (.ref r_3), .val (.ref r_6), .val (.ref b10), .unset, .unset, .unset, .unset, .unset, .unset, .unset, .unset] [(.ref r_6), (.int bb), (.ref b21), (.ref b21)]))
        have f32 : Old Z n0 h21 := c19_2.ext E21
        have f33 : OwnS Z h10 r_6 (own_ph c2 zy) := c6_1.ext E10
        have f34 : OwnS Z T19.heap r_6 (own_ph c2 zy) := f33.keep (a0 := a0) K19q (ninS ne13 nin0) (allS ⟨_, _, A10, (w42 hw)⟩ all0)
        have f35 : OwnS Z h21 r_6 (own_ph c2 zy) := f34.ext E21
        obtain ⟨_, _, ⟨T36, L36, k36, n36⟩, -, X36, hS36, hG36, ⟨Lc36, hQ36, l36, y36, z36⟩, st36⟩ := X21.specialBackS hx (y := (⟨"io/loomwire/handler/codec/http/HttpResponseStatus", "<init>", "(ILjava/lang/String;)V"⟩ : MethodName)) rfl hown (mvT hZ (w44 hw)) (mvT hZ (w45 hw)) (mvT hZ (w46 hw)) (by decide) (backOfS (W := 1) (rm9 l Z a0 hw [] b21 bb r_6 cs sf (own_ph c2 zy) (.int (0 : Int32)) .null h21 n0 Z21 f32 P1 P2 P3 P4 A21 F21_code F21_reasonPhrase g30 f35 hb1 hb2 hr9) hZ (w46 hw) (w43 hw) (by decide) (by decide)) (g := (mkF m 105 #[.val (.int xa), .val (.int xb), .val (.int fg), .val (.int c1), .val (.int c2), .val (.int ((100 : Int32) + ((xa &&& (2147483647 : Int32)) % (900 : Int32)))), .val (.int zq), .val (.int bb), .val (.ref r_3), .val (.ref r_6), .val (.ref b10), .unset, .unset, .unset, .unset, .unset, .unset, .unset, .unset] [(.ref r_6), (.int bb), (.ref b21), (.ref b21)])) rfl (by rw [hml]; rfl) (Steps.refl _) (a := b21) (argsL := [(.int bb), (.ref r_6)]) (rest := [(.ref b21)]) (lenOf pd_9 rfl) rfl (by show 2 * 0 + _ ≤ _; exact Nat.le_of_eq rfl) (hb hby at_105) (fun _ hWx => ⟨rfl, e21, (by decide : 12 + 2 ≤ _), (by decide : 80 + 52 ≤ _)⟩)
        dsimp only [Pt.U, Pt.locs, Pt.cells, Pt.slots] at X36 l36 y36 z36 st36 hQ36 hS36 hG36
        have f37 : T19.heap.size ≤ h21.size := Nat.le_trans hk19 E21.1
        obtain ⟨X36, hS36, hZ, hown⟩ := rebS hS19 (Nat.le_trans f37 (Nat.le_of_eq (congrArg Array.size e21.symm))) X36 hS36 hG36 hZ hown
        replace X36 := own_num (c' := 14) (n' := 132) X36 l36 (y36.trans rfl) (z36.trans rfl)
        obtain ⟨rfl, N36q, K36q, c36_0, c36_1, c36_2⟩ := hQ36
        have N36 := Fr.app N19 N36q
        have Z36 : n0 ≤ T36.heap.size := Nat.le_trans Z21 K36q.1
        have K36 : Keep h0 T36.heap [] := K21.trans K36q (allS (P := fun x => x ∈ [] ∨ h0.size ≤ x) (Or.inr z31) all0)
        have hk36 : T36.heap.size ≤ T36.heap.size := Nat.le_refl _
        refine own_trJ st36 ?_
        show OwnGoJ p e below s _ _ _ (T36.setTop (mkF m 108 #[.val (.int xa), .val (.int xb), .val (.int fg), .val (.int c1), .val (.int c2), .val (.int ((100 : Int32) + ((xa &&& (2147483647 : Int32)) % (900 : Int32)))), .val (.int zq), .val (.int bb), .val (.ref r_3), .val (.ref r_6), .val (.ref b10), .unset, .unset, .unset, .unset, .unset, .unset, .unset, .unset] [(.ref b21)]))
        refine own_onJ (fun t_ k_ => XS.astore X36.here hx rfl (hb hby at_108) rfl rfl (l' := #[.val (.int xa), .val (.int xb), .val (.int fg), .val (.int c1), .val (.int c2), .val (.int ((100 : Int32) + ((xa &&& (2147483647 : Int32)) % (900 : Int32)))), .val (.int zq), .val (.int bb), .val (.ref r_3), .val (.ref r_6), .val (.ref b10), .val (.ref b21), .unset, .unset, .unset, .unset, .unset, .unset, .unset]) rfl k_) ?_
        show OwnGoJ p e below s _ _ _ (T36.setTop (mkF m 110 #[.val (.int xa), .val (.int xb), .val (.int fg), .val (.int c1), .val (.int c2), .val (.int ((100 : Int32) + ((xa &&& (2147483647 : Int32)) % (900 : Int32)))), .val (.int zq), .val (.int bb), .val (.ref r_3), .val (.ref r_6), .val (.ref b10), .val (.ref b21), .unset, .unset, .unset, .unset, .unset, .unset, .unset] []))
        refine own_onJ (fun t_ k_ => XS.iload X36.here hx rfl (hb hby at_110) rfl k_) ?_
        show OwnGoJ p e below s _ _ _ (T36.setTop (mkF m 112 #[.val (.int xa), .val (.int xb), .val (.int fg), .val (.int c1), .val (.int c2), .val (.int ((100 : Int32) + ((xa &&& (2147483647 : Int32)) % (900 : Int32)))), .val (.int zq), .val (.int bb), .val (.ref r_3), .val (.ref r_6), .val (.ref b10), .val (.ref b21), .unset, .unset, .unset, .unset, .unset, .unset, .unset] [(.int ((100 : Int32) + ((xa &&& (2147483647 : Int32)) % (900 : Int32))))]))
        refine own_onJ (fun t_ k_ => XS.iload X36.here hx rfl (hb hby at_112) rfl k_) ?_
        show OwnGoJ p e below s _ _ _ (T36.setTop (mkF m 114 #[.val (.int xa), .val (.int xb), .val (.int fg), .val (.int c1), .val (.int c2), .val (.int ((100 : Int32) + ((xa &&& (2147483647 : Int32)) % (900 : Int32)))), .val (.int zq), .val (.int bb), .val (.ref r_3), .val (.ref r_6), .val (.ref b10), .val (.ref b21), .unset, .unset, .unset, .unset, .unset, .unset, .unset] [(.int bb), (.int ((100 : Int32) + ((xa &&& (2147483647 : Int32)) % (900 : Int32))))]))
        by_cases qe : ((100 : Int32) + ((xa &&& (2147483647 : Int32)) % (900 : Int32))) = bb
        · refine own_onJ (fun t_ k_ => XS.icmpNo X36.here hx rfl (hb hby at_114) rfl (teq qe).2 k_) ?_
          show OwnGoJ p e below s _ _ _ (T36.setTop (mkF m 117 #[.val (.int xa), .val (.int xb), .val (.int fg), .val (.int c1), .val (.int c2), .val (.int ((100 : Int32) + ((xa &&& (2147483647 : Int32)) % (900 : Int32)))), .val (.int zq), .val (.int bb), .val (.ref r_3), .val (.ref r_6), .val (.ref b10), .val (.ref b21), .unset, .unset, .unset, .unset, .unset, .unset, .unset] []))
          refine own_onJ (fun t_ k_ => XS.iconst X36.here hx rfl (hb hby at_117) k_) ?_
          show OwnGoJ p e below s _ _ _ (T36.setTop (mkF m 118 #[.val (.int xa), .val (.int xb), .val (.int fg), .val (.int c1), .val (.int c2), .val (.int ((100 : Int32) + ((xa &&& (2147483647 : Int32)) % (900 : Int32)))), .val (.int zq), .val (.int bb), .val (.ref r_3), .val (.ref r_6), .val (.ref b10), .val (.ref b21), .unset, .unset, .unset, .unset, .unset, .unset, .unset] [(.int (1 : Int32))]))
          refine own_onJ (fun t_ k_ => XS.goto X36.here hx rfl (pc0 := 118) (pc' := 122) rfl (hb hby at_118) (by decide) (by decide) k_) ?_
          show OwnGoJ p e below s _ _ _ (T36.setTop (mkF m 122 #[.val (.int xa), .val (.int xb), .val (.int fg), .val (.int c1), .val (.int c2), .val (.int ((100 : Int32) + ((xa &&& (2147483647 : Int32)) % (900 : Int32)))), .val (.int zq), .val (.int bb), .val (.ref r_3), .val (.ref r_6), .val (.ref b10), .val (.ref b21), .unset, .unset, .unset, .unset, .unset, .unset, .unset] [(.int (1 : Int32))]))
          refine own_onJ (fun t_ k_ => XS.istore X36.here hx rfl (hb hby at_122) rfl (l' := #[.val (.int xa), .val (.int xb), .val (.int fg), .val (.int c1), .val (.int c2), .val (.int ((100 : Int32) + ((xa &&& (2147483647 : Int32)) % (900 : Int32)))), .val (.int zq), .val (.int bb), .val (.ref r_3), .val (.ref r_6), .val (.ref b10), .val (.ref b21), .val (.int (1 : Int32)), .unset, .unset, .unset, .unset, .unset, .unset]) rfl k_) ?_
          show OwnGoJ p e below s _ _ _ (T36.setTop (mkF m 124 #[.val (.int xa), .val (.int xb), .val (.int fg), .val (.int c1), .val (.int c2), .val (.int ((100 : Int32) + ((xa &&& (2147483647 : Int32)) % (900 : Int32)))), .val (.int zq), .val (.int bb), .val (.ref r_3), .val (.ref r_6), .val (.ref b10), .val (.ref b21), .val (.int (1 : Int32)), .unset, .unset, .unset, .unset, .unset, .unset] []))
          refine own_onJ (fun t_ k_ => XS.aload X36.here hx rfl (hb hby at_124) rfl rfl k_) ?_
          show OwnGoJ p e below s _ _ _ (T36.setTop (mkF m 126 #[.val (.int xa), .val (.int xb), .val (.int fg), .val (.int c1), .val (.int c2), .val (.int ((100 : Int32) + ((xa &&& (2147483647 : Int32)) % (900 : Int32)))), .val (.int zq), .val (.int bb), .val (.ref r_3), .val (.ref r_6), .val (.ref b10), .val (.ref b21), .val (.int (1 : Int32)), .unset, .unset, .unset, .unset, .unset, .unset] [(.ref b10)]))
          refine own_onJ (fun t_ k_ => XS.aload X36.here hx rfl (hb hby at_126) rfl rfl k_) ?_
          show OwnGoJ p e below s _ _ _ (T36.setTop (mkF m 128 #[.val (.int xa), .val (.int xb), .val (.int fg), .val (.int c1), .val (.int c2), .val (.int ((100 : Int32) + ((xa &&& (2147483647 : Int32)) % (900 : Int32)))), .val (.int zq), .val (.int bb), .val (.ref r_3), .val (.ref r_6), .val (.ref b10), .val (.ref b21), .val (.int (1 : Int32)), .unset, .unset, .unset, .unset, .unset, .unset] [(.ref b21), (.ref b10)]))
          have f38 : Exa Z h21 b10 "io/loomwire/handler/codec/http/HttpResponseStatus" := c19_0.ext E21
          have f39 : Exa Z T36.heap b10 "io/loomwire/handler/codec/http/HttpResponseStatus" := f38.keep K36q
          have f40 : Fld Z h21 b10 "io/loomwire/handler/codec/http/HttpResponseStatus" "code" "I" (.int ((100 : Int32) + ((xa &&& (2147483647 : Int32)) % (900 : Int32)))) := c19_1.ext E21
          have f41 : Fld Z T36.heap b10 "io/loomwire/handler/codec/http/HttpResponseStatus" "code" "I" (.int ((100 : Int32) + ((xa &&& (2147483647 : Int32)) % (900 : Int32)))) := f40.keep K36q (ninS ne29 nin0)
          obtain ⟨cq42, kq42, q42a, q42b, q42c⟩ := isOf hZ rfl f39
          obtain ⟨_, _, ⟨T42, L42, k42, n42⟩, -, X42, ⟨Lc42, hQ42, l42, y42, z42⟩, st42⟩ := X36.virtualBack hx (y := (⟨"io/loomwire/handler/codec/http/HttpResponseStatus", "equals", "(Ljava/lang/Object;)Z"⟩ : MethodName)) (z := (⟨"io/loomwire/handler/codec/http/HttpResponseStatus", "equals", "(Ljava/lang/Object;)Z"⟩ : MethodName)) hown (mvT hZ (w93 hw)) (mvT hZ (w94 hw)) (notFace_of_selects (args := #[]) (mvT hZ (w96 hw))) (mvT hZ (w96 hw)) (mvT hZ (w95 hw)) (by decide) (backOf (W := 0) (rmeqM l Z a0 hw [] b10 b21 ((100 : Int32) + ((xa &&& (2147483647 : Int32)) % (900 : Int32))) bb T36.heap n0 Z36 f39 c36_0 f41 c36_1) hZ (w97 hw) (w43 hw) (by decide) (by decide)) q42a q42c (g := (mkF m 128 #[.val (.int xa), .val (.int xb), .val (.int fg), .val (.int c1), .val (.int c2), .val (.int ((100 : Int32) + ((xa &&& (2147483647 : Int32)) % (900 : Int32)))), .val (.int zq), .val (.int bb), .val (.ref r_3), .val (.ref r_6), .val (.ref b10), .val (.ref b21), .val (.int (1 : Int32)), .unset, .unset, .unset, .unset, .unset, .unset] [(.ref b21), (.ref b10)])) rfl (by rw [hml]; rfl) (Steps.refl _) (argsL := [(.ref b21)]) (rest := []) (lenOf pd_10 rfl) rfl (by show 2 * 0 + _ ≤ _; exact Nat.le_of_eq rfl) (hb hby at_128) (fun _ hWx => ⟨rfl, rfl, (by decide : 14 + 0 ≤ _), (by decide : 132 + 0 ≤ _)⟩)
          dsimp only [Pt.U, Pt.locs, Pt.cells, Pt.slots] at X42 l42 y42 z42 st42 hQ42
          replace X42 := own_num (c' := 14) (n' := 132) X42 l42 (y42.trans rfl) (z42.trans rfl)
          obtain ⟨rfl, N42q, e42⟩ := hQ42
          have N42 := Fr.app N36 N42q
          refine own_trJ st42 ?_
          show OwnGoJ p e below s _ _ _ (T42.setTop (mkF m 131 #[.val (.int xa), .val (.int xb), .val (.int fg), .val (.int c1), .val (.int c2), .val (.int ((100 : Int32) + ((xa &&& (2147483647 : Int32)) % (900 : Int32)))), .val (.int zq), .val (.int bb), .val (.ref r_3), .val (.ref r_6), .val (.ref b10), .val (.ref b21), .val (.int (1 : Int32)), .unset, .unset, .unset, .unset, .unset, .unset] [(.int (own_eqc ((100 : Int32) + ((xa &&& (2147483647 : Int32)) % (900 : Int32))) bb))]))
          rw [show (own_eqc ((100 : Int32) + ((xa &&& (2147483647 : Int32)) % (900 : Int32))) bb) = (1 : Int32) from (if_pos qe)]
          show OwnGoJ p e below s _ _ _ (T42.setTop (mkF m 131 #[.val (.int xa), .val (.int xb), .val (.int fg), .val (.int c1), .val (.int c2), .val (.int ((100 : Int32) + ((xa &&& (2147483647 : Int32)) % (900 : Int32)))), .val (.int zq), .val (.int bb), .val (.ref r_3), .val (.ref r_6), .val (.ref b10), .val (.ref b21), .val (.int (1 : Int32)), .unset, .unset, .unset, .unset, .unset, .unset] [(.int (1 : Int32))]))
          refine own_onJ (fun t_ k_ => XS.istore X42.here hx rfl (hb hby at_131) rfl (l' := #[.val (.int xa), .val (.int xb), .val (.int fg), .val (.int c1), .val (.int c2), .val (.int ((100 : Int32) + ((xa &&& (2147483647 : Int32)) % (900 : Int32)))), .val (.int zq), .val (.int bb), .val (.ref r_3), .val (.ref r_6), .val (.ref b10), .val (.ref b21), .val (.int (1 : Int32)), .val (.int (1 : Int32)), .unset, .unset, .unset, .unset, .unset]) rfl k_) ?_
          show OwnGoJ p e below s _ _ _ (T42.setTop (mkF m 133 #[.val (.int xa), .val (.int xb), .val (.int fg), .val (.int c1), .val (.int c2), .val (.int ((100 : Int32) + ((xa &&& (2147483647 : Int32)) % (900 : Int32)))), .val (.int zq), .val (.int bb), .val (.ref r_3), .val (.ref r_6), .val (.ref b10), .val (.ref b21), .val (.int (1 : Int32)), .val (.int (1 : Int32)), .unset, .unset, .unset, .unset, .unset] []))
          refine own_onJ (fun t_ k_ => XS.aload X42.here hx rfl (hb hby at_133) rfl rfl k_) ?_
          show OwnGoJ p e below s _ _ _ (T42.setTop (mkF m 135 #[.val (.int xa), .val (.int xb), .val (.int fg), .val (.int c1), .val (.int c2), .val (.int ((100 : Int32) + ((xa &&& (2147483647 : Int32)) % (900 : Int32)))), .val (.int zq), .val (.int bb), .val (.ref r_3), .val (.ref r_6), .val (.ref b10), .val (.ref b21), .val (.int (1 : Int32)), .val (.int (1 : Int32)), .unset, .unset, .unset, .unset, .unset] [(.ref b21)]))
          refine own_onJ (fun t_ k_ => XS.aload X42.here hx rfl (hb hby at_135) rfl rfl k_) ?_
          show OwnGoJ p e below s _ _ _ (T42.setTop (mkF m 137 #[.val (.int xa), .val (.int xb), .val (.int fg), .val (.int c1), .val (.int c2), .val (.int ((100 : Int32) + ((xa &&& (2147483647 : Int32)) % (900 : Int32)))), .val (.int zq), .val (.int bb), .val (.ref r_3), .val (.ref r_6), .val (.ref b10), .val (.ref b21), .val (.int (1 : Int32)), .val (.int (1 : Int32)), .unset, .unset, .unset, .unset, .unset] [(.ref b10), (.ref b21)]))
          obtain ⟨cq43, kq43, q43a, q43b, q43c⟩ := isOf hZ e42 c36_0
          obtain ⟨_, _, ⟨T43, L43, k43, n43⟩, -, X43, ⟨Lc43, hQ43, l43, y43, z43⟩, st43⟩ := X42.virtualBack hx (y := (⟨"io/loomwire/handler/codec/http/HttpResponseStatus", "equals", "(Ljava/lang/Object;)Z"⟩ : MethodName)) (z := (⟨"io/loomwire/handler/codec/http/HttpResponseStatus", "equals", "(Ljava/lang/Object;)Z"⟩ : MethodName)) hown (mvT hZ (w93 hw)) (mvT hZ (w94 hw)) (notFace_of_selects (args := #[]) (mvT hZ (w96 hw))) (mvT hZ (w96 hw)) (mvT hZ (w95 hw)) (by decide) (backOf (W := 0) (rmeqM l Z a0 hw [] b21 b10 bb ((100 : Int32) + ((xa &&& (2147483647 : Int32)) % (900 : Int32))) T36.heap n0 Z36 c36_0 f39 c36_1 f41) hZ (w97 hw) (w43 hw) (by decide) (by decide)) q43a q43c (g := (mkF m 137 #[.val (.int xa), .val (.int xb), .val (.int fg), .val (.int c1), .val (.int c2), .val (.int ((100 : Int32) + ((xa &&& (2147483647 : Int32)) % (900 : Int32)))), .val (.int zq), .val (.int bb), .val (.ref r_3), .val (.ref r_6), .val (.ref b10), .val (.ref b21), .val (.int (1 : Int32)), .val (.int (1 : Int32)), .unset, .unset, .unset, .unset, .unset] [(.ref b10), (.ref b21)])) rfl (by rw [hml]; rfl) (Steps.refl _) (argsL := [(.ref b10)]) (rest := []) (lenOf pd_10 rfl) rfl (by show 2 * 0 + _ ≤ _; exact Nat.le_of_eq rfl) (hb hby at_137) (fun _ hWx => ⟨rfl, e42, (by decide : 14 + 0 ≤ _), (by decide : 132 + 0 ≤ _)⟩)
          dsimp only [Pt.U, Pt.locs, Pt.cells, Pt.slots] at X43 l43 y43 z43 st43 hQ43
          replace X43 := own_num (c' := 14) (n' := 132) X43 l43 (y43.trans rfl) (z43.trans rfl)
          obtain ⟨rfl, N43q, e43⟩ := hQ43
          have N43 := Fr.app N42 N43q
          refine own_trJ st43 ?_
          show OwnGoJ p e below s _ _ _ (T43.setTop (mkF m 140 #[.val (.int xa), .val (.int xb), .val (.int fg), .val (.int c1), .val (.int c2), .val (.int ((100 : Int32) + ((xa &&& (2147483647 : Int32)) % (900 : Int32)))), .val (.int zq), .val (.int bb), .val (.ref r_3), .val (.ref r_6), .val (.ref b10), .val (.ref b21), .val (.int (1 : Int32)), .val (.int (1 : Int32)), .unset, .unset, .unset, .unset, .unset] [(.int (own_eqc bb ((100 : Int32) + ((xa &&& (2147483647 : Int32)) % (900 : Int32)))))]))
          rw [show (own_eqc bb ((100 : Int32) + ((xa &&& (2147483647 : Int32)) % (900 : Int32)))) = (1 : Int32) from (if_pos qe.symm)]
          show OwnGoJ p e below s _ _ _ (T43.setTop (mkF m 140 #[.val (.int xa), .val (.int xb), .val (.int fg), .val (.int c1), .val (.int c2), .val (.int ((100 : Int32) + ((xa &&& (2147483647 : Int32)) % (900 : Int32)))), .val (.int zq), .val (.int bb), .val (.ref r_3), .val (.ref r_6), .val (.ref b10), .val (.ref b21), .val (.int (1 : Int32)), .val (.int (1 : Int32)), .unset, .unset, .unset, .unset, .unset] [(.int (1 : Int32))]))
          refine own_onJ (fun t_ k_ => XS.istore X43.here hx rfl (hb hby at_140) rfl (l' := #[.val (.int xa), .val (.int xb), .val (.int fg), .val (.int c1), .val (.int c2), .val (.int ((100 : Int32) + ((xa &&& (2147483647 : Int32)) % (900 : Int32)))), .val (.int zq), .val (.int bb), .val (.ref r_3), .val (.ref r_6), .val (.ref b10), .val (.ref b21), .val (.int (1 : Int32)), .val (.int (1 : Int32)), .val (.int (1 : Int32)), .unset, .unset, .unset, .unset]) rfl k_) ?_
          show OwnGoJ p e below s _ _ _ (T43.setTop (mkF m 142 #[.val (.int xa), .val (.int xb), .val (.int fg), .val (.int c1), .val (.int c2), .val (.int ((100 : Int32) + ((xa &&& (2147483647 : Int32)) % (900 : Int32)))), .val (.int zq), .val (.int bb), .val (.ref r_3), .val (.ref r_6), .val (.ref b10), .val (.ref b21), .val (.int (1 : Int32)), .val (.int (1 : Int32)), .val (.int (1 : Int32)), .unset, .unset, .unset, .unset] []))
          refine own_onJ (fun t_ k_ => XS.aload X43.here hx rfl (hb hby at_142) rfl rfl k_) ?_
          show OwnGoJ p e below s _ _ _ (T43.setTop (mkF m 144 #[.val (.int xa), .val (.int xb), .val (.int fg), .val (.int c1), .val (.int c2), .val (.int ((100 : Int32) + ((xa &&& (2147483647 : Int32)) % (900 : Int32)))), .val (.int zq), .val (.int bb), .val (.ref r_3), .val (.ref r_6), .val (.ref b10), .val (.ref b21), .val (.int (1 : Int32)), .val (.int (1 : Int32)), .val (.int (1 : Int32)), .unset, .unset, .unset, .unset] [(.ref b10)]))
          refine own_onJ (fun t_ k_ => XS.aload X43.here hx rfl (hb hby at_144) rfl rfl k_) ?_
          show OwnGoJ p e below s _ _ _ (T43.setTop (mkF m 146 #[.val (.int xa), .val (.int xb), .val (.int fg), .val (.int c1), .val (.int c2), .val (.int ((100 : Int32) + ((xa &&& (2147483647 : Int32)) % (900 : Int32)))), .val (.int zq), .val (.int bb), .val (.ref r_3), .val (.ref r_6), .val (.ref b10), .val (.ref b21), .val (.int (1 : Int32)), .val (.int (1 : Int32)), .val (.int (1 : Int32)), .unset, .unset, .unset, .unset] [(.ref b10), (.ref b10)]))
          obtain ⟨cq44, kq44, q44a, q44b, q44c⟩ := isOf hZ e43 f39
          obtain ⟨_, _, ⟨T44, L44, k44, n44⟩, -, X44, ⟨Lc44, hQ44, l44, y44, z44⟩, st44⟩ := X43.virtualBack hx (y := (⟨"io/loomwire/handler/codec/http/HttpResponseStatus", "equals", "(Ljava/lang/Object;)Z"⟩ : MethodName)) (z := (⟨"io/loomwire/handler/codec/http/HttpResponseStatus", "equals", "(Ljava/lang/Object;)Z"⟩ : MethodName)) hown (mvT hZ (w93 hw)) (mvT hZ (w94 hw)) (notFace_of_selects (args := #[]) (mvT hZ (w96 hw))) (mvT hZ (w96 hw)) (mvT hZ (w95 hw)) (by decide) (backOf (W := 0) (rmeqM l Z a0 hw [] b10 b10 ((100 : Int32) + ((xa &&& (2147483647 : Int32)) % (900 : Int32))) ((100 : Int32) + ((xa &&& (2147483647 : Int32)) % (900 : Int32))) T36.heap n0 Z36 f39 f39 f41 f41) hZ (w97 hw) (w43 hw) (by decide) (by decide)) q44a q44c (g := (mkF m 146 #[.val (.int xa), .val (.int xb), .val (.int fg), .val (.int c1), .val (.int c2), .val (.int ((100 : Int32) + ((xa &&& (2147483647 : Int32)) % (900 : Int32)))), .val (.int zq), .val (.int bb), .val (.ref r_3), .val (.ref r_6), .val (.ref b10), .val (.ref b21), .val (.int (1 : Int32)), .val (.int (1 : Int32)), .val (.int (1 : Int32)), .unset, .unset, .unset, .unset] [(.ref b10), (.ref b10)])) rfl (by rw [hml]; rfl) (Steps.refl _) (argsL := [(.ref b10)]) (rest := []) (lenOf pd_10 rfl) rfl (by show 2 * 0 + _ ≤ _; exact Nat.le_of_eq rfl) (hb hby at_146) (fun _ hWx => ⟨rfl, e43, (by decide : 14 + 0 ≤ _), (by decide : 132 + 0 ≤ _)⟩)
          dsimp only [Pt.U, Pt.locs, Pt.cells, Pt.slots] at X44 l44 y44 z44 st44 hQ44
          replace X44 := own_num (c' := 14) (n' := 132) X44 l44 (y44.trans rfl) (z44.trans rfl)
          obtain ⟨rfl, N44q, e44⟩ := hQ44
          have N44 := Fr.app N43 N44q
          refine own_trJ st44 ?_
          show OwnGoJ p e below s _ _ _ (T44.setTop (mkF m 149 #[.val (.int xa), .val (.int xb), .val (.int fg), .val (.int c1), .val (.int c2), .val (.int ((100 : Int32) + ((xa &&& (2147483647 : Int32)) % (900 : Int32)))), .val (.int zq), .val (.int bb), .val (.ref r_3), .val (.ref r_6), .val (.ref b10), .val (.ref b21), .val (.int (1 : Int32)), .val (.int (1 : Int32)), .val (.int (1 : Int32)), .unset, .unset, .unset, .unset] [(.int (own_eqc ((100 : Int32) + ((xa &&& (2147483647 : Int32)) % (900 : Int32))) ((100 : Int32) + ((xa &&& (2147483647 : Int32)) % (900 : Int32)))))]))
          rw [show (own_eqc ((100 : Int32) + ((xa &&& (2147483647 : Int32)) % (900 : Int32))) ((100 : Int32) + ((xa &&& (2147483647 : Int32)) % (900 : Int32)))) = (1 : Int32) from (if_pos rfl)]
          show OwnGoJ p e below s _ _ _ (T44.setTop (mkF m 149 #[.val (.int xa), .val (.int xb), .val (.int fg), .val (.int c1), .val (.int c2), .val (.int ((100 : Int32) + ((xa &&& (2147483647 : Int32)) % (900 : Int32)))), .val (.int zq), .val (.int bb), .val (.ref r_3), .val (.ref r_6), .val (.ref b10), .val (.ref b21), .val (.int (1 : Int32)), .val (.int (1 : Int32)), .val (.int (1 : Int32)), .unset, .unset, .unset, .unset] [(.int (1 : Int32))]))
          refine own_onJ (fun t_ k_ => XS.istore X44.here hx rfl (hb hby at_149) rfl (l' := #[.val (.int xa), .val (.int xb), .val (.int fg), .val (.int c1), .val (.int c2), .val (.int ((100 : Int32) + ((xa &&& (2147483647 : Int32)) % (900 : Int32)))), .val (.int zq), .val (.int bb), .val (.ref r_3), .val (.ref r_6), .val (.ref b10), .val (.ref b21), .val (.int (1 : Int32)), .val (.int (1 : Int32)), .val (.int (1 : Int32)), .val (.int (1 : Int32)), .unset, .unset, .unset]) rfl k_) ?_
          show OwnGoJ p e below s _ _ _ (T44.setTop (mkF m 151 #[.val (.int xa), .val (.int xb), .val (.int fg), .val (.int c1), .val (.int c2), .val (.int ((100 : Int32) + ((xa &&& (2147483647 : Int32)) % (900 : Int32)))), .val (.int zq), .val (.int bb), .val (.ref r_3), .val (.ref r_6), .val (.ref b10), .val (.ref b21), .val (.int (1 : Int32)), .val (.int (1 : Int32)), .val (.int (1 : Int32)), .val (.int (1 : Int32)), .unset, .unset, .unset] []))
          refine own_onJ (fun t_ k_ => XS.aload X44.here hx rfl (hb hby at_151) rfl rfl k_) ?_
          show OwnGoJ p e below s _ _ _ (T44.setTop (mkF m 153 #[.val (.int xa), .val (.int xb), .val (.int fg), .val (.int c1), .val (.int c2), .val (.int ((100 : Int32) + ((xa &&& (2147483647 : Int32)) % (900 : Int32)))), .val (.int zq), .val (.int bb), .val (.ref r_3), .val (.ref r_6), .val (.ref b10), .val (.ref b21), .val (.int (1 : Int32)), .val (.int (1 : Int32)), .val (.int (1 : Int32)), .val (.int (1 : Int32)), .unset, .unset, .unset] [(.ref b10)]))
          refine own_onJ (fun t_ k_ => XS.aconstNull X44.here hx rfl (hb hby at_153) k_) ?_
          show OwnGoJ p e below s _ _ _ (T44.setTop (mkF m 154 #[.val (.int xa), .val (.int xb), .val (.int fg), .val (.int c1), .val (.int c2), .val (.int ((100 : Int32) + ((xa &&& (2147483647 : Int32)) % (900 : Int32)))), .val (.int zq), .val (.int bb), .val (.ref r_3), .val (.ref r_6), .val (.ref b10), .val (.ref b21), .val (.int (1 : Int32)), .val (.int (1 : Int32)), .val (.int (1 : Int32)), .val (.int (1 : Int32)), .unset, .unset, .unset] [.null, (.ref b10)]))
          obtain ⟨cq45, kq45, q45a, q45b, q45c⟩ := isOf hZ e44 f39
          obtain ⟨_, _, ⟨T45, L45, k45, n45⟩, -, X45, ⟨Lc45, hQ45, l45, y45, z45⟩, st45⟩ := X44.virtualBack hx (y := (⟨"io/loomwire/handler/codec/http/HttpResponseStatus", "equals", "(Ljava/lang/Object;)Z"⟩ : MethodName)) (z := (⟨"io/loomwire/handler/codec/http/HttpResponseStatus", "equals", "(Ljava/lang/Object;)Z"⟩ : MethodName)) hown (mvT hZ (w93 hw)) (mvT hZ (w94 hw)) (notFace_of_selects (args := #[]) (mvT hZ (w96 hw))) (mvT hZ (w96 hw)) (mvT hZ (w95 hw)) (by decide) (backOf (W := 0) (rmeqN l Z a0 hw [] b10 T36.heap n0 Z36 f39) hZ (w97 hw) (w43 hw) (by decide) (by decide)) q45a q45c (g := (mkF m 154 #[.val (.int xa), .val (.int xb), .val (.int fg), .val (.int c1), .val (.int c2), .val (.int ((100 : Int32) + ((xa &&& (2147483647 : Int32)) % (900 : Int32)))), .val (.int zq), .val (.int bb), .val (.ref r_3), .val (.ref r_6), .val (.ref b10), .val (.ref b21), .val (.int (1 : Int32)), .val (.int (1 : Int32)), .val (.int (1 : Int32)), .val (.int (1 : Int32)), .unset, .unset, .unset] [.null, (.ref b10)])) rfl (by rw [hml]; rfl) (Steps.refl _) (argsL := [.null]) (rest := []) (lenOf pd_10 rfl) rfl (by show 2 * 0 + _ ≤ _; exact Nat.le_of_eq rfl) (hb hby at_154) (fun _ hWx => ⟨rfl, e44, (by decide : 14 + 0 ≤ _), (by decide : 132 + 0 ≤ _)⟩)
          dsimp only [Pt.U, Pt.locs, Pt.cells, Pt.slots] at X45 l45 y45 z45 st45 hQ45
          replace X45 := own_num (c' := 14) (n' := 132) X45 l45 (y45.trans rfl) (z45.trans rfl)
          obtain ⟨rfl, N45q, e45⟩ := hQ45
          have N45 := Fr.app N44 N45q
          refine own_trJ st45 ?_
          show OwnGoJ p e below s _ _ _ (T45.setTop (mkF m 157 #[.val (.int xa), .val (.int xb), .val (.int fg), .val (.int c1), .val (.int c2), .val (.int ((100 : Int32) + ((xa &&& (2147483647 : Int32)) % (900 : Int32)))), .val (.int zq), .val (.int bb), .val (.ref r_3), .val (.ref r_6), .val (.ref b10), .val (.ref b21), .val (.int (1 : Int32)), .val (.int (1 : Int32)), .val (.int (1 : Int32)), .val (.int (1 : Int32)), .unset, .unset, .unset] [(.int (0 : Int32))]))
          refine own_onJ (fun t_ k_ => XS.istore X45.here hx rfl (hb hby at_157) rfl (l' := #[.val (.int xa), .val (.int xb), .val (.int fg), .val (.int c1), .val (.int c2), .val (.int ((100 : Int32) + ((xa &&& (2147483647 : Int32)) % (900 : Int32)))), .val (.int zq), .val (.int bb), .val (.ref r_3), .val (.ref r_6), .val (.ref b10), .val (.ref b21), .val (.int (1 : Int32)), .val (.int (1 : Int32)), .val (.int (1 : Int32)), .val (.int (1 : Int32)), .val (.int (0 : Int32)), .unset, .unset]) rfl k_) ?_
          show OwnGoJ p e below s _ _ _ (T45.setTop (mkF m 159 #[.val (.int xa), .val (.int xb), .val (.int fg), .val (.int c1), .val (.int c2), .val (.int ((100 : Int32) + ((xa &&& (2147483647 : Int32)) % (900 : Int32)))), .val (.int zq), .val (.int bb), .val (.ref r_3), .val (.ref r_6), .val (.ref b10), .val (.ref b21), .val (.int (1 : Int32)), .val (.int (1 : Int32)), .val (.int (1 : Int32)), .val (.int (1 : Int32)), .val (.int (0 : Int32)), .unset, .unset] []))
          refine own_onJ (fun t_ k_ => XS.aload X45.here hx rfl (hb hby at_159) rfl rfl k_) ?_
          show OwnGoJ p e below s _ _ _ (T45.setTop (mkF m 161 #[.val (.int xa), .val (.int xb), .val (.int fg), .val (.int c1), .val (.int c2), .val (.int ((100 : Int32) + ((xa &&& (2147483647 : Int32)) % (900 : Int32)))), .val (.int zq), .val (.int bb), .val (.ref r_3), .val (.ref r_6), .val (.ref b10), .val (.ref b21), .val (.int (1 : Int32)), .val (.int (1 : Int32)), .val (.int (1 : Int32)), .val (.int (1 : Int32)), .val (.int (0 : Int32)), .unset, .unset] [(.ref b10)]))
          refine own_onJ (fun t_ k_ => XS.iload X45.here hx rfl (hb hby at_161) rfl k_) ?_
          show OwnGoJ p e below s _ _ _ (T45.setTop (mkF m 163 #[.val (.int xa), .val (.int xb), .val (.int fg), .val (.int c1), .val (.int c2), .val (.int ((100 : Int32) + ((xa &&& (2147483647 : Int32)) % (900 : Int32)))), .val (.int zq), .val (.int bb), .val (.ref r_3), .val (.ref r_6), .val (.ref b10), .val (.ref b21), .val (.int (1 : Int32)), .val (.int (1 : Int32)), .val (.int (1 : Int32)), .val (.int (1 : Int32)), .val (.int (0 : Int32)), .unset, .unset] [(.int ((100 : Int32) + ((xa &&& (2147483647 : Int32)) % (900 : Int32)))), (.ref b10)]))
          obtain ⟨_, _, ⟨T46, L46, k46, n46⟩, -, X46, ⟨Lc46, hQ46, l46, y46, z46⟩, st46⟩ := Jvm.LawKit.callS X45 hx (y := (⟨"java/lang/Integer", "valueOf", "(I)Ljava/lang/Integer;"⟩ : MethodName)) hown (mvT hZ (w100 hw)) (mvT hZ (w101 hw)) (mvT hZ (w102 hw)) (mvT hZ (w103 hw)) (by decide) (backOf (W := 1) (rm20 l Z a0 hw [] ((100 : Int32) + ((xa &&& (2147483647 : Int32)) % (900 : Int32))) ca T36.heap n0 Z36 c36_2 P5 P6 P7) hZ (w103 hw) (w102 hw) (by decide) (by decide)) (g := (mkF m 163 #[.val (.int xa), .val (.int xb), .val (.int fg), .val (.int c1), .val (.int c2), .val (.int ((100 : Int32) + ((xa &&& (2147483647 : Int32)) % (900 : Int32)))), .val (.int zq), .val (.int bb), .val (.ref r_3), .val (.ref r_6), .val (.ref b10), .val (.ref b21), .val (.int (1 : Int32)), .val (.int (1 : Int32)), .val (.int (1 : Int32)), .val (.int (1 : Int32)), .val (.int (0 : Int32)), .unset, .unset] [(.int ((100 : Int32) + ((xa &&& (2147483647 : Int32)) % (900 : Int32)))), (.ref b10)])) rfl (by rw [hml]; rfl) (argsL := [(.int ((100 : Int32) + ((xa &&& (2147483647 : Int32)) % (900 : Int32))))]) (rest := [(.ref b10)]) (lenOf pd_11 rfl) rfl (by show 2 * 0 + _ ≤ _; exact Nat.le_of_eq rfl) (hb hby at_163) (fun _ hWx => ⟨rfl, e45, (by decide : 14 + 1 ≤ _), (by decide : 132 + 1 ≤ _)⟩)
          dsimp only [Pt.U, Pt.locs, Pt.cells, Pt.slots] at X46 l46 y46 z46 st46 hQ46
          replace X46 := own_num (c' := 15) (n' := 133) X46 l46 (y46.trans rfl) (z46.trans rfl)
          obtain ⟨r_46, rfl, N46q, K46q, c46_0, c46_1⟩ := hQ46
          have N46 := Fr.app N45 N46q
          have Z46 : n0 ≤ T46.heap.size := Nat.le_trans Z36 K46q.1
          have K46 : Keep h0 T46.heap [] := K36.trans K46q all0
          refine own_onJ st46 ?_
          show OwnGoJ p e below s _ _ _ (T46.setTop (mkF m 166 #[.val (.int xa), .val (.int xb), .val (.int fg), .val (.int c1), .val (.int c2), .val (.int ((100 : Int32) + ((xa &&& (2147483647 : Int32)) % (900 : Int32)))), .val (.int zq), .val (.int bb), .val (.ref r_3), .val (.ref r_6), .val (.ref b10), .val (.ref b21), .val (.int (1 : Int32)), .val (.int (1 : Int32)), .val (.int (1 : Int32)), .val (.int (1 : Int32)), .val (.int (0 : Int32)), .unset, .unset] [(.ref r_46), (.ref b10)]))
          have f47 : Exa Z T46.heap b10 "io/loomwire/handler/codec/http/HttpResponseStatus" := f39.keep K46q
          obtain ⟨cq48, kq48, q48a, q48b, q48c⟩ := isOf hZ rfl f47
          obtain ⟨_, _, ⟨T48, L48, k48, n48⟩, -, X48, ⟨Lc48, hQ48, l48, y48, z48⟩, st48⟩ := X46.virtualBack hx (y := (⟨"io/loomwire/handler/codec/http/HttpResponseStatus", "equals", "(Ljava/lang/Object;)Z"⟩ : MethodName)) (z := (⟨"io/loomwire/handler/codec/http/HttpResponseStatus", "equals", "(Ljava/lang/Object;)Z"⟩ : MethodName)) hown (mvT hZ (w93 hw)) (mvT hZ (w94 hw)) (notFace_of_selects (args := #[]) (mvT hZ (w96 hw))) (mvT hZ (w96 hw)) (mvT hZ (w95 hw)) (by decide) (backOf (W := 0) (rmeqI l Z a0 hw [] b10 r_46 T46.heap n0 Z46 f47 c46_0) hZ (w97 hw) (w43 hw) (by decide) (by decide)) q48a q48c (g := (mkF m 166 #[.val (.int xa), .val (.int xb), .val (.int fg), .val (.int c1), .val (.int c2), .val (.int ((100 : Int32) + ((xa &&& (2147483647 : Int32)) % (900 : Int32)))), .val (.int zq), .val (.int bb), .val (.ref r_3), .val (.ref r_6), .val (.ref b10), .val (.ref b21), .val (.int (1 : Int32)), .val (.int (1 : Int32)), .val (.int (1 : Int32)), .val (.int (1 : Int32)), .val (.int (0 : Int32)), .unset, .unset] [(.ref r_46), (.ref b10)])) rfl (by rw [hml]; rfl) (Steps.refl _) (argsL := [(.ref r_46)]) (rest := []) (lenOf pd_10 rfl) rfl (by show 2 * 0 + _ ≤ _; exact Nat.le_of_eq rfl) (hb hby at_166) (fun _ hWx => ⟨rfl, rfl, (by decide : 15 + 0 ≤ _), (by decide : 133 + 0 ≤ _)⟩)
          dsimp only [Pt.U, Pt.locs, Pt.cells, Pt.slots] at X48 l48 y48 z48 st48 hQ48
          replace X48 := own_num (c' := 15) (n' := 133) X48 l48 (y48.trans rfl) (z48.trans rfl)
          obtain ⟨rfl, N48q, e48⟩ := hQ48
          have N48 := Fr.app N46 N48q
          refine own_trJ st48 ?_
          show OwnGoJ p e below s _ _ _ (T48.setTop (mkF m 169 #[.val (.int xa), .val (.int xb), .val (.int fg), .val (.int c1), .val (.int c2), .val (.int ((100 : Int32) + ((xa &&& (2147483647 : Int32)) % (900 : Int32)))), .val (.int zq), .val (.int bb), .val (.ref r_3), .val (.ref r_6), .val (.ref b10), .val (.ref b21), .val (.int (1 : Int32)), .val (.int (1 : Int32)), .val (.int (1 : Int32)), .val (.int (1 : Int32)), .val (.int (0 : Int32)), .unset, .unset] [(.int (0 : Int32))]))
          refine own_onJ (fun t_ k_ => XS.istore X48.here hx rfl (hb hby at_169) rfl (l' := #[.val (.int xa), .val (.int xb), .val (.int fg), .val (.int c1), .val (.int c2), .val (.int ((100 : Int32) + ((xa &&& (2147483647 : Int32)) % (900 : Int32)))), .val (.int zq), .val (.int bb), .val (.ref r_3), .val (.ref r_6), .val (.ref b10), .val (.ref b21), .val (.int (1 : Int32)), .val (.int (1 : Int32)), .val (.int (1 : Int32)), .val (.int (1 : Int32)), .val (.int (0 : Int32)), .val (.int (0 : Int32)), .unset]) rfl k_) ?_
          show OwnGoJ p e below s _ _ _ (T48.setTop (mkF m 171 #[.val (.int xa), .val (.int xb), .val (.int fg), .val (.int c1), .val (.int c2), .val (.int ((100 : Int32) + ((xa &&& (2147483647 : Int32)) % (900 : Int32)))), .val (.int zq), .val (.int bb), .val (.ref r_3), .val (.ref r_6), .val (.ref b10), .val (.ref b21), .val (.int (1 : Int32)), .val (.int (1 : Int32)), .val (.int (1 : Int32)), .val (.int (1 : Int32)), .val (.int (0 : Int32)), .val (.int (0 : Int32)), .unset] []))
          refine own_onJ (fun t_ k_ => XS.aload X48.here hx rfl (hb hby at_171) rfl rfl k_) ?_
          show OwnGoJ p e below s _ _ _ (T48.setTop (mkF m 173 #[.val (.int xa), .val (.int xb), .val (.int fg), .val (.int c1), .val (.int c2), .val (.int ((100 : Int32) + ((xa &&& (2147483647 : Int32)) % (900 : Int32)))), .val (.int zq), .val (.int bb), .val (.ref r_3), .val (.ref r_6), .val (.ref b10), .val (.ref b21), .val (.int (1 : Int32)), .val (.int (1 : Int32)), .val (.int (1 : Int32)), .val (.int (1 : Int32)), .val (.int (0 : Int32)), .val (.int (0 : Int32)), .unset] [(.ref b10)]))
          refine own_onJ (fun t_ k_ => XS.aload X48.here hx rfl (hb hby at_173) rfl rfl k_) ?_
          show OwnGoJ p e below s _ _ _ (T48.setTop (mkF m 175 #[.val (.int xa), .val (.int xb), .val (.int fg), .val (.int c1), .val (.int c2), .val (.int ((100 : Int32) + ((xa &&& (2147483647 : Int32)) % (900 : Int32)))), .val (.int zq), .val (.int bb), .val (.ref r_3), .val (.ref r_6), .val (.ref b10), .val (.ref b21), .val (.int (1 : Int32)), .val (.int (1 : Int32)), .val (.int (1 : Int32)), .val (.int (1 : Int32)), .val (.int (0 : Int32)), .val (.int (0 : Int32)), .unset] [(.ref r_3), (.ref b10)]))
          have f49 : Exa Z h21 r_3 "java/lang/String" := f23.ext E21
          have f50 : Exa Z T36.heap r_3 "java/lang/String" := f49.keep K36q
          have f51 : Exa Z T46.heap r_3 "java/lang/String" := f50.keep K46q
          obtain ⟨cq52, kq52, q52a, q52b, q52c⟩ := isOf hZ e48 f47
          obtain ⟨_, _, ⟨T52, L52, k52, n52⟩, -, X52, ⟨Lc52, hQ52, l52, y52, z52⟩, st52⟩ := X48.virtualBack hx (y := (⟨"io/loomwire/handler/codec/http/HttpResponseStatus", "equals", "(Ljava/lang/Object;)Z"⟩ : MethodName)) (z := (⟨"io/loomwire/handler/codec/http/HttpResponseStatus", "equals", "(Ljava/lang/Object;)Z"⟩ : MethodName)) hown (mvT hZ (w93 hw)) (mvT hZ (w94 hw)) (notFace_of_selects (args := #[]) (mvT hZ (w96 hw))) (mvT hZ (w96 hw)) (mvT hZ (w95 hw)) (by decide) (backOf (W := 0) (rmeqS l Z a0 hw [] b10 r_3 T46.heap n0 Z46 f47 f51) hZ (w97 hw) (w43 hw) (by decide) (by decide)) q52a q52c (g := (mkF m 175 #[.val (.int xa), .val (.int xb), .val (.int fg), .val (.int c1), .val (.int c2), .val (.int ((100 : Int32) + ((xa &&& (2147483647 : Int32)) % (900 : Int32)))), .val (.int zq), .val (.int bb), .val (.ref r_3), .val (.ref r_6), .val (.ref b10), .val (.ref b21), .val (.int (1 : Int32)), .val (.int (1 : Int32)), .val (.int (1 : Int32)), .val (.int (1 : Int32)), .val (.int (0 : Int32)), .val (.int (0 : Int32)), .unset] [(.ref r_3), (.ref b10)])) rfl (by rw [hml]; rfl) (Steps.refl _) (argsL := [(.ref r_3)]) (rest := []) (lenOf pd_10 rfl) rfl (by show 2 * 0 + _ ≤ _; exact Nat.le_of_eq rfl) (hb hby at_175) (fun _ hWx => ⟨rfl, e48, (by decide : 15 + 0 ≤ _), (by decide : 133 + 0 ≤ _)⟩)
          dsimp only [Pt.U, Pt.locs, Pt.cells, Pt.slots] at X52 l52 y52 z52 st52 hQ52
          replace X52 := own_num (c' := 15) (n' := 133) X52 l52 (y52.trans rfl) (z52.trans rfl)
          obtain ⟨rfl, N52q, e52⟩ := hQ52
          have N52 := Fr.app N48 N52q
          refine own_trJ st52 ?_
          show OwnGoJ p e below s _ _ _ (T52.setTop (mkF m 178 #[.val (.int xa), .val (.int xb), .val (.int fg), .val (.int c1), .val (.int c2), .val (.int ((100 : Int32) + ((xa &&& (2147483647 : Int32)) % (900 : Int32)))), .val (.int zq), .val (.int bb), .val (.ref r_3), .val (.ref r_6), .val (.ref b10), .val (.ref b21), .val (.int (1 : Int32)), .val (.int (1 : Int32)), .val (.int (1 : Int32)), .val (.int (1 : Int32)), .val (.int (0 : Int32)), .val (.int (0 : Int32)), .unset] [(.int (0 : Int32))]))
          refine own_onJ (fun t_ k_ => XS.istore X52.here hx rfl (hb hby at_178) rfl (l' := #[.val (.int xa), .val (.int xb), .val (.int fg), .val (.int c1), .val (.int c2), .val (.int ((100 : Int32) + ((xa &&& (2147483647 : Int32)) % (900 : Int32)))), .val (.int zq), .val (.int bb), .val (.ref r_3), .val (.ref r_6), .val (.ref b10), .val (.ref b21), .val (.int (1 : Int32)), .val (.int (1 : Int32)), .val (.int (1 : Int32)), .val (.int (1 : Int32)), .val (.int (0 : Int32)), .val (.int (0 : Int32)), .val (.int (0 : Int32))]) rfl k_) ?_
          show OwnGoJ p e below s _ _ _ (T52.setTop (mkF m 180 #[.val (.int xa), .val (.int xb), .val (.int fg), .val (.int c1), .val (.int c2), .val (.int ((100 : Int32) + ((xa &&& (2147483647 : Int32)) % (900 : Int32)))), .val (.int zq), .val (.int bb), .val (.ref r_3), .val (.ref r_6), .val (.ref b10), .val (.ref b21), .val (.int (1 : Int32)), .val (.int (1 : Int32)), .val (.int (1 : Int32)), .val (.int (1 : Int32)), .val (.int (0 : Int32)), .val (.int (0 : Int32)), .val (.int (0 : Int32))] []))
          refine own_onJ (fun t_ k_ => XS.iload X52.here hx rfl (hb hby at_180) rfl k_) ?_
          show OwnGoJ p e below s _ _ _ (T52.setTop (mkF m 182 #[.val (.int xa), .val (.int xb), .val (.int fg), .val (.int c1), .val (.int c2), .val (.int ((100 : Int32) + ((xa &&& (2147483647 : Int32)) % (900 : Int32)))), .val (.int zq), .val (.int bb), .val (.ref r_3), .val (.ref r_6), .val (.ref b10), .val (.ref b21), .val (.int (1 : Int32)), .val (.int (1 : Int32)), .val (.int (1 : Int32)), .val (.int (1 : Int32)), .val (.int (0 : Int32)), .val (.int (0 : Int32)), .val (.int (0 : Int32))] [(.int (1 : Int32))]))
          refine own_onJ (fun t_ k_ => XS.iload X52.here hx rfl (hb hby at_182) rfl k_) ?_
          show OwnGoJ p e below s _ _ _ (T52.setTop (mkF m 184 #[.val (.int xa), .val (.int xb), .val (.int fg), .val (.int c1), .val (.int c2), .val (.int ((100 : Int32) + ((xa &&& (2147483647 : Int32)) % (900 : Int32)))), .val (.int zq), .val (.int bb), .val (.ref r_3), .val (.ref r_6), .val (.ref b10), .val (.ref b21), .val (.int (1 : Int32)), .val (.int (1 : Int32)), .val (.int (1 : Int32)), .val (.int (1 : Int32)), .val (.int (0 : Int32)), .val (.int (0 : Int32)), .val (.int (0 : Int32))] [(.int (1 : Int32)), (.int (1 : Int32))]))
          refine own_onJ (fun t_ k_ => XS.icmpNo X52.here hx rfl (hb hby at_184) rfl (teq (by decide : (1 : Int32) = (1 : Int32))).2 k_) ?_
          show OwnGoJ p e below s _ _ _ (T52.setTop (mkF m 187 #[.val (.int xa), .val (.int xb), .val (.int fg), .val (.int c1), .val (.int c2), .val (.int ((100 : Int32) + ((xa &&& (2147483647 : Int32)) % (900 : Int32)))), .val (.int zq), .val (.int bb), .val (.ref r_3), .val (.ref r_6), .val (.ref b10), .val (.ref b21), .val (.int (1 : Int32)), .val (.int (1 : Int32)), .val (.int (1 : Int32)), .val (.int (1 : Int32)), .val (.int (0 : Int32)), .val (.int (0 : Int32)), .val (.int (0 : Int32))] []))
          refine own_onJ (fun t_ k_ => XS.iload X52.here hx rfl (hb hby at_187) rfl k_) ?_
          show OwnGoJ p e below s _ _ _ (T52.setTop (mkF m 189 #[.val (.int xa), .val (.int xb), .val (.int fg), .val (.int c1), .val (.int c2), .val (.int ((100 : Int32) + ((xa &&& (2147483647 : Int32)) % (900 : Int32)))), .val (.int zq), .val (.int bb), .val (.ref r_3), .val (.ref r_6), .val (.ref b10), .val (.ref b21), .val (.int (1 : Int32)), .val (.int (1 : Int32)), .val (.int (1 : Int32)), .val (.int (1 : Int32)), .val (.int (0 : Int32)), .val (.int (0 : Int32)), .val (.int (0 : Int32))] [(.int (1 : Int32))]))
          refine own_onJ (fun t_ k_ => XS.iload X52.here hx rfl (hb hby at_189) rfl k_) ?_
          show OwnGoJ p e below s _ _ _ (T52.setTop (mkF m 191 #[.val (.int xa), .val (.int xb), .val (.int fg), .val (.int c1), .val (.int c2), .val (.int ((100 : Int32) + ((xa &&& (2147483647 : Int32)) % (900 : Int32)))), .val (.int zq), .val (.int bb), .val (.ref r_3), .val (.ref r_6), .val (.ref b10), .val (.ref b21), .val (.int (1 : Int32)), .val (.int (1 : Int32)), .val (.int (1 : Int32)), .val (.int (1 : Int32)), .val (.int (0 : Int32)), .val (.int (0 : Int32)), .val (.int (0 : Int32))] [(.int (1 : Int32)), (.int (1 : Int32))]))
          refine own_onJ (fun t_ k_ => XS.icmpNo X52.here hx rfl (hb hby at_191) rfl (teq (by decide : (1 : Int32) = (1 : Int32))).2 k_) ?_
          show OwnGoJ p e below s _ _ _ (T52.setTop (mkF m 194 #[.val (.int xa), .val (.int xb), .val (.int fg), .val (.int c1), .val (.int c2), .val (.int ((100 : Int32) + ((xa &&& (2147483647 : Int32)) % (900 : Int32)))), .val (.int zq), .val (.int bb), .val (.ref r_3), .val (.ref r_6), .val (.ref b10), .val (.ref b21), .val (.int (1 : Int32)), .val (.int (1 : Int32)), .val (.int (1 : Int32)), .val (.int (1 : Int32)), .val (.int (0 : Int32)), .val (.int (0 : Int32)), .val (.int (0 : Int32))] []))
          refine own_onJ (fun t_ k_ => XS.iload X52.here hx rfl (hb hby at_194) rfl k_) ?_
          show OwnGoJ p e below s _ _ _ (T52.setTop (mkF m 196 #[.val (.int xa), .val (.int xb), .val (.int fg), .val (.int c1), .val (.int c2), .val (.int ((100 : Int32) + ((xa &&& (2147483647 : Int32)) % (900 : Int32)))), .val (.int zq), .val (.int bb), .val (.ref r_3), .val (.ref r_6), .val (.ref b10), .val (.ref b21), .val (.int (1 : Int32)), .val (.int (1 : Int32)), .val (.int (1 : Int32)), .val (.int (1 : Int32)), .val (.int (0 : Int32)), .val (.int (0 : Int32)), .val (.int (0 : Int32))] [(.int (1 : Int32))]))
          refine own_onJ (fun t_ k_ => XS.ifNo X52.here hx rfl (hb hby at_196) rfl ((if0 _ _).trans (feq (by decide : ¬ ((1 : Int32) = (0 : Int32)))).1) k_) ?_
          show OwnGoJ p e below s _ _ _ (T52.setTop (mkF m 199 #[.val (.int xa), .val (.int xb), .val (.int fg), .val (.int c1), .val (.int c2), .val (.int ((100 : Int32) + ((xa &&& (2147483647 : Int32)) % (900 : Int32)))), .val (.int zq), .val (.int bb), .val (.ref r_3), .val (.ref r_6), .val (.ref b10), .val (.ref b21), .val (.int (1 : Int32)), .val (.int (1 : Int32)), .val (.int (1 : Int32)), .val (.int (1 : Int32)), .val (.int (0 : Int32)), .val (.int (0 : Int32)), .val (.int (0 : Int32))] []))
          refine own_onJ (fun t_ k_ => XS.iload X52.here hx rfl (hb hby at_199) rfl k_) ?_
          show OwnGoJ p e below s _ _ _ (T52.setTop (mkF m 201 #[.val (.int xa), .val (.int xb), .val (.int fg), .val (.int c1), .val (.int c2), .val (.int ((100 : Int32) + ((xa &&& (2147483647 : Int32)) % (900 : Int32)))), .val (.int zq), .val (.int bb), .val (.ref r_3), .val (.ref r_6), .val (.ref b10), .val (.ref b21), .val (.int (1 : Int32)), .val (.int (1 : Int32)), .val (.int (1 : Int32)), .val (.int (1 : Int32)), .val (.int (0 : Int32)), .val (.int (0 : Int32)), .val (.int (0 : Int32))] [(.int (0 : Int32))]))
          refine own_onJ (fun t_ k_ => XS.ifNo X52.here hx rfl (hb hby at_201) rfl ((if0 _ _).trans (teq (by decide : (0 : Int32) = (0 : Int32))).2) k_) ?_
          show OwnGoJ p e below s _ _ _ (T52.setTop (mkF m 204 #[.val (.int xa), .val (.int xb), .val (.int fg), .val (.int c1), .val (.int c2), .val (.int ((100 : Int32) + ((xa &&& (2147483647 : Int32)) % (900 : Int32)))), .val (.int zq), .val (.int bb), .val (.ref r_3), .val (.ref r_6), .val (.ref b10), .val (.ref b21), .val (.int (1 : Int32)), .val (.int (1 : Int32)), .val (.int (1 : Int32)), .val (.int (1 : Int32)), .val (.int (0 : Int32)), .val (.int (0 : Int32)), .val (.int (0 : Int32))] []))
          refine own_onJ (fun t_ k_ => XS.iload X52.here hx rfl (hb hby at_204) rfl k_) ?_
          show OwnGoJ p e below s _ _ _ (T52.setTop (mkF m 206 #[.val (.int xa), .val (.int xb), .val (.int fg), .val (.int c1), .val (.int c2), .val (.int ((100 : Int32) + ((xa &&& (2147483647 : Int32)) % (900 : Int32)))), .val (.int zq), .val (.int bb), .val (.ref r_3), .val (.ref r_6), .val (.ref b10), .val (.ref b21), .val (.int (1 : Int32)), .val (.int (1 : Int32)), .val (.int (1 : Int32)), .val (.int (1 : Int32)), .val (.int (0 : Int32)), .val (.int (0 : Int32)), .val (.int (0 : Int32))] [(.int (0 : Int32))]))
          refine own_onJ (fun t_ k_ => XS.ifNo X52.here hx rfl (hb hby at_206) rfl ((if0 _ _).trans (teq (by decide : (0 : Int32) = (0 : Int32))).2) k_) ?_
          show OwnGoJ p e below s _ _ _ (T52.setTop (mkF m 209 #[.val (.int xa), .val (.int xb), .val (.int fg), .val (.int c1), .val (.int c2), .val (.int ((100 : Int32) + ((xa &&& (2147483647 : Int32)) % (900 : Int32)))), .val (.int zq), .val (.int bb), .val (.ref r_3), .val (.ref r_6), .val (.ref b10), .val (.ref b21), .val (.int (1 : Int32)), .val (.int (1 : Int32)), .val (.int (1 : Int32)), .val (.int (1 : Int32)), .val (.int (0 : Int32)), .val (.int (0 : Int32)), .val (.int (0 : Int32))] []))
          refine own_onJ (fun t_ k_ => XS.iload X52.here hx rfl (hb hby at_209) rfl k_) ?_
          show OwnGoJ p e below s _ _ _ (T52.setTop (mkF m 211 #[.val (.int xa), .val (.int xb), .val (.int fg), .val (.int c1), .val (.int c2), .val (.int ((100 : Int32) + ((xa &&& (2147483647 : Int32)) % (900 : Int32)))), .val (.int zq), .val (.int bb), .val (.ref r_3), .val (.ref r_6), .val (.ref b10), .val (.ref b21), .val (.int (1 : Int32)), .val (.int (1 : Int32)), .val (.int (1 : Int32)), .val (.int (1 : Int32)), .val (.int (0 : Int32)), .val (.int (0 : Int32)), .val (.int (0 : Int32))] [(.int (0 : Int32))]))
          refine own_onJ (fun t_ k_ => XS.ifNo X52.here hx rfl (hb hby at_211) rfl ((if0 _ _).trans (teq (by decide : (0 : Int32) = (0 : Int32))).2) k_) ?_
          show OwnGoJ p e below s _ _ _ (T52.setTop (mkF m 214 #[.val (.int xa), .val (.int xb), .val (.int fg), .val (.int c1), .val (.int c2), .val (.int ((100 : Int32) + ((xa &&& (2147483647 : Int32)) % (900 : Int32)))), .val (.int zq), .val (.int bb), .val (.ref r_3), .val (.ref r_6), .val (.ref b10), .val (.ref b21), .val (.int (1 : Int32)), .val (.int (1 : Int32)), .val (.int (1 : Int32)), .val (.int (1 : Int32)), .val (.int (0 : Int32)), .val (.int (0 : Int32)), .val (.int (0 : Int32))] []))
          refine own_onJ (fun t_ k_ => XS.iconst X52.here hx rfl (hb hby at_214) k_) ?_
          show OwnGoJ p e below s _ _ _ (T52.setTop (mkF m 215 #[.val (.int xa), .val (.int xb), .val (.int fg), .val (.int c1), .val (.int c2), .val (.int ((100 : Int32) + ((xa &&& (2147483647 : Int32)) % (900 : Int32)))), .val (.int zq), .val (.int bb), .val (.ref r_3), .val (.ref r_6), .val (.ref b10), .val (.ref b21), .val (.int (1 : Int32)), .val (.int (1 : Int32)), .val (.int (1 : Int32)), .val (.int (1 : Int32)), .val (.int (0 : Int32)), .val (.int (0 : Int32)), .val (.int (0 : Int32))] [(.int (1 : Int32))]))
          refine own_onJ (fun t_ k_ => XS.goto X52.here hx rfl (pc0 := 215) (pc' := 219) rfl (hb hby at_215) (by decide) (by decide) k_) ?_
          show OwnGoJ p e below s _ _ _ (T52.setTop (mkF m 219 #[.val (.int xa), .val (.int xb), .val (.int fg), .val (.int c1), .val (.int c2), .val (.int ((100 : Int32) + ((xa &&& (2147483647 : Int32)) % (900 : Int32)))), .val (.int zq), .val (.int bb), .val (.ref r_3), .val (.ref r_6), .val (.ref b10), .val (.ref b21), .val (.int (1 : Int32)), .val (.int (1 : Int32)), .val (.int (1 : Int32)), .val (.int (1 : Int32)), .val (.int (0 : Int32)), .val (.int (0 : Int32)), .val (.int (0 : Int32))] [(.int (1 : Int32))]))
          have f53 : T36.heap.size ≤ T46.heap.size := Nat.le_trans hk36 K46q.1
          exact own_retNJ X52 hx hlk (t := .boolean) Bd.returns (by simp) (hb hby at_219) e52 ⟨rfl, N52, K46⟩ (by decide) (by decide) hS36 (Nat.le_trans f53 (Nat.le_of_eq (congrArg Array.size e52.symm)))
        · refine own_onJ (fun t_ k_ => XS.icmpYes X36.here hx rfl (pc0 := 114) (pc' := 121) rfl (hb hby at_114) rfl (feq qe).2 (by decide) (by decide) k_) ?_
          show OwnGoJ p e below s _ _ _ (T36.setTop (mkF m 121 #[.val (.int xa), .val (.int xb), .val (.int fg), .val (.int c1), .val (.int c2), .val (.int ((100 : Int32) + ((xa &&& (2147483647 : Int32)) % (900 : Int32)))), .val (.int zq), .val (.int bb), .val (.ref r_3), .val (.ref r_6), .val (.ref b10), .val (.ref b21), .unset, .unset, .unset, .unset, .unset, .unset, .unset] []))
          refine own_onJ (fun t_ k_ => XS.iconst X36.here hx rfl (hb hby at_121) k_) ?_
          show OwnGoJ p e below s _ _ _ (T36.setTop (mkF m 122 #[.val (.int xa), .val (.int xb), .val (.int fg), .val (.int c1), .val (.int c2), .val (.int ((100 : Int32) + ((xa &&& (2147483647 : Int32)) % (900 : Int32)))), .val (.int zq), .val (.int bb), .val (.ref r_3), .val (.ref r_6), .val (.ref b10), .val (.ref b21), .unset, .unset, .unset, .unset, .unset, .unset, .unset] [(.int (0 : Int32))]))
          refine own_onJ (fun t_ k_ => XS.istore X36.here hx rfl (hb hby at_122) rfl (l' := #[.val (.int xa), .val (.int xb), .val (.int fg), .val (.int c1), .val (.int c2), .val (.int ((100 : Int32) + ((xa &&& (2147483647 : Int32)) % (900 : Int32)))), .val (.int zq), .val (.int bb), .val (.ref r_3), .val (.ref r_6), .val (.ref b10), .val (.ref b21), .val (.int (0 : Int32)), .unset, .unset, .unset, .unset, .unset, .unset]) rfl k_) ?_
          show OwnGoJ p e below s _ _ _ (T36.setTop (mkF m 124 #[.val (.int xa), .val (.int xb), .val (.int fg), .val (.int c1), .val (.int c2), .val (.int ((100 : Int32) + ((xa &&& (2147483647 : Int32)) % (900 : Int32)))), .val (.int zq), .val (.int bb), .val (.ref r_3), .val (.ref r_6), .val (.ref b10), .val (.ref b21), .val (.int (0 : Int32)), .unset, .unset, .unset, .unset, .unset, .unset] []))
          refine own_onJ (fun t_ k_ => XS.aload X36.here hx rfl (hb hby at_124) rfl rfl k_) ?_
          show OwnGoJ p e below s _ _ _ (T36.setTop (mkF m 126 #[.val (.int xa), .val (.int xb), .val (.int fg), .val (.int c1), .val (.int c2), .val (.int ((100 : Int32) + ((xa &&& (2147483647 : Int32)) % (900 : Int32)))), .val (.int zq), .val (.int bb), .val (.ref r_3), .val (.ref r_6), .val (.ref b10), .val (.ref b21), .val (.int (0 : Int32)), .unset, .unset, .unset, .unset, .unset, .unset] [(.ref b10)]))
          refine own_onJ (fun t_ k_ => XS.aload X36.here hx rfl (hb hby at_126) rfl rfl k_) ?_
          show OwnGoJ p e below s _ _ _ (T36.setTop (mkF m 128 #[.val (.int xa), .val (.int xb), .val (.int fg), .val (.int c1), .val (.int c2), .val (.int ((100 : Int32) + ((xa &&& (2147483647 : Int32)) % (900 : Int32)))), .val (.int zq), .val (.int bb), .val (.ref r_3), .val (.ref r_6), .val (.ref b10), .val (.ref b21), .val (.int (0 : Int32)), .unset, .unset, .unset, .unset, .unset, .unset] [(.ref b21), (.ref b10)]))
          have f54 : Exa Z h21 b10 "io/loomwire/handler/codec/http/HttpResponseStatus" := c19_0.ext E21
          have f55 : Exa Z T36.heap b10 "io/loomwire/handler/codec/http/HttpResponseStatus" := f54.keep K36q
          have f56 : Fld Z h21 b10 "io/loomwire/handler/codec/http/HttpResponseStatus" "code" "I" (.int ((100 : Int32) + ((xa &&& (2147483647 : Int32)) % (900 : Int32)))) := c19_1.ext E21
          have f57 : Fld Z T36.heap b10 "io/loomwire/handler/codec/http/HttpResponseStatus" "code" "I" (.int ((100 : Int32) + ((xa &&& (2147483647 : Int32)) % (900 : Int32)))) := f56.keep K36q (ninS ne29 nin0)
          obtain ⟨cq58, kq58, q58a, q58b, q58c⟩ := isOf hZ rfl f55
          obtain ⟨_, _, ⟨T58, L58, k58, n58⟩, -, X58, ⟨Lc58, hQ58, l58, y58, z58⟩, st58⟩ := X36.virtualBack hx (y := (⟨"io/loomwire/handler/codec/http/HttpResponseStatus", "equals", "(Ljava/lang/Object;)Z"⟩ : MethodName)) (z := (⟨"io/loomwire/handler/codec/http/HttpResponseStatus", "equals", "(Ljava/lang/Object;)Z"⟩ : MethodName)) hown (mvT hZ (w93 hw)) (mvT hZ (w94 hw)) (notFace_of_selects (args := #[]) (mvT hZ (w96 hw))) (mvT hZ (w96 hw)) (mvT hZ (w95 hw)) (by decide) (backOf (W := 0) (rmeqM l Z a0 hw [] b10 b21 ((100 : Int32) + ((xa &&& (2147483647 : Int32)) % (900 : Int32))) bb T36.heap n0 Z36 f55 c36_0 f57 c36_1) hZ (w97 hw) (w43 hw) (by decide) (by decide)) q58a q58c (g := (mkF m 128 #[.val (.int xa), .val (.int xb), .val (.int fg), .val (.int c1), .val (.int c2), .val (.int ((100 : Int32) + ((xa &&& (2147483647 : Int32)) % (900 : Int32)))), .val (.int zq), .val (.int bb), .val (.ref r_3), .val (.ref r_6), .val (.ref b10), .val (.ref b21), .val (.int (0 : Int32)), .unset, .unset, .unset, .unset, .unset, .unset] [(.ref b21), (.ref b10)])) rfl (by rw [hml]; rfl) (Steps.refl _) (argsL := [(.ref b21)]) (rest := []) (lenOf pd_10 rfl) rfl (by show 2 * 0 + _ ≤ _; exact Nat.le_of_eq rfl) (hb hby at_128) (fun _ hWx => ⟨rfl, rfl, (by decide : 14 + 0 ≤ _), (by decide : 132 + 0 ≤ _)⟩)
          dsimp only [Pt.U, Pt.locs, Pt.cells, Pt.slots] at X58 l58 y58 z58 st58 hQ58
          replace X58 := own_num (c' := 14) (n' := 132) X58 l58 (y58.trans rfl) (z58.trans rfl)
          obtain ⟨rfl, N58q, e58⟩ := hQ58
          have N58 := Fr.app N36 N58q
          refine own_trJ st58 ?_
          show OwnGoJ p e below s _ _ _ (T58.setTop (mkF m 131 #[.val (.int xa), .val (.int xb), .val (.int fg), .val (.int c1), .val (.int c2), .val (.int ((100 : Int32) + ((xa &&& (2147483647 : Int32)) % (900 : Int32)))), .val (.int zq), .val (.int bb), .val (.ref r_3), .val (.ref r_6), .val (.ref b10), .val (.ref b21), .val (.int (0 : Int32)), .unset, .unset, .unset, .unset, .unset, .unset] [(.int (own_eqc ((100 : Int32) + ((xa &&& (2147483647 : Int32)) % (900 : Int32))) bb))]))
          rw [show (own_eqc ((100 : Int32) + ((xa &&& (2147483647 : Int32)) % (900 : Int32))) bb) = (0 : Int32) from (if_neg qe)]
          show OwnGoJ p e below s _ _ _ (T58.setTop (mkF m 131 #[.val (.int xa), .val (.int xb), .val (.int fg), .val (.int c1), .val (.int c2), .val (.int ((100 : Int32) + ((xa &&& (2147483647 : Int32)) % (900 : Int32)))), .val (.int zq), .val (.int bb), .val (.ref r_3), .val (.ref r_6), .val (.ref b10), .val (.ref b21), .val (.int (0 : Int32)), .unset, .unset, .unset, .unset, .unset, .unset] [(.int (0 : Int32))]))
          refine own_onJ (fun t_ k_ => XS.istore X58.here hx rfl (hb hby at_131) rfl (l' := #[.val (.int xa), .val (.int xb), .val (.int fg), .val (.int c1), .val (.int c2), .val (.int ((100 : Int32) + ((xa &&& (2147483647 : Int32)) % (900 : Int32)))), .val (.int zq), .val (.int bb), .val (.ref r_3), .val (.ref r_6), .val (.ref b10), .val (.ref b21), .val (.int (0 : Int32)), .val (.int (0 : Int32)), .unset, .unset, .unset, .unset, .unset]) rfl k_) ?_
          show OwnGoJ p e below s _ _ _ (T58.setTop (mkF m 133 #[.val (.int xa), .val (.int xb), .val (.int fg), .val (.int c1), .val (.int c2), .val (.int ((100 : Int32) + ((xa &&& (2147483647 : Int32)) % (900 : Int32)))), .val (.int zq), .val (.int bb), .val (.ref r_3), .val (.ref r_6), .val (.ref b10), .val (.ref b21), .val (.int (0 : Int32)), .val (.int (0 : Int32)), .unset, .unset, .unset, .unset, .unset] []))
          refine own_onJ (fun t_ k_ => XS.aload X58.here hx rfl (hb hby at_133) rfl rfl k_) ?_
          show OwnGoJ p e below s _ _ _ (T58.setTop (mkF m 135 #[.val (.int xa), .val (.int xb), .val (.int fg), .val (.int c1), .val (.int c2), .val (.int ((100 : Int32) + ((xa &&& (2147483647 : Int32)) % (900 : Int32)))), .val (.int zq), .val (.int bb), .val (.ref r_3), .val (.ref r_6), .val (.ref b10), .val (.ref b21), .val (.int (0 : Int32)), .val (.int (0 : Int32)), .unset, .unset, .unset, .unset, .unset] [(.ref b21)]))
          refine own_onJ (fun t_ k_ => XS.aload X58.here hx rfl (hb hby at_135) rfl rfl k_) ?_
          show OwnGoJ p e below s _ _ _ (T58.setTop (mkF m 137 #[.val (.int xa), .val (.int xb), .val (.int fg), .val (.int c1), .val (.int c2), .val (.int ((100 : Int32) + ((xa &&& (2147483647 : Int32)) % (900 : Int32)))), .val (.int zq), .val (.int bb), .val (.ref r_3), .val (.ref r_6), .val (.ref b10), .val (.ref b21), .val (.int (0 : Int32)), .val (.int (0 : Int32)), .unset, .unset, .unset, .unset, .unset] [(.ref b10), (.ref b21)]))
          obtain ⟨cq59, kq59, q59a, q59b, q59c⟩ := isOf hZ e58 c36_0
          obtain ⟨_, _, ⟨T59, L59, k59, n59⟩, -, X59, ⟨Lc59, hQ59, l59, y59, z59⟩, st59⟩ := X58.virtualBack hx (y := (⟨"io/loomwire/handler/codec/http/HttpResponseStatus", "equals", "(Ljava/lang/Object;)Z"⟩ : MethodName)) (z := (⟨"io/loomwire/handler/codec/http/HttpResponseStatus", "equals", "(Ljava/lang/Object;)Z"⟩ : MethodName)) hown (mvT hZ (w93 hw)) (mvT hZ (w94 hw)) (notFace_of_selects (args := #[]) (mvT hZ (w96 hw))) (mvT hZ (w96 hw)) (mvT hZ (w95 hw)) (by decide) (backOf (W := 0) (rmeqM l Z a0 hw [] b21 b10 bb ((100 : Int32) + ((xa &&& (2147483647 : Int32)) % (900 : Int32))) T36.heap n0 Z36 c36_0 f55 c36_1 f57) hZ (w97 hw) (w43 hw) (by decide) (by decide)) q59a q59c (g := (mkF m 137 #[.val (.int xa), .val (.int xb), .val (.int fg), .val (.int c1), .val (.int c2), .val (.int ((100 : Int32) + ((xa &&& (2147483647 : Int32)) % (900 : Int32)))), .val (.int zq), .val (.int bb), .val (.ref r_3), .val (.ref r_6), .val (.ref b10), .val (.ref b21), .val (.int (0 : Int32)), .val (.int (0 : Int32)), .unset, .unset, .unset, .unset, .unset] [(.ref b10), (.ref b21)])) rfl (by rw [hml]; rfl) (Steps.refl _) (argsL := [(.ref b10)]) (rest := []) (lenOf pd_10 rfl) rfl (by show 2 * 0 + _ ≤ _; exact Nat.le_of_eq rfl) (hb hby at_137) (fun _ hWx => ⟨rfl, e58, (by decide : 14 + 0 ≤ _), (by decide : 132 + 0 ≤ _)⟩)
          dsimp only [Pt.U, Pt.locs, Pt.cells, Pt.slots] at X59 l59 y59 z59 st59 hQ59
          replace X59 := own_num (c' := 14) (n' := 132) X59 l59 (y59.trans rfl) (z59.trans rfl)
          obtain ⟨rfl, N59q, e59⟩ := hQ59
          have N59 := Fr.app N58 N59q
          refine own_trJ st59 ?_
          show OwnGoJ p e below s _ _ _ (T59.setTop (mkF m 140 #[.val (.int xa), .val (.int xb), .val (.int fg), .val (.int c1), .val (.int c2), .val (.int ((100 : Int32) + ((xa &&& (2147483647 : Int32)) % (900 : Int32)))), .val (.int zq), .val (.int bb), .val (.ref r_3), .val (.ref r_6), .val (.ref b10), .val (.ref b21), .val (.int (0 : Int32)), .val (.int (0 : Int32)), .unset, .unset, .unset, .unset, .unset] [(.int (own_eqc bb ((100 : Int32) + ((xa &&& (2147483647 : Int32)) % (900 : Int32)))))]))
          rw [show (own_eqc bb ((100 : Int32) + ((xa &&& (2147483647 : Int32)) % (900 : Int32)))) = (0 : Int32) from (if_neg (Ne.symm qe))]
          show OwnGoJ p e below s _ _ _ (T59.setTop (mkF m 140 #[.val (.int xa), .val (.int xb), .val (.int fg), .val (.int c1), .val (.int c2), .val (.int ((100 : Int32) + ((xa &&& (2147483647 : Int32)) % (900 : Int32)))), .val (.int zq), .val (.int bb), .val (.ref r_3), .val (.ref r_6), .val (.ref b10), .val (.ref b21), .val (.int (0 : Int32)), .val (.int (0 : Int32)), .unset, .unset, .unset, .unset, .unset] [(.int (0 : Int32))]))
          refine own_onJ (fun t_ k_ => XS.istore X59.here hx rfl (hb hby at_140) rfl (l' := #[.val (.int xa), .val (.int xb), .val (.int fg), .val (.int c1), .val (.int c2), .val (.int ((100 : Int32) + ((xa &&& (2147483647 : Int32)) % (900 : Int32)))), .val (.int zq), .val (.int bb), .val (.ref r_3), .val (.ref r_6), .val (.ref b10), .val (.ref b21), .val (.int (0 : Int32)), .val (.int (0 : Int32)), .val (.int (0 : Int32)), .unset, .unset, .unset, .unset]) rfl k_) ?_
          show OwnGoJ p e below s _ _ _ (T59.setTop (mkF m 142 #[.val (.int xa), .val (.int xb), .val (.int fg), .val (.int c1), .val (.int c2), .val (.int ((100 : Int32) + ((xa &&& (2147483647 : Int32)) % (900 : Int32)))), .val (.int zq), .val (.int bb), .val (.ref r_3), .val (.ref r_6), .val (.ref b10), .val (.ref b21), .val (.int (0 : Int32)), .val (.int (0 : Int32)), .val (.int (0 : Int32)), .unset, .unset, .unset, .unset] []))
          refine own_onJ (fun t_ k_ => XS.aload X59.here hx rfl (hb hby at_142) rfl rfl k_) ?_
          show OwnGoJ p e below s _ _ _ (T59.setTop (mkF m 144 #[.val (.int xa), .val (.int xb), .val (.int fg), .val (.int c1), .val (.int c2), .val (.int ((100 : Int32) + ((xa &&& (2147483647 : Int32)) % (900 : Int32)))), .val (.int zq), .val (.int bb), .val (.ref r_3), .val (.ref r_6), .val (.ref b10), .val (.ref b21), .val (.int (0 : Int32)), .val (.int (0 : Int32)), .val (.int (0 : Int32)), .unset, .unset, .unset, .unset] [(.ref b10)]))
          refine own_onJ (fun t_ k_ => XS.aload X59.here hx rfl (hb hby at_144) rfl rfl k_) ?_
          show OwnGoJ p e below s _ _ _ (T59.setTop (mkF m 146 #[.val (.int xa), .val (.int xb), .val (.int fg), .val (.int c1), .val (.int c2), .val (.int ((100 : Int32) + ((xa &&& (2147483647 : Int32)) % (900 : Int32)))), .val (.int zq), .val (.int bb), .val (.ref r_3), .val (.ref r_6), .val (.ref b10), .val (.ref b21), .val (.int (0 : Int32)), .val (.int (0 : Int32)), .val (.int (0 : Int32)), .unset, .unset, .unset, .unset] [(.ref b10), (.ref b10)]))
          obtain ⟨cq60, kq60, q60a, q60b, q60c⟩ := isOf hZ e59 f55
          obtain ⟨_, _, ⟨T60, L60, k60, n60⟩, -, X60, ⟨Lc60, hQ60, l60, y60, z60⟩, st60⟩ := X59.virtualBack hx (y := (⟨"io/loomwire/handler/codec/http/HttpResponseStatus", "equals", "(Ljava/lang/Object;)Z"⟩ : MethodName)) (z := (⟨"io/loomwire/handler/codec/http/HttpResponseStatus", "equals", "(Ljava/lang/Object;)Z"⟩ : MethodName)) hown (mvT hZ (w93 hw)) (mvT hZ (w94 hw)) (notFace_of_selects (args := #[]) (mvT hZ (w96 hw))) (mvT hZ (w96 hw)) (mvT hZ (w95 hw)) (by decide) (backOf (W := 0) (rmeqM l Z a0 hw [] b10 b10 ((100 : Int32) + ((xa &&& (2147483647 : Int32)) % (900 : Int32))) ((100 : Int32) + ((xa &&& (2147483647 : Int32)) % (900 : Int32))) T36.heap n0 Z36 f55 f55 f57 f57) hZ (w97 hw) (w43 hw) (by decide) (by decide)) q60a q60c (g := (mkF m 146 #[.val (.int xa), .val (.int xb), .val (.int fg), .val (.int c1), .val (.int c2), .val (.int ((100 : Int32) + ((xa &&& (2147483647 : Int32)) % (900 : Int32)))), .val (.int zq), .val (.int bb), .val (.ref r_3), .val (.ref r_6), .val (.ref b10), .val (.ref b21), .val (.int (0 : Int32)), .val (.int (0 : Int32)), .val (.int (0 : Int32)), .unset, .unset, .unset, .unset] [(.ref b10), (.ref b10)])) rfl (by rw [hml]; rfl) (Steps.refl _) (argsL := [(.ref b10)]) (rest := []) (lenOf pd_10 rfl) rfl (by show 2 * 0 + _ ≤ _; exact Nat.le_of_eq rfl) (hb hby at_146) (fun _ hWx => ⟨rfl, e59, (by decide : 14 + 0 ≤ _), (by decide : 132 + 0 ≤ _)⟩)
          dsimp only [Pt.U, Pt.locs, Pt.cells, Pt.slots] at X60 l60 y60 z60 st60 hQ60
          replace X60 := own_num (c' := 14) (n' := 132) X60 l60 (y60.trans rfl) (z60.trans rfl)
          obtain ⟨rfl, N60q, e60⟩ := hQ60
          have N60 := Fr.app N59 N60q
          refine own_trJ st60 ?_
          show OwnGoJ p e below s _ _ _ (T60.setTop (mkF m 149 #[.val (.int xa), .val (.int xb), .val (.int fg), .val (.int c1), .val (.int c2), .val (.int ((100 : Int32) + ((xa &&& (2147483647 : Int32)) % (900 : Int32)))), .val (.int zq), .val (.int bb), .val (.ref r_3), .val (.ref r_6), .val (.ref b10), .val (.ref b21), .val (.int (0 : Int32)), .val (.int (0 : Int32)), .val (.int (0 : Int32)), .unset, .unset, .unset, .unset] [(.int (own_eqc ((100 : Int32) + ((xa &&& (2147483647 : Int32)) % (900 : Int32))) ((100 : Int32) + ((xa &&& (2147483647 : Int32)) % (900 : Int32)))))]))
          rw [show (own_eqc ((100 : Int32) + ((xa &&& (2147483647 : Int32)) % (900 : Int32))) ((100 : Int32) + ((xa &&& (2147483647 : Int32)) % (900 : Int32)))) = (1 : Int32) from (if_pos rfl)]
          show OwnGoJ p e below s _ _ _ (T60.setTop (mkF m 149 #[.val (.int xa), .val (.int xb), .val (.int fg), .val (.int c1), .val (.int c2), .val (.int ((100 : Int32) + ((xa &&& (2147483647 : Int32)) % (900 : Int32)))), .val (.int zq), .val (.int bb), .val (.ref r_3), .val (.ref r_6), .val (.ref b10), .val (.ref b21), .val (.int (0 : Int32)), .val (.int (0 : Int32)), .val (.int (0 : Int32)), .unset, .unset, .unset, .unset] [(.int (1 : Int32))]))
          refine own_onJ (fun t_ k_ => XS.istore X60.here hx rfl (hb hby at_149) rfl (l' := #[.val (.int xa), .val (.int xb), .val (.int fg), .val (.int c1), .val (.int c2), .val (.int ((100 : Int32) + ((xa &&& (2147483647 : Int32)) % (900 : Int32)))), .val (.int zq), .val (.int bb), .val (.ref r_3), .val (.ref r_6), .val (.ref b10), .val (.ref b21), .val (.int (0 : Int32)), .val (.int (0 : Int32)), .val (.int (0 : Int32)), .val (.int (1 : Int32)), .unset, .unset, .unset]) rfl k_) ?_
          show OwnGoJ p e below s _ _ _ (T60.setTop (mkF m 151 #[.val (.int xa), .val (.int xb), .val (.int fg), .val (.int c1), .val (.int c2), .val (.int ((100 : Int32) + ((xa &&& (2147483647 : Int32)) % (900 : Int32)))), .val (.int zq), .val (.int bb), .val (.ref r_3), .val (.ref r_6), .val (.ref b10), .val (.ref b21), .val (.int (0 : Int32)), .val (.int (0 : Int32)), .val (.int (0 : Int32)), .val (.int (1 : Int32)), .unset, .unset, .unset] []))
          refine own_onJ (fun t_ k_ => XS.aload X60.here hx rfl (hb hby at_151) rfl rfl k_) ?_
          show OwnGoJ p e below s _ _ _ (T60.setTop (mkF m 153 #[.val (.int xa), .val (.int xb), .val (.int fg), .val (.int c1), .val (.int c2), .val (.int ((100 : Int32) + ((xa &&& (2147483647 : Int32)) % (900 : Int32)))), .val (.int zq), .val (.int bb), .val (.ref r_3), .val (.ref r_6), .val (.ref b10), .val (.ref b21), .val (.int (0 : Int32)), .val (.int (0 : Int32)), .val (.int (0 : Int32)), .val (.int (1 : Int32)), .unset, .unset, .unset] [(.ref b10)]))
          refine own_onJ (fun t_ k_ => XS.aconstNull X60.here hx rfl (hb hby at_153) k_) ?_
          show OwnGoJ p e below s _ _ _ (T60.setTop (mkF m 154 #[.val (.int xa), .val (.int xb), .val (.int fg), .val (.int c1), .val (.int c2), .val (.int ((100 : Int32) + ((xa &&& (2147483647 : Int32)) % (900 : Int32)))), .val (.int zq), .val (.int bb), .val (.ref r_3), .val (.ref r_6), .val (.ref b10), .val (.ref b21), .val (.int (0 : Int32)), .val (.int (0 : Int32)), .val (.int (0 : Int32)), .val (.int (1 : Int32)), .unset, .unset, .unset] [.null, (.ref b10)]))
          obtain ⟨cq61, kq61, q61a, q61b, q61c⟩ := isOf hZ e60 f55
          obtain ⟨_, _, ⟨T61, L61, k61, n61⟩, -, X61, ⟨Lc61, hQ61, l61, y61, z61⟩, st61⟩ := X60.virtualBack hx (y := (⟨"io/loomwire/handler/codec/http/HttpResponseStatus", "equals", "(Ljava/lang/Object;)Z"⟩ : MethodName)) (z := (⟨"io/loomwire/handler/codec/http/HttpResponseStatus", "equals", "(Ljava/lang/Object;)Z"⟩ : MethodName)) hown (mvT hZ (w93 hw)) (mvT hZ (w94 hw)) (notFace_of_selects (args := #[]) (mvT hZ (w96 hw))) (mvT hZ (w96 hw)) (mvT hZ (w95 hw)) (by decide) (backOf (W := 0) (rmeqN l Z a0 hw [] b10 T36.heap n0 Z36 f55) hZ (w97 hw) (w43 hw) (by decide) (by decide)) q61a q61c (g := (mkF m 154 #[.val (.int xa), .val (.int xb), .val (.int fg), .val (.int c1), .val (.int c2), .val (.int ((100 : Int32) + ((xa &&& (2147483647 : Int32)) % (900 : Int32)))), .val (.int zq), .val (.int bb), .val (.ref r_3), .val (.ref r_6), .val (.ref b10), .val (.ref b21), .val (.int (0 : Int32)), .val (.int (0 : Int32)), .val (.int (0 : Int32)), .val (.int (1 : Int32)), .unset, .unset, .unset] [.null, (.ref b10)])) rfl (by rw [hml]; rfl) (Steps.refl _) (argsL := [.null]) (rest := []) (lenOf pd_10 rfl) rfl (by show 2 * 0 + _ ≤ _; exact Nat.le_of_eq rfl) (hb hby at_154) (fun _ hWx => ⟨rfl, e60, (by decide : 14 + 0 ≤ _), (by decide : 132 + 0 ≤ _)⟩)
          dsimp only [Pt.U, Pt.locs, Pt.cells, Pt.slots] at X61 l61 y61 z61 st61 hQ61
          replace X61 := own_num (c' := 14) (n' := 132) X61 l61 (y61.trans rfl) (z61.trans rfl)
          obtain ⟨rfl, N61q, e61⟩ := hQ61
          have N61 := Fr.app N60 N61q
          refine own_trJ st61 ?_
          show OwnGoJ p e below s _ _ _ (T61.setTop (mkF m 157 #[.val (.int xa), .val (.int xb), .val (.int fg), .val (.int c1), .val (.int c2), .val (.int ((100 : Int32) + ((xa &&& (2147483647 : Int32)) % (900 : Int32)))), .val (.int zq), .val (.int bb), .val (.ref r_3), .val (.ref r_6), .val (.ref b10), .val (.ref b21), .val (.int (0 : Int32)), .val (.int (0 : Int32)), .val (.int (0 : Int32)), .val (.int (1 : Int32)), .unset, .unset, .unset] [(.int (0 : Int32))]))
          refine own_onJ (fun t_ k_ => XS.istore X61.here hx rfl (hb hby at_157) rfl (l' := #[.val (.int xa), .val (.int xb), .val (.int fg), .val (.int c1), .val (.int c2), .val (.int ((100 : Int32) + ((xa &&& (2147483647 : Int32)) % (900 : Int32)))), .val (.int zq), .val (.int bb), .val (.ref r_3), .val (.ref r_6), .val (.ref b10), .val (.ref b21), .val (.int (0 : Int32)), .val (.int (0 : Int32)), .val (.int (0 : Int32)), .val (.int (1 : Int32)), .val (.int (0 : Int32)), .unset, .unset]) rfl k_) ?_
          show OwnGoJ p e below s _ _ _ (T61.setTop (mkF m 159 #[.val (.int xa), .val (.int xb), .val (.int fg), .val (.int c1), .val (.int c2), .val (.int ((100 : Int32) + ((xa &&& (2147483647 : Int32)) % (900 : Int32)))), .val (.int zq), .val (.int bb), .val (.ref r_3), .val (.ref r_6), .val (.ref b10), .val (.ref b21), .val (.int (0 : Int32)), .val (.int (0 : Int32)), .val (.int (0 : Int32)), .val (.int (1 : Int32)), .val (.int (0 : Int32)), .unset, .unset] []))
          refine own_onJ (fun t_ k_ => XS.aload X61.here hx rfl (hb hby at_159) rfl rfl k_) ?_
          show OwnGoJ p e below s _ _ _ (T61.setTop (mkF m 161 #[.val (.int xa), .val (.int xb), .val (.int fg), .val (.int c1), .val (.int c2), .val (.int ((100 : Int32) + ((xa &&& (2147483647 : Int32)) % (900 : Int32)))), .val (.int zq), .val (.int bb), .val (.ref r_3), .val (.ref r_6), .val (.ref b10), .val (.ref b21), .val (.int (0 : Int32)), .val (.int (0 : Int32)), .val (.int (0 : Int32)), .val (.int (1 : Int32)), .val (.int (0 : Int32)), .unset, .unset] [(.ref b10)]))
          refine own_onJ (fun t_ k_ => XS.iload X61.here hx rfl (hb hby at_161) rfl k_) ?_
          show OwnGoJ p e below s _ _ _ (T61.setTop (mkF m 163 #[.val (.int xa), .val (.int xb), .val (.int fg), .val (.int c1), .val (.int c2), .val (.int ((100 : Int32) + ((xa &&& (2147483647 : Int32)) % (900 : Int32)))), .val (.int zq), .val (.int bb), .val (.ref r_3), .val (.ref r_6), .val (.ref b10), .val (.ref b21), .val (.int (0 : Int32)), .val (.int (0 : Int32)), .val (.int (0 : Int32)), .val (.int (1 : Int32)), .val (.int (0 : Int32)), .unset, .unset] [(.int ((100 : Int32) + ((xa &&& (2147483647 : Int32)) % (900 : Int32)))), (.ref b10)]))
          obtain ⟨_, _, ⟨T62, L62, k62, n62⟩, -, X62, ⟨Lc62, hQ62, l62, y62, z62⟩, st62⟩ := Jvm.LawKit.callS X61 hx (y := (⟨"java/lang/Integer", "valueOf", "(I)Ljava/lang/Integer;"⟩ : MethodName)) hown (mvT hZ (w100 hw)) (mvT hZ (w101 hw)) (mvT hZ (w102 hw)) (mvT hZ (w103 hw)) (by decide) (backOf (W := 1) (rm20 l Z a0 hw [] ((100 : Int32) + ((xa &&& (2147483647 : Int32)) % (900 : Int32))) ca T36.heap n0 Z36 c36_2 P5 P6 P7) hZ (w103 hw) (w102 hw) (by decide) (by decide)) (g := (mkF m 163 #[.val (.int xa), .val (.int xb), .val (.int fg), .val (.int c1), .val (.int c2), .val (.int ((100 : Int32) + ((xa &&& (2147483647 : Int32)) % (900 : Int32)))), .val (.int zq), .val (.int bb), .val (.ref r_3), .val (.ref r_6), .val (.ref b10), .val (.ref b21), .val (.int (0 : Int32)), .val (.int (0 : Int32)), .val (.int (0 : Int32)), .val (.int (1 : Int32)), .val (.int (0 : Int32)), .unset, .unset] [(.int ((100 : Int32) + ((xa &&& (2147483647 : Int32)) % (900 : Int32)))), (.ref b10)])) rfl (by rw [hml]; rfl) (argsL := [(.int ((100 : Int32) + ((xa &&& (2147483647 : Int32)) % (900 : Int32))))]) (rest := [(.ref b10)]) (lenOf pd_11 rfl) rfl (by show 2 * 0 + _ ≤ _; exact Nat.le_of_eq rfl) (hb hby at_163) (fun _ hWx => ⟨rfl, e61, (by decide : 14 + 1 ≤ _), (by decide : 132 + 1 ≤ _)⟩)
          dsimp only [Pt.U, Pt.locs, Pt.cells, Pt.slots] at X62 l62 y62 z62 st62 hQ62
          replace X62 := own_num (c' := 15) (n' := 133) X62 l62 (y62.trans rfl) (z62.trans rfl)
          obtain ⟨r_62, rfl, N62q, K62q, c62_0, c62_1⟩ := hQ62
          have N62 := Fr.app N61 N62q
          have Z62 : n0 ≤ T62.heap.size := Nat.le_trans Z36 K62q.1
          have K62 : Keep h0 T62.heap [] := K36.trans K62q all0
          refine own_onJ st62 ?_
          show OwnGoJ p e below s _ _ _ (T62.setTop (mkF m 166 #[.val (.int xa), .val (.int xb), .val (.int fg), .val (.int c1), .val (.int c2), .val (.int ((100 : Int32) + ((xa &&& (2147483647 : Int32)) % (900 : Int32)))), .val (.int zq), .val (.int bb), .val (.ref r_3), .val (.ref r_6), .val (.ref b10), .val (.ref b21), .val (.int (0 : Int32)), .val (.int (0 : Int32)), .val (.int (0 : Int32)), .val (.int (1 : Int32)), .val (.int (0 : Int32)), .unset, .unset] [(.ref r_62), (.ref b10)]))
          have f63 : Exa Z T62.heap b10 "io/loomwire/handler/codec/http/HttpResponseStatus" := f55.keep K62q
          obtain ⟨cq64, kq64, q64a, q64b, q64c⟩ := isOf hZ rfl f63
          obtain ⟨_, _, ⟨T64, L64, k64, n64⟩, -, X64, ⟨Lc64, hQ64, l64, y64, z64⟩, st64⟩ := X62.virtualBack hx (y := (⟨"io/loomwire/handler/codec/http/HttpResponseStatus", "equals", "(Ljava/lang/Object;)Z"⟩ : MethodName)) (z := (⟨"io/loomwire/handler/codec/http/HttpResponseStatus", "equals", "(Ljava/lang/Object;)Z"⟩ : MethodName)) hown (mvT hZ (w93 hw)) (mvT hZ (w94 hw)) (notFace_of_selects (args := #[]) (mvT hZ (w96 hw))) (mvT hZ (w96 hw)) (mvT hZ (w95 hw)) (by decide) (backOf (W := 0) (rmeqI l Z a0 hw [] b10 r_62 T62.heap n0 Z62 f63 c62_0) hZ (w97 hw) (w43 hw) (by decide) (by decide)) q64a q64c (g := (mkF m 166 #[.val (.int xa), .val (.int xb), .val (.int fg), .val (.int c1), .val (.int c2), .val (.int ((100 : Int32) + ((xa &&& (2147483647 : Int32)) % (900 : Int32)))), .val (.int zq), .val (.int bb), .val (.ref r_3), .val (.ref r_6), .val (.ref b10), .val (.ref b21), .val (.int (0 : Int32)), .val (.int (0 : Int32)), .val (.int (0 : Int32)), .val (.int (1 : Int32)), .val (.int (0 : Int32)), .unset, .unset] [(.ref r_62), (.ref b10)])) rfl (by rw [hml]; rfl) (Steps.refl _) (argsL := [(.ref r_62)]) (rest := []) (lenOf pd_10 rfl) rfl (by show 2 * 0 + _ ≤ _; exact Nat.le_of_eq rfl) (hb hby at_166) (fun _ hWx => ⟨rfl, rfl, (by decide : 15 + 0 ≤ _), (by decide : 133 + 0 ≤ _)⟩)
          dsimp only [Pt.U, Pt.locs, Pt.cells, Pt.slots] at X64 l64 y64 z64 st64 hQ64
          replace X64 := own_num (c' := 15) (n' := 133) X64 l64 (y64.trans rfl) (z64.trans rfl)
          obtain ⟨rfl, N64q, e64⟩ := hQ64
          have N64 := Fr.app N62 N64q
          refine own_trJ st64 ?_
          show OwnGoJ p e below s _ _ _ (T64.setTop (mkF m 169 #[.val (.int xa), .val (.int xb), .val (.int fg), .val (.int c1), .val (.int c2), .val (.int ((100 : Int32) + ((xa &&& (2147483647 : Int32)) % (900 : Int32)))), .val (.int zq), .val (.int bb), .val (.ref r_3), .val (.ref r_6), .val (.ref b10), .val (.ref b21), .val (.int (0 : Int32)), .val (.int (0 : Int32)), .val (.int (0 : Int32)), .val (.int (1 : Int32)), .val (.int (0 : Int32)), .unset, .unset] [(.int (0 : Int32))]))
          refine own_onJ (fun t_ k_ => XS.istore X64.here hx rfl (hb hby at_169) rfl (l' := #[.val (.int xa), .val (.int xb), .val (.int fg), .val (.int c1), .val (.int c2), .val (.int ((100 : Int32) + ((xa &&& (2147483647 : Int32)) % (900 : Int32)))), .val (.int zq), .val (.int bb), .val (.ref r_3), .val (.ref r_6), .val (.ref b10), .val (.ref b21), .val (.int (0 : Int32)), .val (.int (0 : Int32)), .val (.int (0 : Int32)), .val (.int (1 : Int32)), .val (.int (0 : Int32)), .val (.int (0 : Int32)), .unset]) rfl k_) ?_
          show OwnGoJ p e below s _ _ _ (T64.setTop (mkF m 171 #[.val (.int xa), .val (.int xb), .val (.int fg), .val (.int c1), .val (.int c2), .val (.int ((100 : Int32) + ((xa &&& (2147483647 : Int32)) % (900 : Int32)))), .val (.int zq), .val (.int bb), .val (.ref r_3), .val (.ref r_6), .val (.ref b10), .val (.ref b21), .val (.int (0 : Int32)), .val (.int (0 : Int32)), .val (.int (0 : Int32)), .val (.int (1 : Int32)), .val (.int (0 : Int32)), .val (.int (0 : Int32)), .unset] []))
          refine own_onJ (fun t_ k_ => XS.aload X64.here hx rfl (hb hby at_171) rfl rfl k_) ?_
          show OwnGoJ p e below s _ _ _ (T64.setTop (mkF m 173 #[.val (.int xa), .val (.int xb), .val (.int fg), .val (.int c1), .val (.int c2), .val (.int ((100 : Int32) + ((xa &&& (2147483647 : Int32)) % (900 : Int32)))), .val (.int zq), .val (.int bb), .val (.ref r_3), .val (.ref r_6), .val (.ref b10), .val (.ref b21), .val (.int (0 : Int32)), .val (.int (0 : Int32)), .val (.int (0 : Int32)), .val (.int (1 : Int32)), .val (.int (0 : Int32)), .val (.int (0 : Int32)), .unset] [(.ref b10)]))
          refine own_onJ (fun t_ k_ => XS.aload X64.here hx rfl (hb hby at_173) rfl rfl k_) ?_
          show OwnGoJ p e below s _ _ _ (T64.setTop (mkF m 175 #[.val (.int xa), .val (.int xb), .val (.int fg), .val (.int c1), .val (.int c2), .val (.int ((100 : Int32) + ((xa &&& (2147483647 : Int32)) % (900 : Int32)))), .val (.int zq), .val (.int bb), .val (.ref r_3), .val (.ref r_6), .val (.ref b10), .val (.ref b21), .val (.int (0 : Int32)), .val (.int (0 : Int32)), .val (.int (0 : Int32)), .val (.int (1 : Int32)), .val (.int (0 : Int32)), .val (.int (0 : Int32)), .unset] [(.ref r_3), (.ref b10)]))
          have f65 : Exa Z h21 r_3 "java/lang/String" := f23.ext E21
          have f66 : Exa Z T36.heap r_3 "java/lang/String" := f65.keep K36q
          have f67 : Exa Z T62.heap r_3 "java/lang/String" := f66.keep K62q
          obtain ⟨cq68, kq68, q68a, q68b, q68c⟩ := isOf hZ e64 f63
          obtain ⟨_, _, ⟨T68, L68, k68, n68⟩, -, X68, ⟨Lc68, hQ68, l68, y68, z68⟩, st68⟩ := X64.virtualBack hx (y := (⟨"io/loomwire/handler/codec/http/HttpResponseStatus", "equals", "(Ljava/lang/Object;)Z"⟩ : MethodName)) (z := (⟨"io/loomwire/handler/codec/http/HttpResponseStatus", "equals", "(Ljava/lang/Object;)Z"⟩ : MethodName)) hown (mvT hZ (w93 hw)) (mvT hZ (w94 hw)) (notFace_of_selects (args := #[]) (mvT hZ (w96 hw))) (mvT hZ (w96 hw)) (mvT hZ (w95 hw)) (by decide) (backOf (W := 0) (rmeqS l Z a0 hw [] b10 r_3 T62.heap n0 Z62 f63 f67) hZ (w97 hw) (w43 hw) (by decide) (by decide)) q68a q68c (g := (mkF m 175 #[.val (.int xa), .val (.int xb), .val (.int fg), .val (.int c1), .val (.int c2), .val (.int ((100 : Int32) + ((xa &&& (2147483647 : Int32)) % (900 : Int32)))), .val (.int zq), .val (.int bb), .val (.ref r_3), .val (.ref r_6), .val (.ref b10), .val (.ref b21), .val (.int (0 : Int32)), .val (.int (0 : Int32)), .val (.int (0 : Int32)), .val (.int (1 : Int32)), .val (.int (0 : Int32)), .val (.int (0 : Int32)), .unset] [(.ref r_3), (.ref b10)])) rfl (by rw [hml]; rfl) (Steps.refl _) (argsL := [(.ref r_3)]) (rest := []) (lenOf pd_10 rfl) rfl (by show 2 * 0 + _ ≤ _; exact Nat.le_of_eq rfl) (hb hby at_175) (fun _ hWx => ⟨rfl, e64, (by decide : 15 + 0 ≤ _), (by decide : 133 + 0 ≤ _)⟩)
          dsimp only [Pt.U, Pt.locs, Pt.cells, Pt.slots] at X68 l68 y68 z68 st68 hQ68
          replace X68 := own_num (c' := 15) (n' := 133) X68 l68 (y68.trans rfl) (z68.trans rfl)
          obtain ⟨rfl, N68q, e68⟩ := hQ68
          have N68 := Fr.app N64 N68q
          refine own_trJ st68 ?_
          show OwnGoJ p e below s _ _ _ (T68.setTop (mkF m 178 #[.val (.int xa), .val (.int xb), .val (.int fg), .val (.int c1), .val (.int c2), .val (.int ((100 : Int32) + ((xa &&& (2147483647 : Int32)) % (900 : Int32)))), .val (.int zq), .val (.int bb), .val (.ref r_3), .val (.ref r_6), .val (.ref b10), .val (.ref b21), .val (.int (0 : Int32)), .val (.int (0 : Int32)), .val (.int (0 : Int32)), .val (.int (1 : Int32)), .val (.int (0 : Int32)), .val (.int (0 : Int32)), .unset] [(.int (0 : Int32))]))
          refine own_onJ (fun t_ k_ => XS.istore X68.here hx rfl (hb hby at_178) rfl (l' := #[.val (.int xa), .val (.int xb), .val (.int fg), .val (.int c1), .val (.int c2), .val (.int ((100 : Int32) + ((xa &&& (2147483647 : Int32)) % (900 : Int32)))), .val (.int zq), .val (.int bb), .val (.ref r_3), .val (.ref r_6), .val (.ref b10), .val (.ref b21), .val (.int (0 : Int32)), .val (.int (0 : Int32)), .val (.int (0 : Int32)), .val (.int (1 : Int32)), .val (.int (0 : Int32)), .val (.int (0 : Int32)), .val (.int (0 : Int32))]) rfl k_) ?_
          show OwnGoJ p e below s _ _ _ (T68.setTop (mkF m 180 #[.val (.int xa), .val (.int xb), .val (.int fg), .val (.int c1), .val (.int c2), .val (.int ((100 : Int32) + ((xa &&& (2147483647 : Int32)) % (900 : Int32)))), .val (.int zq), .val (.int bb), .val (.ref r_3), .val (.ref r_6), .val (.ref b10), .val (.ref b21), .val (.int (0 : Int32)), .val (.int (0 : Int32)), .val (.int (0 : Int32)), .val (.int (1 : Int32)), .val (.int (0 : Int32)), .val (.int (0 : Int32)), .val (.int (0 : Int32))] []))
          refine own_onJ (fun t_ k_ => XS.iload X68.here hx rfl (hb hby at_180) rfl k_) ?_
          show OwnGoJ p e below s _ _ _ (T68.setTop (mkF m 182 #[.val (.int xa), .val (.int xb), .val (.int fg), .val (.int c1), .val (.int c2), .val (.int ((100 : Int32) + ((xa &&& (2147483647 : Int32)) % (900 : Int32)))), .val (.int zq), .val (.int bb), .val (.ref r_3), .val (.ref r_6), .val (.ref b10), .val (.ref b21), .val (.int (0 : Int32)), .val (.int (0 : Int32)), .val (.int (0 : Int32)), .val (.int (1 : Int32)), .val (.int (0 : Int32)), .val (.int (0 : Int32)), .val (.int (0 : Int32))] [(.int (0 : Int32))]))
          refine own_onJ (fun t_ k_ => XS.iload X68.here hx rfl (hb hby at_182) rfl k_) ?_
          show OwnGoJ p e below s _ _ _ (T68.setTop (mkF m 184 #[.val (.int xa), .val (.int xb), .val (.int fg), .val (.int c1), .val (.int c2), .val (.int ((100 : Int32) + ((xa &&& (2147483647 : Int32)) % (900 : Int32)))), .val (.int zq), .val (.int bb), .val (.ref r_3), .val (.ref r_6), .val (.ref b10), .val (.ref b21), .val (.int (0 : Int32)), .val (.int (0 : Int32)), .val (.int (0 : Int32)), .val (.int (1 : Int32)), .val (.int (0 : Int32)), .val (.int (0 : Int32)), .val (.int (0 : Int32))] [(.int (0 : Int32)), (.int (0 : Int32))]))
          refine own_onJ (fun t_ k_ => XS.icmpNo X68.here hx rfl (hb hby at_184) rfl (teq (by decide : (0 : Int32) = (0 : Int32))).2 k_) ?_
          show OwnGoJ p e below s _ _ _ (T68.setTop (mkF m 187 #[.val (.int xa), .val (.int xb), .val (.int fg), .val (.int c1), .val (.int c2), .val (.int ((100 : Int32) + ((xa &&& (2147483647 : Int32)) % (900 : Int32)))), .val (.int zq), .val (.int bb), .val (.ref r_3), .val (.ref r_6), .val (.ref b10), .val (.ref b21), .val (.int (0 : Int32)), .val (.int (0 : Int32)), .val (.int (0 : Int32)), .val (.int (1 : Int32)), .val (.int (0 : Int32)), .val (.int (0 : Int32)), .val (.int (0 : Int32))] []))
          refine own_onJ (fun t_ k_ => XS.iload X68.here hx rfl (hb hby at_187) rfl k_) ?_
          show OwnGoJ p e below s _ _ _ (T68.setTop (mkF m 189 #[.val (.int xa), .val (.int xb), .val (.int fg), .val (.int c1), .val (.int c2), .val (.int ((100 : Int32) + ((xa &&& (2147483647 : Int32)) % (900 : Int32)))), .val (.int zq), .val (.int bb), .val (.ref r_3), .val (.ref r_6), .val (.ref b10), .val (.ref b21), .val (.int (0 : Int32)), .val (.int (0 : Int32)), .val (.int (0 : Int32)), .val (.int (1 : Int32)), .val (.int (0 : Int32)), .val (.int (0 : Int32)), .val (.int (0 : Int32))] [(.int (0 : Int32))]))
          refine own_onJ (fun t_ k_ => XS.iload X68.here hx rfl (hb hby at_189) rfl k_) ?_
          show OwnGoJ p e below s _ _ _ (T68.setTop (mkF m 191 #[.val (.int xa), .val (.int xb), .val (.int fg), .val (.int c1), .val (.int c2), .val (.int ((100 : Int32) + ((xa &&& (2147483647 : Int32)) % (900 : Int32)))), .val (.int zq), .val (.int bb), .val (.ref r_3), .val (.ref r_6), .val (.ref b10), .val (.ref b21), .val (.int (0 : Int32)), .val (.int (0 : Int32)), .val (.int (0 : Int32)), .val (.int (1 : Int32)), .val (.int (0 : Int32)), .val (.int (0 : Int32)), .val (.int (0 : Int32))] [(.int (0 : Int32)), (.int (0 : Int32))]))
          refine own_onJ (fun t_ k_ => XS.icmpNo X68.here hx rfl (hb hby at_191) rfl (teq (by decide : (0 : Int32) = (0 : Int32))).2 k_) ?_
          show OwnGoJ p e below s _ _ _ (T68.setTop (mkF m 194 #[.val (.int xa), .val (.int xb), .val (.int fg), .val (.int c1), .val (.int c2), .val (.int ((100 : Int32) + ((xa &&& (2147483647 : Int32)) % (900 : Int32)))), .val (.int zq), .val (.int bb), .val (.ref r_3), .val (.ref r_6), .val (.ref b10), .val (.ref b21), .val (.int (0 : Int32)), .val (.int (0 : Int32)), .val (.int (0 : Int32)), .val (.int (1 : Int32)), .val (.int (0 : Int32)), .val (.int (0 : Int32)), .val (.int (0 : Int32))] []))
          refine own_onJ (fun t_ k_ => XS.iload X68.here hx rfl (hb hby at_194) rfl k_) ?_
          show OwnGoJ p e below s _ _ _ (T68.setTop (mkF m 196 #[.val (.int xa), .val (.int xb), .val (.int fg), .val (.int c1), .val (.int c2), .val (.int ((100 : Int32) + ((xa &&& (2147483647 : Int32)) % (900 : Int32)))), .val (.int zq), .val (.int bb), .val (.ref r_3), .val (.ref r_6), .val (.ref b10), .val (.ref b21), .val (.int (0 : Int32)), .val (.int (0 : Int32)), .val (.int (0 : Int32)), .val (.int (1 : Int32)), .val (.int (0 : Int32)), .val (.int (0 : Int32)), .val (.int (0 : Int32))] [(.int (1 : Int32))]))
          refine own_onJ (fun t_ k_ => XS.ifNo X68.here hx rfl (hb hby at_196) rfl ((if0 _ _).trans (feq (by decide : ¬ ((1 : Int32) = (0 : Int32)))).1) k_) ?_
          show OwnGoJ p e below s _ _ _ (T68.setTop (mkF m 199 #[.val (.int xa), .val (.int xb), .val (.int fg), .val (.int c1), .val (.int c2), .val (.int ((100 : Int32) + ((xa &&& (2147483647 : Int32)) % (900 : Int32)))), .val (.int zq), .val (.int bb), .val (.ref r_3), .val (.ref r_6), .val (.ref b10), .val (.ref b21), .val (.int (0 : Int32)), .val (.int (0 : Int32)), .val (.int (0 : Int32)), .val (.int (1 : Int32)), .val (.int (0 : Int32)), .val (.int (0 : Int32)), .val (.int (0 : Int32))] []))
          refine own_onJ (fun t_ k_ => XS.iload X68.here hx rfl (hb hby at_199) rfl k_) ?_
          show OwnGoJ p e below s _ _ _ (T68.setTop (mkF m 201 #[.val (.int xa), .val (.int xb), .val (.int fg), .val (.int c1), .val (.int c2), .val (.int ((100 : Int32) + ((xa &&& (2147483647 : Int32)) % (900 : Int32)))), .val (.int zq), .val (.int bb), .val (.ref r_3), .val (.ref r_6), .val (.ref b10), .val (.ref b21), .val (.int (0 : Int32)), .val (.int (0 : Int32)), .val (.int (0 : Int32)), .val (.int (1 : Int32)), .val (.int (0 : Int32)), .val (.int (0 : Int32)), .val (.int (0 : Int32))] [(.int (0 : Int32))]))
          refine own_onJ (fun t_ k_ => XS.ifNo X68.here hx rfl (hb hby at_201) rfl ((if0 _ _).trans (teq (by decide : (0 : Int32) = (0 : Int32))).2) k_) ?_
          show OwnGoJ p e below s _ _ _ (T68.setTop (mkF m 204 #[.val (.int xa), .val (.int xb), .val (.int fg), .val (.int c1), .val (.int c2), .val (.int ((100 : Int32) + ((xa &&& (2147483647 : Int32)) % (900 : Int32)))), .val (.int zq), .val (.int bb), .val (.ref r_3), .val (.ref r_6), .val (.ref b10), .val (.ref b21), .val (.int (0 : Int32)), .val (.int (0 : Int32)), .val (.int (0 : Int32)), .val (.int (1 : Int32)), .val (.int (0 : Int32)), .val (.int (0 : Int32)), .val (.int (0 : Int32))] []))
          refine own_onJ (fun t_ k_ => XS.iload X68.here hx rfl (hb hby at_204) rfl k_) ?_
          show OwnGoJ p e below s _ _ _ (T68.setTop (mkF m 206 #[.val (.int xa), .val (.int xb), .val (.int fg), .val (.int c1), .val (.int c2), .val (.int ((100 : Int32) + ((xa &&& (2147483647 : Int32)) % (900 : Int32)))), .val (.int zq), .val (.int bb), .val (.ref r_3), .val (.ref r_6), .val (.ref b10), .val (.ref b21), .val (.int (0 : Int32)), .val (.int (0 : Int32)), .val (.int (0 : Int32)), .val (.int (1 : Int32)), .val (.int (0 : Int32)), .val (.int (0 : Int32)), .val (.int (0 : Int32))] [(.int (0 : Int32))]))
          refine own_onJ (fun t_ k_ => XS.ifNo X68.here hx rfl (hb hby at_206) rfl ((if0 _ _).trans (teq (by decide : (0 : Int32) = (0 : Int32))).2) k_) ?_
          show OwnGoJ p e below s _ _ _ (T68.setTop (mkF m 209 #[.val (.int xa), .val (.int xb), .val (.int fg), .val (.int c1), .val (.int c2), .val (.int ((100 : Int32) + ((xa &&& (2147483647 : Int32)) % (900 : Int32)))), .val (.int zq), .val (.int bb), .val (.ref r_3), .val (.ref r_6), .val (.ref b10), .val (.ref b21), .val (.int (0 : Int32)), .val (.int (0 : Int32)), .val (.int (0 : Int32)), .val (.int (1 : Int32)), .val (.int (0 : Int32)), .val (.int (0 : Int32)), .val (.int (0 : Int32))] []))
          refine own_onJ (fun t_ k_ => XS.iload X68.here hx rfl (hb hby at_209) rfl k_) ?_
          show OwnGoJ p e below s _ _ _ (T68.setTop (mkF m 211 #[.val (.int xa), .val (.int xb), .val (.int fg), .val (.int c1), .val (.int c2), .val (.int ((100 : Int32) + ((xa &&& (2147483647 : Int32)) % (900 : Int32)))), .val (.int zq), .val (.int bb), .val (.ref r_3), .val (.ref r_6), .val (.ref b10), .val (.ref b21), .val (.int (0 : Int32)), .val (.int (0 : Int32)), .val (.int (0 : Int32)), .val (.int (1 : Int32)), .val (.int (0 : Int32)), .val (.int (0 : Int32)), .val (.int (0 : Int32))] [(.int (0 : Int32))]))
          refine own_onJ (fun t_ k_ => XS.ifNo X68.here hx rfl (hb hby at_211) rfl ((if0 _ _).trans (teq (by decide : (0 : Int32) = (0 : Int32))).2) k_) ?_
          show OwnGoJ p e below s _ _ _ (T68.setTop (mkF m 214 #[.val (.int xa), .val (.int xb), .val (.int fg), .val (.int c1), .val (.int c2), .val (.int ((100 : Int32) + ((xa &&& (2147483647 : Int32)) % (900 : Int32)))), .val (.int zq), .val (.int bb), .val (.ref r_3), .val (.ref r_6), .val (.ref b10), .val (.ref b21), .val (.int (0 : Int32)), .val (.int (0 : Int32)), .val (.int (0 : Int32)), .val (.int (1 : Int32)), .val (.int (0 : Int32)), .val (.int (0 : Int32)), .val (.int (0 : Int32))] []))
          refine own_onJ (fun t_ k_ => XS.iconst X68.here hx rfl (hb hby at_214) k_) ?_
          show OwnGoJ p e below s _ _ _ (T68.setTop (mkF m 215 #[.val (.int xa), .val (.int xb), .val (.int fg), .val (.int c1), .val (.int c2), .val (.int ((100 : Int32) + ((xa &&& (2147483647 : Int32)) % (900 : Int32)))), .val (.int zq), .val (.int bb), .val (.ref r_3), .val (.ref r_6), .val (.ref b10), .val (.ref b21), .val (.int (0 : Int32)), .val (.int (0 : Int32)), .val (.int (0 : Int32)), .val (.int (1 : Int32)), .val (.int (0 : Int32)), .val (.int (0 : Int32)), .val (.int (0 : Int32))] [(.int (1 : Int32))]))
          refine own_onJ (fun t_ k_ => XS.goto X68.here hx rfl (pc0 := 215) (pc' := 219) rfl (hb hby at_215) (by decide) (by decide) k_) ?_
          show OwnGoJ p e below s _ _ _ (T68.setTop (mkF m 219 #[.val (.int xa), .val (.int xb), .val (.int fg), .val (.int c1), .val (.int c2), .val (.int ((100 : Int32) + ((xa &&& (2147483647 : Int32)) % (900 : Int32)))), .val (.int zq), .val (.int bb), .val (.ref r_3), .val (.ref r_6), .val (.ref b10), .val (.ref b21), .val (.int (0 : Int32)), .val (.int (0 : Int32)), .val (.int (0 : Int32)), .val (.int (1 : Int32)), .val (.int (0 : Int32)), .val (.int (0 : Int32)), .val (.int (0 : Int32))] [(.int (1 : Int32))]))
          have f69 : T36.heap.size ≤ T62.heap.size := Nat.le_trans hk36 K62q.1
          exact own_retNJ X68 hx hlk (t := .boolean) Bd.returns (by simp) (hb hby at_219) e68 ⟨rfl, N68, K62⟩ (by decide) (by decide) hS36 (Nat.le_trans f69 (Nat.le_of_eq (congrArg Array.size e68.symm)))
      refine own_onJ (fun t_ k_ => XS.iload X3.here hx rfl (hb hby at_66) rfl k_) ?_
      show OwnGoJ p e below s _ _ _ (T3.setTop (mkF m 68 #[.val (.int xa), .val (.int xb), .val (.int fg), .val (.int c1), .val (.int c2), .val (.int ((100 : Int32) + ((xa &&& (2147483647 : Int32)) % (900 : Int32)))), .val (.int zq), .val (.int bb), .val (.ref r_3), .unset, .unset, .unset, .unset, .unset, .unset, .unset, .unset, .unset, .unset] [(.int c2)]))
      refine own_onJ (fun t_ k_ => XS.iloadN X3.here hx rfl (hb hby at_68) rfl k_) ?_
      show OwnGoJ p e below s _ _ _ (T3.setTop (mkF m 69 #[.val (.int xa), .val (.int xb), .val (.int fg), .val (.int c1), .val (.int c2), .val (.int ((100 : Int32) + ((xa &&& (2147483647 : Int32)) % (900 : Int32)))), .val (.int zq), .val (.int bb), .val (.ref r_3), .unset, .unset, .unset, .unset, .unset, .unset, .unset, .unset, .unset, .unset] [(.int fg), (.int c2)]))
      refine own_onJ (fun t_ k_ => XS.iconst X3.here hx rfl (hb hby at_69) k_) ?_
      show OwnGoJ p e below s _ _ _ (T3.setTop (mkF m 70 #[.val (.int xa), .val (.int xb), .val (.int fg), .val (.int c1), .val (.int c2), .val (.int ((100 : Int32) + ((xa &&& (2147483647 : Int32)) % (900 : Int32)))), .val (.int zq), .val (.int bb), .val (.ref r_3), .unset, .unset, .unset, .unset, .unset, .unset, .unset, .unset, .unset, .unset] [(.int (4 : Int32)), (.int fg), (.int c2)]))
      refine own_onJ (fun t_ k_ => XS.iand X3.here hx rfl (hb hby at_70) rfl k_) ?_
      show OwnGoJ p e below s _ _ _ (T3.setTop (mkF m 71 #[.val (.int xa), .val (.int xb), .val (.int fg), .val (.int c1), .val (.int c2), .val (.int ((100 : Int32) + ((xa &&& (2147483647 : Int32)) % (900 : Int32)))), .val (.int zq), .val (.int bb), .val (.ref r_3), .unset, .unset, .unset, .unset, .unset, .unset, .unset, .unset, .unset, .unset] [(.int (fg &&& (4 : Int32))), (.int c2)]))
      by_cases p1 : (fg &&& (4 : Int32)) = (0 : Int32)
      · refine own_onJ (fun t_ k_ => XS.ifYes X3.here hx rfl (pc0 := 71) (pc' := 78) rfl (hb hby at_71) rfl ((if0 _ _).trans (teq p1).1) (by decide) (by decide) k_) ?_
        show OwnGoJ p e below s _ _ _ (T3.setTop (mkF m 78 #[.val (.int xa), .val (.int xb), .val (.int fg), .val (.int c1), .val (.int c2), .val (.int ((100 : Int32) + ((xa &&& (2147483647 : Int32)) % (900 : Int32)))), .val (.int zq), .val (.int bb), .val (.ref r_3), .unset, .unset, .unset, .unset, .unset, .unset, .unset, .unset, .unset, .unset] [(.int c2)]))
        refine own_onJ (fun t_ k_ => XS.iconst X3.here hx rfl (hb hby at_78) k_) ?_
        show OwnGoJ p e below s _ _ _ (T3.setTop (mkF m 79 #[.val (.int xa), .val (.int xb), .val (.int fg), .val (.int c1), .val (.int c2), .val (.int ((100 : Int32) + ((xa &&& (2147483647 : Int32)) % (900 : Int32)))), .val (.int zq), .val (.int bb), .val (.ref r_3), .unset, .unset, .unset, .unset, .unset, .unset, .unset, .unset, .unset, .unset] [(.int (0 : Int32)), (.int c2)]))
        exact J79 _
      · refine own_onJ (fun t_ k_ => XS.ifNo X3.here hx rfl (hb hby at_71) rfl ((if0 _ _).trans (feq p1).1) k_) ?_
        show OwnGoJ p e below s _ _ _ (T3.setTop (mkF m 74 #[.val (.int xa), .val (.int xb), .val (.int fg), .val (.int c1), .val (.int c2), .val (.int ((100 : Int32) + ((xa &&& (2147483647 : Int32)) % (900 : Int32)))), .val (.int zq), .val (.int bb), .val (.ref r_3), .unset, .unset, .unset, .unset, .unset, .unset, .unset, .unset, .unset, .unset] [(.int c2)]))
        refine own_onJ (fun t_ k_ => XS.iconst X3.here hx rfl (hb hby at_74) k_) ?_
        show OwnGoJ p e below s _ _ _ (T3.setTop (mkF m 75 #[.val (.int xa), .val (.int xb), .val (.int fg), .val (.int c1), .val (.int c2), .val (.int ((100 : Int32) + ((xa &&& (2147483647 : Int32)) % (900 : Int32)))), .val (.int zq), .val (.int bb), .val (.ref r_3), .unset, .unset, .unset, .unset, .unset, .unset, .unset, .unset, .unset, .unset] [(.int (1 : Int32)), (.int c2)]))
        refine own_onJ (fun t_ k_ => XS.goto X3.here hx rfl (pc0 := 75) (pc' := 79) rfl (hb hby at_75) (by decide) (by decide) k_) ?_
        show OwnGoJ p e below s _ _ _ (T3.setTop (mkF m 79 #[.val (.int xa), .val (.int xb), .val (.int fg), .val (.int c1), .val (.int c2), .val (.int ((100 : Int32) + ((xa &&& (2147483647 : Int32)) % (900 : Int32)))), .val (.int zq), .val (.int bb), .val (.ref r_3), .unset, .unset, .unset, .unset, .unset, .unset, .unset, .unset, .unset, .unset] [(.int (1 : Int32)), (.int c2)]))
        exact J79 _
    refine own_onJ (fun t_ k_ => XS.iloadN X0.here hx rfl (hb hby at_49) rfl k_) ?_
    show OwnGoJ p e below s _ _ _ (s₁.setTop (mkF m 50 #[.val (.int xa), .val (.int xb), .val (.int fg), .val (.int c1), .val (.int c2), .val (.int ((100 : Int32) + ((xa &&& (2147483647 : Int32)) % (900 : Int32)))), .val (.int zq), .val (.int bb), .unset, .unset, .unset, .unset, .unset, .unset, .unset, .unset, .unset, .unset, .unset] [(.int c1)]))
    refine own_onJ (fun t_ k_ => XS.iloadN X0.here hx rfl (hb hby at_50) rfl k_) ?_
    show OwnGoJ p e below s _ _ _ (s₁.setTop (mkF m 51 #[.val (.int xa), .val (.int xb), .val (.int fg), .val (.int c1), .val (.int c2), .val (.int ((100 : Int32) + ((xa &&& (2147483647 : Int32)) % (900 : Int32)))), .val (.int zq), .val (.int bb), .unset, .unset, .unset, .unset, .unset, .unset, .unset, .unset, .unset, .unset, .unset] [(.int fg), (.int c1)]))
    refine own_onJ (fun t_ k_ => XS.iconst X0.here hx rfl (hb hby at_51) k_) ?_
    show OwnGoJ p e below s _ _ _ (s₁.setTop (mkF m 52 #[.val (.int xa), .val (.int xb), .val (.int fg), .val (.int c1), .val (.int c2), .val (.int ((100 : Int32) + ((xa &&& (2147483647 : Int32)) % (900 : Int32)))), .val (.int zq), .val (.int bb), .unset, .unset, .unset, .unset, .unset, .unset, .unset, .unset, .unset, .unset, .unset] [(.int (2 : Int32)), (.int fg), (.int c1)]))
    refine own_onJ (fun t_ k_ => XS.iand X0.here hx rfl (hb hby at_52) rfl k_) ?_
    show OwnGoJ p e below s _ _ _ (s₁.setTop (mkF m 53 #[.val (.int xa), .val (.int xb), .val (.int fg), .val (.int c1), .val (.int c2), .val (.int ((100 : Int32) + ((xa &&& (2147483647 : Int32)) % (900 : Int32)))), .val (.int zq), .val (.int bb), .unset, .unset, .unset, .unset, .unset, .unset, .unset, .unset, .unset, .unset, .unset] [(.int (fg &&& (2 : Int32))), (.int c1)]))
    by_cases p0 : (fg &&& (2 : Int32)) = (0 : Int32)
    · refine own_onJ (fun t_ k_ => XS.ifYes X0.here hx rfl (pc0 := 53) (pc' := 60) rfl (hb hby at_53) rfl ((if0 _ _).trans (teq p0).1) (by decide) (by decide) k_) ?_
      show OwnGoJ p e below s _ _ _ (s₁.setTop (mkF m 60 #[.val (.int xa), .val (.int xb), .val (.int fg), .val (.int c1), .val (.int c2), .val (.int ((100 : Int32) + ((xa &&& (2147483647 : Int32)) % (900 : Int32)))), .val (.int zq), .val (.int bb), .unset, .unset, .unset, .unset, .unset, .unset, .unset, .unset, .unset, .unset, .unset] [(.int c1)]))
      refine own_onJ (fun t_ k_ => XS.iconst X0.here hx rfl (hb hby at_60) k_) ?_
      show OwnGoJ p e below s _ _ _ (s₁.setTop (mkF m 61 #[.val (.int xa), .val (.int xb), .val (.int fg), .val (.int c1), .val (.int c2), .val (.int ((100 : Int32) + ((xa &&& (2147483647 : Int32)) % (900 : Int32)))), .val (.int zq), .val (.int bb), .unset, .unset, .unset, .unset, .unset, .unset, .unset, .unset, .unset, .unset, .unset] [(.int (0 : Int32)), (.int c1)]))
      exact J61 _
    · refine own_onJ (fun t_ k_ => XS.ifNo X0.here hx rfl (hb hby at_53) rfl ((if0 _ _).trans (feq p0).1) k_) ?_
      show OwnGoJ p e below s _ _ _ (s₁.setTop (mkF m 56 #[.val (.int xa), .val (.int xb), .val (.int fg), .val (.int c1), .val (.int c2), .val (.int ((100 : Int32) + ((xa &&& (2147483647 : Int32)) % (900 : Int32)))), .val (.int zq), .val (.int bb), .unset, .unset, .unset, .unset, .unset, .unset, .unset, .unset, .unset, .unset, .unset] [(.int c1)]))
      refine own_onJ (fun t_ k_ => XS.iconst X0.here hx rfl (hb hby at_56) k_) ?_
      show OwnGoJ p e below s _ _ _ (s₁.setTop (mkF m 57 #[.val (.int xa), .val (.int xb), .val (.int fg), .val (.int c1), .val (.int c2), .val (.int ((100 : Int32) + ((xa &&& (2147483647 : Int32)) % (900 : Int32)))), .val (.int zq), .val (.int bb), .unset, .unset, .unset, .unset, .unset, .unset, .unset, .unset, .unset, .unset, .unset] [(.int (1 : Int32)), (.int c1)]))
      refine own_onJ (fun t_ k_ => XS.goto X0.here hx rfl (pc0 := 57) (pc' := 61) rfl (hb hby at_57) (by decide) (by decide) k_) ?_
      show OwnGoJ p e below s _ _ _ (s₁.setTop (mkF m 61 #[.val (.int xa), .val (.int xb), .val (.int fg), .val (.int c1), .val (.int c2), .val (.int ((100 : Int32) + ((xa &&& (2147483647 : Int32)) % (900 : Int32)))), .val (.int zq), .val (.int bb), .unset, .unset, .unset, .unset, .unset, .unset, .unset, .unset, .unset, .unset, .unset] [(.int (1 : Int32)), (.int c1)]))
      exact J61 _
  refine own_onJ (fun t_ k_ => XS.iloadN X0.here hx rfl (hb hby at_13) rfl k_) ?_
  show OwnGoJ p e below s _ _ _ (s₁.setTop (mkF m 14 #[.val (.int xa), .val (.int xb), .val (.int fg), .val (.int c1), .val (.int c2), .val (.int ((100 : Int32) + ((xa &&& (2147483647 : Int32)) % (900 : Int32)))), .unset, .unset, .unset, .unset, .unset, .unset, .unset, .unset, .unset, .unset, .unset, .unset, .unset] [(.int fg)]))
  refine own_onJ (fun t_ k_ => XS.iconst X0.here hx rfl (hb hby at_14) k_) ?_
  show OwnGoJ p e below s _ _ _ (s₁.setTop (mkF m 15 #[.val (.int xa), .val (.int xb), .val (.int fg), .val (.int c1), .val (.int c2), .val (.int ((100 : Int32) + ((xa &&& (2147483647 : Int32)) % (900 : Int32)))), .unset, .unset, .unset, .unset, .unset, .unset, .unset, .unset, .unset, .unset, .unset, .unset, .unset] [(.int (1 : Int32)), (.int fg)]))
  refine own_onJ (fun t_ k_ => XS.iand X0.here hx rfl (hb hby at_15) rfl k_) ?_
  show OwnGoJ p e below s _ _ _ (s₁.setTop (mkF m 16 #[.val (.int xa), .val (.int xb), .val (.int fg), .val (.int c1), .val (.int c2), .val (.int ((100 : Int32) + ((xa &&& (2147483647 : Int32)) % (900 : Int32)))), .unset, .unset, .unset, .unset, .unset, .unset, .unset, .unset, .unset, .unset, .unset, .unset, .unset] [(.int (fg &&& (1 : Int32)))]))
  by_cases f0 : (fg &&& (1 : Int32)) = (0 : Int32)
  · refine own_onJ (fun t_ k_ => XS.ifYes X0.here hx rfl (pc0 := 16) (pc' := 23) rfl (hb hby at_16) rfl ((if0 _ _).trans (teq f0).1) (by decide) (by decide) k_) ?_
    show OwnGoJ p e below s _ _ _ (s₁.setTop (mkF m 23 #[.val (.int xa), .val (.int xb), .val (.int fg), .val (.int c1), .val (.int c2), .val (.int ((100 : Int32) + ((xa &&& (2147483647 : Int32)) % (900 : Int32)))), .unset, .unset, .unset, .unset, .unset, .unset, .unset, .unset, .unset, .unset, .unset, .unset, .unset] []))
    refine own_onJ (fun t_ k_ => XS.iconst X0.here hx rfl (hb hby at_23) k_) ?_
    show OwnGoJ p e below s _ _ _ (s₁.setTop (mkF m 24 #[.val (.int xa), .val (.int xb), .val (.int fg), .val (.int c1), .val (.int c2), .val (.int ((100 : Int32) + ((xa &&& (2147483647 : Int32)) % (900 : Int32)))), .unset, .unset, .unset, .unset, .unset, .unset, .unset, .unset, .unset, .unset, .unset, .unset, .unset] [(.int (0 : Int32))]))
    refine own_onJ (fun t_ k_ => XS.istore X0.here hx rfl (hb hby at_24) rfl (l' := #[.val (.int xa), .val (.int xb), .val (.int fg), .val (.int c1), .val (.int c2), .val (.int ((100 : Int32) + ((xa &&& (2147483647 : Int32)) % (900 : Int32)))), .val (.int (0 : Int32)), .unset, .unset, .unset, .unset, .unset, .unset, .unset, .unset, .unset, .unset, .unset, .unset]) rfl k_) ?_
    show OwnGoJ p e below s _ _ _ (s₁.setTop (mkF m 26 #[.val (.int xa), .val (.int xb), .val (.int fg), .val (.int c1), .val (.int c2), .val (.int ((100 : Int32) + ((xa &&& (2147483647 : Int32)) % (900 : Int32)))), .val (.int (0 : Int32)), .unset, .unset, .unset, .unset, .unset, .unset, .unset, .unset, .unset, .unset, .unset, .unset] []))
    refine own_onJ (fun t_ k_ => XS.iload X0.here hx rfl (hb hby at_26) rfl k_) ?_
    show OwnGoJ p e below s _ _ _ (s₁.setTop (mkF m 28 #[.val (.int xa), .val (.int xb), .val (.int fg), .val (.int c1), .val (.int c2), .val (.int ((100 : Int32) + ((xa &&& (2147483647 : Int32)) % (900 : Int32)))), .val (.int (0 : Int32)), .unset, .unset, .unset, .unset, .unset, .unset, .unset, .unset, .unset, .unset, .unset, .unset] [(.int (0 : Int32))]))
    refine own_onJ (fun t_ k_ => XS.ifYes X0.here hx rfl (pc0 := 28) (pc' := 36) rfl (hb hby at_28) rfl ((if0 _ _).trans (teq (by decide : (0 : Int32) = (0 : Int32))).1) (by decide) (by decide) k_) ?_
    show OwnGoJ p e below s _ _ _ (s₁.setTop (mkF m 36 #[.val (.int xa), .val (.int xb), .val (.int fg), .val (.int c1), .val (.int c2), .val (.int ((100 : Int32) + ((xa &&& (2147483647 : Int32)) % (900 : Int32)))), .val (.int (0 : Int32)), .unset, .unset, .unset, .unset, .unset, .unset, .unset, .unset, .unset, .unset, .unset, .unset] []))
    refine own_onJ (fun t_ k_ => XS.bipush X0.here hx rfl (hb hby at_36) k_) ?_
    show OwnGoJ p e below s _ _ _ (s₁.setTop (mkF m 38 #[.val (.int xa), .val (.int xb), .val (.int fg), .val (.int c1), .val (.int c2), .val (.int ((100 : Int32) + ((xa &&& (2147483647 : Int32)) % (900 : Int32)))), .val (.int (0 : Int32)), .unset, .unset, .unset, .unset, .unset, .unset, .unset, .unset, .unset, .unset, .unset, .unset] [(.int (100 : Int32))]))
    refine own_onJ (fun t_ k_ => XS.iloadN X0.here hx rfl (hb hby at_38) rfl k_) ?_
    show OwnGoJ p e below s _ _ _ (s₁.setTop (mkF m 39 #[.val (.int xa), .val (.int xb), .val (.int fg), .val (.int c1), .val (.int c2), .val (.int ((100 : Int32) + ((xa &&& (2147483647 : Int32)) % (900 : Int32)))), .val (.int (0 : Int32)), .unset, .unset, .unset, .unset, .unset, .unset, .unset, .unset, .unset, .unset, .unset, .unset] [(.int xb), (.int (100 : Int32))]))
    refine own_onJ (X0.ldcInt hx hown (mvT hZ (w0 hw)) (g := (mkF m 39 #[.val (.int xa), .val (.int xb), .val (.int fg), .val (.int c1), .val (.int c2), .val (.int ((100 : Int32) + ((xa &&& (2147483647 : Int32)) % (900 : Int32)))), .val (.int (0 : Int32)), .unset, .unset, .unset, .unset, .unset, .unset, .unset, .unset, .unset, .unset, .unset, .unset] [(.int xb), (.int (100 : Int32))])) rfl (hb hby at_39)) ?_
    show OwnGoJ p e below s _ _ _ (s₁.setTop (mkF m 41 #[.val (.int xa), .val (.int xb), .val (.int fg), .val (.int c1), .val (.int c2), .val (.int ((100 : Int32) + ((xa &&& (2147483647 : Int32)) % (900 : Int32)))), .val (.int (0 : Int32)), .unset, .unset, .unset, .unset, .unset, .unset, .unset, .unset, .unset, .unset, .unset, .unset] [(.int (2147483647 : Int32)), (.int xb), (.int (100 : Int32))]))
    refine own_onJ (fun t_ k_ => XS.iand X0.here hx rfl (hb hby at_41) rfl k_) ?_
    show OwnGoJ p e below s _ _ _ (s₁.setTop (mkF m 42 #[.val (.int xa), .val (.int xb), .val (.int fg), .val (.int c1), .val (.int c2), .val (.int ((100 : Int32) + ((xa &&& (2147483647 : Int32)) % (900 : Int32)))), .val (.int (0 : Int32)), .unset, .unset, .unset, .unset, .unset, .unset, .unset, .unset, .unset, .unset, .unset, .unset] [(.int (xb &&& (2147483647 : Int32))), (.int (100 : Int32))]))
    refine own_onJ (fun t_ k_ => XS.sipush X0.here hx rfl (hb hby at_42) k_) ?_
    show OwnGoJ p e below s _ _ _ (s₁.setTop (mkF m 45 #[.val (.int xa), .val (.int xb), .val (.int fg), .val (.int c1), .val (.int c2), .val (.int ((100 : Int32) + ((xa &&& (2147483647 : Int32)) % (900 : Int32)))), .val (.int (0 : Int32)), .unset, .unset, .unset, .unset, .unset, .unset, .unset, .unset, .unset, .unset, .unset, .unset] [(.int (900 : Int32)), (.int (xb &&& (2147483647 : Int32))), (.int (100 : Int32))]))
    refine own_onJ (fun t_ k_ => iremM X0 hx rfl (hb hby at_45) rfl (by decide) k_) ?_
    show OwnGoJ p e below s _ _ _ (s₁.setTop (mkF m 46 #[.val (.int xa), .val (.int xb), .val (.int fg), .val (.int c1), .val (.int c2), .val (.int ((100 : Int32) + ((xa &&& (2147483647 : Int32)) % (900 : Int32)))), .val (.int (0 : Int32)), .unset, .unset, .unset, .unset, .unset, .unset, .unset, .unset, .unset, .unset, .unset, .unset] [(.int ((xb &&& (2147483647 : Int32)) % (900 : Int32))), (.int (100 : Int32))]))
    refine own_onJ (fun t_ k_ => XS.iadd X0.here hx rfl (hb hby at_46) rfl k_) ?_
    show OwnGoJ p e below s _ _ _ (s₁.setTop (mkF m 47 #[.val (.int xa), .val (.int xb), .val (.int fg), .val (.int c1), .val (.int c2), .val (.int ((100 : Int32) + ((xa &&& (2147483647 : Int32)) % (900 : Int32)))), .val (.int (0 : Int32)), .unset, .unset, .unset, .unset, .unset, .unset, .unset, .unset, .unset, .unset, .unset, .unset] [(.int ((100 : Int32) + ((xb &&& (2147483647 : Int32)) % (900 : Int32))))]))
    refine own_onJ (fun t_ k_ => XS.istore X0.here hx rfl (hb hby at_47) rfl (l' := #[.val (.int xa), .val (.int xb), .val (.int fg), .val (.int c1), .val (.int c2), .val (.int ((100 : Int32) + ((xa &&& (2147483647 : Int32)) % (900 : Int32)))), .val (.int (0 : Int32)), .val (.int ((100 : Int32) + ((xb &&& (2147483647 : Int32)) % (900 : Int32)))), .unset, .unset, .unset, .unset, .unset, .unset, .unset, .unset, .unset, .unset, .unset]) rfl k_) ?_
    show OwnGoJ p e below s _ _ _ (s₁.setTop (mkF m 49 #[.val (.int xa), .val (.int xb), .val (.int fg), .val (.int c1), .val (.int c2), .val (.int ((100 : Int32) + ((xa &&& (2147483647 : Int32)) % (900 : Int32)))), .val (.int (0 : Int32)), .val (.int ((100 : Int32) + ((xb &&& (2147483647 : Int32)) % (900 : Int32)))), .unset, .unset, .unset, .unset, .unset, .unset, .unset, .unset, .unset, .unset, .unset] []))
    exact J49 _ _ (own_rng _).1 (own_rng _).2
  · refine own_onJ (fun t_ k_ => XS.ifNo X0.here hx rfl (hb hby at_16) rfl ((if0 _ _).trans (feq f0).1) k_) ?_
    show OwnGoJ p e below s _ _ _ (s₁.setTop (mkF m 19 #[.val (.int xa), .val (.int xb), .val (.int fg), .val (.int c1), .val (.int c2), .val (.int ((100 : Int32) + ((xa &&& (2147483647 : Int32)) % (900 : Int32)))), .unset, .unset, .unset, .unset, .unset, .unset, .unset, .unset, .unset, .unset, .unset, .unset, .unset] []))
    refine own_onJ (fun t_ k_ => XS.iconst X0.here hx rfl (hb hby at_19) k_) ?_
    show OwnGoJ p e below s _ _ _ (s₁.setTop (mkF m 20 #[.val (.int xa), .val (.int xb), .val (.int fg), .val (.int c1), .val (.int c2), .val (.int ((100 : Int32) + ((xa &&& (2147483647 : Int32)) % (900 : Int32)))), .unset, .unset, .unset, .unset, .unset, .unset, .unset, .unset, .unset, .unset, .unset, .unset, .unset] [(.int (1 : Int32))]))
    refine own_onJ (fun t_ k_ => XS.goto X0.here hx rfl (pc0 := 20) (pc' := 24) rfl (hb hby at_20) (by decide) (by decide) k_) ?_
    show OwnGoJ p e below s _ _ _ (s₁.setTop (mkF m 24 #[.val (.int xa), .val (.int xb), .val (.int fg), .val (.int c1), .val (.int c2), .val (.int ((100 : Int32) + ((xa &&& (2147483647 : Int32)) % (900 : Int32)))), .unset, .unset, .unset, .unset, .unset, .unset, .unset, .unset, .unset, .unset, .unset, .unset, .unset] [(.int (1 : Int32))]))
    refine own_onJ (fun t_ k_ => XS.istore X0.here hx rfl (hb hby at_24) rfl (l' := #[.val (.int xa), .val (.int xb), .val (.int fg), .val (.int c1), .val (.int c2), .val (.int ((100 : Int32) + ((xa &&& (2147483647 : Int32)) % (900 : Int32)))), .val (.int (1 : Int32)), .unset, .unset, .unset, .unset, .unset, .unset, .unset, .unset, .unset, .unset, .unset, .unset]) rfl k_) ?_
    show OwnGoJ p e below s _ _ _ (s₁.setTop (mkF m 26 #[.val (.int xa), .val (.int xb), .val (.int fg), .val (.int c1), .val (.int c2), .val (.int ((100 : Int32) + ((xa &&& (2147483647 : Int32)) % (900 : Int32)))), .val (.int (1 : Int32)), .unset, .unset, .unset, .unset, .unset, .unset, .unset, .unset, .unset, .unset, .unset, .unset] []))
    refine own_onJ (fun t_ k_ => XS.iload X0.here hx rfl (hb hby at_26) rfl k_) ?_
    show OwnGoJ p e below s _ _ _ (s₁.setTop (mkF m 28 #[.val (.int xa), .val (.int xb), .val (.int fg), .val (.int c1), .val (.int c2), .val (.int ((100 : Int32) + ((xa &&& (2147483647 : Int32)) % (900 : Int32)))), .val (.int (1 : Int32)), .unset, .unset, .unset, .unset, .unset, .unset, .unset, .unset, .unset, .unset, .unset, .unset] [(.int (1 : Int32))]))
    refine own_onJ (fun t_ k_ => XS.ifNo X0.here hx rfl (hb hby at_28) rfl ((if0 _ _).trans (feq (by decide : ¬ ((1 : Int32) = (0 : Int32)))).1) k_) ?_
    show OwnGoJ p e below s _ _ _ (s₁.setTop (mkF m 31 #[.val (.int xa), .val (.int xb), .val (.int fg), .val (.int c1), .val (.int c2), .val (.int ((100 : Int32) + ((xa &&& (2147483647 : Int32)) % (900 : Int32)))), .val (.int (1 : Int32)), .unset, .unset, .unset, .unset, .unset, .unset, .unset, .unset, .unset, .unset, .unset, .unset] []))
    refine own_onJ (fun t_ k_ => XS.iload X0.here hx rfl (hb hby at_31) rfl k_) ?_
    show OwnGoJ p e below s _ _ _ (s₁.setTop (mkF m 33 #[.val (.int xa), .val (.int xb), .val (.int fg), .val (.int c1), .val (.int c2), .val (.int ((100 : Int32) + ((xa &&& (2147483647 : Int32)) % (900 : Int32)))), .val (.int (1 : Int32)), .unset, .unset, .unset, .unset, .unset, .unset, .unset, .unset, .unset, .unset, .unset, .unset] [(.int ((100 : Int32) + ((xa &&& (2147483647 : Int32)) % (900 : Int32))))]))
    refine own_onJ (fun t_ k_ => XS.goto X0.here hx rfl (pc0 := 33) (pc' := 47) rfl (hb hby at_33) (by decide) (by decide) k_) ?_
    show OwnGoJ p e below s _ _ _ (s₁.setTop (mkF m 47 #[.val (.int xa), .val (.int xb), .val (.int fg), .val (.int c1), .val (.int c2), .val (.int ((100 : Int32) + ((xa &&& (2147483647 : Int32)) % (900 : Int32)))), .val (.int (1 : Int32)), .unset, .unset, .unset, .unset, .unset, .unset, .unset, .unset, .unset, .unset, .unset, .unset] [(.int ((100 : Int32) + ((xa &&& (2147483647 : Int32)) % (900 : Int32))))]))
    refine own_onJ (fun t_ k_ => XS.istore X0.here hx rfl (hb hby at_47) rfl (l' := #[.val (.int xa), .val (.int xb), .val (.int fg), .val (.int c1), .val (.int c2), .val (.int ((100 : Int32) + ((xa &&& (2147483647 : Int32)) % (900 : Int32)))), .val (.int (1 : Int32)), .val (.int ((100 : Int32) + ((xa &&& (2147483647 : Int32)) % (900 : Int32)))), .unset, .unset, .unset, .unset, .unset, .unset, .unset, .unset, .unset, .unset, .unset]) rfl k_) ?_
    show OwnGoJ p e below s _ _ _ (s₁.setTop (mkF m 49 #[.val (.int xa), .val (.int xb), .val (.int fg), .val (.int c1), .val (.int c2), .val (.int ((100 : Int32) + ((xa &&& (2147483647 : Int32)) % (900 : Int32)))), .val (.int (1 : Int32)), .val (.int ((100 : Int32) + ((xa &&& (2147483647 : Int32)) % (900 : Int32)))), .unset, .unset, .unset, .unset, .unset, .unset, .unset, .unset, .unset, .unset, .unset] []))
    exact J49 _ _ hr1 hr2
set_option maxRecDepth 65536 in
set_option maxHeartbeats 40000000 in
theorem comes_1 {Post : Tables → Env → Array Value → State → Outcome → State → Prop} (hpost : ∀ tb e args s v u, (limb_1_1.after args s (.returned v) u = true ∧ limb_1_2.after args s (.returned v) u = true ∧ True) → ReturnedEndW s (.returned v) u (Jvm.fieldLocs frame_1_writes args s ++ Jvm.arrayLocs frame_1_arrays args s ++ Jvm.staticLocs frame_1_statics s) 32 2176 → Post tb e args s (.returned v) u) :
    ArmFor flags0 classFile x code maxLocals ret World_1 tables_1 room_1 Calls_1 rest_1 Pre_1 Post := by
  intro l hfl _ _ p e ha hc hk s m args below hf hA hF happ hP
  obtain ⟨hcalls, hrest, hpre⟩ := hP
  obtain ⟨-, -, -, hnamed, -, -, -, hat⟩ := (Spec.applies_iff hf).mp happ
  obtain ⟨hg, hn⟩ := and_e (Cond.before_iff.mp (show (Jvm.Cond.and given_1 narrow_1).before args s = true from hpre))
  obtain ⟨gc, gr0⟩ := and_e hg
  obtain ⟨gi0, gr1⟩ := and_e gr0
  obtain ⟨gi1, gr2⟩ := and_e gr1
  obtain ⟨gi2, gr3⟩ := and_e gr2
  obtain ⟨gi3, gr4⟩ := and_e gr3
  have gi4 := gr4
  obtain ⟨w_0, w_1, w_2, w_3, w_4, rfl⟩ : ∃ w_0 w_1 w_2 w_3 w_4 : Value, args = #[w_0, w_1, w_2, w_3, w_4] := by
    have hs : args.size = 5 := by simpa [Cond.value, given_1] using gc
    obtain ⟨L⟩ := args
    match L, hs with
    | [w_0, w_1, w_2, w_3, w_4], _ => exact ⟨w_0, w_1, w_2, w_3, w_4, rfl⟩
  have hw := fun d (hd : d ∈ tables_1) => atoms_spec (ws := Jvm.Cond.code x code maxLocals ret :: tables_1) hat d (List.mem_cons_of_mem _ hd)
  have hfit : Fit s := fun {y c} hc i hi => by
    obtain ⟨ha, rfl⟩ := Array.getElem?_eq_some_iff.mp hc
    have q := List.all_eq_true.mp ((Array.all_eq_true_iff_forall_mem.mp hF) _ (Array.getElem_mem ha)) i (List.mem_range.mpr hi)
    simpa [Array.getElem?_eq_getElem hi] using q
  obtain ⟨hsets, hown0⟩ := atoms_of _ (rest_1_c_eq ▸ (show rest_1_c.before _ s = true from hrest))
  obtain ⟨i0, ei0⟩ := is_v gi0
  obtain rfl : w_0 = (.int i0) := Option.some.inj ei0
  obtain ⟨i1, ei1⟩ := is_v gi1
  obtain rfl : w_1 = (.int i1) := Option.some.inj ei1
  obtain ⟨i2, ei2⟩ := is_v gi2
  obtain rfl : w_2 = (.int i2) := Option.some.inj ei2
  obtain ⟨i3, ei3⟩ := is_v gi3
  obtain rfl : w_3 = (.int i3) := Option.some.inj ei3
  obtain ⟨i4, ei4⟩ := is_v gi4
  obtain rfl : w_4 = (.int i4) := Option.some.inj ei4
  obtain ⟨cs, ecs⟩ := is_v (Cond.before_iff.mp (hsets _ (List.mem_of_getElem? (i := 1) rfl)))
  obtain ⟨sf, esf, hsf⟩ := isR_v (Cond.before_iff.mp (hsets _ (List.mem_of_getElem? (i := 8) rfl)))
  obtain ⟨ca, eca⟩ := arr_v (Cond.before_iff.mp (hsets _ (List.mem_of_getElem? (i := 13) rfl)))
  have SC := own_cache hfit eca (hsets _ (List.mem_of_getElem? (i := 13) rfl)) (hsets _ (List.mem_of_getElem? (i := 15) rfl)) (hsets _ (List.mem_of_getElem? (i := 16) rfl))
  have S1 := Sta.start eca (Or.inr ⟨(w105 hw), (hsets _ (List.mem_of_getElem? (i := 11) rfl))⟩)
  have S0 := Sta.start (own_eqi (Cond.before_iff.mp (hsets _ (List.mem_of_getElem? (i := 12) rfl)))) (Or.inl (hsets _ (List.mem_of_getElem? (i := 10) rfl)))
  obtain ⟨n, o, h1, h2, h3, _, L, rfl, ⟨rfl, N, _⟩, hq⟩ := rm0 l s _ hw tables_1 i0 i1 i2 i3 i4 cs sf ca s.heap s.heap.size (Nat.le_refl _) (Old.start s) (Sta.start ecs (Or.inl (hsets _ (List.mem_of_getElem? (i := 0) rfl)))) (own_nz ecs (Cond.before_iff.mp (hsets _ (List.mem_of_getElem? (i := 2) rfl)))) (Sta.start esf (Or.inl (hsets _ (List.mem_of_getElem? (i := 7) rfl)))) hsf S0 S1 SC (hcalls.1 ("java/lang/String", 7) (by simp [consts_1])) (hsets _ (List.mem_of_getElem? (i := 2) rfl)) p e ha hc hk s m _ below hf ((Spec.applies_iff_loose hf).mp happ).1 ⟨rfl, State.Warmed39.refl s, rfl, Or.inl IB.start⟩ trivial
  refine ⟨n, _, h1, h2, h3, hpost _ _ _ _ _ _ ⟨Cond.after_iff.mpr rfl, Cond.after_iff.mpr (eq_i res_at (Term.int_eval (1)) rfl), trivial⟩ ⟨hq.1, hq.2.1, hq.2.2.1, (hq.2.2.2.sift fun y hy => Or.inr (N y hy)).mono (by decide) (by decide)⟩⟩
theorem main_1_1 : Claimed_1_1 := comes_1 fun _ _ _ _ _ _ h hF => ⟨h.1, hF⟩
theorem main_1_2 : Claimed_1_2 := comes_1 fun _ _ _ _ _ _ h hF => ⟨h.2.1, hF⟩
end Jvm.Pilot.@@N@@
namespace Jvm.Pilot.@@N@@
open Jvm Jvm.ClassFile Sem Op Lib Jvm.Free Jvm.Stand Jvm.Pilot.@@N@@.Jvm.D
/-! MADE BY PROGRAM (witnessworld.py) out of the Statement's table words and the real class files: 27 classes; the members and pool entries that the words name. The judged class is class 1, her method 3. -/
namespace start1
open Jvm.ClassFile
def u (s : String) : CpInfo := .utf8 (stringToUtf16 s)
/-- a pool by its gaps: so many unusable entries, then the entry; so many at the end -/
def gap : Nat → List CpInfo → List CpInfo
  | 0, r => r
  | n + 1, r => .unusable :: gap n r
def poolList (es : List (Nat × CpInfo)) (last : Nat) : List CpInfo := es.foldr (fun e r => gap e.1 (e.2 :: r)) (gap last [])
def pool (es : List (Nat × CpInfo)) (last : Nat) : Array CpInfo := ⟨poolList es last⟩
def fileOf (pool : Array CpInfo) (this : Nat) (attrs : Array Attribute := #[]) (ms : Array MethodInfo := #[]) (fl : Nat := 33) (sup : Nat := 0) (ifs : Array Nat := #[]) (fds : Array FieldInfo := #[]) : ClassFile where
  minorVersion := 0
  majorVersion := 65
  constantPool := pool
  accessFlags := fl
  thisClass := this
  superClass := sup
  interfaces := ifs
  fields := fds
  methods := ms
  attributes := attrs
def plain (name : String) (sup : Option ClassId) : Class where
  name := name
  kind := .ordinary
  loader := none
  accessFlags := 33
  super := sup
  interfaces := #[]
  cf := none
  fields := #[]
  methods := #[]
  instanceTypes := #[]
  staticTypes := #[]
  resolved := #[]
  callSites := []
  init := .initialized
  statics := none
  mirror := none

def pool0 : Array CpInfo := pool [(5, u "<init>"), (0, u "()V"), (1, .class_ 10), (1, u "java/lang/Object")] 113

def k0c0 : Code := { maxStack := 0, maxLocals := 1, code := object_method_1_code, exceptionTable := #[], attributes := #[] }
def k0m0 : Method := { name := "<init>", desc := "()V", sig := { parameters := [], returnType := none }, accessFlags := 1, code := some k0c0 }
/-- java/lang/Object -/
def k0 : Class := { plain "java/lang/Object" none with
  accessFlags := 33
  interfaces := #[]
  cf := some (fileOf pool0 8 #[] #[{ accessFlags := 1, nameIndex := 5, descriptorIndex := 6, attributes := #[] }] 33 0 #[] #[])
  fields := #[]
  methods := #[k0m0]
  instanceTypes := #[]
  staticTypes := #[]
  resolved := Array.replicate 124 none
  statics := none }

def pool1 : Array CpInfo := pool [(2, .class_ 4), (1, u "java/lang/Object"), (0, u "<init>"), (0, u "()V"), (0, .class_ 8), (0, u "java/lang/String"), (0, .methodref 7 10), (0, .nameAndType 5 11), (0, u "([C)V"), (0, .methodref 13 14), (0, .class_ 15), (0, .nameAndType 16 17), (0, u "io/loomwire/handler/codec/http/HttpResponseStatusEqualsPinLaw"), (0, u "pc"), (0, u "(I)C"), (0, .integer 2147483647), (0, .methodref 13 20), (0, .nameAndType 21 22), (0, u "phrase"), (0, u "(IZ)Ljava/lang/String;"), (0, .class_ 24), (0, u "io/loomwire/handler/codec/http/HttpResponseStatus"), (0, .methodref 23 26), (0, .nameAndType 5 27), (0, u "(ILjava/lang/String;)V"), (0, .methodref 23 29), (0, .nameAndType 30 31), (0, u "equals"), (0, u "(Ljava/lang/Object;)Z"), (0, .methodref 33 34), (0, .class_ 35), (0, .nameAndType 36 37), (0, u "java/lang/Integer"), (0, u "valueOf"), (0, u "(I)Ljava/lang/Integer;"), (3, u "law"), (0, u "(IIIII)Z")] 2

def k1m0 : Method := { name := "<init>", desc := "()V", sig := { parameters := [], returnType := none }, accessFlags := 1, code := none }
def k1c1 : Code := { maxStack := 2, maxLocals := 2, code := method_2_code, exceptionTable := #[], attributes := #[] }
def k1m1 : Method := { name := "pc", desc := "(I)C", sig := { parameters := [.int], returnType := some .char }, accessFlags := 10, code := some k1c1 }
def k1c2 : Code := { maxStack := 4, maxLocals := 3, code := method_3_code, exceptionTable := #[], attributes := #[] }
def k1m2 : Method := { name := "phrase", desc := "(IZ)Ljava/lang/String;", sig := { parameters := [.int, .boolean], returnType := some (.object "java/lang/String") }, accessFlags := 10, code := some k1c2 }
def k1c3 : Code := { maxStack := 4, maxLocals := 19, code := code, exceptionTable := #[], attributes := #[] }
def k1m3 : Method := { name := "law", desc := "(IIIII)Z", sig := { parameters := [.int, .int, .int, .int, .int], returnType := some .boolean }, accessFlags := 9, code := some k1c3 }
/-- io/loomwire/handler/codec/http/HttpResponseStatusEqualsPinLaw -/
def k1 : Class := { plain "io/loomwire/handler/codec/http/HttpResponseStatusEqualsPinLaw" (some 0) with
  accessFlags := 49
  interfaces := #[]
  cf := some (fileOf pool1 13 #[] #[{ accessFlags := 1, nameIndex := 5, descriptorIndex := 6, attributes := #[] }, { accessFlags := 10, nameIndex := 16, descriptorIndex := 17, attributes := #[] }, { accessFlags := 10, nameIndex := 21, descriptorIndex := 22, attributes := #[] }, { accessFlags := 9, nameIndex := 41, descriptorIndex := 42, attributes := #[] }] 49 2 #[] #[])
  fields := #[]
  methods := #[k1m0, k1m1, k1m2, k1m3]
  instanceTypes := #[]
  staticTypes := #[]
  resolved := Array.replicate 45 none
  statics := none }

def pool2 : Array CpInfo := pool [(1, .class_ 2), (0, u "java/io/Serializable"), (0, .class_ 4), (0, u "java/lang/Object")] 2

/-- java/io/Serializable -/
def k2 : Class := { plain "java/io/Serializable" (some 0) with
  accessFlags := 1537
  interfaces := #[]
  cf := some (fileOf pool2 1 #[] #[] 1537 3 #[] #[])
  fields := #[]
  methods := #[]
  instanceTypes := #[]
  staticTypes := #[]
  resolved := Array.replicate 7 none
  statics := none }

def pool3 : Array CpInfo := pool [(1, .class_ 2), (0, u "java/lang/Comparable"), (0, .class_ 4), (0, u "java/lang/Object")] 7

/-- java/lang/Comparable -/
def k3 : Class := { plain "java/lang/Comparable" (some 0) with
  accessFlags := 1537
  interfaces := #[]
  cf := some (fileOf pool3 1 #[] #[] 1537 3 #[] #[])
  fields := #[]
  methods := #[]
  instanceTypes := #[]
  staticTypes := #[]
  resolved := Array.replicate 12 none
  statics := none }

def pool4 : Array CpInfo := pool [(2, .class_ 4), (1, u "java/lang/CharSequence"), (42, .class_ 48), (0, u "java/lang/CharSequence$1CodePointIterator"), (10, .class_ 60), (0, u "java/lang/CharSequence$1CharIterator"), (5, .class_ 67), (0, u "java/lang/Object")] 63

/-- java/lang/CharSequence -/
def k4 : Class := { plain "java/lang/CharSequence" (some 0) with
  accessFlags := 1537
  interfaces := #[]
  cf := some (fileOf pool4 2 #[.nestMembers #[47, 59]] #[] 1537 66 #[] #[])
  fields := #[]
  methods := #[]
  instanceTypes := #[]
  staticTypes := #[]
  resolved := Array.replicate 131 none
  statics := none }

def pool5 : Array CpInfo := pool [(1, .class_ 2), (0, u "java/lang/constant/Constable"), (0, .class_ 4), (0, u "java/lang/Object")] 6

/-- java/lang/constant/Constable -/
def k5 : Class := { plain "java/lang/constant/Constable" (some 0) with
  accessFlags := 1537
  interfaces := #[]
  cf := some (fileOf pool5 1 #[] #[] 1537 3 #[] #[])
  fields := #[]
  methods := #[]
  instanceTypes := #[]
  staticTypes := #[]
  resolved := Array.replicate 11 none
  statics := none }

def pool6 : Array CpInfo := pool [(1, .class_ 2), (0, u "java/lang/constant/ConstantDesc"), (0, .class_ 4), (0, u "java/lang/Object")] 32

/-- java/lang/constant/ConstantDesc -/
def k6 : Class := { plain "java/lang/constant/ConstantDesc" (some 0) with
  accessFlags := 1537
  interfaces := #[]
  cf := some (fileOf pool6 1 #[] #[] 1537 3 #[] #[])
  fields := #[]
  methods := #[]
  instanceTypes := #[]
  staticTypes := #[]
  resolved := Array.replicate 37 none
  statics := none }

def pool7 : Array CpInfo := pool [(1, .methodref 2 3), (0, .class_ 4), (0, .nameAndType 5 6), (0, u "java/lang/Object"), (0, u "<init>"), (0, u "()V"), (0, .string 8), (0, u ""), (0, .fieldref 10 11), (0, .class_ 12), (0, .nameAndType 13 14), (0, u "java/lang/String"), (0, u "value"), (0, u "[B"), (0, .fieldref 10 16), (0, .nameAndType 17 18), (0, u "coder"), (0, u "B"), (2, u "hash"), (0, u "I"), (2, u "hashIsZero"), (0, u "Z"), (0, .methodref 10 28), (0, .nameAndType 5 29), (0, u "([CIILjava/lang/Void;)V"), (8, .fieldref 10 39), (0, .nameAndType 40 26), (0, u "COMPACT_STRINGS"), (1, .class_ 44), (1, u "java/lang/StringUTF16"), (0, u "compress"), (1, .methodref 42 48), (0, .nameAndType 49 50), (0, u "coderFromArrayLen"), (0, u "([BI)B"), (56, .class_ 109), (1, u "java/lang/StringLatin1"), (32, u "()Z"), (34, .methodref 42 178), (0, .nameAndType 45 179), (0, u "([CII)[B"), (154, u "()I"), (0, .methodref 10 336), (0, .nameAndType 17 337), (0, u "()B"), (25, u "([BI)C"), (27, u "(II)V"), (35, u "(I)C"), (64, .methodref 10 493), (0, .nameAndType 494 142), (0, u "isLatin1"), (0, .methodref 107 496), (0, .nameAndType 497 363), (0, u "charAt"), (3, u "checkIndex"), (5, u "length"), (67, .class_ 576), (0, u "java/lang/CharSequence"), (22, u "CASE_INSENSITIVE_ORDER"), (0, u "Ljava/util/Comparator;"), (409, u "([C)V"), (42, .fieldref 1054 1055), (0, .class_ 1056), (0, .nameAndType 1057 1058), (0, u "jdk/internal/util/Preconditions"), (0, u "SIOOBE_FORMATTER"), (0, u "Ljava/util/function/BiFunction;"), (0, .methodref 1054 1060), (0, .nameAndType 501 1061), (0, u "(IILjava/util/function/BiFunction;)I"), (39, u "serialPersistentFields"), (0, u "[Ljava/io/ObjectStreamField;"), (0, .class_ 1104), (0, u "java/lang/String$CaseInsensitiveComparator"), (1, .class_ 1107), (0, u "java/io/Serializable"), (0, .class_ 1109), (0, u "java/lang/Comparable"), (0, .class_ 1111), (0, u "java/lang/constant/Constable"), (0, .class_ 1113), (0, u "java/lang/constant/ConstantDesc"), (2, u "serialVersionUID"), (0, u "J"), (3, u "REPL"), (0, u "C"), (2, u "LATIN1"), (1, u "UTF16")] 323

def k7m0 : Method := { name := "<init>", desc := "()V", sig := { parameters := [], returnType := none }, accessFlags := 1, code := none }
def k7c1 : Code := { maxStack := 5, maxLocals := 2, code := jdk_42_method_3_code, exceptionTable := #[], attributes := #[] }
def k7m1 : Method := { name := "<init>", desc := "([C)V", sig := { parameters := [(.array .char)], returnType := none }, accessFlags := 1, code := some k7c1 }
def k7c2 : Code := { maxStack := 2, maxLocals := 1, code := jdk_42_method_54_code, exceptionTable := #[], attributes := #[] }
def k7m2 : Method := { name := "length", desc := "()I", sig := { parameters := [], returnType := some .int }, accessFlags := 1, code := some k7c2 }
def k7c3 : Code := { maxStack := 2, maxLocals := 2, code := jdk_42_method_56_code, exceptionTable := #[], attributes := #[] }
def k7m3 : Method := { name := "charAt", desc := "(I)C", sig := { parameters := [.int], returnType := some .char }, accessFlags := 1, code := some k7c3 }
def k7c4 : Code := { maxStack := 4, maxLocals := 6, code := jdk_42_method_149_code, exceptionTable := #[], attributes := #[] }
def k7m4 : Method := { name := "<init>", desc := "([CIILjava/lang/Void;)V", sig := { parameters := [(.array .char), .int, .int, (.object "java/lang/Void")], returnType := none }, accessFlags := 2, code := some k7c4 }
def k7c5 : Code := { maxStack := 1, maxLocals := 1, code := jdk_42_method_152_code, exceptionTable := #[], attributes := #[] }
def k7m5 : Method := { name := "coder", desc := "()B", sig := { parameters := [], returnType := some .byte }, accessFlags := 0, code := some k7c5 }
def k7c6 : Code := { maxStack := 1, maxLocals := 1, code := jdk_42_method_154_code, exceptionTable := #[], attributes := #[] }
def k7m6 : Method := { name := "isLatin1", desc := "()Z", sig := { parameters := [], returnType := some .boolean }, accessFlags := 0, code := some k7c6 }
def k7c7 : Code := { maxStack := 3, maxLocals := 2, code := jdk_42_method_155_code, exceptionTable := #[], attributes := #[] }
def k7m7 : Method := { name := "checkIndex", desc := "(II)V", sig := { parameters := [.int, .int], returnType := none }, accessFlags := 8, code := some k7c7 }
/-- java/lang/String -/
def k7 : Class := { plain "java/lang/String" (some 0) with
  accessFlags := 49
  interfaces := #[2, 3, 4, 5, 6]
  cf := some (fileOf pool7 10 #[.nestMembers #[1103]] #[{ accessFlags := 1, nameIndex := 5, descriptorIndex := 6, attributes := #[] }, { accessFlags := 1, nameIndex := 5, descriptorIndex := 1010, attributes := #[] }, { accessFlags := 1, nameIndex := 507, descriptorIndex := 334, attributes := #[] }, { accessFlags := 1, nameIndex := 497, descriptorIndex := 427, attributes := #[] }, { accessFlags := 2, nameIndex := 5, descriptorIndex := 29, attributes := #[] }, { accessFlags := 0, nameIndex := 17, descriptorIndex := 337, attributes := #[] }, { accessFlags := 0, nameIndex := 494, descriptorIndex := 142, attributes := #[] }, { accessFlags := 8, nameIndex := 501, descriptorIndex := 391, attributes := #[] }] 49 2 #[1106, 1108, 575, 1110, 1112] #[{ accessFlags := 18, nameIndex := 13, descriptorIndex := 14, attributes := #[] }, { accessFlags := 18, nameIndex := 17, descriptorIndex := 18, attributes := #[] }, { accessFlags := 2, nameIndex := 21, descriptorIndex := 22, attributes := #[] }, { accessFlags := 2, nameIndex := 25, descriptorIndex := 26, attributes := #[] }, { accessFlags := 26, nameIndex := 1116, descriptorIndex := 1117, attributes := #[] }, { accessFlags := 24, nameIndex := 40, descriptorIndex := 26, attributes := #[] }, { accessFlags := 26, nameIndex := 1101, descriptorIndex := 1102, attributes := #[] }, { accessFlags := 26, nameIndex := 1121, descriptorIndex := 1122, attributes := #[] }, { accessFlags := 25, nameIndex := 599, descriptorIndex := 600, attributes := #[] }, { accessFlags := 24, nameIndex := 1125, descriptorIndex := 18, attributes := #[] }, { accessFlags := 24, nameIndex := 1127, descriptorIndex := 18, attributes := #[] }])
  fields := #[{ name := "value", type := (.array .byte), accessFlags := 18, slot := 0, constantValue := 0 }, { name := "coder", type := .byte, accessFlags := 18, slot := 1, constantValue := 0 }, { name := "hash", type := .int, accessFlags := 2, slot := 2, constantValue := 0 }, { name := "hashIsZero", type := .boolean, accessFlags := 2, slot := 3, constantValue := 0 }, { name := "serialVersionUID", type := .long, accessFlags := 26, slot := 0, constantValue := 0 }, { name := "COMPACT_STRINGS", type := .boolean, accessFlags := 24, slot := 1, constantValue := 0 }, { name := "serialPersistentFields", type := (.array (.object "java/io/ObjectStreamField")), accessFlags := 26, slot := 2, constantValue := 0 }, { name := "REPL", type := .char, accessFlags := 26, slot := 3, constantValue := 0 }, { name := "CASE_INSENSITIVE_ORDER", type := (.object "java/util/Comparator"), accessFlags := 25, slot := 4, constantValue := 0 }, { name := "LATIN1", type := .byte, accessFlags := 24, slot := 5, constantValue := 0 }, { name := "UTF16", type := .byte, accessFlags := 24, slot := 6, constantValue := 0 }]
  methods := #[k7m0, k7m1, k7m2, k7m3, k7m4, k7m5, k7m6, k7m7]
  instanceTypes := #[(.array .byte), .byte, .int, .boolean]
  staticTypes := #[.long, .boolean, (.array (.object "java/io/ObjectStreamField")), .char, (.object "java/util/Comparator"), .byte, .byte]
  resolved := Array.replicate 1451 none
  statics := some 0 }

def pool8 : Array CpInfo := pool [(6, .class_ 8), (1, u "java/lang/Object"), (0, u "<init>"), (0, u "()V"), (1, .class_ 14), (1, u "java/lang/StringUTF16"), (31, u "$assertionsDisabled"), (0, u "Z"), (13, u "HI_BYTE_SHIFT"), (0, u "I"), (2, u "LO_BYTE_SHIFT"), (49, .methodref 12 116), (0, .nameAndType 117 118), (0, u "compress"), (0, u "([CI[BII)I"), (3, u "([CII)[B"), (138, u "coderFromArrayLen"), (0, u "([BI)B"), (106, .class_ 371), (1, u "java/lang/StringUTF16$LinesSpliterator"), (58, u "MAX_LENGTH"), (196, .class_ 628), (0, u "java/lang/StringUTF16$CodePointsSpliterator"), (0, .class_ 630), (0, u "java/lang/StringUTF16$CharsSpliterator")] 4

def k8m0 : Method := { name := "<init>", desc := "()V", sig := { parameters := [], returnType := none }, accessFlags := 0, code := none }
def k8c1 : Code := { maxStack := 2, maxLocals := 2, code := jdk_52_method_15_code, exceptionTable := #[], attributes := #[] }
def k8m1 : Method := { name := "coderFromArrayLen", desc := "([BI)B", sig := { parameters := [(.array .byte), .int], returnType := some .byte }, accessFlags := 8, code := some k8c1 }
def k8c2 : Code := { maxStack := 5, maxLocals := 6, code := jdk_52_method_16_code, exceptionTable := #[], attributes := #[] }
def k8m2 : Method := { name := "compress", desc := "([CII)[B", sig := { parameters := [(.array .char), .int, .int], returnType := some (.array .byte) }, accessFlags := 9, code := some k8c2 }
def k8c3 : Code := { maxStack := 3, maxLocals := 7, code := jdk_52_method_21_code, exceptionTable := #[], attributes := #[] }
def k8m3 : Method := { name := "compress", desc := "([CI[BII)I", sig := { parameters := [(.array .char), .int, (.array .byte), .int, .int], returnType := some .int }, accessFlags := 9, code := some k8c3 }
/-- java/lang/StringUTF16 -/
def k8 : Class := { plain "java/lang/StringUTF16" (some 0) with
  accessFlags := 48
  interfaces := #[]
  cf := some (fileOf pool8 12 #[.nestMembers #[627, 629, 369]] #[{ accessFlags := 0, nameIndex := 9, descriptorIndex := 10, attributes := #[] }, { accessFlags := 8, nameIndex := 261, descriptorIndex := 262, attributes := #[] }, { accessFlags := 9, nameIndex := 117, descriptorIndex := 122, attributes := #[] }, { accessFlags := 9, nameIndex := 117, descriptorIndex := 118, attributes := #[] }] 48 6 #[] #[{ accessFlags := 26, nameIndex := 61, descriptorIndex := 62, attributes := #[] }, { accessFlags := 26, nameIndex := 65, descriptorIndex := 62, attributes := #[] }, { accessFlags := 24, nameIndex := 430, descriptorIndex := 62, attributes := #[] }, { accessFlags := 4120, nameIndex := 46, descriptorIndex := 47, attributes := #[] }])
  fields := #[{ name := "HI_BYTE_SHIFT", type := .int, accessFlags := 26, slot := 0, constantValue := 0 }, { name := "LO_BYTE_SHIFT", type := .int, accessFlags := 26, slot := 1, constantValue := 0 }, { name := "MAX_LENGTH", type := .int, accessFlags := 24, slot := 2, constantValue := 0 }, { name := "$assertionsDisabled", type := .boolean, accessFlags := 4120, slot := 3, constantValue := 0 }]
  methods := #[k8m0, k8m1, k8m2, k8m3]
  instanceTypes := #[]
  staticTypes := #[.int, .int, .int, .boolean]
  resolved := Array.replicate 635 none
  statics := none }

def pool9 : Array CpInfo := pool [(1, .methodref 2 3), (0, .class_ 4), (0, .nameAndType 5 6), (0, u "java/lang/Object"), (0, u "<init>"), (0, u "()V"), (9, .string 17), (0, u "reasonPhrase"), (0, .methodref 19 20), (0, .class_ 21), (0, .nameAndType 22 23), (0, u "java/util/Objects"), (0, u "requireNonNull"), (0, u "(Ljava/lang/Object;Ljava/lang/String;)Ljava/lang/Object;"), (0, .methodref 25 26), (0, .class_ 27), (0, .nameAndType 28 29), (0, u "java/lang/String"), (0, u "length"), (0, u "()I"), (0, .methodref 25 31), (0, .nameAndType 32 33), (0, u "charAt"), (0, u "(I)C"), (0, .methodref 35 36), (0, .class_ 37), (0, .nameAndType 38 39), (0, u "io/loomwire/handler/codec/http/HttpHeaders"), (0, u "isFieldValueChar"), (0, u "(I)Z"), (3, .fieldref 44 45), (0, .class_ 46), (0, .nameAndType 47 48), (0, u "io/loomwire/handler/codec/http/HttpResponseStatus"), (0, u "code"), (0, u "I"), (0, .fieldref 44 50), (0, .nameAndType 17 51), (0, u "Ljava/lang/String;"), (2, u "KNOWN"), (0, u "[Lio/loomwire/handler/codec/http/HttpResponseStatus;"), (14, u "(ILjava/lang/String;)V"), (11, u "CONTINUE"), (0, u "Lio/loomwire/handler/codec/http/HttpResponseStatus;"), (4, u "SWITCHING_PROTOCOLS"), (1, u "OK"), (6, u "CREATED"), (4, u "ACCEPTED"), (4, u "NON_AUTHORITATIVE_INFORMATION"), (4, u "NO_CONTENT"), (4, u "RESET_CONTENT"), (4, u "PARTIAL_CONTENT"), (4, u "MULTIPLE_CHOICES"), (4, u "MOVED_PERMANENTLY"), (4, u "FOUND"), (4, u "SEE_OTHER"), (4, u "NOT_MODIFIED"), (4, u "TEMPORARY_REDIRECT"), (4, u "PERMANENT_REDIRECT"), (4, u "BAD_REQUEST"), (4, u "UNAUTHORIZED"), (4, u "PAYMENT_REQUIRED"), (4, u "FORBIDDEN"), (4, u "NOT_FOUND"), (4, u "METHOD_NOT_ALLOWED"), (4, u "NOT_ACCEPTABLE"), (4, u "PROXY_AUTHENTICATION_REQUIRED"), (4, u "REQUEST_TIMEOUT"), (4, u "CONFLICT"), (4, u "GONE"), (4, u "LENGTH_REQUIRED"), (4, u "PRECONDITION_FAILED"), (4, u "REQUEST_ENTITY_TOO_LARGE"), (4, u "REQUEST_URI_TOO_LONG"), (4, u "UNSUPPORTED_MEDIA_TYPE"), (4, u "REQUESTED_RANGE_NOT_SATISFIABLE"), (4, u "EXPECTATION_FAILED"), (4, u "MISDIRECTED_REQUEST"), (4, u "UNPROCESSABLE_ENTITY"), (4, u "UPGRADE_REQUIRED"), (4, u "PRECONDITION_REQUIRED"), (4, u "TOO_MANY_REQUESTS"), (4, u "REQUEST_HEADER_FIELDS_TOO_LARGE"), (4, u "INTERNAL_SERVER_ERROR"), (4, u "NOT_IMPLEMENTED"), (4, u "BAD_GATEWAY"), (4, u "SERVICE_UNAVAILABLE"), (4, u "GATEWAY_TIMEOUT"), (4, u "HTTP_VERSION_NOT_SUPPORTED"), (8, u "equals"), (0, u "(Ljava/lang/Object;)Z")] 24

def k9c0 : Code := { maxStack := 3, maxLocals := 4, code := prog_19_method_1_code, exceptionTable := #[], attributes := #[] }
def k9m0 : Method := { name := "<init>", desc := "(ILjava/lang/String;)V", sig := { parameters := [.int, (.object "java/lang/String")], returnType := none }, accessFlags := 1, code := some k9c0 }
def k9c1 : Code := { maxStack := 2, maxLocals := 3, code := prog_19_method_6_code, exceptionTable := #[], attributes := #[] }
def k9m1 : Method := { name := "equals", desc := "(Ljava/lang/Object;)Z", sig := { parameters := [(.object "java/lang/Object")], returnType := some .boolean }, accessFlags := 1, code := some k9c1 }
/-- io/loomwire/handler/codec/http/HttpResponseStatus -/
def k9 : Class := { plain "io/loomwire/handler/codec/http/HttpResponseStatus" (some 0) with
  accessFlags := 49
  interfaces := #[]
  cf := some (fileOf pool9 44 #[] #[{ accessFlags := 1, nameIndex := 5, descriptorIndex := 70, attributes := #[] }, { accessFlags := 1, nameIndex := 316, descriptorIndex := 317, attributes := #[] }] 49 2 #[] #[{ accessFlags := 26, nameIndex := 54, descriptorIndex := 55, attributes := #[] }, { accessFlags := 25, nameIndex := 82, descriptorIndex := 83, attributes := #[] }, { accessFlags := 25, nameIndex := 88, descriptorIndex := 83, attributes := #[] }, { accessFlags := 25, nameIndex := 90, descriptorIndex := 83, attributes := #[] }, { accessFlags := 25, nameIndex := 97, descriptorIndex := 83, attributes := #[] }, { accessFlags := 25, nameIndex := 102, descriptorIndex := 83, attributes := #[] }, { accessFlags := 25, nameIndex := 107, descriptorIndex := 83, attributes := #[] }, { accessFlags := 25, nameIndex := 112, descriptorIndex := 83, attributes := #[] }, { accessFlags := 25, nameIndex := 117, descriptorIndex := 83, attributes := #[] }, { accessFlags := 25, nameIndex := 122, descriptorIndex := 83, attributes := #[] }, { accessFlags := 25, nameIndex := 127, descriptorIndex := 83, attributes := #[] }, { accessFlags := 25, nameIndex := 132, descriptorIndex := 83, attributes := #[] }, { accessFlags := 25, nameIndex := 137, descriptorIndex := 83, attributes := #[] }, { accessFlags := 25, nameIndex := 142, descriptorIndex := 83, attributes := #[] }, { accessFlags := 25, nameIndex := 147, descriptorIndex := 83, attributes := #[] }, { accessFlags := 25, nameIndex := 152, descriptorIndex := 83, attributes := #[] }, { accessFlags := 25, nameIndex := 157, descriptorIndex := 83, attributes := #[] }, { accessFlags := 25, nameIndex := 162, descriptorIndex := 83, attributes := #[] }, { accessFlags := 25, nameIndex := 167, descriptorIndex := 83, attributes := #[] }, { accessFlags := 25, nameIndex := 172, descriptorIndex := 83, attributes := #[] }, { accessFlags := 25, nameIndex := 177, descriptorIndex := 83, attributes := #[] }, { accessFlags := 25, nameIndex := 182, descriptorIndex := 83, attributes := #[] }, { accessFlags := 25, nameIndex := 187, descriptorIndex := 83, attributes := #[] }, { accessFlags := 25, nameIndex := 192, descriptorIndex := 83, attributes := #[] }, { accessFlags := 25, nameIndex := 197, descriptorIndex := 83, attributes := #[] }, { accessFlags := 25, nameIndex := 202, descriptorIndex := 83, attributes := #[] }, { accessFlags := 25, nameIndex := 207, descriptorIndex := 83, attributes := #[] }, { accessFlags := 25, nameIndex := 212, descriptorIndex := 83, attributes := #[] }, { accessFlags := 25, nameIndex := 217, descriptorIndex := 83, attributes := #[] }, { accessFlags := 25, nameIndex := 222, descriptorIndex := 83, attributes := #[] }, { accessFlags := 25, nameIndex := 227, descriptorIndex := 83, attributes := #[] }, { accessFlags := 25, nameIndex := 232, descriptorIndex := 83, attributes := #[] }, { accessFlags := 25, nameIndex := 237, descriptorIndex := 83, attributes := #[] }, { accessFlags := 25, nameIndex := 242, descriptorIndex := 83, attributes := #[] }, { accessFlags := 25, nameIndex := 247, descriptorIndex := 83, attributes := #[] }, { accessFlags := 25, nameIndex := 252, descriptorIndex := 83, attributes := #[] }, { accessFlags := 25, nameIndex := 257, descriptorIndex := 83, attributes := #[] }, { accessFlags := 25, nameIndex := 262, descriptorIndex := 83, attributes := #[] }, { accessFlags := 25, nameIndex := 267, descriptorIndex := 83, attributes := #[] }, { accessFlags := 25, nameIndex := 272, descriptorIndex := 83, attributes := #[] }, { accessFlags := 25, nameIndex := 277, descriptorIndex := 83, attributes := #[] }, { accessFlags := 25, nameIndex := 282, descriptorIndex := 83, attributes := #[] }, { accessFlags := 25, nameIndex := 287, descriptorIndex := 83, attributes := #[] }, { accessFlags := 25, nameIndex := 292, descriptorIndex := 83, attributes := #[] }, { accessFlags := 25, nameIndex := 297, descriptorIndex := 83, attributes := #[] }, { accessFlags := 25, nameIndex := 302, descriptorIndex := 83, attributes := #[] }, { accessFlags := 25, nameIndex := 307, descriptorIndex := 83, attributes := #[] }, { accessFlags := 18, nameIndex := 47, descriptorIndex := 48, attributes := #[] }, { accessFlags := 18, nameIndex := 17, descriptorIndex := 51, attributes := #[] }])
  fields := #[{ name := "KNOWN", type := (.array (.object "io/loomwire/handler/codec/http/HttpResponseStatus")), accessFlags := 26, slot := 0, constantValue := 0 }, { name := "CONTINUE", type := (.object "io/loomwire/handler/codec/http/HttpResponseStatus"), accessFlags := 25, slot := 1, constantValue := 0 }, { name := "SWITCHING_PROTOCOLS", type := (.object "io/loomwire/handler/codec/http/HttpResponseStatus"), accessFlags := 25, slot := 2, constantValue := 0 }, { name := "OK", type := (.object "io/loomwire/handler/codec/http/HttpResponseStatus"), accessFlags := 25, slot := 3, constantValue := 0 }, { name := "CREATED", type := (.object "io/loomwire/handler/codec/http/HttpResponseStatus"), accessFlags := 25, slot := 4, constantValue := 0 }, { name := "ACCEPTED", type := (.object "io/loomwire/handler/codec/http/HttpResponseStatus"), accessFlags := 25, slot := 5, constantValue := 0 }, { name := "NON_AUTHORITATIVE_INFORMATION", type := (.object "io/loomwire/handler/codec/http/HttpResponseStatus"), accessFlags := 25, slot := 6, constantValue := 0 }, { name := "NO_CONTENT", type := (.object "io/loomwire/handler/codec/http/HttpResponseStatus"), accessFlags := 25, slot := 7, constantValue := 0 }, { name := "RESET_CONTENT", type := (.object "io/loomwire/handler/codec/http/HttpResponseStatus"), accessFlags := 25, slot := 8, constantValue := 0 }, { name := "PARTIAL_CONTENT", type := (.object "io/loomwire/handler/codec/http/HttpResponseStatus"), accessFlags := 25, slot := 9, constantValue := 0 }, { name := "MULTIPLE_CHOICES", type := (.object "io/loomwire/handler/codec/http/HttpResponseStatus"), accessFlags := 25, slot := 10, constantValue := 0 }, { name := "MOVED_PERMANENTLY", type := (.object "io/loomwire/handler/codec/http/HttpResponseStatus"), accessFlags := 25, slot := 11, constantValue := 0 }, { name := "FOUND", type := (.object "io/loomwire/handler/codec/http/HttpResponseStatus"), accessFlags := 25, slot := 12, constantValue := 0 }, { name := "SEE_OTHER", type := (.object "io/loomwire/handler/codec/http/HttpResponseStatus"), accessFlags := 25, slot := 13, constantValue := 0 }, { name := "NOT_MODIFIED", type := (.object "io/loomwire/handler/codec/http/HttpResponseStatus"), accessFlags := 25, slot := 14, constantValue := 0 }, { name := "TEMPORARY_REDIRECT", type := (.object "io/loomwire/handler/codec/http/HttpResponseStatus"), accessFlags := 25, slot := 15, constantValue := 0 }, { name := "PERMANENT_REDIRECT", type := (.object "io/loomwire/handler/codec/http/HttpResponseStatus"), accessFlags := 25, slot := 16, constantValue := 0 }, { name := "BAD_REQUEST", type := (.object "io/loomwire/handler/codec/http/HttpResponseStatus"), accessFlags := 25, slot := 17, constantValue := 0 }, { name := "UNAUTHORIZED", type := (.object "io/loomwire/handler/codec/http/HttpResponseStatus"), accessFlags := 25, slot := 18, constantValue := 0 }, { name := "PAYMENT_REQUIRED", type := (.object "io/loomwire/handler/codec/http/HttpResponseStatus"), accessFlags := 25, slot := 19, constantValue := 0 }, { name := "FORBIDDEN", type := (.object "io/loomwire/handler/codec/http/HttpResponseStatus"), accessFlags := 25, slot := 20, constantValue := 0 }, { name := "NOT_FOUND", type := (.object "io/loomwire/handler/codec/http/HttpResponseStatus"), accessFlags := 25, slot := 21, constantValue := 0 }, { name := "METHOD_NOT_ALLOWED", type := (.object "io/loomwire/handler/codec/http/HttpResponseStatus"), accessFlags := 25, slot := 22, constantValue := 0 }, { name := "NOT_ACCEPTABLE", type := (.object "io/loomwire/handler/codec/http/HttpResponseStatus"), accessFlags := 25, slot := 23, constantValue := 0 }, { name := "PROXY_AUTHENTICATION_REQUIRED", type := (.object "io/loomwire/handler/codec/http/HttpResponseStatus"), accessFlags := 25, slot := 24, constantValue := 0 }, { name := "REQUEST_TIMEOUT", type := (.object "io/loomwire/handler/codec/http/HttpResponseStatus"), accessFlags := 25, slot := 25, constantValue := 0 }, { name := "CONFLICT", type := (.object "io/loomwire/handler/codec/http/HttpResponseStatus"), accessFlags := 25, slot := 26, constantValue := 0 }, { name := "GONE", type := (.object "io/loomwire/handler/codec/http/HttpResponseStatus"), accessFlags := 25, slot := 27, constantValue := 0 }, { name := "LENGTH_REQUIRED", type := (.object "io/loomwire/handler/codec/http/HttpResponseStatus"), accessFlags := 25, slot := 28, constantValue := 0 }, { name := "PRECONDITION_FAILED", type := (.object "io/loomwire/handler/codec/http/HttpResponseStatus"), accessFlags := 25, slot := 29, constantValue := 0 }, { name := "REQUEST_ENTITY_TOO_LARGE", type := (.object "io/loomwire/handler/codec/http/HttpResponseStatus"), accessFlags := 25, slot := 30, constantValue := 0 }, { name := "REQUEST_URI_TOO_LONG", type := (.object "io/loomwire/handler/codec/http/HttpResponseStatus"), accessFlags := 25, slot := 31, constantValue := 0 }, { name := "UNSUPPORTED_MEDIA_TYPE", type := (.object "io/loomwire/handler/codec/http/HttpResponseStatus"), accessFlags := 25, slot := 32, constantValue := 0 }, { name := "REQUESTED_RANGE_NOT_SATISFIABLE", type := (.object "io/loomwire/handler/codec/http/HttpResponseStatus"), accessFlags := 25, slot := 33, constantValue := 0 }, { name := "EXPECTATION_FAILED", type := (.object "io/loomwire/handler/codec/http/HttpResponseStatus"), accessFlags := 25, slot := 34, constantValue := 0 }, { name := "MISDIRECTED_REQUEST", type := (.object "io/loomwire/handler/codec/http/HttpResponseStatus"), accessFlags := 25, slot := 35, constantValue := 0 }, { name := "UNPROCESSABLE_ENTITY", type := (.object "io/loomwire/handler/codec/http/HttpResponseStatus"), accessFlags := 25, slot := 36, constantValue := 0 }, { name := "UPGRADE_REQUIRED", type := (.object "io/loomwire/handler/codec/http/HttpResponseStatus"), accessFlags := 25, slot := 37, constantValue := 0 }, { name := "PRECONDITION_REQUIRED", type := (.object "io/loomwire/handler/codec/http/HttpResponseStatus"), accessFlags := 25, slot := 38, constantValue := 0 }, { name := "TOO_MANY_REQUESTS", type := (.object "io/loomwire/handler/codec/http/HttpResponseStatus"), accessFlags := 25, slot := 39, constantValue := 0 }, { name := "REQUEST_HEADER_FIELDS_TOO_LARGE", type := (.object "io/loomwire/handler/codec/http/HttpResponseStatus"), accessFlags := 25, slot := 40, constantValue := 0 }, { name := "INTERNAL_SERVER_ERROR", type := (.object "io/loomwire/handler/codec/http/HttpResponseStatus"), accessFlags := 25, slot := 41, constantValue := 0 }, { name := "NOT_IMPLEMENTED", type := (.object "io/loomwire/handler/codec/http/HttpResponseStatus"), accessFlags := 25, slot := 42, constantValue := 0 }, { name := "BAD_GATEWAY", type := (.object "io/loomwire/handler/codec/http/HttpResponseStatus"), accessFlags := 25, slot := 43, constantValue := 0 }, { name := "SERVICE_UNAVAILABLE", type := (.object "io/loomwire/handler/codec/http/HttpResponseStatus"), accessFlags := 25, slot := 44, constantValue := 0 }, { name := "GATEWAY_TIMEOUT", type := (.object "io/loomwire/handler/codec/http/HttpResponseStatus"), accessFlags := 25, slot := 45, constantValue := 0 }, { name := "HTTP_VERSION_NOT_SUPPORTED", type := (.object "io/loomwire/handler/codec/http/HttpResponseStatus"), accessFlags := 25, slot := 46, constantValue := 0 }, { name := "code", type := .int, accessFlags := 18, slot := 0, constantValue := 0 }, { name := "reasonPhrase", type := (.object "java/lang/String"), accessFlags := 18, slot := 1, constantValue := 0 }]
  methods := #[k9m0, k9m1]
  instanceTypes := #[.int, (.object "java/lang/String")]
  staticTypes := #[(.array (.object "io/loomwire/handler/codec/http/HttpResponseStatus")), (.object "io/loomwire/handler/codec/http/HttpResponseStatus"), (.object "io/loomwire/handler/codec/http/HttpResponseStatus"), (.object "io/loomwire/handler/codec/http/HttpResponseStatus"), (.object "io/loomwire/handler/codec/http/HttpResponseStatus"), (.object "io/loomwire/handler/codec/http/HttpResponseStatus"), (.object "io/loomwire/handler/codec/http/HttpResponseStatus"), (.object "io/loomwire/handler/codec/http/HttpResponseStatus"), (.object "io/loomwire/handler/codec/http/HttpResponseStatus"), (.object "io/loomwire/handler/codec/http/HttpResponseStatus"), (.object "io/loomwire/handler/codec/http/HttpResponseStatus"), (.object "io/loomwire/handler/codec/http/HttpResponseStatus"), (.object "io/loomwire/handler/codec/http/HttpResponseStatus"), (.object "io/loomwire/handler/codec/http/HttpResponseStatus"), (.object "io/loomwire/handler/codec/http/HttpResponseStatus"), (.object "io/loomwire/handler/codec/http/HttpResponseStatus"), (.object "io/loomwire/handler/codec/http/HttpResponseStatus"), (.object "io/loomwire/handler/codec/http/HttpResponseStatus"), (.object "io/loomwire/handler/codec/http/HttpResponseStatus"), (.object "io/loomwire/handler/codec/http/HttpResponseStatus"), (.object "io/loomwire/handler/codec/http/HttpResponseStatus"), (.object "io/loomwire/handler/codec/http/HttpResponseStatus"), (.object "io/loomwire/handler/codec/http/HttpResponseStatus"), (.object "io/loomwire/handler/codec/http/HttpResponseStatus"), (.object "io/loomwire/handler/codec/http/HttpResponseStatus"), (.object "io/loomwire/handler/codec/http/HttpResponseStatus"), (.object "io/loomwire/handler/codec/http/HttpResponseStatus"), (.object "io/loomwire/handler/codec/http/HttpResponseStatus"), (.object "io/loomwire/handler/codec/http/HttpResponseStatus"), (.object "io/loomwire/handler/codec/http/HttpResponseStatus"), (.object "io/loomwire/handler/codec/http/HttpResponseStatus"), (.object "io/loomwire/handler/codec/http/HttpResponseStatus"), (.object "io/loomwire/handler/codec/http/HttpResponseStatus"), (.object "io/loomwire/handler/codec/http/HttpResponseStatus"), (.object "io/loomwire/handler/codec/http/HttpResponseStatus"), (.object "io/loomwire/handler/codec/http/HttpResponseStatus"), (.object "io/loomwire/handler/codec/http/HttpResponseStatus"), (.object "io/loomwire/handler/codec/http/HttpResponseStatus"), (.object "io/loomwire/handler/codec/http/HttpResponseStatus"), (.object "io/loomwire/handler/codec/http/HttpResponseStatus"), (.object "io/loomwire/handler/codec/http/HttpResponseStatus"), (.object "io/loomwire/handler/codec/http/HttpResponseStatus"), (.object "io/loomwire/handler/codec/http/HttpResponseStatus"), (.object "io/loomwire/handler/codec/http/HttpResponseStatus"), (.object "io/loomwire/handler/codec/http/HttpResponseStatus"), (.object "io/loomwire/handler/codec/http/HttpResponseStatus"), (.object "io/loomwire/handler/codec/http/HttpResponseStatus")]
  resolved := Array.replicate 342 none
  statics := none }

def pool10 : Array CpInfo := pool [(2, .class_ 4), (1, u "java/lang/Object"), (0, u "<init>"), (0, u "()V"), (35, .class_ 44), (1, u "java/util/Objects"), (0, u "requireNonNull"), (48, u "(Ljava/lang/Object;Ljava/lang/String;)Ljava/lang/Object;")] 89

def k10m0 : Method := { name := "<init>", desc := "()V", sig := { parameters := [], returnType := none }, accessFlags := 2, code := none }
def k10c1 : Code := { maxStack := 3, maxLocals := 2, code := jdk_31_method_11_code, exceptionTable := #[], attributes := #[] }
def k10m1 : Method := { name := "requireNonNull", desc := "(Ljava/lang/Object;Ljava/lang/String;)Ljava/lang/Object;", sig := { parameters := [(.object "java/lang/Object"), (.object "java/lang/String")], returnType := some (.object "java/lang/Object") }, accessFlags := 9, code := some k10c1 }
/-- java/util/Objects -/
def k10 : Class := { plain "java/util/Objects" (some 0) with
  accessFlags := 49
  interfaces := #[]
  cf := some (fileOf pool10 42 #[] #[{ accessFlags := 2, nameIndex := 5, descriptorIndex := 6, attributes := #[] }, { accessFlags := 9, nameIndex := 45, descriptorIndex := 94, attributes := #[] }] 49 2 #[] #[])
  fields := #[]
  methods := #[k10m0, k10m1]
  instanceTypes := #[]
  staticTypes := #[]
  resolved := Array.replicate 184 none
  statics := none }

def pool11 : Array CpInfo := pool [(1, .class_ 2), (0, u "java/lang/String"), (1, .class_ 6), (1, u "java/lang/Object"), (0, u "<init>"), (0, u "()V"), (0, .methodref 1 10), (0, .nameAndType 11 12), (0, u "checkIndex"), (0, u "(II)V"), (1, .class_ 16), (1, u "java/lang/StringLatin1"), (36, u "([BI)C"), (67, u "$assertionsDisabled"), (0, u "Z"), (98, .class_ 223), (1, u "java/lang/StringLatin1$LinesSpliterator"), (28, u "charAt"), (137, .class_ 391), (0, u "java/lang/StringLatin1$CharsSpliterator")] 3

def k11m0 : Method := { name := "<init>", desc := "()V", sig := { parameters := [], returnType := none }, accessFlags := 0, code := none }
def k11c1 : Code := { maxStack := 2, maxLocals := 2, code := jdk_43_method_2_code, exceptionTable := #[], attributes := #[] }
def k11m1 : Method := { name := "charAt", desc := "([BI)C", sig := { parameters := [(.array .byte), .int], returnType := some .char }, accessFlags := 9, code := some k11c1 }
/-- java/lang/StringLatin1 -/
def k11 : Class := { plain "java/lang/StringLatin1" (some 0) with
  accessFlags := 48
  interfaces := #[]
  cf := some (fileOf pool11 14 #[.nestMembers #[390, 221]] #[{ accessFlags := 0, nameIndex := 7, descriptorIndex := 8, attributes := #[] }, { accessFlags := 9, nameIndex := 252, descriptorIndex := 53, attributes := #[] }] 48 4 #[] #[{ accessFlags := 4120, nameIndex := 121, descriptorIndex := 122, attributes := #[] }])
  fields := #[{ name := "$assertionsDisabled", type := .boolean, accessFlags := 4120, slot := 0, constantValue := 0 }]
  methods := #[k11m0, k11m1]
  instanceTypes := #[]
  staticTypes := #[.boolean]
  resolved := Array.replicate 395 none
  statics := none }

def pool12 : Array CpInfo := pool [(2, .class_ 4), (1, u "java/lang/Object"), (0, u "<init>"), (0, u "()V"), (17, .class_ 26), (1, u "jdk/internal/util/Preconditions"), (6, u "checkIndex"), (21, .class_ 56), (0, u "jdk/internal/util/Preconditions$4"), (57, .class_ 115), (0, u "jdk/internal/util/Preconditions$1"), (7, u "SIOOBE_FORMATTER"), (0, u "Ljava/util/function/BiFunction;"), (0, .class_ 126), (0, u "jdk/internal/util/Preconditions$2"), (3, u "AIOOBE_FORMATTER"), (0, .class_ 132), (0, u "jdk/internal/util/Preconditions$3"), (3, u "IOOBE_FORMATTER"), (41, u "(IILjava/util/function/BiFunction;)I")] 15

def k12m0 : Method := { name := "<init>", desc := "()V", sig := { parameters := [], returnType := none }, accessFlags := 1, code := none }
def k12c1 : Code := { maxStack := 3, maxLocals := 3, code := jdk_41_method_11_code, exceptionTable := #[], attributes := #[] }
def k12m1 : Method := { name := "checkIndex", desc := "(IILjava/util/function/BiFunction;)I", sig := { parameters := [.int, .int, (.object "java/util/function/BiFunction")], returnType := some .int }, accessFlags := 9, code := some k12c1 }
/-- jdk/internal/util/Preconditions -/
def k12 : Class := { plain "jdk/internal/util/Preconditions" (some 0) with
  accessFlags := 33
  interfaces := #[]
  cf := some (fileOf pool12 24 #[.nestMembers #[55, 131, 125, 114]] #[{ accessFlags := 1, nameIndex := 5, descriptorIndex := 6, attributes := #[] }, { accessFlags := 9, nameIndex := 33, descriptorIndex := 178, attributes := #[] }] 33 2 #[] #[{ accessFlags := 25, nameIndex := 123, descriptorIndex := 124, attributes := #[] }, { accessFlags := 25, nameIndex := 130, descriptorIndex := 124, attributes := #[] }, { accessFlags := 25, nameIndex := 136, descriptorIndex := 124, attributes := #[] }])
  fields := #[{ name := "SIOOBE_FORMATTER", type := (.object "java/util/function/BiFunction"), accessFlags := 25, slot := 0, constantValue := 0 }, { name := "AIOOBE_FORMATTER", type := (.object "java/util/function/BiFunction"), accessFlags := 25, slot := 1, constantValue := 0 }, { name := "IOOBE_FORMATTER", type := (.object "java/util/function/BiFunction"), accessFlags := 25, slot := 2, constantValue := 0 }]
  methods := #[k12m0, k12m1]
  instanceTypes := #[]
  staticTypes := #[(.object "java/util/function/BiFunction"), (.object "java/util/function/BiFunction"), (.object "java/util/function/BiFunction")]
  resolved := Array.replicate 194 none
  statics := some 1 }

def pool13 : Array CpInfo := pool [(8, .class_ 10), (1, u "java/lang/Iterable"), (24, .class_ 36), (0, u "java/lang/Object")] 25

/-- java/lang/Iterable -/
def k13 : Class := { plain "java/lang/Iterable" (some 0) with
  accessFlags := 1537
  interfaces := #[]
  cf := some (fileOf pool13 8 #[] #[] 1537 35 #[] #[])
  fields := #[]
  methods := #[]
  instanceTypes := #[]
  staticTypes := #[]
  resolved := Array.replicate 62 none
  statics := none }

def pool14 : Array CpInfo := pool [(2, .class_ 4), (1, u "io/loomwire/handler/codec/http/HttpHeaders"), (0, u "<init>"), (2, .class_ 10), (1, u "java/lang/Object"), (0, u "()V"), (2, u "NO_FIELDS"), (0, u "[Ljava/lang/String;"), (2, u "fields"), (2, u "readOnly"), (0, u "Z"), (98, u "used"), (0, u "I"), (9, .class_ 133), (0, u "io/loomwire/handler/codec/http/HttpHeaders$1"), (27, u "TOKEN"), (0, u "[Z"), (20, u "(I)Z"), (55, u "isFieldValueChar"), (14, u "EMPTY"), (0, u "Lio/loomwire/handler/codec/http/HttpHeaders;"), (6, .class_ 263), (0, u "java/lang/Iterable")] 52

def k14m0 : Method := { name := "<init>", desc := "()V", sig := { parameters := [], returnType := none }, accessFlags := 1, code := none }
def k14c1 : Code := { maxStack := 2, maxLocals := 1, code := prog_12_method_21_code, exceptionTable := #[], attributes := #[] }
def k14m1 : Method := { name := "isFieldValueChar", desc := "(I)Z", sig := { parameters := [.int], returnType := some .boolean }, accessFlags := 8, code := some k14c1 }
/-- io/loomwire/handler/codec/http/HttpHeaders -/
def k14 : Class := { plain "io/loomwire/handler/codec/http/HttpHeaders" (some 0) with
  accessFlags := 49
  interfaces := #[13]
  cf := some (fileOf pool14 2 #[.nestMembers #[132]] #[{ accessFlags := 1, nameIndex := 5, descriptorIndex := 11, attributes := #[] }, { accessFlags := 8, nameIndex := 239, descriptorIndex := 183, attributes := #[] }] 49 8 #[262] #[{ accessFlags := 24, nameIndex := 254, descriptorIndex := 255, attributes := #[] }, { accessFlags := 26, nameIndex := 14, descriptorIndex := 15, attributes := #[] }, { accessFlags := 26, nameIndex := 161, descriptorIndex := 162, attributes := #[] }, { accessFlags := 2, nameIndex := 18, descriptorIndex := 15, attributes := #[] }, { accessFlags := 2, nameIndex := 121, descriptorIndex := 122, attributes := #[] }, { accessFlags := 18, nameIndex := 21, descriptorIndex := 22, attributes := #[] }])
  fields := #[{ name := "EMPTY", type := (.object "io/loomwire/handler/codec/http/HttpHeaders"), accessFlags := 24, slot := 0, constantValue := 0 }, { name := "NO_FIELDS", type := (.array (.object "java/lang/String")), accessFlags := 26, slot := 1, constantValue := 0 }, { name := "TOKEN", type := (.array .boolean), accessFlags := 26, slot := 2, constantValue := 0 }, { name := "fields", type := (.array (.object "java/lang/String")), accessFlags := 2, slot := 0, constantValue := 0 }, { name := "used", type := .int, accessFlags := 2, slot := 1, constantValue := 0 }, { name := "readOnly", type := .boolean, accessFlags := 18, slot := 2, constantValue := 0 }]
  methods := #[k14m0, k14m1]
  instanceTypes := #[(.array (.object "java/lang/String")), .int, .boolean]
  staticTypes := #[(.object "io/loomwire/handler/codec/http/HttpHeaders"), (.array (.object "java/lang/String")), (.array .boolean)]
  resolved := Array.replicate 316 none
  statics := none }

def pool15 : Array CpInfo := pool [(1, .methodref 2 3), (0, .class_ 4), (0, .nameAndType 5 6), (0, u "java/lang/Object"), (0, u "<init>"), (0, u "()V"), (1, .class_ 10), (1, u "java/lang/Number"), (2, .class_ 14), (0, u "java/io/Serializable"), (0, u "serialVersionUID"), (0, u "J")] 20

def k15c0 : Code := { maxStack := 1, maxLocals := 1, code := jdk_18_method_1_code, exceptionTable := #[], attributes := #[] }
def k15m0 : Method := { name := "<init>", desc := "()V", sig := { parameters := [], returnType := none }, accessFlags := 1, code := some k15c0 }
/-- java/lang/Number -/
def k15 : Class := { plain "java/lang/Number" (some 0) with
  accessFlags := 1057
  interfaces := #[2]
  cf := some (fileOf pool15 8 #[] #[{ accessFlags := 1, nameIndex := 5, descriptorIndex := 6, attributes := #[] }] 1057 2 #[13] #[{ accessFlags := 26, nameIndex := 15, descriptorIndex := 16, attributes := #[] }])
  fields := #[{ name := "serialVersionUID", type := .long, accessFlags := 26, slot := 0, constantValue := 0 }]
  methods := #[k15m0]
  instanceTypes := #[]
  staticTypes := #[.long]
  resolved := Array.replicate 37 none
  statics := none }

def pool16 : Array CpInfo := pool [(1, .class_ 2), (0, u "java/lang/Integer"), (16, u "digits"), (0, u "[C"), (46, u "<init>"), (17, u "DigitOnes"), (0, u "[B"), (2, u "DigitTens"), (10, .nameAndType 67 101), (0, u "()V"), (85, u "valueOf"), (0, u "(I)Ljava/lang/Integer;"), (0, .class_ 190), (0, u "java/lang/Integer$IntegerCache"), (0, .fieldref 189 192), (0, .nameAndType 193 194), (0, u "high"), (0, u "I"), (0, .fieldref 189 196), (0, .nameAndType 197 198), (0, u "cache"), (0, u "[Ljava/lang/Integer;"), (0, .methodref 1 200), (0, .nameAndType 67 201), (0, u "(I)V"), (0, .methodref 203 100), (0, .class_ 204), (0, u "java/lang/Number"), (0, .fieldref 1 206), (0, .nameAndType 207 194), (0, u "value"), (94, u "TYPE"), (0, u "Ljava/lang/Class;"), (0, .class_ 305), (0, u "java/lang/Comparable"), (0, .class_ 307), (0, u "java/lang/constant/Constable"), (0, .class_ 309), (0, u "java/lang/constant/ConstantDesc"), (0, u "MIN_VALUE"), (1, u "MAX_VALUE"), (3, u "SIZE"), (1, u "BYTES"), (1, u "serialVersionUID"), (0, u "J")] 131

def k16c0 : Code := { maxStack := 3, maxLocals := 1, code := jdk_33_method_22_code, exceptionTable := #[], attributes := #[] }
def k16m0 : Method := { name := "valueOf", desc := "(I)Ljava/lang/Integer;", sig := { parameters := [.int], returnType := some (.object "java/lang/Integer") }, accessFlags := 9, code := some k16c0 }
def k16c1 : Code := { maxStack := 2, maxLocals := 2, code := jdk_33_method_23_code, exceptionTable := #[], attributes := #[] }
def k16m1 : Method := { name := "<init>", desc := "(I)V", sig := { parameters := [.int], returnType := none }, accessFlags := 1, code := some k16c1 }
/-- java/lang/Integer -/
def k16 : Class := { plain "java/lang/Integer" (some 15) with
  accessFlags := 49
  interfaces := #[3, 5, 6]
  cf := some (fileOf pool16 1 #[.nestMembers #[189]] #[{ accessFlags := 9, nameIndex := 187, descriptorIndex := 188, attributes := #[] }, { accessFlags := 1, nameIndex := 67, descriptorIndex := 201, attributes := #[] }] 49 203 #[304, 306, 308] #[{ accessFlags := 25, nameIndex := 310, descriptorIndex := 194, attributes := #[] }, { accessFlags := 25, nameIndex := 312, descriptorIndex := 194, attributes := #[] }, { accessFlags := 25, nameIndex := 302, descriptorIndex := 303, attributes := #[] }, { accessFlags := 24, nameIndex := 19, descriptorIndex := 20, attributes := #[] }, { accessFlags := 24, nameIndex := 89, descriptorIndex := 86, attributes := #[] }, { accessFlags := 24, nameIndex := 85, descriptorIndex := 86, attributes := #[] }, { accessFlags := 18, nameIndex := 207, descriptorIndex := 194, attributes := #[] }, { accessFlags := 25, nameIndex := 316, descriptorIndex := 194, attributes := #[] }, { accessFlags := 25, nameIndex := 318, descriptorIndex := 194, attributes := #[] }, { accessFlags := 26, nameIndex := 320, descriptorIndex := 321, attributes := #[] }])
  fields := #[{ name := "MIN_VALUE", type := .int, accessFlags := 25, slot := 0, constantValue := 0 }, { name := "MAX_VALUE", type := .int, accessFlags := 25, slot := 1, constantValue := 0 }, { name := "TYPE", type := (.object "java/lang/Class"), accessFlags := 25, slot := 2, constantValue := 0 }, { name := "digits", type := (.array .char), accessFlags := 24, slot := 3, constantValue := 0 }, { name := "DigitTens", type := (.array .byte), accessFlags := 24, slot := 4, constantValue := 0 }, { name := "DigitOnes", type := (.array .byte), accessFlags := 24, slot := 5, constantValue := 0 }, { name := "value", type := .int, accessFlags := 18, slot := 0, constantValue := 0 }, { name := "SIZE", type := .int, accessFlags := 25, slot := 6, constantValue := 0 }, { name := "BYTES", type := .int, accessFlags := 25, slot := 7, constantValue := 0 }, { name := "serialVersionUID", type := .long, accessFlags := 26, slot := 8, constantValue := 0 }]
  methods := #[k16m0, k16m1]
  instanceTypes := #[.int]
  staticTypes := #[.int, .int, (.object "java/lang/Class"), (.array .char), (.array .byte), (.array .byte), .int, .int, .long]
  resolved := Array.replicate 453 none
  statics := none }

def pool17 : Array CpInfo := pool [(2, .class_ 4), (1, u "java/lang/Object"), (0, u "<init>"), (0, u "()V"), (0, .class_ 8), (0, u "java/lang/Integer"), (7, .class_ 18), (1, u "java/lang/Integer$IntegerCache"), (0, u "$assertionsDisabled"), (0, u "Z"), (26, u "high"), (0, u "I"), (8, u "archivedCache"), (0, u "[Ljava/lang/Integer;"), (12, u "cache"), (0, u "low")] 27

def k17m0 : Method := { name := "<init>", desc := "()V", sig := { parameters := [], returnType := none }, accessFlags := 2, code := none }
/-- java/lang/Integer$IntegerCache -/
def k17 : Class := { plain "java/lang/Integer$IntegerCache" (some 0) with
  accessFlags := 48
  interfaces := #[]
  cf := some (fileOf pool17 16 #[.nestHost 7] #[{ accessFlags := 2, nameIndex := 5, descriptorIndex := 6, attributes := #[] }] 48 2 #[] #[{ accessFlags := 24, nameIndex := 72, descriptorIndex := 48, attributes := #[] }, { accessFlags := 24, nameIndex := 47, descriptorIndex := 48, attributes := #[] }, { accessFlags := 24, nameIndex := 71, descriptorIndex := 58, attributes := #[] }, { accessFlags := 8, nameIndex := 57, descriptorIndex := 58, attributes := #[] }, { accessFlags := 4120, nameIndex := 19, descriptorIndex := 20, attributes := #[] }])
  fields := #[{ name := "low", type := .int, accessFlags := 24, slot := 0, constantValue := 0 }, { name := "high", type := .int, accessFlags := 24, slot := 1, constantValue := 0 }, { name := "cache", type := (.array (.object "java/lang/Integer")), accessFlags := 24, slot := 2, constantValue := 0 }, { name := "archivedCache", type := (.array (.object "java/lang/Integer")), accessFlags := 8, slot := 3, constantValue := 0 }, { name := "$assertionsDisabled", type := .boolean, accessFlags := 4120, slot := 4, constantValue := 0 }]
  methods := #[k17m0]
  instanceTypes := #[]
  staticTypes := #[.int, .int, (.array (.object "java/lang/Integer")), (.array (.object "java/lang/Integer")), .boolean]
  resolved := Array.replicate 100 none
  statics := some 2 }

def pool18 : Array CpInfo := pool [(9, u "<init>"), (6, .class_ 18), (1, u "java/lang/Object"), (0, u "()V"), (1, .class_ 23), (1, u "jdk/internal/util/ArraysSupport"), (0, u "LOG2_ARRAY_LONG_INDEX_SCALE"), (0, u "I"), (2, u "U"), (0, u "Ljdk/internal/misc/Unsafe;"), (8, u "BIG_ENDIAN"), (0, u "Z"), (8, u "LOG2_BYTE_BIT_SIZE"), (4, u "LOG2_ARRAY_INT_INDEX_SCALE"), (54, u "JLA"), (0, u "Ljdk/internal/access/JavaLangAccess;"), (11, u "LOG2_ARRAY_BOOLEAN_INDEX_SCALE"), (9, u "LOG2_ARRAY_BYTE_INDEX_SCALE"), (5, u "LOG2_ARRAY_CHAR_INDEX_SCALE"), (5, u "LOG2_ARRAY_SHORT_INDEX_SCALE"), (18, u "LOG2_ARRAY_FLOAT_INDEX_SCALE"), (24, u "LOG2_ARRAY_DOUBLE_INDEX_SCALE"), (89, u "T_BOOLEAN"), (2, u "T_CHAR"), (1, u "T_FLOAT"), (1, u "T_DOUBLE"), (1, u "T_BYTE"), (1, u "T_SHORT"), (1, u "T_INT"), (1, u "T_LONG"), (1, u "SOFT_MAX_ARRAY_LENGTH")] 83

def k18m0 : Method := { name := "<init>", desc := "()V", sig := { parameters := [], returnType := none }, accessFlags := 2, code := none }
/-- jdk/internal/util/ArraysSupport -/
def k18 : Class := { plain "jdk/internal/util/ArraysSupport" (some 0) with
  accessFlags := 33
  interfaces := #[]
  cf := some (fileOf pool18 21 #[] #[{ accessFlags := 2, nameIndex := 9, descriptorIndex := 19, attributes := #[] }] 33 16 #[] #[{ accessFlags := 24, nameIndex := 28, descriptorIndex := 29, attributes := #[] }, { accessFlags := 26, nameIndex := 38, descriptorIndex := 39, attributes := #[] }, { accessFlags := 25, nameIndex := 121, descriptorIndex := 25, attributes := #[] }, { accessFlags := 25, nameIndex := 131, descriptorIndex := 25, attributes := #[] }, { accessFlags := 25, nameIndex := 137, descriptorIndex := 25, attributes := #[] }, { accessFlags := 25, nameIndex := 143, descriptorIndex := 25, attributes := #[] }, { accessFlags := 25, nameIndex := 53, descriptorIndex := 25, attributes := #[] }, { accessFlags := 25, nameIndex := 24, descriptorIndex := 25, attributes := #[] }, { accessFlags := 25, nameIndex := 162, descriptorIndex := 25, attributes := #[] }, { accessFlags := 25, nameIndex := 187, descriptorIndex := 25, attributes := #[] }, { accessFlags := 26, nameIndex := 48, descriptorIndex := 25, attributes := #[] }, { accessFlags := 25, nameIndex := 277, descriptorIndex := 25, attributes := #[] }, { accessFlags := 25, nameIndex := 280, descriptorIndex := 25, attributes := #[] }, { accessFlags := 25, nameIndex := 282, descriptorIndex := 25, attributes := #[] }, { accessFlags := 25, nameIndex := 284, descriptorIndex := 25, attributes := #[] }, { accessFlags := 25, nameIndex := 286, descriptorIndex := 25, attributes := #[] }, { accessFlags := 25, nameIndex := 288, descriptorIndex := 25, attributes := #[] }, { accessFlags := 25, nameIndex := 290, descriptorIndex := 25, attributes := #[] }, { accessFlags := 25, nameIndex := 292, descriptorIndex := 25, attributes := #[] }, { accessFlags := 26, nameIndex := 108, descriptorIndex := 109, attributes := #[] }, { accessFlags := 25, nameIndex := 294, descriptorIndex := 25, attributes := #[] }])
  fields := #[{ name := "U", type := (.object "jdk/internal/misc/Unsafe"), accessFlags := 24, slot := 0, constantValue := 0 }, { name := "BIG_ENDIAN", type := .boolean, accessFlags := 26, slot := 1, constantValue := 0 }, { name := "LOG2_ARRAY_BOOLEAN_INDEX_SCALE", type := .int, accessFlags := 25, slot := 2, constantValue := 0 }, { name := "LOG2_ARRAY_BYTE_INDEX_SCALE", type := .int, accessFlags := 25, slot := 3, constantValue := 0 }, { name := "LOG2_ARRAY_CHAR_INDEX_SCALE", type := .int, accessFlags := 25, slot := 4, constantValue := 0 }, { name := "LOG2_ARRAY_SHORT_INDEX_SCALE", type := .int, accessFlags := 25, slot := 5, constantValue := 0 }, { name := "LOG2_ARRAY_INT_INDEX_SCALE", type := .int, accessFlags := 25, slot := 6, constantValue := 0 }, { name := "LOG2_ARRAY_LONG_INDEX_SCALE", type := .int, accessFlags := 25, slot := 7, constantValue := 0 }, { name := "LOG2_ARRAY_FLOAT_INDEX_SCALE", type := .int, accessFlags := 25, slot := 8, constantValue := 0 }, { name := "LOG2_ARRAY_DOUBLE_INDEX_SCALE", type := .int, accessFlags := 25, slot := 9, constantValue := 0 }, { name := "LOG2_BYTE_BIT_SIZE", type := .int, accessFlags := 26, slot := 10, constantValue := 0 }, { name := "T_BOOLEAN", type := .int, accessFlags := 25, slot := 11, constantValue := 0 }, { name := "T_CHAR", type := .int, accessFlags := 25, slot := 12, constantValue := 0 }, { name := "T_FLOAT", type := .int, accessFlags := 25, slot := 13, constantValue := 0 }, { name := "T_DOUBLE", type := .int, accessFlags := 25, slot := 14, constantValue := 0 }, { name := "T_BYTE", type := .int, accessFlags := 25, slot := 15, constantValue := 0 }, { name := "T_SHORT", type := .int, accessFlags := 25, slot := 16, constantValue := 0 }, { name := "T_INT", type := .int, accessFlags := 25, slot := 17, constantValue := 0 }, { name := "T_LONG", type := .int, accessFlags := 25, slot := 18, constantValue := 0 }, { name := "JLA", type := (.object "jdk/internal/access/JavaLangAccess"), accessFlags := 26, slot := 19, constantValue := 0 }, { name := "SOFT_MAX_ARRAY_LENGTH", type := .int, accessFlags := 25, slot := 20, constantValue := 0 }]
  methods := #[k18m0]
  instanceTypes := #[]
  staticTypes := #[(.object "jdk/internal/misc/Unsafe"), .boolean, .int, .int, .int, .int, .int, .int, .int, .int, .int, .int, .int, .int, .int, .int, .int, .int, .int, (.object "jdk/internal/access/JavaLangAccess"), .int]
  resolved := Array.replicate 378 none
  statics := none }

def pool19 : Array CpInfo := pool [(1, u "java/lang/Cloneable"), (0, .class_ 1), (0, u "java/lang/Object"), (0, .class_ 3)] 3

/-- java/lang/Cloneable -/
def k19 : Class := { plain "java/lang/Cloneable" (some 0) with
  accessFlags := 1537
  interfaces := #[]
  cf := some (fileOf pool19 2 #[] #[] 1537 4 #[] #[])
  fields := #[]
  methods := #[]
  instanceTypes := #[]
  staticTypes := #[]
  resolved := Array.replicate 8 none
  statics := none }

/-- the primitive byte -/
def k20 : Class := { plain "byte" none with kind := .primitive 'B', accessFlags := 0x411 }
/-- [B -/
def k21 : Class := { plain "[B" (some 0) with kind := .array 20 .byte, interfaces := #[19, 2], accessFlags := 1041 }

/-- the primitive char -/
def k22 : Class := { plain "char" none with kind := .primitive 'C', accessFlags := 0x411 }
/-- [C -/
def k23 : Class := { plain "[C" (some 0) with kind := .array 22 .char, interfaces := #[19, 2], accessFlags := 1041 }

/-- the primitive int -/
def k24 : Class := { plain "int" none with kind := .primitive 'I', accessFlags := 0x411 }
/-- [I -/
def k25 : Class := { plain "[I" (some 0) with kind := .array 24 .int, interfaces := #[19, 2], accessFlags := 1041 }

/-- [Ljava/lang/Integer; -/
def k26 : Class := { plain "[Ljava/lang/Integer;" (some 0) with kind := .array 16 (.object "java/lang/Integer"), interfaces := #[19, 2], accessFlags := 1041 }

def heap : Heap := #[{ cls := 7, slots := #[.long 0, .int 1, .null, .int 0, .null, .int 0, .int 0], vm := .statics 7 },
  { cls := 12, slots := #[.null, .null, .null], vm := .statics 12 },
  { cls := 17, slots := #[.int 0, .int 127, .ref 3, .null, .int 0], vm := .statics 17 },
  { cls := 26, slots := #[.ref 4, .ref 5, .ref 6, .ref 7, .ref 8, .ref 9, .ref 10, .ref 11, .ref 12, .ref 13, .ref 14, .ref 15, .ref 16, .ref 17, .ref 18, .ref 19, .ref 20, .ref 21, .ref 22, .ref 23, .ref 24, .ref 25, .ref 26, .ref 27, .ref 28, .ref 29, .ref 30, .ref 31, .ref 32, .ref 33, .ref 34, .ref 35, .ref 36, .ref 37, .ref 38, .ref 39, .ref 40, .ref 41, .ref 42, .ref 43, .ref 44, .ref 45, .ref 46, .ref 47, .ref 48, .ref 49, .ref 50, .ref 51, .ref 52, .ref 53, .ref 54, .ref 55, .ref 56, .ref 57, .ref 58, .ref 59, .ref 60, .ref 61, .ref 62, .ref 63, .ref 64, .ref 65, .ref 66, .ref 67, .ref 68, .ref 69, .ref 70, .ref 71, .ref 72, .ref 73, .ref 74, .ref 75, .ref 76, .ref 77, .ref 78, .ref 79, .ref 80, .ref 81, .ref 82, .ref 83, .ref 84, .ref 85, .ref 86, .ref 87, .ref 88, .ref 89, .ref 90, .ref 91, .ref 92, .ref 93, .ref 94, .ref 95, .ref 96, .ref 97, .ref 98, .ref 99, .ref 100, .ref 101, .ref 102, .ref 103, .ref 104, .ref 105, .ref 106, .ref 107, .ref 108, .ref 109, .ref 110, .ref 111, .ref 112, .ref 113, .ref 114, .ref 115, .ref 116, .ref 117, .ref 118, .ref 119, .ref 120, .ref 121, .ref 122, .ref 123, .ref 124, .ref 125, .ref 126, .ref 127, .ref 128, .ref 129, .ref 130, .ref 131, .ref 132, .ref 133, .ref 134, .ref 135, .ref 136, .ref 137, .ref 138, .ref 139, .ref 140, .ref 141, .ref 142, .ref 143, .ref 144, .ref 145, .ref 146, .ref 147, .ref 148, .ref 149, .ref 150, .ref 151, .ref 152, .ref 153, .ref 154, .ref 155, .ref 156, .ref 157, .ref 158, .ref 159, .ref 160, .ref 161, .ref 162, .ref 163, .ref 164, .ref 165, .ref 166, .ref 167, .ref 168, .ref 169, .ref 170, .ref 171, .ref 172, .ref 173, .ref 174, .ref 175, .ref 176, .ref 177, .ref 178, .ref 179, .ref 180, .ref 181, .ref 182, .ref 183, .ref 184, .ref 185, .ref 186, .ref 187, .ref 188, .ref 189, .ref 190, .ref 191, .ref 192, .ref 193, .ref 194, .ref 195, .ref 196, .ref 197, .ref 198, .ref 199, .ref 200, .ref 201, .ref 202, .ref 203, .ref 204, .ref 205, .ref 206, .ref 207, .ref 208, .ref 209, .ref 210, .ref 211, .ref 212, .ref 213, .ref 214, .ref 215, .ref 216, .ref 217, .ref 218, .ref 219, .ref 220, .ref 221, .ref 222, .ref 223, .ref 224, .ref 225, .ref 226, .ref 227, .ref 228, .ref 229, .ref 230, .ref 231, .ref 232, .ref 233, .ref 234, .ref 235, .ref 236, .ref 237, .ref 238, .ref 239, .ref 240, .ref 241, .ref 242, .ref 243, .ref 244, .ref 245, .ref 246, .ref 247, .ref 248, .ref 249, .ref 250, .ref 251, .ref 252, .ref 253, .ref 254, .ref 255, .ref 256, .ref 257, .ref 258, .ref 259], vm := .none },
  { cls := 16, slots := #[.int (-128)], vm := .none },
  { cls := 16, slots := #[.int (-127)], vm := .none },
  { cls := 16, slots := #[.int (-126)], vm := .none },
  { cls := 16, slots := #[.int (-125)], vm := .none },
  { cls := 16, slots := #[.int (-124)], vm := .none },
  { cls := 16, slots := #[.int (-123)], vm := .none },
  { cls := 16, slots := #[.int (-122)], vm := .none },
  { cls := 16, slots := #[.int (-121)], vm := .none },
  { cls := 16, slots := #[.int (-120)], vm := .none },
  { cls := 16, slots := #[.int (-119)], vm := .none },
  { cls := 16, slots := #[.int (-118)], vm := .none },
  { cls := 16, slots := #[.int (-117)], vm := .none },
  { cls := 16, slots := #[.int (-116)], vm := .none },
  { cls := 16, slots := #[.int (-115)], vm := .none },
  { cls := 16, slots := #[.int (-114)], vm := .none },
  { cls := 16, slots := #[.int (-113)], vm := .none },
  { cls := 16, slots := #[.int (-112)], vm := .none },
  { cls := 16, slots := #[.int (-111)], vm := .none },
  { cls := 16, slots := #[.int (-110)], vm := .none },
  { cls := 16, slots := #[.int (-109)], vm := .none },
  { cls := 16, slots := #[.int (-108)], vm := .none },
  { cls := 16, slots := #[.int (-107)], vm := .none },
  { cls := 16, slots := #[.int (-106)], vm := .none },
  { cls := 16, slots := #[.int (-105)], vm := .none },
  { cls := 16, slots := #[.int (-104)], vm := .none },
  { cls := 16, slots := #[.int (-103)], vm := .none },
  { cls := 16, slots := #[.int (-102)], vm := .none },
  { cls := 16, slots := #[.int (-101)], vm := .none },
  { cls := 16, slots := #[.int (-100)], vm := .none },
  { cls := 16, slots := #[.int (-99)], vm := .none },
  { cls := 16, slots := #[.int (-98)], vm := .none },
  { cls := 16, slots := #[.int (-97)], vm := .none },
  { cls := 16, slots := #[.int (-96)], vm := .none },
  { cls := 16, slots := #[.int (-95)], vm := .none },
  { cls := 16, slots := #[.int (-94)], vm := .none },
  { cls := 16, slots := #[.int (-93)], vm := .none },
  { cls := 16, slots := #[.int (-92)], vm := .none },
  { cls := 16, slots := #[.int (-91)], vm := .none },
  { cls := 16, slots := #[.int (-90)], vm := .none },
  { cls := 16, slots := #[.int (-89)], vm := .none },
  { cls := 16, slots := #[.int (-88)], vm := .none },
  { cls := 16, slots := #[.int (-87)], vm := .none },
  { cls := 16, slots := #[.int (-86)], vm := .none },
  { cls := 16, slots := #[.int (-85)], vm := .none },
  { cls := 16, slots := #[.int (-84)], vm := .none },
  { cls := 16, slots := #[.int (-83)], vm := .none },
  { cls := 16, slots := #[.int (-82)], vm := .none },
  { cls := 16, slots := #[.int (-81)], vm := .none },
  { cls := 16, slots := #[.int (-80)], vm := .none },
  { cls := 16, slots := #[.int (-79)], vm := .none },
  { cls := 16, slots := #[.int (-78)], vm := .none },
  { cls := 16, slots := #[.int (-77)], vm := .none },
  { cls := 16, slots := #[.int (-76)], vm := .none },
  { cls := 16, slots := #[.int (-75)], vm := .none },
  { cls := 16, slots := #[.int (-74)], vm := .none },
  { cls := 16, slots := #[.int (-73)], vm := .none },
  { cls := 16, slots := #[.int (-72)], vm := .none },
  { cls := 16, slots := #[.int (-71)], vm := .none },
  { cls := 16, slots := #[.int (-70)], vm := .none },
  { cls := 16, slots := #[.int (-69)], vm := .none },
  { cls := 16, slots := #[.int (-68)], vm := .none },
  { cls := 16, slots := #[.int (-67)], vm := .none },
  { cls := 16, slots := #[.int (-66)], vm := .none },
  { cls := 16, slots := #[.int (-65)], vm := .none },
  { cls := 16, slots := #[.int (-64)], vm := .none },
  { cls := 16, slots := #[.int (-63)], vm := .none },
  { cls := 16, slots := #[.int (-62)], vm := .none },
  { cls := 16, slots := #[.int (-61)], vm := .none },
  { cls := 16, slots := #[.int (-60)], vm := .none },
  { cls := 16, slots := #[.int (-59)], vm := .none },
  { cls := 16, slots := #[.int (-58)], vm := .none },
  { cls := 16, slots := #[.int (-57)], vm := .none },
  { cls := 16, slots := #[.int (-56)], vm := .none },
  { cls := 16, slots := #[.int (-55)], vm := .none },
  { cls := 16, slots := #[.int (-54)], vm := .none },
  { cls := 16, slots := #[.int (-53)], vm := .none },
  { cls := 16, slots := #[.int (-52)], vm := .none },
  { cls := 16, slots := #[.int (-51)], vm := .none },
  { cls := 16, slots := #[.int (-50)], vm := .none },
  { cls := 16, slots := #[.int (-49)], vm := .none },
  { cls := 16, slots := #[.int (-48)], vm := .none },
  { cls := 16, slots := #[.int (-47)], vm := .none },
  { cls := 16, slots := #[.int (-46)], vm := .none },
  { cls := 16, slots := #[.int (-45)], vm := .none },
  { cls := 16, slots := #[.int (-44)], vm := .none },
  { cls := 16, slots := #[.int (-43)], vm := .none },
  { cls := 16, slots := #[.int (-42)], vm := .none },
  { cls := 16, slots := #[.int (-41)], vm := .none },
  { cls := 16, slots := #[.int (-40)], vm := .none },
  { cls := 16, slots := #[.int (-39)], vm := .none },
  { cls := 16, slots := #[.int (-38)], vm := .none },
  { cls := 16, slots := #[.int (-37)], vm := .none },
  { cls := 16, slots := #[.int (-36)], vm := .none },
  { cls := 16, slots := #[.int (-35)], vm := .none },
  { cls := 16, slots := #[.int (-34)], vm := .none },
  { cls := 16, slots := #[.int (-33)], vm := .none },
  { cls := 16, slots := #[.int (-32)], vm := .none },
  { cls := 16, slots := #[.int (-31)], vm := .none },
  { cls := 16, slots := #[.int (-30)], vm := .none },
  { cls := 16, slots := #[.int (-29)], vm := .none },
  { cls := 16, slots := #[.int (-28)], vm := .none },
  { cls := 16, slots := #[.int (-27)], vm := .none },
  { cls := 16, slots := #[.int (-26)], vm := .none },
  { cls := 16, slots := #[.int (-25)], vm := .none },
  { cls := 16, slots := #[.int (-24)], vm := .none },
  { cls := 16, slots := #[.int (-23)], vm := .none },
  { cls := 16, slots := #[.int (-22)], vm := .none },
  { cls := 16, slots := #[.int (-21)], vm := .none },
  { cls := 16, slots := #[.int (-20)], vm := .none },
  { cls := 16, slots := #[.int (-19)], vm := .none },
  { cls := 16, slots := #[.int (-18)], vm := .none },
  { cls := 16, slots := #[.int (-17)], vm := .none },
  { cls := 16, slots := #[.int (-16)], vm := .none },
  { cls := 16, slots := #[.int (-15)], vm := .none },
  { cls := 16, slots := #[.int (-14)], vm := .none },
  { cls := 16, slots := #[.int (-13)], vm := .none },
  { cls := 16, slots := #[.int (-12)], vm := .none },
  { cls := 16, slots := #[.int (-11)], vm := .none },
  { cls := 16, slots := #[.int (-10)], vm := .none },
  { cls := 16, slots := #[.int (-9)], vm := .none },
  { cls := 16, slots := #[.int (-8)], vm := .none },
  { cls := 16, slots := #[.int (-7)], vm := .none },
  { cls := 16, slots := #[.int (-6)], vm := .none },
  { cls := 16, slots := #[.int (-5)], vm := .none },
  { cls := 16, slots := #[.int (-4)], vm := .none },
  { cls := 16, slots := #[.int (-3)], vm := .none },
  { cls := 16, slots := #[.int (-2)], vm := .none },
  { cls := 16, slots := #[.int (-1)], vm := .none },
  { cls := 16, slots := #[.int (0)], vm := .none },
  { cls := 16, slots := #[.int (1)], vm := .none },
  { cls := 16, slots := #[.int (2)], vm := .none },
  { cls := 16, slots := #[.int (3)], vm := .none },
  { cls := 16, slots := #[.int (4)], vm := .none },
  { cls := 16, slots := #[.int (5)], vm := .none },
  { cls := 16, slots := #[.int (6)], vm := .none },
  { cls := 16, slots := #[.int (7)], vm := .none },
  { cls := 16, slots := #[.int (8)], vm := .none },
  { cls := 16, slots := #[.int (9)], vm := .none },
  { cls := 16, slots := #[.int (10)], vm := .none },
  { cls := 16, slots := #[.int (11)], vm := .none },
  { cls := 16, slots := #[.int (12)], vm := .none },
  { cls := 16, slots := #[.int (13)], vm := .none },
  { cls := 16, slots := #[.int (14)], vm := .none },
  { cls := 16, slots := #[.int (15)], vm := .none },
  { cls := 16, slots := #[.int (16)], vm := .none },
  { cls := 16, slots := #[.int (17)], vm := .none },
  { cls := 16, slots := #[.int (18)], vm := .none },
  { cls := 16, slots := #[.int (19)], vm := .none },
  { cls := 16, slots := #[.int (20)], vm := .none },
  { cls := 16, slots := #[.int (21)], vm := .none },
  { cls := 16, slots := #[.int (22)], vm := .none },
  { cls := 16, slots := #[.int (23)], vm := .none },
  { cls := 16, slots := #[.int (24)], vm := .none },
  { cls := 16, slots := #[.int (25)], vm := .none },
  { cls := 16, slots := #[.int (26)], vm := .none },
  { cls := 16, slots := #[.int (27)], vm := .none },
  { cls := 16, slots := #[.int (28)], vm := .none },
  { cls := 16, slots := #[.int (29)], vm := .none },
  { cls := 16, slots := #[.int (30)], vm := .none },
  { cls := 16, slots := #[.int (31)], vm := .none },
  { cls := 16, slots := #[.int (32)], vm := .none },
  { cls := 16, slots := #[.int (33)], vm := .none },
  { cls := 16, slots := #[.int (34)], vm := .none },
  { cls := 16, slots := #[.int (35)], vm := .none },
  { cls := 16, slots := #[.int (36)], vm := .none },
  { cls := 16, slots := #[.int (37)], vm := .none },
  { cls := 16, slots := #[.int (38)], vm := .none },
  { cls := 16, slots := #[.int (39)], vm := .none },
  { cls := 16, slots := #[.int (40)], vm := .none },
  { cls := 16, slots := #[.int (41)], vm := .none },
  { cls := 16, slots := #[.int (42)], vm := .none },
  { cls := 16, slots := #[.int (43)], vm := .none },
  { cls := 16, slots := #[.int (44)], vm := .none },
  { cls := 16, slots := #[.int (45)], vm := .none },
  { cls := 16, slots := #[.int (46)], vm := .none },
  { cls := 16, slots := #[.int (47)], vm := .none },
  { cls := 16, slots := #[.int (48)], vm := .none },
  { cls := 16, slots := #[.int (49)], vm := .none },
  { cls := 16, slots := #[.int (50)], vm := .none },
  { cls := 16, slots := #[.int (51)], vm := .none },
  { cls := 16, slots := #[.int (52)], vm := .none },
  { cls := 16, slots := #[.int (53)], vm := .none },
  { cls := 16, slots := #[.int (54)], vm := .none },
  { cls := 16, slots := #[.int (55)], vm := .none },
  { cls := 16, slots := #[.int (56)], vm := .none },
  { cls := 16, slots := #[.int (57)], vm := .none },
  { cls := 16, slots := #[.int (58)], vm := .none },
  { cls := 16, slots := #[.int (59)], vm := .none },
  { cls := 16, slots := #[.int (60)], vm := .none },
  { cls := 16, slots := #[.int (61)], vm := .none },
  { cls := 16, slots := #[.int (62)], vm := .none },
  { cls := 16, slots := #[.int (63)], vm := .none },
  { cls := 16, slots := #[.int (64)], vm := .none },
  { cls := 16, slots := #[.int (65)], vm := .none },
  { cls := 16, slots := #[.int (66)], vm := .none },
  { cls := 16, slots := #[.int (67)], vm := .none },
  { cls := 16, slots := #[.int (68)], vm := .none },
  { cls := 16, slots := #[.int (69)], vm := .none },
  { cls := 16, slots := #[.int (70)], vm := .none },
  { cls := 16, slots := #[.int (71)], vm := .none },
  { cls := 16, slots := #[.int (72)], vm := .none },
  { cls := 16, slots := #[.int (73)], vm := .none },
  { cls := 16, slots := #[.int (74)], vm := .none },
  { cls := 16, slots := #[.int (75)], vm := .none },
  { cls := 16, slots := #[.int (76)], vm := .none },
  { cls := 16, slots := #[.int (77)], vm := .none },
  { cls := 16, slots := #[.int (78)], vm := .none },
  { cls := 16, slots := #[.int (79)], vm := .none },
  { cls := 16, slots := #[.int (80)], vm := .none },
  { cls := 16, slots := #[.int (81)], vm := .none },
  { cls := 16, slots := #[.int (82)], vm := .none },
  { cls := 16, slots := #[.int (83)], vm := .none },
  { cls := 16, slots := #[.int (84)], vm := .none },
  { cls := 16, slots := #[.int (85)], vm := .none },
  { cls := 16, slots := #[.int (86)], vm := .none },
  { cls := 16, slots := #[.int (87)], vm := .none },
  { cls := 16, slots := #[.int (88)], vm := .none },
  { cls := 16, slots := #[.int (89)], vm := .none },
  { cls := 16, slots := #[.int (90)], vm := .none },
  { cls := 16, slots := #[.int (91)], vm := .none },
  { cls := 16, slots := #[.int (92)], vm := .none },
  { cls := 16, slots := #[.int (93)], vm := .none },
  { cls := 16, slots := #[.int (94)], vm := .none },
  { cls := 16, slots := #[.int (95)], vm := .none },
  { cls := 16, slots := #[.int (96)], vm := .none },
  { cls := 16, slots := #[.int (97)], vm := .none },
  { cls := 16, slots := #[.int (98)], vm := .none },
  { cls := 16, slots := #[.int (99)], vm := .none },
  { cls := 16, slots := #[.int (100)], vm := .none },
  { cls := 16, slots := #[.int (101)], vm := .none },
  { cls := 16, slots := #[.int (102)], vm := .none },
  { cls := 16, slots := #[.int (103)], vm := .none },
  { cls := 16, slots := #[.int (104)], vm := .none },
  { cls := 16, slots := #[.int (105)], vm := .none },
  { cls := 16, slots := #[.int (106)], vm := .none },
  { cls := 16, slots := #[.int (107)], vm := .none },
  { cls := 16, slots := #[.int (108)], vm := .none },
  { cls := 16, slots := #[.int (109)], vm := .none },
  { cls := 16, slots := #[.int (110)], vm := .none },
  { cls := 16, slots := #[.int (111)], vm := .none },
  { cls := 16, slots := #[.int (112)], vm := .none },
  { cls := 16, slots := #[.int (113)], vm := .none },
  { cls := 16, slots := #[.int (114)], vm := .none },
  { cls := 16, slots := #[.int (115)], vm := .none },
  { cls := 16, slots := #[.int (116)], vm := .none },
  { cls := 16, slots := #[.int (117)], vm := .none },
  { cls := 16, slots := #[.int (118)], vm := .none },
  { cls := 16, slots := #[.int (119)], vm := .none },
  { cls := 16, slots := #[.int (120)], vm := .none },
  { cls := 16, slots := #[.int (121)], vm := .none },
  { cls := 16, slots := #[.int (122)], vm := .none },
  { cls := 16, slots := #[.int (123)], vm := .none },
  { cls := 16, slots := #[.int (124)], vm := .none },
  { cls := 16, slots := #[.int (125)], vm := .none },
  { cls := 16, slots := #[.int (126)], vm := .none },
  { cls := 16, slots := #[.int (127)], vm := .none }]
def classes : Array Class := #[k0, k1, k2, k3, k4, k5, k6, k7, k8, k9, k10, k11, k12, k13, k14, k15, k16, k17, k18, k19, k20, k21, k22, k23, k24, k25, k26]
def interned : List (Array UInt16 × Addr) := []
def slotsUsed : Nat := 527
def theMethod : MethodId := ⟨1, 3⟩
def args0 : Array Value := #[.int 5, .int 6, .int 7, .int 8, .int 9]
def aboutOver (below : List Frame) : State where
  vm := { classes := classes, interned := interned.toArray }
  heap := heap
  slotsUsed := slotsUsed
  threads := #[{ frames := .invoking theMethod args0 :: below }]
def below0 : List Frame := [.native { method := ⟨0, 0⟩, args := #[] }]
def about1 : State := aboutOver below0
def p0 : Program := .bare "" "" ""
def e0 : Env := launch0.env 0 0 0
theorem w_frames : about1.frames = Frame.invoking theMethod args0 :: below0 := rfl
set_option maxRecDepth 65536 in
theorem w_args : argsFit about1.vm theMethod args0 = true := by decide +kernel
set_option maxRecDepth 65536 in
theorem w_heap : heapFits about1 = true := by decide +kernel
set_option maxRecDepth 65536 in
theorem w_runnable : about1.curStatus? = some .runnable := by decide +kernel
set_option maxRecDepth 65536 in
theorem w_alone : about1.alone = true := by decide +kernel
set_option maxRecDepth 65536 in
theorem w_named : about1.methodNamed? x = some theMethod := by decide +kernel
set_option maxRecDepth 65536 in
theorem w_hears : about1.hears theMethod below0 = true := by decide +kernel
set_option maxRecDepth 65536 in
theorem w_ripe : about1.ripe theMethod args0 below0 = true := by decide +kernel
theorem w_running : about1.status = .running := rfl
set_option maxRecDepth 65536 in
theorem w_room : about1.hasRoom e0.platform room_1 = true :=
  launch0.hasRoom_least _ room_1 (by decide +kernel) (by decide +kernel) (by decide +kernel) (by decide +kernel) (by decide +kernel) (by decide +kernel)
theorem allAtoms_all (ts : List Jvm.Cond) (a : Array Jvm.Value) (st : Jvm.State) : (allAtoms ts).before a st = ts.all (fun c => c.before a st) := by
  induction ts with
  | nil => rfl
  | cons c t ih =>
    show (Jvm.Cond.and c (allAtoms t)).before a st = _
    rw [Jvm.Cond.before_and, ih, List.all_cons]
def words1 : List Jvm.Cond := Jvm.Cond.code x code maxLocals ret :: tables_1
/-- a 'code' word, met by the world's own term for the bytes: nothing is compared byte by byte -/
theorem code_word {y : MethodName} {bytes : ByteArray} {mx : Nat} {rt : Option FieldType} {a : Array Value} {s : State} {m : MethodId} {meth : Method} {c : Code} (h1 : s.methodNamed? y = some m) (h2 : s.vm.method? m = some meth) (h3 : meth.code = some c) (h4 : c.code = bytes)
    (h5 : (c.maxLocals == mx && c.exceptionTable.isEmpty && decide (c.maxStack ≤ mostOperands) && decide (meth.sig.returnType = rt) && !meth.locks && decide (parseMethodDescriptor y.desc = some meth.sig)) = true) : (Jvm.Cond.code y bytes mx rt).before a s = true := by
  simp only [Bool.and_eq_true, beq_iff_eq, Bool.not_eq_true', decide_eq_true_eq] at h5
  obtain ⟨⟨⟨⟨⟨g1, g2⟩, g3⟩, g4⟩, g5⟩, g6⟩ := h5
  simp [Cond.before, Cond.holds, Cond.value, h1, h2, h3, h4, g1, g2, g3, g4, g5, g6]
def isCode : Jvm.Cond → Bool
  | .code _ _ _ _ => true
  | _ => false
theorem all_split {L : List Jvm.Cond} {P : Jvm.Cond → Bool} (h1 : L.all (fun c => isCode c || P c) = true) (h2 : ∀ c ∈ L.filter isCode, P c = true) : L.all P = true := by
  refine List.all_eq_true.mpr fun c hc => ?_
  have h := List.all_eq_true.mp h1 c hc
  rcases Bool.eq_false_or_eq_true (isCode c) with hi | hi
  · exact h2 c (List.mem_filter.mpr ⟨hc, hi⟩)
  · simpa [hi] using h
set_option maxRecDepth 65536 in
theorem w_c0 : (Jvm.Cond.code x code maxLocals ret).before args0 about1 = true := code_word (m := ⟨1, 3⟩) (meth := k1m3) (c := k1c3) (by decide +kernel) rfl rfl rfl (by decide +kernel)
set_option maxRecDepth 65536 in
theorem w_c1 : (Jvm.Cond.code ({ cls := "io/loomwire/handler/codec/http/HttpResponseStatusEqualsPinLaw", name := "phrase", desc := "(IZ)Ljava/lang/String;" } : Jvm.MethodName) method_3_code (3 : Nat) (Option.some (Jvm.ClassFile.FieldType.object "java/lang/String"))).before args0 about1 = true := code_word (m := ⟨1, 2⟩) (meth := k1m2) (c := k1c2) (by decide +kernel) rfl rfl rfl (by decide +kernel)
set_option maxRecDepth 65536 in
theorem w_c2 : (Jvm.Cond.code ({ cls := "java/lang/String", name := "<init>", desc := "([C)V" } : Jvm.MethodName) jdk_42_method_3_code (2 : Nat) (Option.none : Option Jvm.ClassFile.FieldType)).before args0 about1 = true := code_word (m := ⟨7, 1⟩) (meth := k7m1) (c := k7c1) (by decide +kernel) rfl rfl rfl (by decide +kernel)
set_option maxRecDepth 65536 in
theorem w_c3 : (Jvm.Cond.code ({ cls := "java/lang/String", name := "<init>", desc := "([CIILjava/lang/Void;)V" } : Jvm.MethodName) jdk_42_method_149_code (6 : Nat) (Option.none : Option Jvm.ClassFile.FieldType)).before args0 about1 = true := code_word (m := ⟨7, 4⟩) (meth := k7m4) (c := k7c4) (by decide +kernel) rfl rfl rfl (by decide +kernel)
set_option maxRecDepth 65536 in
theorem w_c4 : (Jvm.Cond.code ({ cls := "java/lang/Object", name := "<init>", desc := "()V" } : Jvm.MethodName) object_method_1_code (1 : Nat) (Option.none : Option Jvm.ClassFile.FieldType)).before args0 about1 = true := code_word (m := ⟨0, 0⟩) (meth := k0m0) (c := k0c0) (by decide +kernel) rfl rfl rfl (by decide +kernel)
set_option maxRecDepth 65536 in
theorem w_c5 : (Jvm.Cond.code ({ cls := "io/loomwire/handler/codec/http/HttpResponseStatusEqualsPinLaw", name := "pc", desc := "(I)C" } : Jvm.MethodName) method_2_code (2 : Nat) (Option.some Jvm.ClassFile.FieldType.char)).before args0 about1 = true := code_word (m := ⟨1, 1⟩) (meth := k1m1) (c := k1c1) (by decide +kernel) rfl rfl rfl (by decide +kernel)
set_option maxRecDepth 65536 in
theorem w_c6 : (Jvm.Cond.code ({ cls := "java/lang/StringUTF16", name := "compress", desc := "([CII)[B" } : Jvm.MethodName) jdk_52_method_16_code (6 : Nat) (Option.some (Jvm.ClassFile.FieldType.array Jvm.ClassFile.FieldType.byte))).before args0 about1 = true := code_word (m := ⟨8, 2⟩) (meth := k8m2) (c := k8c2) (by decide +kernel) rfl rfl rfl (by decide +kernel)
set_option maxRecDepth 65536 in
theorem w_c7 : (Jvm.Cond.code ({ cls := "java/lang/StringUTF16", name := "compress", desc := "([CI[BII)I" } : Jvm.MethodName) jdk_52_method_21_code (7 : Nat) (Option.some Jvm.ClassFile.FieldType.int)).before args0 about1 = true := code_word (m := ⟨8, 3⟩) (meth := k8m3) (c := k8c3) (by decide +kernel) rfl rfl rfl (by decide +kernel)
set_option maxRecDepth 65536 in
theorem w_c8 : (Jvm.Cond.code ({ cls := "java/lang/StringUTF16", name := "coderFromArrayLen", desc := "([BI)B" } : Jvm.MethodName) jdk_52_method_15_code (2 : Nat) (Option.some Jvm.ClassFile.FieldType.byte)).before args0 about1 = true := code_word (m := ⟨8, 1⟩) (meth := k8m1) (c := k8c1) (by decide +kernel) rfl rfl rfl (by decide +kernel)
set_option maxRecDepth 65536 in
theorem w_c9 : (Jvm.Cond.code ({ cls := "io/loomwire/handler/codec/http/HttpResponseStatus", name := "<init>", desc := "(ILjava/lang/String;)V" } : Jvm.MethodName) prog_19_method_1_code (4 : Nat) (Option.none : Option Jvm.ClassFile.FieldType)).before args0 about1 = true := code_word (m := ⟨9, 0⟩) (meth := k9m0) (c := k9c0) (by decide +kernel) rfl rfl rfl (by decide +kernel)
set_option maxRecDepth 65536 in
theorem w_c10 : (Jvm.Cond.code ({ cls := "java/util/Objects", name := "requireNonNull", desc := "(Ljava/lang/Object;Ljava/lang/String;)Ljava/lang/Object;" } : Jvm.MethodName) jdk_31_method_11_code (2 : Nat) (Option.some (Jvm.ClassFile.FieldType.object "java/lang/Object"))).before args0 about1 = true := code_word (m := ⟨10, 1⟩) (meth := k10m1) (c := k10c1) (by decide +kernel) rfl rfl rfl (by decide +kernel)
set_option maxRecDepth 65536 in
theorem w_c11 : (Jvm.Cond.code ({ cls := "java/lang/String", name := "length", desc := "()I" } : Jvm.MethodName) jdk_42_method_54_code (1 : Nat) (Option.some Jvm.ClassFile.FieldType.int)).before args0 about1 = true := code_word (m := ⟨7, 2⟩) (meth := k7m2) (c := k7c2) (by decide +kernel) rfl rfl rfl (by decide +kernel)
set_option maxRecDepth 65536 in
theorem w_c12 : (Jvm.Cond.code ({ cls := "java/lang/String", name := "coder", desc := "()B" } : Jvm.MethodName) jdk_42_method_152_code (1 : Nat) (Option.some Jvm.ClassFile.FieldType.byte)).before args0 about1 = true := code_word (m := ⟨7, 5⟩) (meth := k7m5) (c := k7c5) (by decide +kernel) rfl rfl rfl (by decide +kernel)
set_option maxRecDepth 65536 in
theorem w_c13 : (Jvm.Cond.code ({ cls := "java/lang/String", name := "charAt", desc := "(I)C" } : Jvm.MethodName) jdk_42_method_56_code (2 : Nat) (Option.some Jvm.ClassFile.FieldType.char)).before args0 about1 = true := code_word (m := ⟨7, 3⟩) (meth := k7m3) (c := k7c3) (by decide +kernel) rfl rfl rfl (by decide +kernel)
set_option maxRecDepth 65536 in
theorem w_c14 : (Jvm.Cond.code ({ cls := "java/lang/String", name := "isLatin1", desc := "()Z" } : Jvm.MethodName) jdk_42_method_154_code (1 : Nat) (Option.some Jvm.ClassFile.FieldType.boolean)).before args0 about1 = true := code_word (m := ⟨7, 6⟩) (meth := k7m6) (c := k7c6) (by decide +kernel) rfl rfl rfl (by decide +kernel)
set_option maxRecDepth 65536 in
theorem w_c15 : (Jvm.Cond.code ({ cls := "java/lang/StringLatin1", name := "charAt", desc := "([BI)C" } : Jvm.MethodName) jdk_43_method_2_code (2 : Nat) (Option.some Jvm.ClassFile.FieldType.char)).before args0 about1 = true := code_word (m := ⟨11, 1⟩) (meth := k11m1) (c := k11c1) (by decide +kernel) rfl rfl rfl (by decide +kernel)
set_option maxRecDepth 65536 in
theorem w_c16 : (Jvm.Cond.code ({ cls := "java/lang/String", name := "checkIndex", desc := "(II)V" } : Jvm.MethodName) jdk_42_method_155_code (2 : Nat) (Option.none : Option Jvm.ClassFile.FieldType)).before args0 about1 = true := code_word (m := ⟨7, 7⟩) (meth := k7m7) (c := k7c7) (by decide +kernel) rfl rfl rfl (by decide +kernel)
set_option maxRecDepth 65536 in
theorem w_c17 : (Jvm.Cond.code ({ cls := "jdk/internal/util/Preconditions", name := "checkIndex", desc := "(IILjava/util/function/BiFunction;)I" } : Jvm.MethodName) jdk_41_method_11_code (3 : Nat) (Option.some Jvm.ClassFile.FieldType.int)).before args0 about1 = true := code_word (m := ⟨12, 1⟩) (meth := k12m1) (c := k12c1) (by decide +kernel) rfl rfl rfl (by decide +kernel)
set_option maxRecDepth 65536 in
theorem w_c18 : (Jvm.Cond.code ({ cls := "io/loomwire/handler/codec/http/HttpHeaders", name := "isFieldValueChar", desc := "(I)Z" } : Jvm.MethodName) prog_12_method_21_code (1 : Nat) (Option.some Jvm.ClassFile.FieldType.boolean)).before args0 about1 = true := code_word (m := ⟨14, 1⟩) (meth := k14m1) (c := k14c1) (by decide +kernel) rfl rfl rfl (by decide +kernel)
set_option maxRecDepth 65536 in
theorem w_c19 : (Jvm.Cond.code ({ cls := "io/loomwire/handler/codec/http/HttpResponseStatus", name := "equals", desc := "(Ljava/lang/Object;)Z" } : Jvm.MethodName) prog_19_method_6_code (3 : Nat) (Option.some Jvm.ClassFile.FieldType.boolean)).before args0 about1 = true := code_word (m := ⟨9, 1⟩) (meth := k9m1) (c := k9c1) (by decide +kernel) rfl rfl rfl (by decide +kernel)
set_option maxRecDepth 65536 in
theorem w_c20 : (Jvm.Cond.code ({ cls := "java/lang/Integer", name := "valueOf", desc := "(I)Ljava/lang/Integer;" } : Jvm.MethodName) jdk_33_method_22_code (1 : Nat) (Option.some (Jvm.ClassFile.FieldType.object "java/lang/Integer"))).before args0 about1 = true := code_word (m := ⟨16, 0⟩) (meth := k16m0) (c := k16c0) (by decide +kernel) rfl rfl rfl (by decide +kernel)
set_option maxRecDepth 65536 in
theorem w_c21 : (Jvm.Cond.code ({ cls := "java/lang/Integer", name := "<init>", desc := "(I)V" } : Jvm.MethodName) jdk_33_method_23_code (2 : Nat) (Option.none : Option Jvm.ClassFile.FieldType)).before args0 about1 = true := code_word (m := ⟨16, 1⟩) (meth := k16m1) (c := k16c1) (by decide +kernel) rfl rfl rfl (by decide +kernel)
set_option maxRecDepth 65536 in
theorem w_c22 : (Jvm.Cond.code ({ cls := "java/lang/Number", name := "<init>", desc := "()V" } : Jvm.MethodName) jdk_18_method_1_code (1 : Nat) (Option.none : Option Jvm.ClassFile.FieldType)).before args0 about1 = true := code_word (m := ⟨15, 0⟩) (meth := k15m0) (c := k15c0) (by decide +kernel) rfl rfl rfl (by decide +kernel)
def codes1 : List Jvm.Cond := [Jvm.Cond.code x code maxLocals ret, Jvm.Cond.code ({ cls := "io/loomwire/handler/codec/http/HttpResponseStatusEqualsPinLaw", name := "phrase", desc := "(IZ)Ljava/lang/String;" } : Jvm.MethodName) method_3_code (3 : Nat) (Option.some (Jvm.ClassFile.FieldType.object "java/lang/String")), Jvm.Cond.code ({ cls := "java/lang/String", name := "<init>", desc := "([C)V" } : Jvm.MethodName) jdk_42_method_3_code (2 : Nat) (Option.none : Option Jvm.ClassFile.FieldType), Jvm.Cond.code ({ cls := "java/lang/String", name := "<init>", desc := "([CIILjava/lang/Void;)V" } : Jvm.MethodName) jdk_42_method_149_code (6 : Nat) (Option.none : Option Jvm.ClassFile.FieldType), Jvm.Cond.code ({ cls := "java/lang/Object", name := "<init>", desc := "()V" } : Jvm.MethodName) object_method_1_code (1 : Nat) (Option.none : Option Jvm.ClassFile.FieldType), Jvm.Cond.code ({ cls := "io/loomwire/handler/codec/http/HttpResponseStatusEqualsPinLaw", name := "pc", desc := "(I)C" } : Jvm.MethodName) method_2_code (2 : Nat) (Option.some Jvm.ClassFile.FieldType.char), Jvm.Cond.code ({ cls := "java/lang/StringUTF16", name := "compress", desc := "([CII)[B" } : Jvm.MethodName) jdk_52_method_16_code (6 : Nat) (Option.some (Jvm.ClassFile.FieldType.array Jvm.ClassFile.FieldType.byte)), Jvm.Cond.code ({ cls := "java/lang/StringUTF16", name := "compress", desc := "([CI[BII)I" } : Jvm.MethodName) jdk_52_method_21_code (7 : Nat) (Option.some Jvm.ClassFile.FieldType.int), Jvm.Cond.code ({ cls := "java/lang/StringUTF16", name := "coderFromArrayLen", desc := "([BI)B" } : Jvm.MethodName) jdk_52_method_15_code (2 : Nat) (Option.some Jvm.ClassFile.FieldType.byte), Jvm.Cond.code ({ cls := "io/loomwire/handler/codec/http/HttpResponseStatus", name := "<init>", desc := "(ILjava/lang/String;)V" } : Jvm.MethodName) prog_19_method_1_code (4 : Nat) (Option.none : Option Jvm.ClassFile.FieldType), Jvm.Cond.code ({ cls := "java/util/Objects", name := "requireNonNull", desc := "(Ljava/lang/Object;Ljava/lang/String;)Ljava/lang/Object;" } : Jvm.MethodName) jdk_31_method_11_code (2 : Nat) (Option.some (Jvm.ClassFile.FieldType.object "java/lang/Object")), Jvm.Cond.code ({ cls := "java/lang/String", name := "length", desc := "()I" } : Jvm.MethodName) jdk_42_method_54_code (1 : Nat) (Option.some Jvm.ClassFile.FieldType.int), Jvm.Cond.code ({ cls := "java/lang/String", name := "coder", desc := "()B" } : Jvm.MethodName) jdk_42_method_152_code (1 : Nat) (Option.some Jvm.ClassFile.FieldType.byte), Jvm.Cond.code ({ cls := "java/lang/String", name := "charAt", desc := "(I)C" } : Jvm.MethodName) jdk_42_method_56_code (2 : Nat) (Option.some Jvm.ClassFile.FieldType.char), Jvm.Cond.code ({ cls := "java/lang/String", name := "isLatin1", desc := "()Z" } : Jvm.MethodName) jdk_42_method_154_code (1 : Nat) (Option.some Jvm.ClassFile.FieldType.boolean), Jvm.Cond.code ({ cls := "java/lang/StringLatin1", name := "charAt", desc := "([BI)C" } : Jvm.MethodName) jdk_43_method_2_code (2 : Nat) (Option.some Jvm.ClassFile.FieldType.char), Jvm.Cond.code ({ cls := "java/lang/String", name := "checkIndex", desc := "(II)V" } : Jvm.MethodName) jdk_42_method_155_code (2 : Nat) (Option.none : Option Jvm.ClassFile.FieldType), Jvm.Cond.code ({ cls := "jdk/internal/util/Preconditions", name := "checkIndex", desc := "(IILjava/util/function/BiFunction;)I" } : Jvm.MethodName) jdk_41_method_11_code (3 : Nat) (Option.some Jvm.ClassFile.FieldType.int), Jvm.Cond.code ({ cls := "io/loomwire/handler/codec/http/HttpHeaders", name := "isFieldValueChar", desc := "(I)Z" } : Jvm.MethodName) prog_12_method_21_code (1 : Nat) (Option.some Jvm.ClassFile.FieldType.boolean), Jvm.Cond.code ({ cls := "io/loomwire/handler/codec/http/HttpResponseStatus", name := "equals", desc := "(Ljava/lang/Object;)Z" } : Jvm.MethodName) prog_19_method_6_code (3 : Nat) (Option.some Jvm.ClassFile.FieldType.boolean), Jvm.Cond.code ({ cls := "java/lang/Integer", name := "valueOf", desc := "(I)Ljava/lang/Integer;" } : Jvm.MethodName) jdk_33_method_22_code (1 : Nat) (Option.some (Jvm.ClassFile.FieldType.object "java/lang/Integer")), Jvm.Cond.code ({ cls := "java/lang/Integer", name := "<init>", desc := "(I)V" } : Jvm.MethodName) jdk_33_method_23_code (2 : Nat) (Option.none : Option Jvm.ClassFile.FieldType), Jvm.Cond.code ({ cls := "java/lang/Number", name := "<init>", desc := "()V" } : Jvm.MethodName) jdk_18_method_1_code (1 : Nat) (Option.none : Option Jvm.ClassFile.FieldType)]
set_option maxRecDepth 65536 in
theorem codes_eq : words1.filter isCode = codes1 := rfl
theorem w_codes : ∀ c ∈ words1.filter isCode, c.before args0 about1 = true := by
  rw [codes_eq]
  intro c hc
  simp only [codes1, List.mem_cons, List.not_mem_nil, or_false] at hc
  rcases hc with rfl | rfl | rfl | rfl | rfl | rfl | rfl | rfl | rfl | rfl | rfl | rfl | rfl | rfl | rfl | rfl | rfl | rfl | rfl | rfl | rfl | rfl | rfl
  · exact w_c0
  · exact w_c1
  · exact w_c2
  · exact w_c3
  · exact w_c4
  · exact w_c5
  · exact w_c6
  · exact w_c7
  · exact w_c8
  · exact w_c9
  · exact w_c10
  · exact w_c11
  · exact w_c12
  · exact w_c13
  · exact w_c14
  · exact w_c15
  · exact w_c16
  · exact w_c17
  · exact w_c18
  · exact w_c19
  · exact w_c20
  · exact w_c21
  · exact w_c22
set_option maxRecDepth 65536 in
theorem w_t1 : (words1.take 24).all (fun c => isCode c || c.before args0 about1) = true := by decide +kernel
set_option maxRecDepth 65536 in
theorem w_t2 : ((words1.drop 24).take 24).all (fun c => isCode c || c.before args0 about1) = true := by decide +kernel
set_option maxRecDepth 65536 in
theorem w_t3 : (((words1.drop 24).drop 24).take 24).all (fun c => isCode c || c.before args0 about1) = true := by decide +kernel
set_option maxRecDepth 65536 in
theorem w_t4 : ((((words1.drop 24).drop 24).drop 24).take 24).all (fun c => isCode c || c.before args0 about1) = true := by decide +kernel
set_option maxRecDepth 65536 in
theorem w_t5 : (((((words1.drop 24).drop 24).drop 24).drop 24).take 24).all (fun c => isCode c || c.before args0 about1) = true := by decide +kernel
set_option maxRecDepth 65536 in
theorem w_t6 : (((((words1.drop 24).drop 24).drop 24).drop 24).drop 24).all (fun c => isCode c || c.before args0 about1) = true := by decide +kernel
theorem w_tables : (allAtoms (Jvm.Cond.code x code maxLocals ret :: tables_1)).before args0 about1 = true := by
  rw [allAtoms_all]
  show words1.all (fun c => c.before args0 about1) = true
  refine all_split ?_ w_codes
  rw [← List.take_append_drop 24 words1, List.all_append, w_t1, ← List.take_append_drop 24 (words1.drop 24), List.all_append, w_t2, ← List.take_append_drop 24 ((words1.drop 24).drop 24), List.all_append, w_t3, ← List.take_append_drop 24 (((words1.drop 24).drop 24).drop 24), List.all_append, w_t4, ← List.take_append_drop 24 ((((words1.drop 24).drop 24).drop 24).drop 24), List.all_append, w_t5, w_t6]
  rfl
set_option maxRecDepth 65536 in
theorem w_rest : rest_1_c.before args0 about1 = true := by decide +kernel
set_option maxRecDepth 65536 in
theorem w_case : (Jvm.Cond.and given_1 narrow_1).before args0 about1 = true := by decide +kernel
set_option maxRecDepth 65536 in
theorem w_consts : constsHeld consts_1 about1 := Jvm.Lit.constsHeldB_iff.mp (by decide +kernel)
theorem w_applies : (headSpec (Jvm.Cond.code x code maxLocals ret :: tables_1) room_1).applies x e0.platform about1 = true :=
  (Spec.applies_iff w_frames).mpr ⟨w_running, w_runnable, w_alone, w_named, w_hears, w_ripe, w_room, w_tables⟩
theorem atStart : AtStart classFile x code maxLocals ret World_1 tables_1 room_1 Calls_1 rest_1 Pre_1 launch0 p0 e0 about1 theMethod args0 below0 :=
  ⟨lists_1, trivial, launch0.admits_env _ _ _, launch0.least_env, fairChoices_fair.cas, fairChoices_fair.clock, w_frames, w_args, w_heap, w_applies, ⟨w_consts, trivial⟩, w_rest, w_case⟩
end start1
theorem witness_1 : WitnessClaimed_1 := ⟨start1.p0, start1.e0, start1.about1, start1.theMethod, start1.args0, start1.below0, start1.atStart⟩
end Jvm.Pilot.@@N@@
