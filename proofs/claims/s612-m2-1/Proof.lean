import JvmDerived
import JvmDerived.Pilot.@@N@@Statement
import JvmDerived.Pilot.@@N@@Code
set_option linter.unusedVariables false
set_option linter.unusedSimpArgs false
namespace Jvm.RoadKit
open Sem ClassFile Op Lib Jvm.Stand Jvm.Free Jvm.LawKit
section New
variable {p : Program} {l : Launch} {e : Env} {R : Room} {s : State} {m : MethodId} {args : Array Value} {below : List Frame} {meth : Method} {c : Code} {T : State} {locs : List Loc} {cells slots : Nat}
theorem retI (X : Stand p l e R s m args below meth c T locs cells slots) (hx : p.tables.exec = Jvm.exec) {pc : Nat} {Ls : Array Slot} {z : Int32} {rest : List Value} (hret : meth.sig.returnType = some .int) (hd : decode c.code pc = .ok (.ireturn, 1)) {fs : List Frame}
    (hl : ∀ (f : JFrame) (acts : List Action), f.method = m → f.locked = none → f.entered = [] → (doReturn e (T.setTop f) acts (some (.int z))).1 = T.setFrames fs) : Steps p.tables e below (T.setTop (mkF m pc Ls (.int z :: rest))) (T.setFrames fs) := by
  have hm' : T.vm.method? m = some meth := X.method'
  have hn : narrow .int (.int z) = .int z := rfl
  show Steps p.tables e below (T.setTop { method := m, pc := pc, locals := Ls, stack := _ :: rest, locked := none }) _
  jvm_step X.here [X.here.top, hx, hd, hm', hret, hn]
  first | (intro acts; rw [hl _ acts rfl rfl rfl]) | rw [hl _ _ rfl rfl rfl]
  exact Steps.refl _
end New
end Jvm.RoadKit
/- laws to paste: Road.backV (cut by pick.py; bodies as the Statement names them) -/
namespace Jvm.Pilot.@@N@@
namespace StrChars
open Jvm Sem ClassFile Op Lib Jvm.Stand Jvm.Free.XT Jvm.Free.ALB Jvm.Free.JM Jvm.Free
open Jvm.Lib.Cold (StaticIs)
/-- a char array whose places are chars -/
def Ch (a : Addr) (A : Cell) (U : State) : Prop := Arr .char a A U ∧ Typed .char A
theorem Ch.mv {a : Addr} {A : Cell} {U U' : State} (h : Ch a A U) (hal : U.vm.Alike U'.vm) (hh : U'.heap = U.heap) : Ch a A U' := ⟨h.1.mv hal hh, h.2⟩
theorem Ch.keep {a : Addr} {A : Cell} {U U' : State} (h : Ch a A U) (hal : U.vm.Alike U'.vm) (hk : U'.heap[a]? = some A) : Ch a A U' := ⟨h.1.keep hal hk, h.2⟩
/-- what place i of a char[]'s cell holds -/
def cv (A : Cell) (i : Nat) : Int32 := match A.slots[i]? with | some (.int x) => x | _ => 0
theorem Ch.get {a : Addr} {A : Cell} {U : State} (h : Ch a A U) {i : Nat} (hi : i < A.slots.size) : A.slots[i]? = some (.int (cv A i)) := by
  have e := Array.getElem?_eq_getElem hi
  have f := h.2 i _ e
  unfold cv; rw [e]
  generalize A.slots[i] = v at f
  cases v <;> simp [fits] at f ⊢
/-- the byte that i2b leaves of a char -/
def lo8 (x : Int32) : Int32 := x.toInt8.toInt32
theorem fits_lo8 (y : Int32) : fits .byte (.int (lo8 y)) = true := by
  have h1 := y.toInt8.le_toInt
  have h2 := y.toInt8.toInt_lt
  simp only [lo8, fits, Bool.and_eq_true, decide_eq_true_eq, Int32.le_iff_toInt_le, Int8.toInt_toInt32, show (-128 : Int32).toInt = -128 from by decide, show (127 : Int32).toInt = 127 from by decide]
  omega
/-- A' is A but that each place j of lo .. hi - 1 holds f j -/
def Laid (A A' : Cell) (lo hi : Nat) (f : Nat → Value) : Prop := A'.cls = A.cls ∧ A'.vm = A.vm ∧ A'.slots.size = A.slots.size ∧ ∀ i, A'.slots[i]? = if lo ≤ i ∧ i < hi then some (f i) else A.slots[i]?
theorem Laid.zero (A : Cell) (lo : Nat) (f : Nat → Value) : Laid A A lo (lo + 0) f := ⟨rfl, rfl, rfl, fun i => by rw [if_neg (by omega)]⟩
theorem Laid.step {A Ak : Cell} {lo k : Nat} {f : Nat → Value} {v : Value} (h : Laid A Ak lo k f) (hlo : lo ≤ k) (hk : k < Ak.slots.size) (hv : v = f k) : Laid A (Ak.setSlot k v) lo (k + 1) f := by
  refine ⟨h.1, h.2.1, by simpa [Cell.setSlot] using h.2.2.1, fun i => ?_⟩
  by_cases e : k = i
  · subst e; rw [Cell.slots_setSlot_self v hk, if_pos (by omega), hv]
  · rw [Cell.slots_setSlot_ne v e, h.2.2.2 i]
    by_cases q : lo ≤ i ∧ i < k
    · rw [if_pos q, if_pos (by omega)]
    · rw [if_neg q, if_neg (by omega)]
def U16 : String := "java/lang/StringUTF16"
namespace Cmp5
def yN : MethodName := ⟨"java/lang/StringUTF16", "compress", "([CI[BII)I"⟩
abbrev yB : ByteArray := jdk_52_method_21_code
theorem d0 : decode yB 0 = .ok (.iconst 0, 1) := by decide +kernel
theorem d1 : decode yB 1 = .ok (.istore 5, 2) := by decide +kernel
theorem d3 : decode yB 3 = .ok (.iload 5, 2) := by decide +kernel
theorem d5 : decode yB 5 = .ok (.iload 4, 2) := by decide +kernel
theorem d7 : decode yB 7 = .ok (.if_icmp (.ge) 37, 3) := by decide +kernel
theorem d10 : decode yB 10 = .ok (.aload_n 0, 1) := by decide +kernel
theorem d11 : decode yB 11 = .ok (.iload_n 1, 1) := by decide +kernel
theorem d12 : decode yB 12 = .ok (.caload, 1) := by decide +kernel
theorem d13 : decode yB 13 = .ok (.istore 6, 2) := by decide +kernel
theorem d15 : decode yB 15 = .ok (.iload 6, 2) := by decide +kernel
theorem d17 : decode yB 17 = .ok (.sipush 255, 3) := by decide +kernel
theorem d20 : decode yB 20 = .ok (.if_icmp (.le) 6, 3) := by decide +kernel
theorem d26 : decode yB 26 = .ok (.aload_n 2, 1) := by decide +kernel
theorem d27 : decode yB 27 = .ok (.iload_n 3, 1) := by decide +kernel
theorem d28 : decode yB 28 = .ok (.iload 6, 2) := by decide +kernel
theorem d30 : decode yB 30 = .ok (.i2b, 1) := by decide +kernel
theorem d31 : decode yB 31 = .ok (.bastore, 1) := by decide +kernel
theorem d32 : decode yB 32 = .ok (.iinc 1 1, 3) := by decide +kernel
theorem d35 : decode yB 35 = .ok (.iinc 3 1, 3) := by decide +kernel
theorem d38 : decode yB 38 = .ok (.iinc 5 1, 3) := by decide +kernel
theorem d41 : decode yB 41 = .ok (.goto (-38), 3) := by decide +kernel
theorem d44 : decode yB 44 = .ok (.iload 4, 2) := by decide +kernel
theorem d46 : decode yB 46 = .ok (.ireturn, 1) := by decide +kernel
def site : List Cond := []
def tab : Cond := tabOf yN yB 7 (some .int) site
def P (b : Addr) (A : Cell) (d : Addr) (B : Cell) (o q len : Nat) (args : Array Value) (s : State) : Prop := args = #[.ref b, .int (Int32.ofNat o), .ref d, .int (Int32.ofNat q), .int (Int32.ofNat len)] ∧ Ch b A s ∧ Arr .byte d B s ∧ b ≠ d ∧ o + len ≤ A.slots.size ∧ q + len ≤ B.slots.size ∧ ∀ i, i < len → ¬ 255 < cv A (o + i)
def E (b : Addr) (A : Cell) (d : Addr) (B : Cell) (o q len : Nat) (r : Option Value) (s u : State) : Prop := r = some (.int (Int32.ofNat len)) ∧ ∃ B', Put d B' s u ∧ Laid B B' q (q + len) (fun j => Value.int (lo8 (cv A (o + (j - q)))))
/-- no char of the range above 255: len; the places written hold each char's low byte -/
theorem law (l : Launch) (b : Addr) (A : Cell) (d : Addr) (B : Cell) (o q len : Nat) : Law l yN 5 5 0 0 yB 7 (some .int) site (P b A d B o q len) (E b A d B o q len) (copyLocs d q len) 0 0 := by
  refine Law.of_walk (plainFor_of_name (by decide +kernel)) (by decide +kernel) (by decide +kernel) (by decide) (fun _ _ h => by rw [h.1]; rfl) (fun _ U U' hal hh h => ⟨h.1, h.2.1.mv hal hh, h.2.2.1.mv hal hh, h.2.2.2⟩) (fun r U U' V V' h1 hal h2 h => ⟨h.1, h.2.elim fun B' q => ⟨B', q.1.mv h1 h2, q.2⟩⟩) ?_
  intro p e s m args below meth c s₁ X0 hexec hbytes hml hret hlk hnm hown hh0 W hP
  obtain ⟨rfl, hA, hB, hne, l1, l2, hp⟩ := hP
  have c1 : Steps p.tables e below (s₁.setTop (entryFrame m #[.ref b, .int (Int32.ofNat o), .ref d, .int (Int32.ofNat q), .int (Int32.ofNat len)] 7)) (s₁.setTop (mkF m 0 #[.val (.ref b), .val (.int (Int32.ofNat o)), .val (.ref d), .val (.int (Int32.ofNat q)), .val (.int (Int32.ofNat len)), .unset, .unset] [])) := entry rfl
  have hA0 := hA.1.mv X0.warmed.alike hh0
  have hB0 := hB.mv X0.warmed.alike hh0
  have a31 := hA.1.2.2.2
  have c2 : Steps p.tables e below (s₁.setTop (entryFrame m #[.ref b, .int (Int32.ofNat o), .ref d, .int (Int32.ofNat q), .int (Int32.ofNat len)] 7)) (s₁.setTop (mkF m 3 #[.val (.ref b), .val (.int (Int32.ofNat o)), .val (.ref d), .val (.int (Int32.ofNat q)), .val (.int (Int32.ofNat len)), .val (.int 0), .unset] [])) := c1.trans (by
    refine iconstV X0.here hexec rfl 0 (hb hbytes d0) (by decide) ?_
    refine XS.istore X0.here hexec rfl (hb hbytes d1) rfl rfl ?_
    exact Steps.refl _)
  have loop : ∀ (r i : Nat), i + r = len → ∀ (z : Slot), (z = .unset ∨ ∃ w, z = .val w ∧ w.category = 1) → ∀ (Tl : State) (Bk : Cell), Stand p l e { frames := 0, locals := 0, cells := 0, slots := 0 } s m #[.ref b, .int (Int32.ofNat o), .ref d, .int (Int32.ofNat q), .int (Int32.ofNat len)] below meth c Tl ([] ++ copyLocs d q i) 0 0 → Put d Bk s₁ Tl → Laid B Bk q (q + i) (fun j => Value.int (lo8 (cv A (o + (j - q))))) →
      Steps p.tables e below (s₁.setTop (entryFrame m #[.ref b, .int (Int32.ofNat o), .ref d, .int (Int32.ofNat q), .int (Int32.ofNat len)] 7)) (Tl.setTop (mkF m 3 #[.val (.ref b), .val (.int (Int32.ofNat (o + i))), .val (.ref d), .val (.int (Int32.ofNat (q + i))), .val (.int (Int32.ofNat len)), .val (.int (Int32.ofNat i)), z] [])) → ∃ (T' : State) (B' : Cell) (z' : Slot), Stand p l e { frames := 0, locals := 0, cells := 0, slots := 0 } s m #[.ref b, .int (Int32.ofNat o), .ref d, .int (Int32.ofNat q), .int (Int32.ofNat len)] below meth c T' ([] ++ copyLocs d q len) 0 0 ∧ Put d B' s₁ T' ∧ Laid B B' q (q + len) (fun j => Value.int (lo8 (cv A (o + (j - q))))) ∧
      Steps p.tables e below (s₁.setTop (entryFrame m #[.ref b, .int (Int32.ofNat o), .ref d, .int (Int32.ofNat q), .int (Int32.ofNat len)] 7)) (T'.setTop (mkF m 3 #[.val (.ref b), .val (.int (Int32.ofNat (o + len))), .val (.ref d), .val (.int (Int32.ofNat (q + len))), .val (.int (Int32.ofNat len)), .val (.int (Int32.ofNat len)), z'] [])) := by
    intro r
    induction r with
    | zero =>
      intro i hi z hz Tl Bk Xl pl fl cl
      have hil : i = len := by omega
      rw [hil] at Xl fl cl
      exact ⟨Tl, Bk, z, Xl, pl, fl, cl⟩
    | succ r ih =>
      intro i hi z hz Tl Bk Xl pl fl cl
      have all := X0.warmed.alike.symm.trans Xl.warmed.alike
      have hAl := hA0.keep all (pl.other hne hA0.1)
      have hBk := hB0.like all pl.1 fl.1 fl.2.1 fl.2.2.1
      have hlt : q + i < Bk.slots.size := by rw [fl.2.2.1]; omega
      have c3 : Steps p.tables e below (s₁.setTop (entryFrame m #[.ref b, .int (Int32.ofNat o), .ref d, .int (Int32.ofNat q), .int (Int32.ofNat len)] 7)) (Tl.setTop (mkF m 12 #[.val (.ref b), .val (.int (Int32.ofNat (o + i))), .val (.ref d), .val (.int (Int32.ofNat (q + i))), .val (.int (Int32.ofNat len)), .val (.int (Int32.ofNat i)), z] [.int (Int32.ofNat (o + i)), .ref b])) := cl.trans (by
        refine XS.iload Xl.here hexec rfl (hb hbytes d3) rfl ?_
        refine XS.iload Xl.here hexec rfl (hb hbytes d5) rfl ?_
        refine XS.icmpNo Xl.here hexec rfl (hb hbytes d7) rfl (ii_ge_f (lt32 (by omega) (by omega))) ?_
        refine XS.aloadN Xl.here hexec rfl (hb hbytes d10) rfl rfl ?_
        refine XS.iloadN Xl.here hexec rfl (hb hbytes d11) rfl ?_
        exact Steps.refl _)
      have c4 : Steps p.tables e below (s₁.setTop (entryFrame m #[.ref b, .int (Int32.ofNat o), .ref d, .int (Int32.ofNat q), .int (Int32.ofNat len)] 7)) (Tl.setTop (mkF m 13 #[.val (.ref b), .val (.int (Int32.ofNat (o + i))), .val (.ref d), .val (.int (Int32.ofNat (q + i))), .val (.int (Int32.ofNat len)), .val (.int (Int32.ofNat i)), z] [.int (cv A (o + i))])) := c3.trans (by
        refine Xl.aget hexec hAl rfl (hA.get (i := o + i) (by omega)) rfl rfl (hb hbytes d12) ?_
        exact Steps.refl _)
      have c5 : Steps p.tables e below (s₁.setTop (entryFrame m #[.ref b, .int (Int32.ofNat o), .ref d, .int (Int32.ofNat q), .int (Int32.ofNat len)] 7)) (Tl.setTop (mkF m 15 #[.val (.ref b), .val (.int (Int32.ofNat (o + i))), .val (.ref d), .val (.int (Int32.ofNat (q + i))), .val (.int (Int32.ofNat len)), .val (.int (Int32.ofNat i)), .val (.int (cv A (o + i)))] [])) := c4.trans (by
        refine XS.istoreS Xl.here hexec rfl (hb hbytes d13) rfl rfl hz ?_
        exact Steps.refl _)
      have c6 : Steps p.tables e below (s₁.setTop (entryFrame m #[.ref b, .int (Int32.ofNat o), .ref d, .int (Int32.ofNat q), .int (Int32.ofNat len)] 7)) (Tl.setTop (mkF m 31 #[.val (.ref b), .val (.int (Int32.ofNat (o + i))), .val (.ref d), .val (.int (Int32.ofNat (q + i))), .val (.int (Int32.ofNat len)), .val (.int (Int32.ofNat i)), .val (.int (cv A (o + i)))] [.int (lo8 (cv A (o + i))), .int (Int32.ofNat (q + i)), .ref d])) := c5.trans (by
        refine XS.iload Xl.here hexec rfl (hb hbytes d15) rfl ?_
        refine sipushV Xl.here hexec rfl 255 (hb hbytes d17) (by decide) ?_
        refine XS.icmpYes Xl.here hexec rfl (pc0 := 20) rfl (hb hbytes d20) rfl (ii_le_t (hp i (by omega))) (by decide) rfl ?_
        refine XS.aloadN Xl.here hexec rfl (hb hbytes d26) rfl rfl ?_
        refine XS.iloadN Xl.here hexec rfl (hb hbytes d27) rfl ?_
        refine XS.iload Xl.here hexec rfl (hb hbytes d28) rfl ?_
        refine i2b Xl.here hexec rfl (hb hbytes d30) rfl ?_
        exact Steps.refl _)
      obtain ⟨T7, X7, p7, st7⟩ := Xl.aput hexec hBk rfl hlt rfl (fits_lo8 (cv A (o + i))) (g := (mkF m 31 #[.val (.ref b), .val (.int (Int32.ofNat (o + i))), .val (.ref d), .val (.int (Int32.ofNat (q + i))), .val (.int (Int32.ofNat len)), .val (.int (Int32.ofNat i)), .val (.int (cv A (o + i)))] [.int (lo8 (cv A (o + i))), .int (Int32.ofNat (q + i)), .ref d])) rfl (rest := []) rfl (hb hbytes d31)
      have c8 : Steps p.tables e below (s₁.setTop (entryFrame m #[.ref b, .int (Int32.ofNat o), .ref d, .int (Int32.ofNat q), .int (Int32.ofNat len)] 7)) (T7.setTop (mkF m 32 #[.val (.ref b), .val (.int (Int32.ofNat (o + i))), .val (.ref d), .val (.int (Int32.ofNat (q + i))), .val (.int (Int32.ofNat len)), .val (.int (Int32.ofNat i)), .val (.int (cv A (o + i)))] [])) := c6.trans (st7 _ (Steps.refl _))
      have c9 : Steps p.tables e below (s₁.setTop (entryFrame m #[.ref b, .int (Int32.ofNat o), .ref d, .int (Int32.ofNat q), .int (Int32.ofNat len)] 7)) (T7.setTop (mkF m 3 #[.val (.ref b), .val (.int (Int32.ofNat (o + i) + 1)), .val (.ref d), .val (.int (Int32.ofNat (q + i) + 1)), .val (.int (Int32.ofNat len)), .val (.int (Int32.ofNat i + 1)), .val (.int (cv A (o + i)))] [])) := c8.trans (by
        refine iincV X7.here hexec rfl 1 (hb hbytes d32) (by decide) rfl rfl ?_
        refine iincV X7.here hexec rfl 1 (hb hbytes d35) (by decide) rfl rfl ?_
        refine iincV X7.here hexec rfl 1 (hb hbytes d38) (by decide) rfl rfl ?_
        refine XS.goto X7.here hexec rfl (pc0 := 41) rfl (hb hbytes d41) (by decide) rfl ?_
        exact Steps.refl _)
      have c10 : Steps p.tables e below (s₁.setTop (entryFrame m #[.ref b, .int (Int32.ofNat o), .ref d, .int (Int32.ofNat q), .int (Int32.ofNat len)] 7)) (T7.setTop (mkF m 3 #[.val (.ref b), .val (.int (Int32.ofNat (o + (i + 1)))), .val (.ref d), .val (.int (Int32.ofNat (q + (i + 1)))), .val (.int (Int32.ofNat len)), .val (.int (Int32.ofNat (i + 1))), .val (.int (cv A (o + i)))] [])) := by
        have := c9
        rw [succ32, succ32, succ32] at this
        exact this
      exact ih (i + 1) (by omega) _ (Or.inr ⟨_, rfl, rfl⟩) T7 _ (by rw [copyLocs_step, ← List.append_assoc]; exact X7) (pl.trans p7) (fl.step (by omega) hlt (by simp)) c10
  obtain ⟨T9, B9, z9, X9, p9, f9, g9⟩ := loop len 0 (by omega) .unset (Or.inl rfl) s₁ B (by simpa [copyLocs] using X0) ⟨hB0.1, fun _ _ => rfl, rfl⟩ (Laid.zero _ _ _) c2
  have c11 : Steps p.tables e below (s₁.setTop (entryFrame m #[.ref b, .int (Int32.ofNat o), .ref d, .int (Int32.ofNat q), .int (Int32.ofNat len)] 7)) (T9.setTop (mkF m 46 #[.val (.ref b), .val (.int (Int32.ofNat (o + len))), .val (.ref d), .val (.int (Int32.ofNat (q + len))), .val (.int (Int32.ofNat len)), .val (.int (Int32.ofNat len)), z9] [.int (Int32.ofNat len)])) := g9.trans (by
    refine XS.iload X9.here hexec rfl (hb hbytes d3) rfl ?_
    refine XS.iload X9.here hexec rfl (hb hbytes d5) rfl ?_
    refine XS.icmpYes X9.here hexec rfl (pc0 := 7) rfl (hb hbytes d7) rfl (ii_ge_t (nlt32 (by omega) (Nat.le_refl _))) (by decide) rfl ?_
    refine XS.iload X9.here hexec rfl (hb hbytes d44) rfl ?_
    exact Steps.refl _)
  exact ⟨T9, some (.int (Int32.ofNat len)), _, _, _, X9, by simp, rfl, rfl, (fun h => by cases h), ⟨rfl, B9, p9.from hh0, f9⟩, fun fs hl => c11.trans (X9.ireturnOut hexec hret rfl (Or.inl rfl) (hb hbytes d46) hl)⟩
end Cmp5
namespace Cmp3
def yN : MethodName := ⟨"java/lang/StringUTF16", "compress", "([CII)[B"⟩
abbrev yB : ByteArray := jdk_52_method_16_code
theorem d0 : decode yB 0 = .ok (.iload_n 2, 1) := by decide +kernel
theorem d1 : decode yB 1 = .ok (.newarray .byte, 2) := by decide +kernel
theorem d3 : decode yB 3 = .ok (.astore_n 3, 1) := by decide +kernel
theorem d4 : decode yB 4 = .ok (.aload_n 0, 1) := by decide +kernel
theorem d5 : decode yB 5 = .ok (.iload_n 1, 1) := by decide +kernel
theorem d6 : decode yB 6 = .ok (.aload_n 3, 1) := by decide +kernel
theorem d7 : decode yB 7 = .ok (.iconst 0, 1) := by decide +kernel
theorem d8 : decode yB 8 = .ok (.iload_n 2, 1) := by decide +kernel
theorem d9 : decode yB 9 = .ok (.invokestatic 115, 3) := by decide +kernel
theorem d12 : decode yB 12 = .ok (.istore 4, 2) := by decide +kernel
theorem d14 : decode yB 14 = .ok (.iload 4, 2) := by decide +kernel
theorem d16 : decode yB 16 = .ok (.iload_n 2, 1) := by decide +kernel
theorem d17 : decode yB 17 = .ok (.if_icmp (.eq) 40, 3) := by decide +kernel
theorem d57 : decode yB 57 = .ok (.aload_n 3, 1) := by decide +kernel
theorem d58 : decode yB 58 = .ok (.areturn, 1) := by decide +kernel
def site : List Cond := [.arrayClass .byte, Cmp5.tab] ++ staticW U16 115 Cmp5.yN
def tab : Cond := tabOf yN yB 6 (some (.array .byte)) site
def P (b : Addr) (A : Cell) (o len : Nat) (args : Array Value) (s : State) : Prop := args = #[.ref b, .int (Int32.ofNat o), .int (Int32.ofNat len)] ∧ Ch b A s ∧ o + len ≤ A.slots.size ∧ len ≤ 536870912 ∧ ∀ i, i < len → ¬ 255 < cv A (o + i)
def E (b : Addr) (A : Cell) (o len : Nat) (r : Option Value) (s u : State) : Prop := NewArr .byte "[B" len (fun j => .int (lo8 (cv A (o + j)))) r s u ∧ u.heap.size = s.heap.size + 1
/-- no char of the range above 255: a new byte[] of their low bytes -/
theorem law (l : Launch) (b : Addr) (A : Cell) (o len : Nat) : Law l yN 3 3 1 18 yB 6 (some (.array .byte)) site (P b A o len) (E b A o len) [] 1 len := by
  refine Law.of_walk (plainFor_of_name (by decide +kernel)) (by decide +kernel) (by decide +kernel) (by decide) (fun _ _ h => by rw [h.1]; rfl) (fun _ U U' hal hh h => ⟨h.1, h.2.1.mv hal hh, h.2.2⟩) (fun r U U' V V' h1 hal h2 h => ⟨NewArr.mv r U U' V V' h1 hal h2 h.1, by rw [h1, h2]; exact h.2⟩) ?_
  intro p e s m args below meth c s₁ X0 hexec hbytes hml hret hlk hnm hown hh0 W hP
  obtain ⟨rfl, hA, l1, l2, hp⟩ := hP
  have a31 := hA.1.2.2.2
  have c1 : Steps p.tables e below (s₁.setTop (entryFrame m #[.ref b, .int (Int32.ofNat o), .int (Int32.ofNat len)] 6)) (s₁.setTop (mkF m 0 #[.val (.ref b), .val (.int (Int32.ofNat o)), .val (.int (Int32.ofNat len)), .unset, .unset, .unset] [])) := entry rfl
  have c2 : Steps p.tables e below (s₁.setTop (entryFrame m #[.ref b, .int (Int32.ofNat o), .int (Int32.ofNat len)] 6)) (s₁.setTop (mkF m 1 #[.val (.ref b), .val (.int (Int32.ofNat o)), .val (.int (Int32.ofNat len)), .unset, .unset, .unset] [.int (Int32.ofNat len)])) := c1.trans (by
    refine XS.iloadN X0.here hexec rfl (hb hbytes d0) rfl ?_
    exact Steps.refl _)
  obtain ⟨T3, B3, X3, ba3, bs3, bv3, bh3, bf3, st3⟩ := X0.anew hexec (atype := .byte) (wk W (.arrayClass .byte)) rfl (by show len * 1 ≤ _; omega) (by omega) (g := (mkF m 1 #[.val (.ref b), .val (.int (Int32.ofNat o)), .val (.int (Int32.ofNat len)), .unset, .unset, .unset] [.int (Int32.ofNat len)])) rfl (hb hbytes d1) (rest := []) rfl (Nat.le_refl _) (by show 0 + len ≤ len; omega)
  rw [hh0] at ba3 st3
  have kp3 : XT.Kept s T3 := (XT.Kept.of_eq hh0).push bh3
  have hA3 := hA.keep X3.warmed.alike (kp3 _ _ hA.1.1)
  have hne : b ≠ s.heap.size := hA.1.ne
  have c4 : Steps p.tables e below (s₁.setTop (entryFrame m #[.ref b, .int (Int32.ofNat o), .int (Int32.ofNat len)] 6)) (T3.setTop (mkF m 3 #[.val (.ref b), .val (.int (Int32.ofNat o)), .val (.int (Int32.ofNat len)), .unset, .unset, .unset] [.ref s.heap.size])) := c2.trans (st3 _ (Steps.refl _))
  have c5 : Steps p.tables e below (s₁.setTop (entryFrame m #[.ref b, .int (Int32.ofNat o), .int (Int32.ofNat len)] 6)) (T3.setTop (mkF m 9 #[.val (.ref b), .val (.int (Int32.ofNat o)), .val (.int (Int32.ofNat len)), .val (.ref s.heap.size), .unset, .unset] [.int (Int32.ofNat len), .int 0, .ref s.heap.size, .int (Int32.ofNat o), .ref b])) := c4.trans (by
    refine XS.astoreN X3.here hexec rfl (hb hbytes d3) rfl rfl rfl ?_
    refine XS.aloadN X3.here hexec rfl (hb hbytes d4) rfl rfl ?_
    refine XS.iloadN X3.here hexec rfl (hb hbytes d5) rfl ?_
    refine XS.aloadN X3.here hexec rfl (hb hbytes d6) rfl rfl ?_
    refine iconstV X3.here hexec rfl 0 (hb hbytes d7) (by decide) ?_
    refine XS.iloadN X3.here hexec rfl (hb hbytes d8) rfl ?_
    exact Steps.refl _)
  obtain ⟨v6, T6, X6, E6, g6⟩ := X3.callS hexec (Cmp5.law l b A s.heap.size B3 o 0 len) hown (wks W (staticW U16 115 Cmp5.yN)) (wk W Cmp5.tab) (W := 0) (Nat.le_of_ble_eq_true rfl) (Nat.le_of_ble_eq_true rfl) (Nat.le_refl _) (by show 0 + len + 0 ≤ len; omega) (g := (mkF m 9 #[.val (.ref b), .val (.int (Int32.ofNat o)), .val (.int (Int32.ofNat len)), .val (.ref s.heap.size), .unset, .unset] [.int (Int32.ofNat len), .int (Int32.ofNat 0), .ref s.heap.size, .int (Int32.ofNat o), .ref b])) rfl (by rw [hml]; rfl) c5 (argsL := [.ref b, .int (Int32.ofNat o), .ref s.heap.size, .int (Int32.ofNat 0), .int (Int32.ofNat len)]) (rest := []) rfl rfl (by show 2 * 0 + 0 ≤ _; decide) (hb hbytes d9) (⟨rfl, hA3, ba3, hne, l1, by rw [bs3]; simp, hp⟩)
  obtain ⟨rfl, B6, p6, f6⟩ := E6
  have c7 : Steps p.tables e below (s₁.setTop (entryFrame m #[.ref b, .int (Int32.ofNat o), .int (Int32.ofNat len)] 6)) (T6.setTop (mkF m 12 #[.val (.ref b), .val (.int (Int32.ofNat o)), .val (.int (Int32.ofNat len)), .val (.ref s.heap.size), .unset, .unset] [.int (Int32.ofNat len)])) := g6
  have c8 : Steps p.tables e below (s₁.setTop (entryFrame m #[.ref b, .int (Int32.ofNat o), .int (Int32.ofNat len)] 6)) (T6.setTop (mkF m 58 #[.val (.ref b), .val (.int (Int32.ofNat o)), .val (.int (Int32.ofNat len)), .val (.ref s.heap.size), .val (.int (Int32.ofNat len)), .unset] [.ref s.heap.size])) := c7.trans (by
    refine XS.istore X6.here hexec rfl (hb hbytes d12) rfl rfl ?_
    refine XS.iload X6.here hexec rfl (hb hbytes d14) rfl ?_
    refine XS.iloadN X6.here hexec rfl (hb hbytes d16) rfl ?_
    refine XS.icmpYes X6.here hexec rfl (pc0 := 17) rfl (hb hbytes d17) rfl (ii_eq_t rfl) (by decide) rfl ?_
    refine XS.aloadN X6.here hexec rfl (hb hbytes d57) rfl rfl ?_
    exact Steps.refl _)
  have X8 := X6.wide (L' := []) (cells' := 1) (slots' := len) (fun x hx hlt => by
    simp only [List.nil_append, copyLocs, List.mem_map, List.mem_range] at hx
    obtain ⟨i, -, rfl⟩ := hx
    exact absurd hlt (Nat.lt_irrefl _)) (Nat.le_refl _) (by omega)
  exact ⟨T6, some (.ref s.heap.size), _, _, _, X8, rfl, rfl, rfl, (fun h => by cases h), ⟨⟨rfl, B6, ba3.like (X3.warmed.alike.symm.trans X6.warmed.alike) p6.1 f6.1 f6.2.1 f6.2.2.1, f6.2.1.trans bv3, by rw [X6.warmed.alike.findClass, f6.1]; exact bf3, by rw [f6.2.2.1, bs3]; simp, fun j hj => by rw [f6.2.2.2 j, if_pos (by omega)]; rfl, kp3.put p6 (Nat.le_refl _)⟩, by rw [p6.2.2, bh3, hh0]; simp⟩, fun fs hl => c8.trans (X8.areturnOut hexec rfl hret rfl (hb hbytes d58) hl)⟩
end Cmp3
namespace CodL
def yN : MethodName := ⟨"java/lang/StringUTF16", "coderFromArrayLen", "([BI)B"⟩
abbrev yB : ByteArray := jdk_52_method_15_code
theorem d0 : decode yB 0 = .ok (.iload_n 1, 1) := by decide +kernel
theorem d1 : decode yB 1 = .ok (.aload_n 0, 1) := by decide +kernel
theorem d2 : decode yB 2 = .ok (.arraylength, 1) := by decide +kernel
theorem d3 : decode yB 3 = .ok (.isub, 1) := by decide +kernel
theorem d4 : decode yB 4 = .ok (.bipush 31, 2) := by decide +kernel
theorem d6 : decode yB 6 = .ok (.iushr, 1) := by decide +kernel
theorem d7 : decode yB 7 = .ok (.i2b, 1) := by decide +kernel
theorem d8 : decode yB 8 = .ok (.ireturn, 1) := by decide +kernel
def site : List Cond := []
def tab : Cond := tabOf yN yB 2 (some .byte) site
def P (d : Addr) (B : Cell) (args : Array Value) (s : State) : Prop := args = #[.ref d, .int (Int32.ofNat B.slots.size)] ∧ Arr .byte d B s
def E (r : Option Value) (s u : State) : Prop := XT.PureE (some (.int 0)) r s u
/-- an array as long as the number of chars: LATIN1 -/
theorem law (l : Launch) (d : Addr) (B : Cell) : Law l yN 2 2 0 0 yB 2 (some .byte) site (P d B) E [] 0 0 := by
  refine Law.of_walk (plainFor_of_name (by decide +kernel)) (by decide +kernel) (by decide +kernel) (by decide) (fun _ _ h => by rw [h.1]; rfl) (fun _ U U' hal hh h => ⟨h.1, h.2.mv hal hh⟩) (fun r U U' V V' h1 hal h2 h => XT.PureE.mv r U U' V V' h1 hal h2 h) ?_
  intro p e s m args below meth c s₁ X0 hexec hbytes hml hret hlk hnm hown hh0 W hP
  obtain ⟨rfl, hB⟩ := hP
  have hB0 := hB.mv X0.warmed.alike hh0
  have c1 : Steps p.tables e below (s₁.setTop (entryFrame m #[.ref d, .int (Int32.ofNat B.slots.size)] 2)) (s₁.setTop (mkF m 0 #[.val (.ref d), .val (.int (Int32.ofNat B.slots.size))] [])) := entry rfl
  have c2 : Steps p.tables e below (s₁.setTop (entryFrame m #[.ref d, .int (Int32.ofNat B.slots.size)] 2)) (s₁.setTop (mkF m 2 #[.val (.ref d), .val (.int (Int32.ofNat B.slots.size))] [.ref d, .int (Int32.ofNat B.slots.size)])) := c1.trans (by
    refine XS.iloadN X0.here hexec rfl (hb hbytes d0) rfl ?_
    refine XS.aloadN X0.here hexec rfl (hb hbytes d1) rfl rfl ?_
    exact Steps.refl _)
  have c3 : Steps p.tables e below (s₁.setTop (entryFrame m #[.ref d, .int (Int32.ofNat B.slots.size)] 2)) (s₁.setTop (mkF m 8 #[.val (.ref d), .val (.int (Int32.ofNat B.slots.size))] [.int (lo8 (ushr (Int32.ofNat B.slots.size - Int32.ofNat B.slots.size) 31))])) := c2.trans (by
    refine X0.alen hexec hB0 rfl rfl (hb hbytes d2) ?_
    refine XS.isub X0.here hexec rfl (hb hbytes d3) rfl ?_
    refine bipushV X0.here hexec rfl 31 (hb hbytes d4) (by decide) ?_
    refine iushr X0.here hexec rfl (hb hbytes d6) rfl ?_
    refine i2b X0.here hexec rfl (hb hbytes d7) rfl ?_
    exact Steps.refl _)
  have e0 : lo8 (ushr (Int32.ofNat B.slots.size - Int32.ofNat B.slots.size) 31) = 0 := by rw [Int32.sub_self]; decide
  rw [e0] at c3
  exact ⟨s₁, some (.int 0), _, _, _, X0, rfl, rfl, rfl, (fun h => by cases h), ⟨rfl, hh0⟩, fun fs hl => c3.trans (X0.ireturnOut hexec hret rfl (Or.inr (Or.inr (Or.inl rfl))) (hb hbytes d8) hl)⟩
end CodL
/-- the String at a is Latin-1 over a new byte[] (the heap's one new cell): the low bytes of the len chars of A from o on; every cell but a is kept -/
def Got (a : Addr) (D : Cell) (fV fC : Field) (A : Cell) (o len : Nat) (r : Option Value) (s u : State) : Prop := r = none ∧ ∃ D' V : Cell, Blank "java/lang/String" a D' u ∧ Same D D' [fV.slot, fC.slot] ∧ D'.slots[fV.slot]? = some (.ref s.heap.size) ∧ D'.slots[fC.slot]? = some (.int 0) ∧ Arr .byte s.heap.size V u ∧ V.vm = .none ∧ u.vm.findClass "[B" = some V.cls ∧ V.slots.size = len ∧ (∀ j, j < len → V.slots[j]? = some (.int (lo8 (cv A (o + j))))) ∧ (∀ (y : Addr) (c : Cell), y ≠ a → s.heap[y]? = some c → u.heap[y]? = some c) ∧ u.heap.size = s.heap.size + 1
theorem Got.mv {a : Addr} {D A : Cell} {fV fC : Field} {o len : Nat} : ∀ r (U U' V V' : State), U'.heap = U.heap → V.vm.Alike V'.vm → V'.heap = V.heap → Got a D fV fC A o len r U V → Got a D fV fC A o len r U' V' :=
  fun r U U' V V' h1 hal h2 ⟨e0, D', X, a1, a2, a3, a4, a5, a6, a7, a8, a9, a10, a11⟩ => ⟨e0, D', X, a1.mv hal h2, a2, by rw [h1]; exact a3, a4, by rw [h1]; exact a5.mv hal h2, a6, by rw [hal.findClass]; exact a7, a8, a9, by rw [h1, h2]; exact a10, by rw [h1, h2]; exact a11⟩
namespace New4
def yN : MethodName := ⟨"java/lang/String", "<init>", "([CIILjava/lang/Void;)V"⟩
abbrev yB : ByteArray := jdk_42_method_149_code
theorem d0 : decode yB 0 = .ok (.aload_n 0, 1) := by decide +kernel
theorem d1 : decode yB 1 = .ok (.invokespecial 1, 3) := by decide +kernel
theorem d4 : decode yB 4 = .ok (.iload_n 3, 1) := by decide +kernel
theorem d5 : decode yB 5 = .ok (.ifCond (.ne) 22, 3) := by decide +kernel
theorem d27 : decode yB 27 = .ok (.getstatic 38, 3) := by decide +kernel
theorem d30 : decode yB 30 = .ok (.ifCond (.eq) 28, 3) := by decide +kernel
theorem d33 : decode yB 33 = .ok (.aload_n 1, 1) := by decide +kernel
theorem d34 : decode yB 34 = .ok (.iload_n 2, 1) := by decide +kernel
theorem d35 : decode yB 35 = .ok (.iload_n 3, 1) := by decide +kernel
theorem d36 : decode yB 36 = .ok (.invokestatic 177, 3) := by decide +kernel
theorem d39 : decode yB 39 = .ok (.astore 5, 2) := by decide +kernel
theorem d41 : decode yB 41 = .ok (.aload_n 0, 1) := by decide +kernel
theorem d42 : decode yB 42 = .ok (.aload 5, 2) := by decide +kernel
theorem d44 : decode yB 44 = .ok (.iload_n 3, 1) := by decide +kernel
theorem d45 : decode yB 45 = .ok (.invokestatic 47, 3) := by decide +kernel
theorem d48 : decode yB 48 = .ok (.putfield 15, 3) := by decide +kernel
theorem d51 : decode yB 51 = .ok (.aload_n 0, 1) := by decide +kernel
theorem d52 : decode yB 52 = .ok (.aload 5, 2) := by decide +kernel
theorem d54 : decode yB 54 = .ok (.putfield 9, 3) := by decide +kernel
theorem d57 : decode yB 57 = .ok (.return_, 1) := by decide +kernel
def site : List Cond := [.fieldLink "java/lang/String" 38 "java/lang/String" "COMPACT_STRINGS" "Z", Cmp3.tab, CodL.tab, .laysFinal "java/lang/String" "java/lang/String" "value" "[B", .fieldLink "java/lang/String" 9 "java/lang/String" "value" "[B", .laysFinal "java/lang/String" "java/lang/String" "coder" "B", .fieldLink "java/lang/String" 15 "java/lang/String" "coder" "B"] ++ objW "java/lang/String" 1 ++ staticW "java/lang/String" 177 Cmp3.yN ++ staticW "java/lang/String" 47 CodL.yN
def tab : Cond := tabOf yN yB 6 none site
def P (a : Addr) (D : Cell) (fV fC : Field) (b : Addr) (A : Cell) (z : Int32) (o len : Nat) (args : Array Value) (s : State) : Prop := args = #[.ref a, .ref b, .int (Int32.ofNat o), .int (Int32.ofNat len), .null] ∧ Blank "java/lang/String" a D s ∧ Found "java/lang/String" "value" "[B" fV s ∧ Found "java/lang/String" "coder" "B" fC s ∧ Ch b A s ∧ StaticIs s "java/lang/String" "COMPACT_STRINGS" "Z" (.int z) ∧ ¬ z = 0 ∧ 0 < len ∧ o + len ≤ A.slots.size ∧ len ≤ 536870912 ∧ ∀ i, i < len → ¬ 255 < cv A (o + i)
def E (a : Addr) (D : Cell) (fV fC : Field) (A : Cell) (o len : Nat) (r : Option Value) (s u : State) : Prop := Got a D fV fC A o len r s u
/-- len > 0, no char of the range above 255: a Latin-1 String of their low bytes -/
theorem law (l : Launch) (a : Addr) (D : Cell) (fV fC : Field) (b : Addr) (A : Cell) (z : Int32) (o len : Nat) : Law l yN 5 4 2 35 yB 6 none site (P a D fV fC b A z o len) (E a D fV fC A o len) [⟨a, fC.slot⟩, ⟨a, fV.slot⟩] 1 len := by
  refine Law.of_walk (plainFor_of_name (by decide +kernel)) (by decide +kernel) (by decide +kernel) (by decide) (fun _ _ h => by rw [h.1]; rfl) (fun _ U U' hal hh h => ⟨h.1, h.2.1.mv hal hh, h.2.2.1.al hal, h.2.2.2.1.al hal, h.2.2.2.2.1.mv hal hh, h.2.2.2.2.2.1.there hal hh, h.2.2.2.2.2.2⟩) (fun r U U' V V' h1 hal h2 h => Got.mv r U U' V V' h1 hal h2 h) ?_
  intro p e s m args below meth c s₁ X0 hexec hbytes hml hret hlk hnm hown hh0 W hP
  obtain ⟨rfl, hB, f1, f2, hA, s1, hz, l0, l1, l2, hp⟩ := hP
  have a31 := hA.1.2.2.2
  have c1 : Steps p.tables e below (s₁.setTop (entryFrame m #[.ref a, .ref b, .int (Int32.ofNat o), .int (Int32.ofNat len), .null] 6)) (s₁.setTop (mkF m 0 #[.val (.ref a), .val (.ref b), .val (.int (Int32.ofNat o)), .val (.int (Int32.ofNat len)), .val .null, .unset] [])) := entry rfl
  have c2 : Steps p.tables e below (s₁.setTop (entryFrame m #[.ref a, .ref b, .int (Int32.ofNat o), .int (Int32.ofNat len), .null] 6)) (s₁.setTop (mkF m 1 #[.val (.ref a), .val (.ref b), .val (.int (Int32.ofNat o)), .val (.int (Int32.ofNat len)), .val .null, .unset] [.ref a])) := c1.trans (by
    refine XS.aloadN X0.here hexec rfl (hb hbytes d0) rfl rfl ?_
    exact Steps.refl _)
  obtain ⟨T3, X3, q3, st3⟩ := X0.oinit hexec hown (wks W (objW "java/lang/String" 1)) (g := (mkF m 1 #[.val (.ref a), .val (.ref b), .val (.int (Int32.ofNat o)), .val (.int (Int32.ofNat len)), .val .null, .unset] [.ref a])) rfl (by rw [hml]; rfl) (rest := []) rfl (hb hbytes d1) (W := 0) (by show 2 * 0 + 0 ≤ _; decide) (Nat.le_of_ble_eq_true rfl) (Nat.le_of_ble_eq_true rfl)
  have hh3 := q3.trans hh0
  have c4 : Steps p.tables e below (s₁.setTop (entryFrame m #[.ref a, .ref b, .int (Int32.ofNat o), .int (Int32.ofNat len), .null] 6)) (T3.setTop (mkF m 27 #[.val (.ref a), .val (.ref b), .val (.int (Int32.ofNat o)), .val (.int (Int32.ofNat len)), .val .null, .unset] [])) := (c2.trans (st3 _ (Steps.refl _))).trans (by
    refine XS.iloadN X3.here hexec rfl (hb hbytes d4) rfl ?_
    refine XS.ifYes X3.here hexec rfl (pc0 := 5) rfl (hb hbytes d5) rfl (i0_ne_t (nz32 (by omega) l0)) (by decide) rfl ?_
    exact Steps.refl _)
  obtain ⟨T5, X5, q5, st5⟩ := X3.sget hexec hown (wk W (.fieldLink "java/lang/String" 38 "java/lang/String" "COMPACT_STRINGS" "Z")) s1 (fun _ _ h => by rw [hh3]; exact h) (g := (mkF m 27 #[.val (.ref a), .val (.ref b), .val (.int (Int32.ofNat o)), .val (.int (Int32.ofNat len)), .val .null, .unset] [])) rfl (hb hbytes d27)
  have hh5 := q5.trans hh3
  have c6 : Steps p.tables e below (s₁.setTop (entryFrame m #[.ref a, .ref b, .int (Int32.ofNat o), .int (Int32.ofNat len), .null] 6)) (T5.setTop (mkF m 30 #[.val (.ref a), .val (.ref b), .val (.int (Int32.ofNat o)), .val (.int (Int32.ofNat len)), .val .null, .unset] [.int z])) := c4.trans (st5 _ (Steps.refl _))
  have c7 : Steps p.tables e below (s₁.setTop (entryFrame m #[.ref a, .ref b, .int (Int32.ofNat o), .int (Int32.ofNat len), .null] 6)) (T5.setTop (mkF m 36 #[.val (.ref a), .val (.ref b), .val (.int (Int32.ofNat o)), .val (.int (Int32.ofNat len)), .val .null, .unset] [.int (Int32.ofNat len), .int (Int32.ofNat o), .ref b])) := c6.trans (by
    refine XS.ifNo X5.here hexec rfl (hb hbytes d30) rfl (i0_eq_f hz) ?_
    refine XS.aloadN X5.here hexec rfl (hb hbytes d33) rfl rfl ?_
    refine XS.iloadN X5.here hexec rfl (hb hbytes d34) rfl ?_
    refine XS.iloadN X5.here hexec rfl (hb hbytes d35) rfl ?_
    exact Steps.refl _)
  obtain ⟨v8, T8, X8, E8, g8⟩ := X5.callS hexec (Cmp3.law l b A o len) hown (wks W (staticW "java/lang/String" 177 Cmp3.yN)) (wk W Cmp3.tab) (W := 0) (Nat.le_of_ble_eq_true rfl) (Nat.le_of_ble_eq_true rfl) (Nat.le_refl _) (by show 0 + len ≤ len; omega) (g := (mkF m 36 #[.val (.ref a), .val (.ref b), .val (.int (Int32.ofNat o)), .val (.int (Int32.ofNat len)), .val .null, .unset] [.int (Int32.ofNat len), .int (Int32.ofNat o), .ref b])) rfl (by rw [hml]; rfl) c7 (argsL := [.ref b, .int (Int32.ofNat o), .int (Int32.ofNat len)]) (rest := []) rfl rfl (by show 2 * 0 + 0 ≤ _; decide) (hb hbytes d36) (⟨rfl, hA.mv X5.warmed.alike hh5, l1, l2, hp⟩)
  obtain ⟨e8, z8⟩ := E8
  obtain ⟨rfl, N, n1, n2, n3, n4, n5, n6⟩ := NewArr.mv _ T5 s _ _ hh5.symm (Vm.Alike.refl _) rfl e8
  rw [hh5] at z8
  have hB1 := hB.keep X8.warmed.alike (n6 _ _ hB.1)
  have hne : s.heap.size ≠ a := (Nat.ne_of_lt (Array.getElem?_eq_some_iff.mp hB.1).1).symm
  have c9 : Steps p.tables e below (s₁.setTop (entryFrame m #[.ref a, .ref b, .int (Int32.ofNat o), .int (Int32.ofNat len), .null] 6)) (T8.setTop (mkF m 39 #[.val (.ref a), .val (.ref b), .val (.int (Int32.ofNat o)), .val (.int (Int32.ofNat len)), .val .null, .unset] [.ref s.heap.size])) := g8
  have c10 : Steps p.tables e below (s₁.setTop (entryFrame m #[.ref a, .ref b, .int (Int32.ofNat o), .int (Int32.ofNat len), .null] 6)) (T8.setTop (mkF m 45 #[.val (.ref a), .val (.ref b), .val (.int (Int32.ofNat o)), .val (.int (Int32.ofNat len)), .val .null, .val (.ref s.heap.size)] [.int (Int32.ofNat N.slots.size), .ref s.heap.size, .ref a])) := by
    have hc : Steps p.tables e below (s₁.setTop (entryFrame m #[.ref a, .ref b, .int (Int32.ofNat o), .int (Int32.ofNat len), .null] 6)) (T8.setTop (mkF m 45 #[.val (.ref a), .val (.ref b), .val (.int (Int32.ofNat o)), .val (.int (Int32.ofNat len)), .val .null, .val (.ref s.heap.size)] [.int (Int32.ofNat len), .ref s.heap.size, .ref a])) := c9.trans (by
      refine XS.astore X8.here hexec rfl (hb hbytes d39) rfl rfl rfl ?_
      refine XS.aloadN X8.here hexec rfl (hb hbytes d41) rfl rfl ?_
      refine XS.aload X8.here hexec rfl (hb hbytes d42) rfl rfl ?_
      refine XS.iloadN X8.here hexec rfl (hb hbytes d44) rfl ?_
      exact Steps.refl _)
    rw [n4]; exact hc
  obtain ⟨v11, T11, X11, E11, g11⟩ := X8.callS hexec (CodL.law l s.heap.size N) hown (wks W (staticW "java/lang/String" 47 CodL.yN)) (wk W CodL.tab) (W := 1) (Nat.le_of_ble_eq_true rfl) (Nat.le_of_ble_eq_true rfl) (Nat.le_refl _) (by show 0 + len + 0 ≤ len; omega) (g := (mkF m 45 #[.val (.ref a), .val (.ref b), .val (.int (Int32.ofNat o)), .val (.int (Int32.ofNat len)), .val .null, .val (.ref s.heap.size)] [.int (Int32.ofNat N.slots.size), .ref s.heap.size, .ref a])) rfl (by rw [hml]; rfl) c10 (argsL := [.ref s.heap.size, .int (Int32.ofNat N.slots.size)]) (rest := [.ref a]) rfl rfl (by show 2 * 0 + (1 + 0) ≤ _; decide) (hb hbytes d45) (⟨rfl, n1⟩)
  obtain ⟨rfl, q11⟩ := E11
  have hB11 := hB1.mv (X8.warmed.alike.symm.trans X11.warmed.alike) q11
  have c12 : Steps p.tables e below (s₁.setTop (entryFrame m #[.ref a, .ref b, .int (Int32.ofNat o), .int (Int32.ofNat len), .null] 6)) (T11.setTop (mkF m 48 #[.val (.ref a), .val (.ref b), .val (.int (Int32.ofNat o)), .val (.int (Int32.ofNat len)), .val .null, .val (.ref s.heap.size)] [.int 0, .ref a])) := g11
  obtain ⟨T13, X13, p13, bl13, sl13, st13⟩ := X11.finit hexec hown (wk W (.fieldLink "java/lang/String" 15 "java/lang/String" "coder" "B")) (Or.inr ⟨_, (wk W (.laysFinal "java/lang/String" "java/lang/String" "coder" "B"))⟩) (Or.inl ⟨rfl, hnm⟩) f2 (Or.inl rfl) hB11 (t := .byte) (by decide +kernel) rfl (g := (mkF m 48 #[.val (.ref a), .val (.ref b), .val (.int (Int32.ofNat o)), .val (.int (Int32.ofNat len)), .val .null, .val (.ref s.heap.size)] [.int 0, .ref a])) rfl (rest := []) rfl (hb hbytes d48)
  have c14 : Steps p.tables e below (s₁.setTop (entryFrame m #[.ref a, .ref b, .int (Int32.ofNat o), .int (Int32.ofNat len), .null] 6)) (T13.setTop (mkF m 54 #[.val (.ref a), .val (.ref b), .val (.int (Int32.ofNat o)), .val (.int (Int32.ofNat len)), .val .null, .val (.ref s.heap.size)] [.ref s.heap.size, .ref a])) := (c12.trans (st13 _ (Steps.refl _))).trans (by
    refine XS.aloadN X13.here hexec rfl (hb hbytes d51) rfl rfl ?_
    refine XS.aload X13.here hexec rfl (hb hbytes d52) rfl rfl ?_
    exact Steps.refl _)
  obtain ⟨T15, X15, p15, bl15, sl15, st15⟩ := X13.finit hexec hown (wk W (.fieldLink "java/lang/String" 9 "java/lang/String" "value" "[B")) (Or.inr ⟨_, (wk W (.laysFinal "java/lang/String" "java/lang/String" "value" "[B"))⟩) (Or.inl ⟨rfl, hnm⟩) f1 (Or.inl rfl) bl13 (t := (.array .byte)) (by decide +kernel) rfl (g := (mkF m 54 #[.val (.ref a), .val (.ref b), .val (.int (Int32.ofNat o)), .val (.int (Int32.ofNat len)), .val .null, .val (.ref s.heap.size)] [.ref s.heap.size, .ref a])) rfl (rest := []) rfl (hb hbytes d54)
  have c16 : Steps p.tables e below (s₁.setTop (entryFrame m #[.ref a, .ref b, .int (Int32.ofNat o), .int (Int32.ofNat len), .null] 6)) (T15.setTop (mkF m 57 #[.val (.ref a), .val (.ref b), .val (.int (Int32.ofNat o)), .val (.int (Int32.ofNat len)), .val .null, .val (.ref s.heap.size)] [])) := c14.trans (st15 _ (Steps.refl _))
  have ap := apart (Or.inr ⟨_, (wk W (.laysFinal "java/lang/String" "java/lang/String" "value" "[B"))⟩) (Or.inr ⟨_, (wk W (.laysFinal "java/lang/String" "java/lang/String" "coder" "B"))⟩) f1 f2 (t₁ := .array .byte) (t₂ := .byte) (by decide +kernel) (by decide +kernel) (by decide)
  have al := X8.warmed.alike.symm.trans X15.warmed.alike
  have n7 : T11.heap[s.heap.size]? = some N := by rw [q11]; exact n1.1
  exact ⟨T15, none, _, _, _, X15, by simp, rfl, by omega, (fun _ => rfl), ⟨rfl, _, N, bl15, ((Same.refl D _).set _ (by simp)).set _ (by simp), sl15, (Cell.slots_setSlot_ne _ ap).trans sl13, n1.keep al (p15.other hne (p13.other hne n7)), n2, by rw [al.findClass]; exact n3, n4, n5, fun y c h1 h2 => p15.other h1 (p13.other h1 (by rw [q11]; exact n6 y c h2)), by rw [p15.2.2, p13.2.2, q11]; exact z8⟩, fun fs hl => c16.trans (X15.returnOut hexec hret (hb hbytes d57) hl)⟩
end New4
namespace New1
def yN : MethodName := ⟨"java/lang/String", "<init>", "([C)V"⟩
abbrev yB : ByteArray := jdk_42_method_3_code
theorem d0 : decode yB 0 = .ok (.aload_n 0, 1) := by decide +kernel
theorem d1 : decode yB 1 = .ok (.aload_n 1, 1) := by decide +kernel
theorem d2 : decode yB 2 = .ok (.iconst 0, 1) := by decide +kernel
theorem d3 : decode yB 3 = .ok (.aload_n 1, 1) := by decide +kernel
theorem d4 : decode yB 4 = .ok (.arraylength, 1) := by decide +kernel
theorem d5 : decode yB 5 = .ok (.aconst_null, 1) := by decide +kernel
theorem d6 : decode yB 6 = .ok (.invokespecial 27, 3) := by decide +kernel
theorem d9 : decode yB 9 = .ok (.return_, 1) := by decide +kernel
def site : List Cond := [New4.tab] ++ initW "java/lang/String" 27 New4.yN
def tab : Cond := tabOf yN yB 2 none site
def P (a : Addr) (D : Cell) (fV fC : Field) (b : Addr) (A : Cell) (z : Int32) (args : Array Value) (s : State) : Prop := args = #[.ref a, .ref b] ∧ Blank "java/lang/String" a D s ∧ Found "java/lang/String" "value" "[B" fV s ∧ Found "java/lang/String" "coder" "B" fC s ∧ Ch b A s ∧ StaticIs s "java/lang/String" "COMPACT_STRINGS" "Z" (.int z) ∧ ¬ z = 0 ∧ 0 < A.slots.size ∧ A.slots.size ≤ 536870912 ∧ ∀ i, i < A.slots.size → ¬ 255 < cv A i
def E (a : Addr) (D : Cell) (fV fC : Field) (A : Cell) (r : Option Value) (s u : State) : Prop := Got a D fV fC A 0 A.slots.size r s u
/-- new String(chars), not empty, no char above 255: a Latin-1 String of their low bytes -/
theorem law (l : Launch) (a : Addr) (D : Cell) (fV fC : Field) (b : Addr) (A : Cell) (z : Int32) : Law l yN 2 1 3 52 yB 2 none site (P a D fV fC b A z) (E a D fV fC A) [⟨a, fC.slot⟩, ⟨a, fV.slot⟩] 1 A.slots.size := by
  refine Law.of_walk (plainFor_of_name (by decide +kernel)) (by decide +kernel) (by decide +kernel) (by decide) (fun _ _ h => by rw [h.1]; rfl) (fun _ U U' hal hh h => ⟨h.1, h.2.1.mv hal hh, h.2.2.1.al hal, h.2.2.2.1.al hal, h.2.2.2.2.1.mv hal hh, h.2.2.2.2.2.1.there hal hh, h.2.2.2.2.2.2⟩) (fun r U U' V V' h1 hal h2 h => Got.mv r U U' V V' h1 hal h2 h) ?_
  intro p e s m args below meth c s₁ X0 hexec hbytes hml hret hlk hnm hown hh0 W hP
  obtain ⟨rfl, hB, f1, f2, hA, s1, hz, l0, l2, hp⟩ := hP
  have c1 : Steps p.tables e below (s₁.setTop (entryFrame m #[.ref a, .ref b] 2)) (s₁.setTop (mkF m 0 #[.val (.ref a), .val (.ref b)] [])) := entry rfl
  have c2 : Steps p.tables e below (s₁.setTop (entryFrame m #[.ref a, .ref b] 2)) (s₁.setTop (mkF m 6 #[.val (.ref a), .val (.ref b)] [.null, .int (Int32.ofNat A.slots.size), .int 0, .ref b, .ref a])) := c1.trans (by
    refine XS.aloadN X0.here hexec rfl (hb hbytes d0) rfl rfl ?_
    refine XS.aloadN X0.here hexec rfl (hb hbytes d1) rfl rfl ?_
    refine iconstV X0.here hexec rfl 0 (hb hbytes d2) (by decide) ?_
    refine XS.aloadN X0.here hexec rfl (hb hbytes d3) rfl rfl ?_
    refine X0.alen hexec (hA.1.mv X0.warmed.alike hh0) rfl rfl (hb hbytes d4) ?_
    refine XS.aconstNull X0.here hexec rfl (hb hbytes d5) ?_
    exact Steps.refl _)
  obtain ⟨v3, T3, X3, E3, g3⟩ := X0.callN hexec (New4.law l a D fV fC b A z 0 A.slots.size) rfl hown (wks W (initW "java/lang/String" 27 New4.yN)) (W New4.tab (by simp only [site, List.mem_cons, List.mem_append, true_or, or_true])) (W := 0) (Nat.le_of_ble_eq_true rfl) (Nat.le_of_ble_eq_true rfl) (Nat.le_refl _) (by show 0 + A.slots.size ≤ A.slots.size; omega) (g := (mkF m 6 #[.val (.ref a), .val (.ref b)] [.null, .int (Int32.ofNat A.slots.size), .int (Int32.ofNat 0), .ref b, .ref a])) rfl (by rw [hml]; rfl) c2 (argsL := [.ref b, .int (Int32.ofNat 0), .int (Int32.ofNat A.slots.size), .null]) (rest := []) rfl rfl (by show 2 * 0 + 0 ≤ _; decide) (hb hbytes d6) (⟨rfl, hB.mv X0.warmed.alike hh0, f1.al X0.warmed.alike, f2.al X0.warmed.alike, hA.mv X0.warmed.alike hh0, s1.there X0.warmed.alike hh0, hz, l0, by omega, l2, fun i hi => by rw [Nat.zero_add]; exact hp i hi⟩)
  have e0 := Got.mv _ s₁ s _ _ hh0.symm (Vm.Alike.refl _) rfl E3
  obtain rfl := e0.1
  have c4 : Steps p.tables e below (s₁.setTop (entryFrame m #[.ref a, .ref b] 2)) (T3.setTop (mkF m 9 #[.val (.ref a), .val (.ref b)] [])) := g3
  exact ⟨T3, none, _, _, _, X3, by simp, rfl, by omega, (fun _ => rfl), e0, fun fs hl => c4.trans (X3.returnOut hexec hret (hb hbytes d9) hl)⟩
theorem pays {l : Launch} {R : Room} {p : Program} {e : Env} {below : List Frame} {s : State} {sargs : Array Value} {len W : Nat} (a : Addr) (D : Cell) (fV fC : Field) (b : Addr) (A : Cell) (z : Int32) (htab : tab.before sargs s = true) (hfr : 4 ≤ R.frames) (hlo : W + 65 ≤ R.locals) :
    Back l R p e below s sargs yN len W (fun A₁ a₁ => A₁.cells + 1 ≤ R.cells ∧ A₁.slots + A.slots.size ≤ R.slots ∧ P a D fV fC b A z a₁ A₁.U) (fun A₁ _ v₁ B₁ => E a D fV fC A v₁ A₁.U B₁.U ∧ B₁.locs = A₁.locs ++ [⟨a, fC.slot⟩, ⟨a, fV.slot⟩] ∧ B₁.cells = A₁.cells + 1 ∧ B₁.slots = A₁.slots + A.slots.size) :=
  (law l a D fV fC b A z).pays htab hfr (by omega)
end New1
end StrChars
namespace StrChars.Road
open Jvm Sem ClassFile Op Lib Jvm.Stand Jvm.Free Jvm.Free.XT
open Jvm.Lib.Cold (StaticIs)
abbrev ST : String := "java/lang/String"
/-- every table word that New1's law asks, flat -/
abbrev words : List Jvm.Cond := [.code New1.yN New1.yB 2 none, .initialized ST, .methodLink ST 27 New4.yN, .instanceMethod New4.yN,
  .code New4.yN New4.yB 6 none, .fieldLink ST 38 ST "COMPACT_STRINGS" "Z", .laysFinal ST ST "value" "[B", .fieldLink ST 9 ST "value" "[B", .laysFinal ST ST "coder" "B", .fieldLink ST 15 ST "coder" "B",
  .methodLink ST 1 Lib.objectInit, .instanceMethod Lib.objectInit, .code Lib.objectInit ⟨#[0xb1]⟩ 1 none, .methodLink ST 177 Cmp3.yN, .static Cmp3.yN, .methodLink ST 47 CodL.yN, .static CodL.yN,
  .code Cmp3.yN Cmp3.yB 6 (some (.array .byte)), .initialized U16, .arrayClass .byte, .methodLink U16 115 Cmp5.yN, .static Cmp5.yN, .code Cmp5.yN Cmp5.yB 7 (some .int), .code CodL.yN CodL.yB 2 (some .byte)]
theorem tab_of {a : Array Value} {s : State} (h : ∀ w ∈ words, w.before a s = true) : New1.tab.before a s = true := by
  have h5 : Cmp5.tab.before a s = true := unparts (wk h (.code Cmp5.yN Cmp5.yB 7 (some .int))) (wks h (.initialized Cmp5.yN.cls :: Cmp5.site))
  have hc : CodL.tab.before a s = true := unparts (wk h (.code CodL.yN CodL.yB 2 (some .byte))) (wks h (.initialized CodL.yN.cls :: CodL.site))
  have q5 : ∀ w ∈ Cmp5.tab :: words, w.before a s = true := fun w hw => (List.mem_cons.mp hw).elim (fun e => e ▸ h5) (h w)
  have h3 : Cmp3.tab.before a s = true := unparts (wk q5 (.code Cmp3.yN Cmp3.yB 6 (some (.array .byte)))) (wks q5 (.initialized Cmp3.yN.cls :: Cmp3.site))
  have q3 : ∀ w ∈ Cmp3.tab :: CodL.tab :: words, w.before a s = true := fun w hw => (List.mem_cons.mp hw).elim (fun e => e ▸ h3) fun hw => (List.mem_cons.mp hw).elim (fun e => e ▸ hc) (h w)
  have h4 : New4.tab.before a s = true := unparts (wk q3 (.code New4.yN New4.yB 6 none)) (wks q3 (.initialized New4.yN.cls :: New4.site))
  have q4 : ∀ w ∈ New4.tab :: words, w.before a s = true := fun w hw => (List.mem_cons.mp hw).elim (fun e => e ▸ h4) (h w)
  exact unparts (wk q4 (.code New1.yN New1.yB 2 none)) (wks q4 (.initialized New1.yN.cls :: New1.site))
/-- the words ride from the start Z to the walk's own state -/
theorem moved {Z s : State} {a0 args : Array Value} (hZ : Z.Warmed39 s.vm) (hw : ∀ d ∈ words, d.before a0 Z = true) : ∀ d ∈ words, d.before args s = true := fun d hd => by
  have q := hw d hd
  have t : ∀ d ∈ words, d = .arrayClass .byte ∨ (d.onTables && d.keepsFace) = true := by decide +kernel
  rcases t d hd with rfl | t
  · exact RoadKit.mvA hZ q
  · exact RoadKit.mv hZ q t
/-- WHAT COMES BACK, over the tables of the start Z: h the heap at the call, h' behind it -/
def Q (Z : State) (x : Addr) (A : Cell) (h : Heap) (v : Option Value) (h' : Heap) (L : List Loc) : Prop := v = none ∧ (∀ y ∈ L, y.base = x) ∧ RoadKit.Keep h h' [x] ∧ h'.size = h.size + 1 ∧ RoadKit.Exa Z h' x ST ∧ RoadKit.Fld Z h' x ST "value" "[B" (.ref h.size) ∧ RoadKit.Fld Z h' x ST "coder" "B" (.int 0) ∧
  (∃ V : Cell, RoadKit.Arr Z h' h.size V .byte ∧ V.vm = .none ∧ Z.vm.findClass "[B" = some V.cls ∧ V.slots.size = A.slots.size ∧ ∀ j, j < A.slots.size → V.slots[j]? = some (.int (lo8 (cv A j)))) ∧
  ∀ (O n d : String) (w : Value), RoadKit.Fld Z h x O n d w → RoadKit.slotOf Z O n d ≠ RoadKit.slotOf Z ST "value" "[B" → RoadKit.slotOf Z O n d ≠ RoadKit.slotOf Z ST "coder" "B" → RoadKit.Fld Z h' x O n d w
/-- **new String(chars) AT A CALL, IN THE ROAD'S FORM**: for specialBack behind newO: x the fresh String, b the char[] with the cell A -/
theorem back {p : Program} {l : Launch} {e : Env} {R : Room} {s : State} {args : Array Value} {below : List Frame} {len W : Nat} {Z : State} {a0 : Array Value} {h : Heap} (hZ : Z.Warmed39 s.vm) (hw : ∀ d ∈ words, d.before a0 Z = true) {kI : Nat} (wi : (Jvm.Cond.instantiable ST kI).before a0 Z = true)
    {x b : Addr} {A : Cell} {z : Int32} {v0 c0 : Value} (E : RoadKit.Exa Z h x ST) (V : RoadKit.Fld Z h x ST "value" "[B" v0) (C : RoadKit.Fld Z h x ST "coder" "B" c0) (K : RoadKit.Arr Z h b A .char) (hty : Typed .char A) (S : RoadKit.Sta Z h ST "COMPACT_STRINGS" "Z" (.int z)) (hz : ¬ z = 0)
    (l0 : 0 < A.slots.size) (l2 : A.slots.size ≤ 536870912) (hp : ∀ i, i < A.slots.size → ¬ 255 < cv A i) (hfr : 4 ≤ R.frames) (hlo : W + 65 ≤ R.locals) :
    Back l R p e below s args New1.yN len W (fun P a => a = #[.ref x, .ref b] ∧ P.U.heap = h ∧ P.cells + 1 ≤ R.cells ∧ P.slots + A.slots.size ≤ R.slots)
      (fun P _ v B => ∃ L, Q Z x A h v B.U.heap L ∧ B.locs = P.locs ++ L ∧ B.cells = P.cells + 1 ∧ B.slots = P.slots + A.slots.size) := by
  intro m meth c P g ig mk a X hg hsize hdg hW hn hp'
  obtain ⟨rfl, rfl, r1, r2⟩ := hp'
  have al : Z.vm.Alike P.U.vm := hZ.alike.trans X.warmed.alike
  obtain ⟨D, cfV, kV, iV, fV, hD, gV, stV, knV, obV, asV, slV⟩ := id V
  obtain ⟨D', cfC, kC, iC, fC, hD', gC, stC, -, -, asC, slC⟩ := id C
  cases hD.symm.trans hD'
  obtain ⟨D2, kD, e1, e2, e3, e4, e5⟩ := id E
  cases hD.symm.trans e1
  obtain ⟨c2, k2, i1, i2, i3, -⟩ := Cond.instantiable_spec wi
  cases e2.symm.trans i1
  cases e3.symm.trans i2
  obtain ⟨kU, u1, u2⟩ := al.2.2 _ _ e3
  have hB : Blank ST x D P.U := ⟨hD, ⟨knV, fun q hq => by rw [hq] at obV; cases obV⟩, by rw [al.findClass]; exact e2, kU, u1, by rw [u2]; exact i3, by rw [u2]; exact e5 i3⟩
  have F1 : Found ST "value" "[B" fV P.U := ⟨SBG.found_only al ⟨cfV, kV, iV, gV⟩, stV⟩
  have F2 : Found ST "coder" "B" fC P.U := ⟨SBG.found_only al ⟨cfC, kC, iC, gC⟩, stC⟩
  have hA : Ch b A P.U := ⟨⟨K.1, State.isArrayOf_alike al K.2.1, K.2.2, by omega⟩, hty⟩
  have hS : StaticIs P.U ST "COMPACT_STRINGS" "Z" (.int z) := by
    obtain ⟨cfS, iS, kS, fS, st, cS, t1, t2, t3, t4, t5, t6, t7⟩ := S
    exact StaticIs.there (s := { Z with heap := P.U.heap }) ⟨cfS, iS, kS, fS, st, cS, t1, t2, t3, t4, t5, (fun q => by rw [q] at t6; cases t6), t7⟩ al rfl
  obtain ⟨v, B, X', ⟨⟨hv, E', V', q1, q2, q3, q4, q5, q6, q7, q8, q9, q10, q11⟩, hl, hc, hs⟩, st⟩ := New1.pays x D fV fC b A z (tab_of (moved hZ hw)) hfr hlo m meth c P g ig mk _ X hg hsize hdg hW hn ⟨r1, r2, rfl, hB, F1, F2, hA, hS, hz, l0, l2, hp⟩
  have al' : Z.vm.Alike B.U.vm := hZ.alike.trans X'.warmed.alike
  have hsz : E'.slots.size = D.slots.size := by
    obtain ⟨-, -, -, kB, w1, w2, w3⟩ := q1
    obtain ⟨kB', y1, y2⟩ := al'.2.2 _ _ e3
    rw [q2.2.1] at w1
    cases w1.symm.trans y1
    rw [w3, e5 i3, y2]
  refine ⟨v, B, X', ⟨_, ⟨hv, ?_, ⟨by omega, fun y cy hy hn' => q10 y cy (by simpa using hn') hy, fun y cy hy => ?_⟩, q11, ⟨E', _, q1.1, by rw [q2.2.1]; exact e2, by rw [q2.2.1]; exact e3, by rw [q2.1]; exact obV, fun _ => by rw [hsz]; exact e5 i3⟩,
    ⟨E', cfV, kV, iV, fV, q1.1, gV, stV, by rw [q2.1]; exact knV, by rw [q2.1]; exact obV, by rw [q2.2.1]; exact asV, q3⟩, ⟨E', cfC, kC, iC, fC, q1.1, gC, stC, by rw [q2.1]; exact knV, by rw [q2.1]; exact obV, by rw [q2.2.1]; exact asC, q4⟩,
    ⟨V', ⟨q5.1, State.isArrayOf_alike al'.symm q5.2.1, q5.2.2.1⟩, q6, by rw [← al'.findClass]; exact q7, q8, fun j hj => by have := q9 j hj; rwa [Nat.zero_add] at this⟩, fun O n d w F n1 n2 => ?_⟩, hl, hc, hs⟩, st⟩
  · intro y hy
    simp only [List.mem_cons, List.not_mem_nil, or_false] at hy
    rcases hy with rfl | rfl <;> rfl
  · by_cases q : y = x
    · subst q
      cases hD.symm.trans hy
      exact ⟨E', q1.1, q2.2.1, q2.1, hsz⟩
    · exact ⟨cy, q10 y cy q hy, rfl, rfl, rfl⟩
  · obtain ⟨D3, cf, k, i, f, g1, g2, g3, g4, g5, g6, g7⟩ := F
    cases hD.symm.trans g1
    simp only [RoadKit.slotOf, g2, gV, gC, Option.map_some, Option.getD_some] at n1 n2
    exact ⟨E', cf, k, i, f, q1.1, g2, g3, by rw [q2.1]; exact g4, by rw [q2.1]; exact g5, by rw [q2.2.1]; exact g6, by rw [q2.2.2 f.slot (by simp [n1, n2])]; exact g7⟩
end StrChars.Road
namespace StrChars.Road
open Jvm Sem ClassFile Op Lib Jvm.Stand Jvm.Free Jvm.Free.XT
/-- WHAT COMES BACK, the byte[] as a list of values -/
def QA (Z : State) (x : Addr) (zn : Int32) (cs : List Int32) (h : Heap) (v : Option Value) (h' : Heap) (L : List Loc) : Prop := v = none ∧ (∀ y ∈ L, y.base = x) ∧ RoadKit.Keep h h' [x] ∧ h'.size = h.size + 1 ∧ RoadKit.Exa Z h' x ST ∧ RoadKit.Fld Z h' x ST "value" "[B" (.ref h.size) ∧ RoadKit.Fld Z h' x ST "coder" "B" (.int 0) ∧
  (∃ kb, Z.vm.findClass "[B" = some kb ∧ RoadKit.Arv Z h' h.size kb .byte zn (cs.map fun c => .int (lo8 c)) (.int 0)) ∧
  ∀ (O n d : String) (w : Value), RoadKit.Fld Z h x O n d w → RoadKit.slotOf Z O n d ≠ RoadKit.slotOf Z ST "value" "[B" → RoadKit.slotOf Z O n d ≠ RoadKit.slotOf Z ST "coder" "B" → RoadKit.Fld Z h' x O n d w
/-- **new String(chars) AT A CALL, THE ARRAYS AS LISTS**: the char[] at b holds cs, not empty, no char above 255 -/
theorem backArv {p : Program} {l : Launch} {e : Env} {R : Room} {s : State} {args : Array Value} {below : List Frame} {len W : Nat} {Z : State} {a0 : Array Value} {h : Heap} (hZ : Z.Warmed39 s.vm) (hw : ∀ d ∈ words, d.before a0 Z = true) {kI : Nat} (wi : (Jvm.Cond.instantiable ST kI).before a0 Z = true)
    {x b : Addr} {k : ClassId} {zn z : Int32} {cs : List Int32} {dv v0 c0 : Value} (E : RoadKit.Exa Z h x ST) (V : RoadKit.Fld Z h x ST "value" "[B" v0) (C : RoadKit.Fld Z h x ST "coder" "B" c0) (K : RoadKit.Arv Z h b k .char zn (cs.map Value.int) dv) (S : RoadKit.Sta Z h ST "COMPACT_STRINGS" "Z" (.int z)) (hz : ¬ z = 0)
    (hlen : zn.toNatClampNeg = cs.length) (h0 : 0 < cs.length) (hbig : cs.length ≤ 536870912) (hall : ∀ c ∈ cs, ¬ 255 < c) (hfr : 4 ≤ R.frames) (hlo : W + 65 ≤ R.locals) :
    Back l R p e below s args New1.yN len W (fun P a => a = #[.ref x, .ref b] ∧ P.U.heap = h ∧ P.cells + 1 ≤ R.cells ∧ P.slots + cs.length ≤ R.slots)
      (fun P _ v B => ∃ L, QA Z x zn cs h v B.U.heap L ∧ B.locs = P.locs ++ L ∧ B.cells = P.cells + 1 ∧ B.slots = P.slots + cs.length) := by
  obtain ⟨A, K1, K2, K3, K4, K5, K6⟩ := K
  have e : A.slots.size = cs.length := K3.trans hlen
  have hat : ∀ (i : Nat) (hi : i < cs.length), A.slots[i]? = some (.int cs[i]) := fun i hi => by rw [K5 i (by omega)]; simp [List.getD_eq_getElem?_getD, hi]
  have hcv : ∀ (i : Nat) (hi : i < cs.length), cv A i = cs[i] := fun i hi => by unfold cv; rw [hat i hi]
  have hty : Typed .char A := fun i v hv => by
    have hi : i < A.slots.size := (Array.getElem?_eq_some_iff.mp hv).1
    have q := K5 i hi
    rw [hv] at q
    rw [Option.some.inj q]
    exact K6 i hi
  refine Back.mono (back hZ hw wi E V C K1 hty S hz (by omega) (by omega) (fun i hi => by rw [hcv i (by omega)]; exact hall _ (List.getElem_mem _)) hfr hlo) (fun P a hp => ⟨hp.1, hp.2.1, hp.2.2.1, by rw [e]; exact hp.2.2.2⟩) (fun P a v B hp hq => ?_)
  obtain ⟨L, ⟨q1, q2, q3, q4, q5, q6, q7, ⟨V', v1, v2, v3, v4, v5⟩, q9⟩, hl, hc, hs⟩ := hq
  refine ⟨L, ⟨q1, q2, q3, q4, q5, q6, q7, ⟨V'.cls, v3, V', v1, rfl, by rw [v4, e, hlen], K4, fun i hi => ?_, fun i hi => ?_⟩, q9⟩, hl, hc, by rw [hs, e]⟩
  · have hi' : i < cs.length := by omega
    rw [v5 i (by omega), hcv i hi']; simp [List.getD_eq_getElem?_getD, hi']
  · have hi' : i < cs.length := by omega
    simp only [List.getD_eq_getElem?_getD, List.getElem?_map, List.getElem?_eq_getElem hi', Option.map_some, Option.getD_some]
    exact fits_lo8 _
end StrChars.Road
namespace StrChars.Road
open Jvm Sem ClassFile Op Lib Jvm.Stand Jvm.Free Jvm.Free.XT
/-- WHAT COMES BACK, in the writer's own shape -/
def QV (Z : State) (x : Addr) (N : Int32) (bs : List Int32) (h : Heap) (n0 : Nat) (v : Option Value) (h' : Heap) (L : List Loc) : Prop := v = none ∧ RoadKit.Fr n0 L ∧ RoadKit.Keep h h' [x] ∧ RoadKit.Exa Z h' x ST ∧ RoadKit.Fld Z h' x ST "coder" "B" (.int 0) ∧
  ∃ (t : Addr) (kb : ClassId), n0 ≤ t ∧ h.size ≤ t ∧ ¬ t = x ∧ RoadKit.Fld Z h' x ST "value" "[B" (.ref t) ∧ RoadKit.Arv Z h' t kb .byte N (bs.map Value.int) (.int 0)
/-- **new String(chars) AT A CALL, FOR THE WRITER**: a char[] of n known ints, each 0 to 255 -/
theorem backV {p : Program} {l : Launch} {e : Env} {R : Room} {s : State} {args : Array Value} {below : List Frame} {len W : Nat} {Z : State} {a0 : Array Value} {h : Heap} (hZ : Z.Warmed39 s.vm) (hw : ∀ d ∈ words, d.before a0 Z = true) {kI : Nat} (wi : (Jvm.Cond.instantiable ST kI).before a0 Z = true)
    {x b : Addr} {kC : ClassId} {cs bs : List Int32} {d v0 c0 : Value} {z N : Int32} {n n0 : Nat} (hx0 : n0 ≤ x) (hh0 : n0 ≤ h.size) (E : RoadKit.Exa Z h x ST) (V : RoadKit.Fld Z h x ST "value" "[B" v0) (C : RoadKit.Fld Z h x ST "coder" "B" c0) (K : RoadKit.Arv Z h b kC .char N (cs.map Value.int) d) (S : RoadKit.Sta Z h ST "COMPACT_STRINGS" "Z" (.int z)) (hz : ¬ z = 0)
    (hn : cs.length = n) (hN : N = Int32.ofNat n) (l0 : 0 < n) (l2 : n ≤ 4000) (hp : ∀ c ∈ cs, ¬ c < 0 ∧ ¬ (255 : Int32) < c) (hb : bs = cs.map (fun c => c.toInt8.toInt32)) (hfr : 4 ≤ R.frames) (hlo : W + 65 ≤ R.locals) :
    Back l R p e below s args (⟨"java/lang/String", "<init>", "([C)V"⟩ : MethodName) len W (fun P a => a = #[.ref x, .ref b] ∧ P.U.heap = h ∧ P.cells + 1 ≤ R.cells ∧ P.slots + n ≤ R.slots)
      (fun P _ v B => ∃ L, QV Z x N bs h n0 v B.U.heap L ∧ B.locs = P.locs ++ L ∧ B.cells = P.cells + 1 ∧ B.slots = P.slots + n) := by
  subst hn hN hb
  refine Back.mono (backArv hZ hw wi E V C K S hz (n32 (by omega)) l0 (by omega) (fun c hc => (hp c hc).2) hfr hlo) (fun P a hp => hp) (fun P a v B hp hq => ?_)
  obtain ⟨L, ⟨q1, q2, q3, q4, q5, q6, q7, ⟨kb, v1, v2⟩, q9⟩, hl, hc, hs⟩ := hq
  exact ⟨L, ⟨q1, fun y hy => by rw [q2 y hy]; exact hx0, q3, q5, q7, h.size, kb, hh0, Nat.le_refl _, Nat.ne_of_gt E.lt, q6, by rw [List.map_map]; exact v2⟩, hl, hc, hs⟩
end StrChars.Road
end Jvm.Pilot.@@N@@
namespace Jvm.Pilot.@@N@@
open Jvm Jvm.ClassFile Sem Op Lib Jvm.Free Jvm.Stand Jvm.LawKit Jvm.RoadKit Bundle Jvm.Pilot.@@N@@.Jvm.D
/-! the rest of a walk, from a state on: it returns, and what it leaves -/
def OwnGo (p : Program) (e : Env) (below : List Frame) (s : State) (Q : Option Value → Heap → List Loc → Prop) (K N : Nat) (U : State) : Prop :=
  ∃ t o, Steps p.tables e below U t ∧ t.status = .running ∧ Ended t below o ∧ ∃ v L, o = .returned v ∧ Q v t.heap L ∧ FrameEnd s o t L K N
section OwnKit
variable {p : Program} {l : Launch} {e : Env} {R : Room} {s : State} {m : MethodId} {args : Array Value} {below : List Frame} {meth : Method} {c : Code} {T : State} {locs : List Loc} {cells slots : Nat} {Q : Option Value → Heap → List Loc → Prop} {K N : Nat} {U U' : State} {h : Heap}
theorem own_on (st : ∀ t, Steps p.tables e below U' t → Steps p.tables e below U t) (k : OwnGo p e below s Q K N U') : OwnGo p e below s Q K N U := by
  obtain ⟨t, o, h1, r⟩ := k; exact ⟨t, o, st t h1, r⟩
theorem own_tr (st : Steps p.tables e below U U') (k : OwnGo p e below s Q K N U') : OwnGo p e below s Q K N U := own_on (fun _ q => st.trans q) k
theorem own_num {c' n' : Nat} {l' : List Loc} (X : Stand p l e R s m args below meth c T locs cells slots) (h0 : locs = l') (h1 : cells = c') (h2 : slots = n') : Stand p l e R s m args below meth c T l' c' n' := by
  subst h0 h1 h2; exact X
theorem own_cast {g g' : JFrame} (q : g = g') (k : OwnGo p e below s Q K N (T.setTop g')) : OwnGo p e below s Q K N (T.setTop g) := q ▸ k
theorem own_end (X : Stand p l e R s m args below meth c T locs cells slots) (hlk : meth.locks = false) {v : Option Value} (hv : meth.sig.returnType = none → v = none) (eT : T.heap = h) (q : Q v h locs) (hk : cells ≤ K) (hn : slots ≤ N)
    (st : ∀ fs, (∀ (f : JFrame) (acts : List Action), f.method = m → f.locked = none → f.entered = [] → (doReturn e (T.setTop f) acts v).1 = T.setFrames fs) → Steps p.tables e below U (T.setFrames fs)) : OwnGo p e below s Q K N U := by
  obtain ⟨fs, hr, hrun, hended, hW, hsame⟩ := X.leave (v := v) hv hlk
  refine ⟨_, _, st fs hr, hrun, hended, v, locs, rfl, ?_, ⟨_, rfl⟩, hW, hsame.mono hk hn⟩
  have : (T.setFrames fs).heap = h := eT
  rw [this]; exact q
theorem own_retN (X : Stand p l e R s m args below meth c T locs cells slots) (hx : p.tables.exec = Jvm.exec) (hlk : meth.locks = false) {pc : Nat} {Ls : Array Slot} {z : Int32} {t : FieldType} {rest : List Value} (hret : meth.sig.returnType = some t) (ht : t = .boolean ∨ t = .byte ∨ t = .char ∨ t = .short)
    (hd : decode c.code pc = .ok (.ireturn, 1)) (eT : T.heap = h) (q : Q (some (.int (nar t z))) h locs) (hk : cells ≤ K) (hn : slots ≤ N) : OwnGo p e below s Q K N (T.setTop (mkF m pc Ls (.int z :: rest))) :=
  own_end X hlk (fun h => by rw [hret] at h; cases h) eT q hk hn fun fs hr => retN X hx hret ht hd hr
theorem own_retI (X : Stand p l e R s m args below meth c T locs cells slots) (hx : p.tables.exec = Jvm.exec) (hlk : meth.locks = false) {pc : Nat} {Ls : Array Slot} {z : Int32} {rest : List Value} (hret : meth.sig.returnType = some .int)
    (hd : decode c.code pc = .ok (.ireturn, 1)) (eT : T.heap = h) (q : Q (some (.int z)) h locs) (hk : cells ≤ K) (hn : slots ≤ N) : OwnGo p e below s Q K N (T.setTop (mkF m pc Ls (.int z :: rest))) :=
  own_end X hlk (fun h => by rw [hret] at h; cases h) eT q hk hn fun fs hr => retI X hx hret hd hr
theorem own_retA (X : Stand p l e R s m args below meth c T locs cells slots) (hx : p.tables.exec = Jvm.exec) (hlk : meth.locks = false) {pc : Nat} {Ls : Array Slot} {w : Value} {t : FieldType} {rest : List Value} (hret : meth.sig.returnType = some t) (ht : t.isReference = true) (hw : w.isRef = true)
    (hd : decode c.code pc = .ok (.areturn, 1)) (eT : T.heap = h) (q : Q (some w) h locs) (hk : cells ≤ K) (hn : slots ≤ N) : OwnGo p e below s Q K N (T.setTop (mkF m pc Ls (w :: rest))) :=
  own_end X hlk (fun h => by rw [hret] at h; cases h) eT q hk hn fun fs hr => retOut X hx hret (by rcases ref_cases hw with rfl | ⟨a, rfl⟩ <;> cases t <;> rfl) (Or.inr (Or.inr (Or.inr (Or.inr ⟨rfl, ht, hw⟩)))) hd hr
theorem own_retV (X : Stand p l e R s m args below meth c T locs cells slots) (hx : p.tables.exec = Jvm.exec) (hlk : meth.locks = false) {pc : Nat} {Ls : Array Slot} (hret : meth.sig.returnType = none)
    (hd : decode c.code pc = .ok (.return_, 1)) (eT : T.heap = h) (q : Q none h locs) (hk : cells ≤ K) (hn : slots ≤ N) : OwnGo p e below s Q K N (T.setTop (mkF m pc Ls [])) :=
  own_end X hlk (fun _ => rfl) eT q hk hn fun fs hr => X.returnOut hx hret hd hr
end OwnKit

theorem w0 {a0 : Array Value} {Z : State} (hw : ∀ d ∈ tables_1, d.before a0 Z = true) : ((Jvm.Cond.methodLink "com/example/fachwissen/fachwissen/mail/MessageWordTextsPinLaw" (12 : Nat) ({ cls := "com/example/fachwissen/fachwissen/mail/MessageWordTextsPinLaw", name := "str", desc := "(II)Ljava/lang/String;" } : Jvm.MethodName)) : Jvm.Cond).before a0 Z = true := hw _ (List.mem_of_getElem? (i := 0) rfl)
theorem w1 {a0 : Array Value} {Z : State} (hw : ∀ d ∈ tables_1, d.before a0 Z = true) : ((Jvm.Cond.static ({ cls := "com/example/fachwissen/fachwissen/mail/MessageWordTextsPinLaw", name := "str", desc := "(II)Ljava/lang/String;" } : Jvm.MethodName)) : Jvm.Cond).before a0 Z = true := hw _ (List.mem_of_getElem? (i := 1) rfl)
theorem w2 {a0 : Array Value} {Z : State} (hw : ∀ d ∈ tables_1, d.before a0 Z = true) : ((Jvm.Cond.initialized "com/example/fachwissen/fachwissen/mail/MessageWordTextsPinLaw") : Jvm.Cond).before a0 Z = true := hw _ (List.mem_of_getElem? (i := 2) rfl)
theorem w3 {a0 : Array Value} {Z : State} (hw : ∀ d ∈ tables_1, d.before a0 Z = true) : ((Jvm.Cond.code ({ cls := "com/example/fachwissen/fachwissen/mail/MessageWordTextsPinLaw", name := "str", desc := "(II)Ljava/lang/String;" } : Jvm.MethodName) method_2_code (3 : Nat) (Option.some (Jvm.ClassFile.FieldType.object "java/lang/String"))) : Jvm.Cond).before a0 Z = true := hw _ (List.mem_of_getElem? (i := 3) rfl)
theorem w4 {a0 : Array Value} {Z : State} (hw : ∀ d ∈ tables_1, d.before a0 Z = true) : ((Jvm.Cond.arrayClass Jvm.ClassFile.FieldType.char) : Jvm.Cond).before a0 Z = true := hw _ (List.mem_of_getElem? (i := 4) rfl)
theorem w5 {a0 : Array Value} {Z : State} (hw : ∀ d ∈ tables_1, d.before a0 Z = true) : ((Jvm.Cond.classLink "com/example/fachwissen/fachwissen/mail/MessageWordTextsPinLaw" (7 : Nat) "java/lang/String") : Jvm.Cond).before a0 Z = true := hw _ (List.mem_of_getElem? (i := 5) rfl)
theorem w6 {a0 : Array Value} {Z : State} (hw : ∀ d ∈ tables_1, d.before a0 Z = true) : ((Jvm.Cond.instantiable "java/lang/String" (4 : Nat)) : Jvm.Cond).before a0 Z = true := hw _ (List.mem_of_getElem? (i := 6) rfl)
theorem w7 {a0 : Array Value} {Z : State} (hw : ∀ d ∈ tables_1, d.before a0 Z = true) : ((Jvm.Cond.initialized "java/lang/String") : Jvm.Cond).before a0 Z = true := hw _ (List.mem_of_getElem? (i := 7) rfl)
theorem w8 {a0 : Array Value} {Z : State} (hw : ∀ d ∈ tables_1, d.before a0 Z = true) : ((Jvm.Cond.methodLink "com/example/fachwissen/fachwissen/mail/MessageWordTextsPinLaw" (9 : Nat) ({ cls := "java/lang/String", name := "<init>", desc := "([C)V" } : Jvm.MethodName)) : Jvm.Cond).before a0 Z = true := hw _ (List.mem_of_getElem? (i := 8) rfl)
theorem w9 {a0 : Array Value} {Z : State} (hw : ∀ d ∈ tables_1, d.before a0 Z = true) : ((Jvm.Cond.instanceMethod ({ cls := "java/lang/String", name := "<init>", desc := "([C)V" } : Jvm.MethodName)) : Jvm.Cond).before a0 Z = true := hw _ (List.mem_of_getElem? (i := 9) rfl)
theorem w10 {a0 : Array Value} {Z : State} (hw : ∀ d ∈ tables_1, d.before a0 Z = true) : ((Jvm.Cond.code ({ cls := "java/lang/String", name := "<init>", desc := "([C)V" } : Jvm.MethodName) jdk_42_method_3_code (2 : Nat) (Option.none : Option Jvm.ClassFile.FieldType)) : Jvm.Cond).before a0 Z = true := hw _ (List.mem_of_getElem? (i := 10) rfl)
theorem w16 {a0 : Array Value} {Z : State} (hw : ∀ d ∈ tables_1, d.before a0 Z = true) : ((Jvm.Cond.instanceMethod ({ cls := "java/lang/Object", name := "<init>", desc := "()V" } : Jvm.MethodName)) : Jvm.Cond).before a0 Z = true := hw _ (List.mem_of_getElem? (i := 16) rfl)
theorem w17 {a0 : Array Value} {Z : State} (hw : ∀ d ∈ tables_1, d.before a0 Z = true) : ((Jvm.Cond.code ({ cls := "java/lang/Object", name := "<init>", desc := "()V" } : Jvm.MethodName) object_method_1_code (1 : Nat) (Option.none : Option Jvm.ClassFile.FieldType)) : Jvm.Cond).before a0 Z = true := hw _ (List.mem_of_getElem? (i := 17) rfl)
theorem w31 {a0 : Array Value} {Z : State} (hw : ∀ d ∈ tables_1, d.before a0 Z = true) : ((Jvm.Cond.laysFinal "java/lang/String" "java/lang/String" "coder" "B") : Jvm.Cond).before a0 Z = true := hw _ (List.mem_of_getElem? (i := 31) rfl)
theorem w33 {a0 : Array Value} {Z : State} (hw : ∀ d ∈ tables_1, d.before a0 Z = true) : ((Jvm.Cond.laysFinal "java/lang/String" "java/lang/String" "value" "[B") : Jvm.Cond).before a0 Z = true := hw _ (List.mem_of_getElem? (i := 33) rfl)
theorem w34 {a0 : Array Value} {Z : State} (hw : ∀ d ∈ tables_1, d.before a0 Z = true) : ((Jvm.Cond.classLink "com/example/fachwissen/fachwissen/mail/MessageWordTextsPinLaw" (18 : Nat) "java/util/ArrayList") : Jvm.Cond).before a0 Z = true := hw _ (List.mem_of_getElem? (i := 34) rfl)
theorem w35 {a0 : Array Value} {Z : State} (hw : ∀ d ∈ tables_1, d.before a0 Z = true) : ((Jvm.Cond.instantiable "java/util/ArrayList" (3 : Nat)) : Jvm.Cond).before a0 Z = true := hw _ (List.mem_of_getElem? (i := 35) rfl)
theorem w36 {a0 : Array Value} {Z : State} (hw : ∀ d ∈ tables_1, d.before a0 Z = true) : ((Jvm.Cond.initialized "java/util/ArrayList") : Jvm.Cond).before a0 Z = true := hw _ (List.mem_of_getElem? (i := 36) rfl)
theorem w37 {a0 : Array Value} {Z : State} (hw : ∀ d ∈ tables_1, d.before a0 Z = true) : ((Jvm.Cond.methodLink "com/example/fachwissen/fachwissen/mail/MessageWordTextsPinLaw" (20 : Nat) ({ cls := "java/util/ArrayList", name := "<init>", desc := "()V" } : Jvm.MethodName)) : Jvm.Cond).before a0 Z = true := hw _ (List.mem_of_getElem? (i := 37) rfl)
theorem w38 {a0 : Array Value} {Z : State} (hw : ∀ d ∈ tables_1, d.before a0 Z = true) : ((Jvm.Cond.instanceMethod ({ cls := "java/util/ArrayList", name := "<init>", desc := "()V" } : Jvm.MethodName)) : Jvm.Cond).before a0 Z = true := hw _ (List.mem_of_getElem? (i := 38) rfl)
theorem w39 {a0 : Array Value} {Z : State} (hw : ∀ d ∈ tables_1, d.before a0 Z = true) : ((Jvm.Cond.code ({ cls := "java/util/ArrayList", name := "<init>", desc := "()V" } : Jvm.MethodName) jdk_38_method_2_code (1 : Nat) (Option.none : Option Jvm.ClassFile.FieldType)) : Jvm.Cond).before a0 Z = true := hw _ (List.mem_of_getElem? (i := 39) rfl)
theorem w40 {a0 : Array Value} {Z : State} (hw : ∀ d ∈ tables_1, d.before a0 Z = true) : ((Jvm.Cond.methodLink "java/util/ArrayList" (1 : Nat) ({ cls := "java/util/AbstractList", name := "<init>", desc := "()V" } : Jvm.MethodName)) : Jvm.Cond).before a0 Z = true := hw _ (List.mem_of_getElem? (i := 40) rfl)
theorem w41 {a0 : Array Value} {Z : State} (hw : ∀ d ∈ tables_1, d.before a0 Z = true) : ((Jvm.Cond.instanceMethod ({ cls := "java/util/AbstractList", name := "<init>", desc := "()V" } : Jvm.MethodName)) : Jvm.Cond).before a0 Z = true := hw _ (List.mem_of_getElem? (i := 41) rfl)
theorem w44 {a0 : Array Value} {Z : State} (hw : ∀ d ∈ tables_1, d.before a0 Z = true) : ((Jvm.Cond.initialized "java/util/AbstractList") : Jvm.Cond).before a0 Z = true := hw _ (List.mem_of_getElem? (i := 44) rfl)
theorem w45 {a0 : Array Value} {Z : State} (hw : ∀ d ∈ tables_1, d.before a0 Z = true) : ((Jvm.Cond.code ({ cls := "java/util/AbstractList", name := "<init>", desc := "()V" } : Jvm.MethodName) jdk_39_method_1_code (1 : Nat) (Option.none : Option Jvm.ClassFile.FieldType)) : Jvm.Cond).before a0 Z = true := hw _ (List.mem_of_getElem? (i := 45) rfl)
theorem w46 {a0 : Array Value} {Z : State} (hw : ∀ d ∈ tables_1, d.before a0 Z = true) : ((Jvm.Cond.methodLink "java/util/AbstractList" (1 : Nat) ({ cls := "java/util/AbstractCollection", name := "<init>", desc := "()V" } : Jvm.MethodName)) : Jvm.Cond).before a0 Z = true := hw _ (List.mem_of_getElem? (i := 46) rfl)
theorem w47 {a0 : Array Value} {Z : State} (hw : ∀ d ∈ tables_1, d.before a0 Z = true) : ((Jvm.Cond.instanceMethod ({ cls := "java/util/AbstractCollection", name := "<init>", desc := "()V" } : Jvm.MethodName)) : Jvm.Cond).before a0 Z = true := hw _ (List.mem_of_getElem? (i := 47) rfl)
theorem w50 {a0 : Array Value} {Z : State} (hw : ∀ d ∈ tables_1, d.before a0 Z = true) : ((Jvm.Cond.initialized "java/util/AbstractCollection") : Jvm.Cond).before a0 Z = true := hw _ (List.mem_of_getElem? (i := 50) rfl)
theorem w51 {a0 : Array Value} {Z : State} (hw : ∀ d ∈ tables_1, d.before a0 Z = true) : ((Jvm.Cond.code ({ cls := "java/util/AbstractCollection", name := "<init>", desc := "()V" } : Jvm.MethodName) jdk_22_method_1_code (1 : Nat) (Option.none : Option Jvm.ClassFile.FieldType)) : Jvm.Cond).before a0 Z = true := hw _ (List.mem_of_getElem? (i := 51) rfl)
theorem w52 {a0 : Array Value} {Z : State} (hw : ∀ d ∈ tables_1, d.before a0 Z = true) : ((Jvm.Cond.methodLink "java/util/AbstractCollection" (1 : Nat) ({ cls := "java/lang/Object", name := "<init>", desc := "()V" } : Jvm.MethodName)) : Jvm.Cond).before a0 Z = true := hw _ (List.mem_of_getElem? (i := 52) rfl)
theorem w53 {a0 : Array Value} {Z : State} (hw : ∀ d ∈ tables_1, d.before a0 Z = true) : ((Jvm.Cond.fieldLink "java/util/AbstractList" (7 : Nat) "java/util/AbstractList" "modCount" "I") : Jvm.Cond).before a0 Z = true := hw _ (List.mem_of_getElem? (i := 53) rfl)
theorem w54 {a0 : Array Value} {Z : State} (hw : ∀ d ∈ tables_1, d.before a0 Z = true) : ((Jvm.Cond.lays "java/util/ArrayList" "java/util/AbstractList" "modCount" "I") : Jvm.Cond).before a0 Z = true := hw _ (List.mem_of_getElem? (i := 54) rfl)
theorem w55 {a0 : Array Value} {Z : State} (hw : ∀ d ∈ tables_1, d.before a0 Z = true) : ((Jvm.Cond.fieldLink "java/util/ArrayList" (39 : Nat) "java/util/ArrayList" "DEFAULTCAPACITY_EMPTY_ELEMENTDATA" "[Ljava/lang/Object;") : Jvm.Cond).before a0 Z = true := hw _ (List.mem_of_getElem? (i := 55) rfl)
theorem w56 {a0 : Array Value} {Z : State} (hw : ∀ d ∈ tables_1, d.before a0 Z = true) : ((Jvm.Cond.fieldLink "java/util/ArrayList" (9 : Nat) "java/util/ArrayList" "elementData" "[Ljava/lang/Object;") : Jvm.Cond).before a0 Z = true := hw _ (List.mem_of_getElem? (i := 56) rfl)
theorem w57 {a0 : Array Value} {Z : State} (hw : ∀ d ∈ tables_1, d.before a0 Z = true) : ((Jvm.Cond.lays "java/util/ArrayList" "java/util/ArrayList" "elementData" "[Ljava/lang/Object;") : Jvm.Cond).before a0 Z = true := hw _ (List.mem_of_getElem? (i := 57) rfl)
theorem w58 {a0 : Array Value} {Z : State} (hw : ∀ d ∈ tables_1, d.before a0 Z = true) : ((Jvm.Cond.classLink "com/example/fachwissen/fachwissen/mail/MessageWordTextsPinLaw" (25 : Nat) "com/example/fachwissen/fachwissen/mail/Message") : Jvm.Cond).before a0 Z = true := hw _ (List.mem_of_getElem? (i := 58) rfl)
theorem w59 {a0 : Array Value} {Z : State} (hw : ∀ d ∈ tables_1, d.before a0 Z = true) : ((Jvm.Cond.instantiable "com/example/fachwissen/fachwissen/mail/Message" (3 : Nat)) : Jvm.Cond).before a0 Z = true := hw _ (List.mem_of_getElem? (i := 59) rfl)
theorem w60 {a0 : Array Value} {Z : State} (hw : ∀ d ∈ tables_1, d.before a0 Z = true) : ((Jvm.Cond.initialized "com/example/fachwissen/fachwissen/mail/Message") : Jvm.Cond).before a0 Z = true := hw _ (List.mem_of_getElem? (i := 60) rfl)
theorem w61 {a0 : Array Value} {Z : State} (hw : ∀ d ∈ tables_1, d.before a0 Z = true) : ((Jvm.Cond.methodLink "com/example/fachwissen/fachwissen/mail/MessageWordTextsPinLaw" (27 : Nat) ({ cls := "com/example/fachwissen/fachwissen/mail/Message", name := "<init>", desc := "(Ljava/util/List;Ljava/util/List;Ljava/util/List;)V" } : Jvm.MethodName)) : Jvm.Cond).before a0 Z = true := hw _ (List.mem_of_getElem? (i := 61) rfl)
theorem w62 {a0 : Array Value} {Z : State} (hw : ∀ d ∈ tables_1, d.before a0 Z = true) : ((Jvm.Cond.instanceMethod ({ cls := "com/example/fachwissen/fachwissen/mail/Message", name := "<init>", desc := "(Ljava/util/List;Ljava/util/List;Ljava/util/List;)V" } : Jvm.MethodName)) : Jvm.Cond).before a0 Z = true := hw _ (List.mem_of_getElem? (i := 62) rfl)
theorem w63 {a0 : Array Value} {Z : State} (hw : ∀ d ∈ tables_1, d.before a0 Z = true) : ((Jvm.Cond.code ({ cls := "com/example/fachwissen/fachwissen/mail/Message", name := "<init>", desc := "(Ljava/util/List;Ljava/util/List;Ljava/util/List;)V" } : Jvm.MethodName) prog_12_method_1_code (4 : Nat) (Option.none : Option Jvm.ClassFile.FieldType)) : Jvm.Cond).before a0 Z = true := hw _ (List.mem_of_getElem? (i := 63) rfl)
theorem w64 {a0 : Array Value} {Z : State} (hw : ∀ d ∈ tables_1, d.before a0 Z = true) : ((Jvm.Cond.methodLink "com/example/fachwissen/fachwissen/mail/Message" (1 : Nat) ({ cls := "java/lang/Record", name := "<init>", desc := "()V" } : Jvm.MethodName)) : Jvm.Cond).before a0 Z = true := hw _ (List.mem_of_getElem? (i := 64) rfl)
theorem w65 {a0 : Array Value} {Z : State} (hw : ∀ d ∈ tables_1, d.before a0 Z = true) : ((Jvm.Cond.instanceMethod ({ cls := "java/lang/Record", name := "<init>", desc := "()V" } : Jvm.MethodName)) : Jvm.Cond).before a0 Z = true := hw _ (List.mem_of_getElem? (i := 65) rfl)
theorem w67 {a0 : Array Value} {Z : State} (hw : ∀ d ∈ tables_1, d.before a0 Z = true) : ((Jvm.Cond.initialized "java/lang/Record") : Jvm.Cond).before a0 Z = true := hw _ (List.mem_of_getElem? (i := 67) rfl)
theorem w68 {a0 : Array Value} {Z : State} (hw : ∀ d ∈ tables_1, d.before a0 Z = true) : ((Jvm.Cond.code ({ cls := "java/lang/Record", name := "<init>", desc := "()V" } : Jvm.MethodName) jdk_30_method_1_code (1 : Nat) (Option.none : Option Jvm.ClassFile.FieldType)) : Jvm.Cond).before a0 Z = true := hw _ (List.mem_of_getElem? (i := 68) rfl)
theorem w69 {a0 : Array Value} {Z : State} (hw : ∀ d ∈ tables_1, d.before a0 Z = true) : ((Jvm.Cond.methodLink "java/lang/Record" (1 : Nat) ({ cls := "java/lang/Object", name := "<init>", desc := "()V" } : Jvm.MethodName)) : Jvm.Cond).before a0 Z = true := hw _ (List.mem_of_getElem? (i := 69) rfl)
theorem w70 {a0 : Array Value} {Z : State} (hw : ∀ d ∈ tables_1, d.before a0 Z = true) : ((Jvm.Cond.fieldLink "com/example/fachwissen/fachwissen/mail/Message" (7 : Nat) "com/example/fachwissen/fachwissen/mail/Message" "subjects" "Ljava/util/List;") : Jvm.Cond).before a0 Z = true := hw _ (List.mem_of_getElem? (i := 70) rfl)
theorem w71 {a0 : Array Value} {Z : State} (hw : ∀ d ∈ tables_1, d.before a0 Z = true) : ((Jvm.Cond.laysFinal "com/example/fachwissen/fachwissen/mail/Message" "com/example/fachwissen/fachwissen/mail/Message" "subjects" "Ljava/util/List;") : Jvm.Cond).before a0 Z = true := hw _ (List.mem_of_getElem? (i := 71) rfl)
theorem w72 {a0 : Array Value} {Z : State} (hw : ∀ d ∈ tables_1, d.before a0 Z = true) : ((Jvm.Cond.fieldLink "com/example/fachwissen/fachwissen/mail/Message" (13 : Nat) "com/example/fachwissen/fachwissen/mail/Message" "addressHeaders" "Ljava/util/List;") : Jvm.Cond).before a0 Z = true := hw _ (List.mem_of_getElem? (i := 72) rfl)
theorem w73 {a0 : Array Value} {Z : State} (hw : ∀ d ∈ tables_1, d.before a0 Z = true) : ((Jvm.Cond.laysFinal "com/example/fachwissen/fachwissen/mail/Message" "com/example/fachwissen/fachwissen/mail/Message" "addressHeaders" "Ljava/util/List;") : Jvm.Cond).before a0 Z = true := hw _ (List.mem_of_getElem? (i := 73) rfl)
theorem w74 {a0 : Array Value} {Z : State} (hw : ∀ d ∈ tables_1, d.before a0 Z = true) : ((Jvm.Cond.fieldLink "com/example/fachwissen/fachwissen/mail/Message" (16 : Nat) "com/example/fachwissen/fachwissen/mail/Message" "textParts" "Ljava/util/List;") : Jvm.Cond).before a0 Z = true := hw _ (List.mem_of_getElem? (i := 74) rfl)
theorem w75 {a0 : Array Value} {Z : State} (hw : ∀ d ∈ tables_1, d.before a0 Z = true) : ((Jvm.Cond.laysFinal "com/example/fachwissen/fachwissen/mail/Message" "com/example/fachwissen/fachwissen/mail/Message" "textParts" "Ljava/util/List;") : Jvm.Cond).before a0 Z = true := hw _ (List.mem_of_getElem? (i := 75) rfl)
theorem w76 {a0 : Array Value} {Z : State} (hw : ∀ d ∈ tables_1, d.before a0 Z = true) : ((Jvm.Cond.methodLink "com/example/fachwissen/fachwissen/mail/MessageWordTextsPinLaw" (30 : Nat) ({ cls := "com/example/fachwissen/fachwissen/mail/Message", name := "wordTexts", desc := "()Ljava/util/List;" } : Jvm.MethodName)) : Jvm.Cond).before a0 Z = true := hw _ (List.mem_of_getElem? (i := 76) rfl)
theorem w77 {a0 : Array Value} {Z : State} (hw : ∀ d ∈ tables_1, d.before a0 Z = true) : ((Jvm.Cond.declares ({ cls := "com/example/fachwissen/fachwissen/mail/Message", name := "wordTexts", desc := "()Ljava/util/List;" } : Jvm.MethodName)) : Jvm.Cond).before a0 Z = true := hw _ (List.mem_of_getElem? (i := 77) rfl)
theorem w78 {a0 : Array Value} {Z : State} (hw : ∀ d ∈ tables_1, d.before a0 Z = true) : ((Jvm.Cond.instanceMethod ({ cls := "com/example/fachwissen/fachwissen/mail/Message", name := "wordTexts", desc := "()Ljava/util/List;" } : Jvm.MethodName)) : Jvm.Cond).before a0 Z = true := hw _ (List.mem_of_getElem? (i := 78) rfl)
theorem w79 {a0 : Array Value} {Z : State} (hw : ∀ d ∈ tables_1, d.before a0 Z = true) : ((Jvm.Cond.selects "com/example/fachwissen/fachwissen/mail/Message" ({ cls := "com/example/fachwissen/fachwissen/mail/Message", name := "wordTexts", desc := "()Ljava/util/List;" } : Jvm.MethodName) ({ cls := "com/example/fachwissen/fachwissen/mail/Message", name := "wordTexts", desc := "()Ljava/util/List;" } : Jvm.MethodName)) : Jvm.Cond).before a0 Z = true := hw _ (List.mem_of_getElem? (i := 79) rfl)
theorem w80 {a0 : Array Value} {Z : State} (hw : ∀ d ∈ tables_1, d.before a0 Z = true) : ((Jvm.Cond.code ({ cls := "com/example/fachwissen/fachwissen/mail/Message", name := "wordTexts", desc := "()Ljava/util/List;" } : Jvm.MethodName) prog_12_method_3_code (2 : Nat) (Option.some (Jvm.ClassFile.FieldType.object "java/util/List"))) : Jvm.Cond).before a0 Z = true := hw _ (List.mem_of_getElem? (i := 80) rfl)
theorem w81 {a0 : Array Value} {Z : State} (hw : ∀ d ∈ tables_1, d.before a0 Z = true) : ((Jvm.Cond.classLink "com/example/fachwissen/fachwissen/mail/Message" (19 : Nat) "java/util/ArrayList") : Jvm.Cond).before a0 Z = true := hw _ (List.mem_of_getElem? (i := 81) rfl)
theorem w82 {a0 : Array Value} {Z : State} (hw : ∀ d ∈ tables_1, d.before a0 Z = true) : ((Jvm.Cond.methodLink "com/example/fachwissen/fachwissen/mail/Message" (21 : Nat) ({ cls := "java/util/ArrayList", name := "<init>", desc := "(Ljava/util/Collection;)V" } : Jvm.MethodName)) : Jvm.Cond).before a0 Z = true := hw _ (List.mem_of_getElem? (i := 82) rfl)
theorem w83 {a0 : Array Value} {Z : State} (hw : ∀ d ∈ tables_1, d.before a0 Z = true) : ((Jvm.Cond.instanceMethod ({ cls := "java/util/ArrayList", name := "<init>", desc := "(Ljava/util/Collection;)V" } : Jvm.MethodName)) : Jvm.Cond).before a0 Z = true := hw _ (List.mem_of_getElem? (i := 83) rfl)
theorem w84 {a0 : Array Value} {Z : State} (hw : ∀ d ∈ tables_1, d.before a0 Z = true) : ((Jvm.Cond.code ({ cls := "java/util/ArrayList", name := "<init>", desc := "(Ljava/util/Collection;)V" } : Jvm.MethodName) jdk_38_method_3_code (3 : Nat) (Option.none : Option Jvm.ClassFile.FieldType)) : Jvm.Cond).before a0 Z = true := hw _ (List.mem_of_getElem? (i := 84) rfl)
theorem w85 {a0 : Array Value} {Z : State} (hw : ∀ d ∈ tables_1, d.before a0 Z = true) : ((Jvm.Cond.methodLink "java/util/ArrayList" (42 : Nat) ({ cls := "java/util/Collection", name := "toArray", desc := "()[Ljava/lang/Object;" } : Jvm.MethodName)) : Jvm.Cond).before a0 Z = true := hw _ (List.mem_of_getElem? (i := 85) rfl)
theorem w86 {a0 : Array Value} {Z : State} (hw : ∀ d ∈ tables_1, d.before a0 Z = true) : ((Jvm.Cond.declares ({ cls := "java/util/Collection", name := "toArray", desc := "()[Ljava/lang/Object;" } : Jvm.MethodName)) : Jvm.Cond).before a0 Z = true := hw _ (List.mem_of_getElem? (i := 86) rfl)
theorem w87 {a0 : Array Value} {Z : State} (hw : ∀ d ∈ tables_1, d.before a0 Z = true) : ((Jvm.Cond.interfaceMethod "java/util/Collection" "java/util/Collection" "toArray" "()[Ljava/lang/Object;") : Jvm.Cond).before a0 Z = true := hw _ (List.mem_of_getElem? (i := 87) rfl)
theorem w88 {a0 : Array Value} {Z : State} (hw : ∀ d ∈ tables_1, d.before a0 Z = true) : ((Jvm.Cond.selects "java/util/ArrayList" ({ cls := "java/util/Collection", name := "toArray", desc := "()[Ljava/lang/Object;" } : Jvm.MethodName) ({ cls := "java/util/ArrayList", name := "toArray", desc := "()[Ljava/lang/Object;" } : Jvm.MethodName)) : Jvm.Cond).before a0 Z = true := hw _ (List.mem_of_getElem? (i := 88) rfl)
theorem w89 {a0 : Array Value} {Z : State} (hw : ∀ d ∈ tables_1, d.before a0 Z = true) : ((Jvm.Cond.instanceMethod ({ cls := "java/util/ArrayList", name := "toArray", desc := "()[Ljava/lang/Object;" } : Jvm.MethodName)) : Jvm.Cond).before a0 Z = true := hw _ (List.mem_of_getElem? (i := 89) rfl)
theorem w90 {a0 : Array Value} {Z : State} (hw : ∀ d ∈ tables_1, d.before a0 Z = true) : ((Jvm.Cond.publicMethod ({ cls := "java/util/ArrayList", name := "toArray", desc := "()[Ljava/lang/Object;" } : Jvm.MethodName)) : Jvm.Cond).before a0 Z = true := hw _ (List.mem_of_getElem? (i := 90) rfl)
theorem w91 {a0 : Array Value} {Z : State} (hw : ∀ d ∈ tables_1, d.before a0 Z = true) : ((Jvm.Cond.unhidden "java/util/ArrayList" "toArray" "()[Ljava/lang/Object;") : Jvm.Cond).before a0 Z = true := hw _ (List.mem_of_getElem? (i := 91) rfl)
theorem w92 {a0 : Array Value} {Z : State} (hw : ∀ d ∈ tables_1, d.before a0 Z = true) : ((Jvm.Cond.castable "java/util/ArrayList" "java/util/Collection") : Jvm.Cond).before a0 Z = true := hw _ (List.mem_of_getElem? (i := 92) rfl)
theorem w93 {a0 : Array Value} {Z : State} (hw : ∀ d ∈ tables_1, d.before a0 Z = true) : ((Jvm.Cond.code ({ cls := "java/util/ArrayList", name := "toArray", desc := "()[Ljava/lang/Object;" } : Jvm.MethodName) jdk_38_method_16_code (1 : Nat) (Option.some (Jvm.ClassFile.FieldType.array (Jvm.ClassFile.FieldType.object "java/lang/Object")))) : Jvm.Cond).before a0 Z = true := hw _ (List.mem_of_getElem? (i := 93) rfl)
theorem w94 {a0 : Array Value} {Z : State} (hw : ∀ d ∈ tables_1, d.before a0 Z = true) : ((Jvm.Cond.fieldLink "java/util/ArrayList" (48 : Nat) "java/util/ArrayList" "size" "I") : Jvm.Cond).before a0 Z = true := hw _ (List.mem_of_getElem? (i := 94) rfl)
theorem w95 {a0 : Array Value} {Z : State} (hw : ∀ d ∈ tables_1, d.before a0 Z = true) : ((Jvm.Cond.lays "java/util/ArrayList" "java/util/ArrayList" "size" "I") : Jvm.Cond).before a0 Z = true := hw _ (List.mem_of_getElem? (i := 95) rfl)
theorem w96 {a0 : Array Value} {Z : State} (hw : ∀ d ∈ tables_1, d.before a0 Z = true) : ((Jvm.Cond.methodLink "java/util/ArrayList" (66 : Nat) ({ cls := "java/util/Arrays", name := "copyOf", desc := "([Ljava/lang/Object;I)[Ljava/lang/Object;" } : Jvm.MethodName)) : Jvm.Cond).before a0 Z = true := hw _ (List.mem_of_getElem? (i := 96) rfl)
theorem w97 {a0 : Array Value} {Z : State} (hw : ∀ d ∈ tables_1, d.before a0 Z = true) : ((Jvm.Cond.static ({ cls := "java/util/Arrays", name := "copyOf", desc := "([Ljava/lang/Object;I)[Ljava/lang/Object;" } : Jvm.MethodName)) : Jvm.Cond).before a0 Z = true := hw _ (List.mem_of_getElem? (i := 97) rfl)
theorem w98 {a0 : Array Value} {Z : State} (hw : ∀ d ∈ tables_1, d.before a0 Z = true) : ((Jvm.Cond.initialized "java/util/Arrays") : Jvm.Cond).before a0 Z = true := hw _ (List.mem_of_getElem? (i := 98) rfl)
theorem w99 {a0 : Array Value} {Z : State} (hw : ∀ d ∈ tables_1, d.before a0 Z = true) : ((Jvm.Cond.code ({ cls := "java/util/Arrays", name := "copyOf", desc := "([Ljava/lang/Object;I)[Ljava/lang/Object;" } : Jvm.MethodName) jdk_65_method_119_code (2 : Nat) (Option.some (Jvm.ClassFile.FieldType.array (Jvm.ClassFile.FieldType.object "java/lang/Object")))) : Jvm.Cond).before a0 Z = true := hw _ (List.mem_of_getElem? (i := 99) rfl)
theorem w100 {a0 : Array Value} {Z : State} (hw : ∀ d ∈ tables_1, d.before a0 Z = true) : ((Jvm.Cond.methodLink "java/util/Arrays" (86 : Nat) ({ cls := "java/lang/Object", name := "getClass", desc := "()Ljava/lang/Class;" } : Jvm.MethodName)) : Jvm.Cond).before a0 Z = true := hw _ (List.mem_of_getElem? (i := 100) rfl)
theorem w101 {a0 : Array Value} {Z : State} (hw : ∀ d ∈ tables_1, d.before a0 Z = true) : ((Jvm.Cond.declares ({ cls := "java/lang/Object", name := "getClass", desc := "()Ljava/lang/Class;" } : Jvm.MethodName)) : Jvm.Cond).before a0 Z = true := hw _ (List.mem_of_getElem? (i := 101) rfl)
theorem w102 {a0 : Array Value} {Z : State} (hw : ∀ d ∈ tables_1, d.before a0 Z = true) : ((Jvm.Cond.instanceMethod ({ cls := "java/lang/Object", name := "getClass", desc := "()Ljava/lang/Class;" } : Jvm.MethodName)) : Jvm.Cond).before a0 Z = true := hw _ (List.mem_of_getElem? (i := 102) rfl)
theorem w103 {a0 : Array Value} {Z : State} (hw : ∀ d ∈ tables_1, d.before a0 Z = true) : ((Jvm.Cond.selects "[Ljava/lang/Object;" ({ cls := "java/lang/Object", name := "getClass", desc := "()Ljava/lang/Class;" } : Jvm.MethodName) ({ cls := "java/lang/Object", name := "getClass", desc := "()Ljava/lang/Class;" } : Jvm.MethodName)) : Jvm.Cond).before a0 Z = true := hw _ (List.mem_of_getElem? (i := 103) rfl)
theorem w104 {a0 : Array Value} {Z : State} (hw : ∀ d ∈ tables_1, d.before a0 Z = true) : ((Jvm.Cond.native ({ cls := "java/lang/Object", name := "getClass", desc := "()Ljava/lang/Class;" } : Jvm.MethodName)) : Jvm.Cond).before a0 Z = true := hw _ (List.mem_of_getElem? (i := 104) rfl)
theorem w106 {a0 : Array Value} {Z : State} (hw : ∀ d ∈ tables_1, d.before a0 Z = true) : ((Jvm.Cond.methodLink "java/util/Arrays" (300 : Nat) ({ cls := "java/util/Arrays", name := "copyOf", desc := "([Ljava/lang/Object;ILjava/lang/Class;)[Ljava/lang/Object;" } : Jvm.MethodName)) : Jvm.Cond).before a0 Z = true := hw _ (List.mem_of_getElem? (i := 106) rfl)
theorem w107 {a0 : Array Value} {Z : State} (hw : ∀ d ∈ tables_1, d.before a0 Z = true) : ((Jvm.Cond.static ({ cls := "java/util/Arrays", name := "copyOf", desc := "([Ljava/lang/Object;ILjava/lang/Class;)[Ljava/lang/Object;" } : Jvm.MethodName)) : Jvm.Cond).before a0 Z = true := hw _ (List.mem_of_getElem? (i := 107) rfl)
theorem w108 {a0 : Array Value} {Z : State} (hw : ∀ d ∈ tables_1, d.before a0 Z = true) : ((Jvm.Cond.code ({ cls := "java/util/Arrays", name := "copyOf", desc := "([Ljava/lang/Object;ILjava/lang/Class;)[Ljava/lang/Object;" } : Jvm.MethodName) jdk_65_method_120_code (4 : Nat) (Option.some (Jvm.ClassFile.FieldType.array (Jvm.ClassFile.FieldType.object "java/lang/Object")))) : Jvm.Cond).before a0 Z = true := hw _ (List.mem_of_getElem? (i := 108) rfl)
theorem w109 {a0 : Array Value} {Z : State} (hw : ∀ d ∈ tables_1, d.before a0 Z = true) : ((Jvm.Cond.classLink "java/util/Arrays" (110 : Nat) "[Ljava/lang/Object;") : Jvm.Cond).before a0 Z = true := hw _ (List.mem_of_getElem? (i := 109) rfl)
theorem w110 {a0 : Array Value} {Z : State} (hw : ∀ d ∈ tables_1, d.before a0 Z = true) : ((Jvm.Cond.classLink "java/util/Arrays" (2 : Nat) "java/lang/Object") : Jvm.Cond).before a0 Z = true := hw _ (List.mem_of_getElem? (i := 110) rfl)
theorem w111 {a0 : Array Value} {Z : State} (hw : ∀ d ∈ tables_1, d.before a0 Z = true) : ((Jvm.Cond.arrayOver (Jvm.ClassFile.FieldType.object "java/lang/Object")) : Jvm.Cond).before a0 Z = true := hw _ (List.mem_of_getElem? (i := 111) rfl)
theorem w112 {a0 : Array Value} {Z : State} (hw : ∀ d ∈ tables_1, d.before a0 Z = true) : ((Jvm.Cond.methodLink "java/util/Arrays" (304 : Nat) ({ cls := "java/lang/Math", name := "min", desc := "(II)I" } : Jvm.MethodName)) : Jvm.Cond).before a0 Z = true := hw _ (List.mem_of_getElem? (i := 112) rfl)
theorem w113 {a0 : Array Value} {Z : State} (hw : ∀ d ∈ tables_1, d.before a0 Z = true) : ((Jvm.Cond.static ({ cls := "java/lang/Math", name := "min", desc := "(II)I" } : Jvm.MethodName)) : Jvm.Cond).before a0 Z = true := hw _ (List.mem_of_getElem? (i := 113) rfl)
theorem w114 {a0 : Array Value} {Z : State} (hw : ∀ d ∈ tables_1, d.before a0 Z = true) : ((Jvm.Cond.initialized "java/lang/Math") : Jvm.Cond).before a0 Z = true := hw _ (List.mem_of_getElem? (i := 114) rfl)
theorem w115 {a0 : Array Value} {Z : State} (hw : ∀ d ∈ tables_1, d.before a0 Z = true) : ((Jvm.Cond.code ({ cls := "java/lang/Math", name := "min", desc := "(II)I" } : Jvm.MethodName) jdk_29_method_69_code (2 : Nat) (Option.some Jvm.ClassFile.FieldType.int)) : Jvm.Cond).before a0 Z = true := hw _ (List.mem_of_getElem? (i := 115) rfl)
theorem w116 {a0 : Array Value} {Z : State} (hw : ∀ d ∈ tables_1, d.before a0 Z = true) : ((Jvm.Cond.methodLink "java/util/Arrays" (150 : Nat) ({ cls := "java/lang/System", name := "arraycopy", desc := "(Ljava/lang/Object;ILjava/lang/Object;II)V" } : Jvm.MethodName)) : Jvm.Cond).before a0 Z = true := hw _ (List.mem_of_getElem? (i := 116) rfl)
theorem w117 {a0 : Array Value} {Z : State} (hw : ∀ d ∈ tables_1, d.before a0 Z = true) : ((Jvm.Cond.static ({ cls := "java/lang/System", name := "arraycopy", desc := "(Ljava/lang/Object;ILjava/lang/Object;II)V" } : Jvm.MethodName)) : Jvm.Cond).before a0 Z = true := hw _ (List.mem_of_getElem? (i := 117) rfl)
theorem w118 {a0 : Array Value} {Z : State} (hw : ∀ d ∈ tables_1, d.before a0 Z = true) : ((Jvm.Cond.initialized "java/lang/System") : Jvm.Cond).before a0 Z = true := hw _ (List.mem_of_getElem? (i := 118) rfl)
theorem w119 {a0 : Array Value} {Z : State} (hw : ∀ d ∈ tables_1, d.before a0 Z = true) : ((Jvm.Cond.native ({ cls := "java/lang/System", name := "arraycopy", desc := "(Ljava/lang/Object;ILjava/lang/Object;II)V" } : Jvm.MethodName)) : Jvm.Cond).before a0 Z = true := hw _ (List.mem_of_getElem? (i := 119) rfl)
theorem w120 {a0 : Array Value} {Z : State} (hw : ∀ d ∈ tables_1, d.before a0 Z = true) : ((Jvm.Cond.fieldLink "java/util/ArrayList" (15 : Nat) "java/util/ArrayList" "EMPTY_ELEMENTDATA" "[Ljava/lang/Object;") : Jvm.Cond).before a0 Z = true := hw _ (List.mem_of_getElem? (i := 120) rfl)
theorem w121 {a0 : Array Value} {Z : State} (hw : ∀ d ∈ tables_1, d.before a0 Z = true) : ((Jvm.Cond.methodLink "com/example/fachwissen/fachwissen/mail/Message" (24 : Nat) ({ cls := "java/util/ArrayList", name := "addAll", desc := "(Ljava/util/Collection;)Z" } : Jvm.MethodName)) : Jvm.Cond).before a0 Z = true := hw _ (List.mem_of_getElem? (i := 121) rfl)
theorem w122 {a0 : Array Value} {Z : State} (hw : ∀ d ∈ tables_1, d.before a0 Z = true) : ((Jvm.Cond.declares ({ cls := "java/util/ArrayList", name := "addAll", desc := "(Ljava/util/Collection;)Z" } : Jvm.MethodName)) : Jvm.Cond).before a0 Z = true := hw _ (List.mem_of_getElem? (i := 122) rfl)
theorem w123 {a0 : Array Value} {Z : State} (hw : ∀ d ∈ tables_1, d.before a0 Z = true) : ((Jvm.Cond.instanceMethod ({ cls := "java/util/ArrayList", name := "addAll", desc := "(Ljava/util/Collection;)Z" } : Jvm.MethodName)) : Jvm.Cond).before a0 Z = true := hw _ (List.mem_of_getElem? (i := 123) rfl)
theorem w124 {a0 : Array Value} {Z : State} (hw : ∀ d ∈ tables_1, d.before a0 Z = true) : ((Jvm.Cond.selects "java/util/ArrayList" ({ cls := "java/util/ArrayList", name := "addAll", desc := "(Ljava/util/Collection;)Z" } : Jvm.MethodName) ({ cls := "java/util/ArrayList", name := "addAll", desc := "(Ljava/util/Collection;)Z" } : Jvm.MethodName)) : Jvm.Cond).before a0 Z = true := hw _ (List.mem_of_getElem? (i := 124) rfl)
theorem w125 {a0 : Array Value} {Z : State} (hw : ∀ d ∈ tables_1, d.before a0 Z = true) : ((Jvm.Cond.code ({ cls := "java/util/ArrayList", name := "addAll", desc := "(Ljava/util/Collection;)Z" } : Jvm.MethodName) jdk_38_method_41_code (6 : Nat) (Option.some Jvm.ClassFile.FieldType.boolean)) : Jvm.Cond).before a0 Z = true := hw _ (List.mem_of_getElem? (i := 125) rfl)
theorem w126 {a0 : Array Value} {Z : State} (hw : ∀ d ∈ tables_1, d.before a0 Z = true) : ((Jvm.Cond.fieldLink "java/util/ArrayList" (63 : Nat) "java/util/ArrayList" "modCount" "I") : Jvm.Cond).before a0 Z = true := hw _ (List.mem_of_getElem? (i := 126) rfl)
theorem w127 {a0 : Array Value} {Z : State} (hw : ∀ d ∈ tables_1, d.before a0 Z = true) : ((Jvm.Cond.sameField "java/util/ArrayList" "java/util/AbstractList" "modCount" "I") : Jvm.Cond).before a0 Z = true := hw _ (List.mem_of_getElem? (i := 127) rfl)
theorem w128 {a0 : Array Value} {Z : State} (hw : ∀ d ∈ tables_1, d.before a0 Z = true) : ((Jvm.Cond.methodLink "com/example/fachwissen/fachwissen/mail/MessageWordTextsPinLaw" (34 : Nat) ({ cls := "java/util/List", name := "size", desc := "()I" } : Jvm.MethodName)) : Jvm.Cond).before a0 Z = true := hw _ (List.mem_of_getElem? (i := 128) rfl)
theorem w129 {a0 : Array Value} {Z : State} (hw : ∀ d ∈ tables_1, d.before a0 Z = true) : ((Jvm.Cond.declares ({ cls := "java/util/List", name := "size", desc := "()I" } : Jvm.MethodName)) : Jvm.Cond).before a0 Z = true := hw _ (List.mem_of_getElem? (i := 129) rfl)
theorem w130 {a0 : Array Value} {Z : State} (hw : ∀ d ∈ tables_1, d.before a0 Z = true) : ((Jvm.Cond.interfaceMethod "java/util/List" "java/util/List" "size" "()I") : Jvm.Cond).before a0 Z = true := hw _ (List.mem_of_getElem? (i := 130) rfl)
theorem w131 {a0 : Array Value} {Z : State} (hw : ∀ d ∈ tables_1, d.before a0 Z = true) : ((Jvm.Cond.selects "java/util/ArrayList" ({ cls := "java/util/List", name := "size", desc := "()I" } : Jvm.MethodName) ({ cls := "java/util/ArrayList", name := "size", desc := "()I" } : Jvm.MethodName)) : Jvm.Cond).before a0 Z = true := hw _ (List.mem_of_getElem? (i := 131) rfl)
theorem w132 {a0 : Array Value} {Z : State} (hw : ∀ d ∈ tables_1, d.before a0 Z = true) : ((Jvm.Cond.instanceMethod ({ cls := "java/util/ArrayList", name := "size", desc := "()I" } : Jvm.MethodName)) : Jvm.Cond).before a0 Z = true := hw _ (List.mem_of_getElem? (i := 132) rfl)
theorem w133 {a0 : Array Value} {Z : State} (hw : ∀ d ∈ tables_1, d.before a0 Z = true) : ((Jvm.Cond.publicMethod ({ cls := "java/util/ArrayList", name := "size", desc := "()I" } : Jvm.MethodName)) : Jvm.Cond).before a0 Z = true := hw _ (List.mem_of_getElem? (i := 133) rfl)
theorem w134 {a0 : Array Value} {Z : State} (hw : ∀ d ∈ tables_1, d.before a0 Z = true) : ((Jvm.Cond.unhidden "java/util/ArrayList" "size" "()I") : Jvm.Cond).before a0 Z = true := hw _ (List.mem_of_getElem? (i := 134) rfl)
theorem w135 {a0 : Array Value} {Z : State} (hw : ∀ d ∈ tables_1, d.before a0 Z = true) : ((Jvm.Cond.castable "java/util/ArrayList" "java/util/List") : Jvm.Cond).before a0 Z = true := hw _ (List.mem_of_getElem? (i := 135) rfl)
theorem w136 {a0 : Array Value} {Z : State} (hw : ∀ d ∈ tables_1, d.before a0 Z = true) : ((Jvm.Cond.code ({ cls := "java/util/ArrayList", name := "size", desc := "()I" } : Jvm.MethodName) jdk_38_method_8_code (1 : Nat) (Option.some Jvm.ClassFile.FieldType.int)) : Jvm.Cond).before a0 Z = true := hw _ (List.mem_of_getElem? (i := 136) rfl)
theorem w137 {a0 : Array Value} {Z : State} (hw : ∀ d ∈ tables_1, d.before a0 Z = true) : ((Jvm.Cond.methodLink "com/example/fachwissen/fachwissen/mail/MessageWordTextsPinLaw" (47 : Nat) ({ cls := "java/util/ArrayList", name := "size", desc := "()I" } : Jvm.MethodName)) : Jvm.Cond).before a0 Z = true := hw _ (List.mem_of_getElem? (i := 137) rfl)
theorem w138 {a0 : Array Value} {Z : State} (hw : ∀ d ∈ tables_1, d.before a0 Z = true) : ((Jvm.Cond.declares ({ cls := "java/util/ArrayList", name := "size", desc := "()I" } : Jvm.MethodName)) : Jvm.Cond).before a0 Z = true := hw _ (List.mem_of_getElem? (i := 138) rfl)
theorem w139 {a0 : Array Value} {Z : State} (hw : ∀ d ∈ tables_1, d.before a0 Z = true) : ((Jvm.Cond.selects "java/util/ArrayList" ({ cls := "java/util/ArrayList", name := "size", desc := "()I" } : Jvm.MethodName) ({ cls := "java/util/ArrayList", name := "size", desc := "()I" } : Jvm.MethodName)) : Jvm.Cond).before a0 Z = true := hw _ (List.mem_of_getElem? (i := 139) rfl)
theorem w140 {a0 : Array Value} {Z : State} (hw : ∀ d ∈ tables_1, d.before a0 Z = true) : ((Jvm.Cond.methodLink "com/example/fachwissen/fachwissen/mail/MessageWordTextsPinLaw" (21 : Nat) ({ cls := "java/util/ArrayList", name := "add", desc := "(Ljava/lang/Object;)Z" } : Jvm.MethodName)) : Jvm.Cond).before a0 Z = true := hw _ (List.mem_of_getElem? (i := 140) rfl)
theorem w141 {a0 : Array Value} {Z : State} (hw : ∀ d ∈ tables_1, d.before a0 Z = true) : ((Jvm.Cond.declares ({ cls := "java/util/ArrayList", name := "add", desc := "(Ljava/lang/Object;)Z" } : Jvm.MethodName)) : Jvm.Cond).before a0 Z = true := hw _ (List.mem_of_getElem? (i := 141) rfl)
theorem w142 {a0 : Array Value} {Z : State} (hw : ∀ d ∈ tables_1, d.before a0 Z = true) : ((Jvm.Cond.instanceMethod ({ cls := "java/util/ArrayList", name := "add", desc := "(Ljava/lang/Object;)Z" } : Jvm.MethodName)) : Jvm.Cond).before a0 Z = true := hw _ (List.mem_of_getElem? (i := 142) rfl)
theorem w143 {a0 : Array Value} {Z : State} (hw : ∀ d ∈ tables_1, d.before a0 Z = true) : ((Jvm.Cond.selects "java/util/ArrayList" ({ cls := "java/util/ArrayList", name := "add", desc := "(Ljava/lang/Object;)Z" } : Jvm.MethodName) ({ cls := "java/util/ArrayList", name := "add", desc := "(Ljava/lang/Object;)Z" } : Jvm.MethodName)) : Jvm.Cond).before a0 Z = true := hw _ (List.mem_of_getElem? (i := 143) rfl)
theorem w144 {a0 : Array Value} {Z : State} (hw : ∀ d ∈ tables_1, d.before a0 Z = true) : ((Jvm.Cond.code ({ cls := "java/util/ArrayList", name := "add", desc := "(Ljava/lang/Object;)Z" } : Jvm.MethodName) jdk_38_method_25_code (2 : Nat) (Option.some Jvm.ClassFile.FieldType.boolean)) : Jvm.Cond).before a0 Z = true := hw _ (List.mem_of_getElem? (i := 144) rfl)
theorem w145 {a0 : Array Value} {Z : State} (hw : ∀ d ∈ tables_1, d.before a0 Z = true) : ((Jvm.Cond.methodLink "java/util/ArrayList" (131 : Nat) ({ cls := "java/util/ArrayList", name := "add", desc := "(Ljava/lang/Object;[Ljava/lang/Object;I)V" } : Jvm.MethodName)) : Jvm.Cond).before a0 Z = true := hw _ (List.mem_of_getElem? (i := 145) rfl)
theorem w146 {a0 : Array Value} {Z : State} (hw : ∀ d ∈ tables_1, d.before a0 Z = true) : ((Jvm.Cond.instanceMethod ({ cls := "java/util/ArrayList", name := "add", desc := "(Ljava/lang/Object;[Ljava/lang/Object;I)V" } : Jvm.MethodName)) : Jvm.Cond).before a0 Z = true := hw _ (List.mem_of_getElem? (i := 146) rfl)
theorem w147 {a0 : Array Value} {Z : State} (hw : ∀ d ∈ tables_1, d.before a0 Z = true) : ((Jvm.Cond.privateMethod ({ cls := "java/util/ArrayList", name := "add", desc := "(Ljava/lang/Object;[Ljava/lang/Object;I)V" } : Jvm.MethodName)) : Jvm.Cond).before a0 Z = true := hw _ (List.mem_of_getElem? (i := 147) rfl)
theorem w148 {a0 : Array Value} {Z : State} (hw : ∀ d ∈ tables_1, d.before a0 Z = true) : ((Jvm.Cond.selects "java/util/ArrayList" ({ cls := "java/util/ArrayList", name := "add", desc := "(Ljava/lang/Object;[Ljava/lang/Object;I)V" } : Jvm.MethodName) ({ cls := "java/util/ArrayList", name := "add", desc := "(Ljava/lang/Object;[Ljava/lang/Object;I)V" } : Jvm.MethodName)) : Jvm.Cond).before a0 Z = true := hw _ (List.mem_of_getElem? (i := 148) rfl)
theorem w149 {a0 : Array Value} {Z : State} (hw : ∀ d ∈ tables_1, d.before a0 Z = true) : ((Jvm.Cond.code ({ cls := "java/util/ArrayList", name := "add", desc := "(Ljava/lang/Object;[Ljava/lang/Object;I)V" } : Jvm.MethodName) jdk_38_method_24_code (4 : Nat) (Option.none : Option Jvm.ClassFile.FieldType)) : Jvm.Cond).before a0 Z = true := hw _ (List.mem_of_getElem? (i := 149) rfl)
theorem w150 {a0 : Array Value} {Z : State} (hw : ∀ d ∈ tables_1, d.before a0 Z = true) : ((Jvm.Cond.methodLink "java/util/ArrayList" (129 : Nat) ({ cls := "java/util/ArrayList", name := "grow", desc := "()[Ljava/lang/Object;" } : Jvm.MethodName)) : Jvm.Cond).before a0 Z = true := hw _ (List.mem_of_getElem? (i := 150) rfl)
theorem w151 {a0 : Array Value} {Z : State} (hw : ∀ d ∈ tables_1, d.before a0 Z = true) : ((Jvm.Cond.instanceMethod ({ cls := "java/util/ArrayList", name := "grow", desc := "()[Ljava/lang/Object;" } : Jvm.MethodName)) : Jvm.Cond).before a0 Z = true := hw _ (List.mem_of_getElem? (i := 151) rfl)
theorem w152 {a0 : Array Value} {Z : State} (hw : ∀ d ∈ tables_1, d.before a0 Z = true) : ((Jvm.Cond.privateMethod ({ cls := "java/util/ArrayList", name := "grow", desc := "()[Ljava/lang/Object;" } : Jvm.MethodName)) : Jvm.Cond).before a0 Z = true := hw _ (List.mem_of_getElem? (i := 152) rfl)
theorem w153 {a0 : Array Value} {Z : State} (hw : ∀ d ∈ tables_1, d.before a0 Z = true) : ((Jvm.Cond.selects "java/util/ArrayList" ({ cls := "java/util/ArrayList", name := "grow", desc := "()[Ljava/lang/Object;" } : Jvm.MethodName) ({ cls := "java/util/ArrayList", name := "grow", desc := "()[Ljava/lang/Object;" } : Jvm.MethodName)) : Jvm.Cond).before a0 Z = true := hw _ (List.mem_of_getElem? (i := 153) rfl)
theorem w154 {a0 : Array Value} {Z : State} (hw : ∀ d ∈ tables_1, d.before a0 Z = true) : ((Jvm.Cond.code ({ cls := "java/util/ArrayList", name := "grow", desc := "()[Ljava/lang/Object;" } : Jvm.MethodName) jdk_38_method_7_code (1 : Nat) (Option.some (Jvm.ClassFile.FieldType.array (Jvm.ClassFile.FieldType.object "java/lang/Object")))) : Jvm.Cond).before a0 Z = true := hw _ (List.mem_of_getElem? (i := 154) rfl)
theorem w155 {a0 : Array Value} {Z : State} (hw : ∀ d ∈ tables_1, d.before a0 Z = true) : ((Jvm.Cond.methodLink "java/util/ArrayList" (69 : Nat) ({ cls := "java/util/ArrayList", name := "grow", desc := "(I)[Ljava/lang/Object;" } : Jvm.MethodName)) : Jvm.Cond).before a0 Z = true := hw _ (List.mem_of_getElem? (i := 155) rfl)
theorem w156 {a0 : Array Value} {Z : State} (hw : ∀ d ∈ tables_1, d.before a0 Z = true) : ((Jvm.Cond.instanceMethod ({ cls := "java/util/ArrayList", name := "grow", desc := "(I)[Ljava/lang/Object;" } : Jvm.MethodName)) : Jvm.Cond).before a0 Z = true := hw _ (List.mem_of_getElem? (i := 156) rfl)
theorem w157 {a0 : Array Value} {Z : State} (hw : ∀ d ∈ tables_1, d.before a0 Z = true) : ((Jvm.Cond.privateMethod ({ cls := "java/util/ArrayList", name := "grow", desc := "(I)[Ljava/lang/Object;" } : Jvm.MethodName)) : Jvm.Cond).before a0 Z = true := hw _ (List.mem_of_getElem? (i := 157) rfl)
theorem w158 {a0 : Array Value} {Z : State} (hw : ∀ d ∈ tables_1, d.before a0 Z = true) : ((Jvm.Cond.selects "java/util/ArrayList" ({ cls := "java/util/ArrayList", name := "grow", desc := "(I)[Ljava/lang/Object;" } : Jvm.MethodName) ({ cls := "java/util/ArrayList", name := "grow", desc := "(I)[Ljava/lang/Object;" } : Jvm.MethodName)) : Jvm.Cond).before a0 Z = true := hw _ (List.mem_of_getElem? (i := 158) rfl)
theorem w159 {a0 : Array Value} {Z : State} (hw : ∀ d ∈ tables_1, d.before a0 Z = true) : ((Jvm.Cond.code ({ cls := "java/util/ArrayList", name := "grow", desc := "(I)[Ljava/lang/Object;" } : Jvm.MethodName) jdk_38_method_6_code (4 : Nat) (Option.some (Jvm.ClassFile.FieldType.array (Jvm.ClassFile.FieldType.object "java/lang/Object")))) : Jvm.Cond).before a0 Z = true := hw _ (List.mem_of_getElem? (i := 159) rfl)
theorem w160 {a0 : Array Value} {Z : State} (hw : ∀ d ∈ tables_1, d.before a0 Z = true) : ((Jvm.Cond.methodLink "java/util/ArrayList" (79 : Nat) ({ cls := "java/lang/Math", name := "max", desc := "(II)I" } : Jvm.MethodName)) : Jvm.Cond).before a0 Z = true := hw _ (List.mem_of_getElem? (i := 160) rfl)
theorem w161 {a0 : Array Value} {Z : State} (hw : ∀ d ∈ tables_1, d.before a0 Z = true) : ((Jvm.Cond.static ({ cls := "java/lang/Math", name := "max", desc := "(II)I" } : Jvm.MethodName)) : Jvm.Cond).before a0 Z = true := hw _ (List.mem_of_getElem? (i := 161) rfl)
theorem w162 {a0 : Array Value} {Z : State} (hw : ∀ d ∈ tables_1, d.before a0 Z = true) : ((Jvm.Cond.code ({ cls := "java/lang/Math", name := "max", desc := "(II)I" } : Jvm.MethodName) jdk_29_method_65_code (2 : Nat) (Option.some Jvm.ClassFile.FieldType.int)) : Jvm.Cond).before a0 Z = true := hw _ (List.mem_of_getElem? (i := 162) rfl)
theorem w163 {a0 : Array Value} {Z : State} (hw : ∀ d ∈ tables_1, d.before a0 Z = true) : ((Jvm.Cond.classLink "java/util/ArrayList" (7 : Nat) "java/lang/Object") : Jvm.Cond).before a0 Z = true := hw _ (List.mem_of_getElem? (i := 163) rfl)
theorem w164 {a0 : Array Value} {Z : State} (hw : ∀ d ∈ tables_1, d.before a0 Z = true) : ((Jvm.Cond.castable "java/lang/String" "java/lang/Object") : Jvm.Cond).before a0 Z = true := hw _ (List.mem_of_getElem? (i := 164) rfl)
theorem w165 {a0 : Array Value} {Z : State} (hw : ∀ d ∈ tables_1, d.before a0 Z = true) : ((Jvm.Cond.methodLink "java/util/ArrayList" (52 : Nat) ({ cls := "java/util/Collection", name := "getClass", desc := "()Ljava/lang/Class;" } : Jvm.MethodName)) : Jvm.Cond).before a0 Z = true := hw _ (List.mem_of_getElem? (i := 165) rfl)
theorem w166 {a0 : Array Value} {Z : State} (hw : ∀ d ∈ tables_1, d.before a0 Z = true) : ((Jvm.Cond.interfaceMethod "java/util/Collection" "java/lang/Object" "getClass" "()Ljava/lang/Class;") : Jvm.Cond).before a0 Z = true := hw _ (List.mem_of_getElem? (i := 166) rfl)
theorem w167 {a0 : Array Value} {Z : State} (hw : ∀ d ∈ tables_1, d.before a0 Z = true) : ((Jvm.Cond.selects "java/util/ArrayList" ({ cls := "java/util/Collection", name := "getClass", desc := "()Ljava/lang/Class;" } : Jvm.MethodName) ({ cls := "java/lang/Object", name := "getClass", desc := "()Ljava/lang/Class;" } : Jvm.MethodName)) : Jvm.Cond).before a0 Z = true := hw _ (List.mem_of_getElem? (i := 167) rfl)
theorem w168 {a0 : Array Value} {Z : State} (hw : ∀ d ∈ tables_1, d.before a0 Z = true) : ((Jvm.Cond.publicMethod ({ cls := "java/lang/Object", name := "getClass", desc := "()Ljava/lang/Class;" } : Jvm.MethodName)) : Jvm.Cond).before a0 Z = true := hw _ (List.mem_of_getElem? (i := 168) rfl)
theorem w169 {a0 : Array Value} {Z : State} (hw : ∀ d ∈ tables_1, d.before a0 Z = true) : ((Jvm.Cond.unhidden "java/util/ArrayList" "getClass" "()Ljava/lang/Class;") : Jvm.Cond).before a0 Z = true := hw _ (List.mem_of_getElem? (i := 169) rfl)
theorem w171 {a0 : Array Value} {Z : State} (hw : ∀ d ∈ tables_1, d.before a0 Z = true) : ((Jvm.Cond.classLink "java/util/ArrayList" (10 : Nat) "java/util/ArrayList") : Jvm.Cond).before a0 Z = true := hw _ (List.mem_of_getElem? (i := 171) rfl)
theorem w172 {a0 : Array Value} {Z : State} (hw : ∀ d ∈ tables_1, d.before a0 Z = true) : ((Jvm.Cond.methodLink "com/example/fachwissen/fachwissen/mail/MessageWordTextsPinLaw" (40 : Nat) ({ cls := "java/util/List", name := "get", desc := "(I)Ljava/lang/Object;" } : Jvm.MethodName)) : Jvm.Cond).before a0 Z = true := hw _ (List.mem_of_getElem? (i := 172) rfl)
theorem w173 {a0 : Array Value} {Z : State} (hw : ∀ d ∈ tables_1, d.before a0 Z = true) : ((Jvm.Cond.declares ({ cls := "java/util/List", name := "get", desc := "(I)Ljava/lang/Object;" } : Jvm.MethodName)) : Jvm.Cond).before a0 Z = true := hw _ (List.mem_of_getElem? (i := 173) rfl)
theorem w174 {a0 : Array Value} {Z : State} (hw : ∀ d ∈ tables_1, d.before a0 Z = true) : ((Jvm.Cond.interfaceMethod "java/util/List" "java/util/List" "get" "(I)Ljava/lang/Object;") : Jvm.Cond).before a0 Z = true := hw _ (List.mem_of_getElem? (i := 174) rfl)
theorem w175 {a0 : Array Value} {Z : State} (hw : ∀ d ∈ tables_1, d.before a0 Z = true) : ((Jvm.Cond.selects "java/util/ArrayList" ({ cls := "java/util/List", name := "get", desc := "(I)Ljava/lang/Object;" } : Jvm.MethodName) ({ cls := "java/util/ArrayList", name := "get", desc := "(I)Ljava/lang/Object;" } : Jvm.MethodName)) : Jvm.Cond).before a0 Z = true := hw _ (List.mem_of_getElem? (i := 175) rfl)
theorem w176 {a0 : Array Value} {Z : State} (hw : ∀ d ∈ tables_1, d.before a0 Z = true) : ((Jvm.Cond.instanceMethod ({ cls := "java/util/ArrayList", name := "get", desc := "(I)Ljava/lang/Object;" } : Jvm.MethodName)) : Jvm.Cond).before a0 Z = true := hw _ (List.mem_of_getElem? (i := 176) rfl)
theorem w177 {a0 : Array Value} {Z : State} (hw : ∀ d ∈ tables_1, d.before a0 Z = true) : ((Jvm.Cond.publicMethod ({ cls := "java/util/ArrayList", name := "get", desc := "(I)Ljava/lang/Object;" } : Jvm.MethodName)) : Jvm.Cond).before a0 Z = true := hw _ (List.mem_of_getElem? (i := 177) rfl)
theorem w178 {a0 : Array Value} {Z : State} (hw : ∀ d ∈ tables_1, d.before a0 Z = true) : ((Jvm.Cond.unhidden "java/util/ArrayList" "get" "(I)Ljava/lang/Object;") : Jvm.Cond).before a0 Z = true := hw _ (List.mem_of_getElem? (i := 178) rfl)
theorem w179 {a0 : Array Value} {Z : State} (hw : ∀ d ∈ tables_1, d.before a0 Z = true) : ((Jvm.Cond.code ({ cls := "java/util/ArrayList", name := "get", desc := "(I)Ljava/lang/Object;" } : Jvm.MethodName) jdk_38_method_20_code (2 : Nat) (Option.some (Jvm.ClassFile.FieldType.object "java/lang/Object"))) : Jvm.Cond).before a0 Z = true := hw _ (List.mem_of_getElem? (i := 179) rfl)
theorem w180 {a0 : Array Value} {Z : State} (hw : ∀ d ∈ tables_1, d.before a0 Z = true) : ((Jvm.Cond.methodLink "java/util/ArrayList" (118 : Nat) ({ cls := "java/util/Objects", name := "checkIndex", desc := "(II)I" } : Jvm.MethodName)) : Jvm.Cond).before a0 Z = true := hw _ (List.mem_of_getElem? (i := 180) rfl)
theorem w181 {a0 : Array Value} {Z : State} (hw : ∀ d ∈ tables_1, d.before a0 Z = true) : ((Jvm.Cond.static ({ cls := "java/util/Objects", name := "checkIndex", desc := "(II)I" } : Jvm.MethodName)) : Jvm.Cond).before a0 Z = true := hw _ (List.mem_of_getElem? (i := 181) rfl)
theorem w182 {a0 : Array Value} {Z : State} (hw : ∀ d ∈ tables_1, d.before a0 Z = true) : ((Jvm.Cond.initialized "java/util/Objects") : Jvm.Cond).before a0 Z = true := hw _ (List.mem_of_getElem? (i := 182) rfl)
theorem w183 {a0 : Array Value} {Z : State} (hw : ∀ d ∈ tables_1, d.before a0 Z = true) : ((Jvm.Cond.code ({ cls := "java/util/Objects", name := "checkIndex", desc := "(II)I" } : Jvm.MethodName) jdk_31_method_17_code (2 : Nat) (Option.some Jvm.ClassFile.FieldType.int)) : Jvm.Cond).before a0 Z = true := hw _ (List.mem_of_getElem? (i := 183) rfl)
theorem w184 {a0 : Array Value} {Z : State} (hw : ∀ d ∈ tables_1, d.before a0 Z = true) : ((Jvm.Cond.methodLink "java/util/Objects" (105 : Nat) ({ cls := "jdk/internal/util/Preconditions", name := "checkIndex", desc := "(IILjava/util/function/BiFunction;)I" } : Jvm.MethodName)) : Jvm.Cond).before a0 Z = true := hw _ (List.mem_of_getElem? (i := 184) rfl)
theorem w185 {a0 : Array Value} {Z : State} (hw : ∀ d ∈ tables_1, d.before a0 Z = true) : ((Jvm.Cond.static ({ cls := "jdk/internal/util/Preconditions", name := "checkIndex", desc := "(IILjava/util/function/BiFunction;)I" } : Jvm.MethodName)) : Jvm.Cond).before a0 Z = true := hw _ (List.mem_of_getElem? (i := 185) rfl)
theorem w186 {a0 : Array Value} {Z : State} (hw : ∀ d ∈ tables_1, d.before a0 Z = true) : ((Jvm.Cond.initialized "jdk/internal/util/Preconditions") : Jvm.Cond).before a0 Z = true := hw _ (List.mem_of_getElem? (i := 186) rfl)
theorem w187 {a0 : Array Value} {Z : State} (hw : ∀ d ∈ tables_1, d.before a0 Z = true) : ((Jvm.Cond.code ({ cls := "jdk/internal/util/Preconditions", name := "checkIndex", desc := "(IILjava/util/function/BiFunction;)I" } : Jvm.MethodName) jdk_41_method_11_code (3 : Nat) (Option.some Jvm.ClassFile.FieldType.int)) : Jvm.Cond).before a0 Z = true := hw _ (List.mem_of_getElem? (i := 187) rfl)
theorem w188 {a0 : Array Value} {Z : State} (hw : ∀ d ∈ tables_1, d.before a0 Z = true) : ((Jvm.Cond.methodLink "java/util/ArrayList" (123 : Nat) ({ cls := "java/util/ArrayList", name := "elementData", desc := "(I)Ljava/lang/Object;" } : Jvm.MethodName)) : Jvm.Cond).before a0 Z = true := hw _ (List.mem_of_getElem? (i := 188) rfl)
theorem w189 {a0 : Array Value} {Z : State} (hw : ∀ d ∈ tables_1, d.before a0 Z = true) : ((Jvm.Cond.declares ({ cls := "java/util/ArrayList", name := "elementData", desc := "(I)Ljava/lang/Object;" } : Jvm.MethodName)) : Jvm.Cond).before a0 Z = true := hw _ (List.mem_of_getElem? (i := 189) rfl)
theorem w190 {a0 : Array Value} {Z : State} (hw : ∀ d ∈ tables_1, d.before a0 Z = true) : ((Jvm.Cond.instanceMethod ({ cls := "java/util/ArrayList", name := "elementData", desc := "(I)Ljava/lang/Object;" } : Jvm.MethodName)) : Jvm.Cond).before a0 Z = true := hw _ (List.mem_of_getElem? (i := 190) rfl)
theorem w191 {a0 : Array Value} {Z : State} (hw : ∀ d ∈ tables_1, d.before a0 Z = true) : ((Jvm.Cond.selects "java/util/ArrayList" ({ cls := "java/util/ArrayList", name := "elementData", desc := "(I)Ljava/lang/Object;" } : Jvm.MethodName) ({ cls := "java/util/ArrayList", name := "elementData", desc := "(I)Ljava/lang/Object;" } : Jvm.MethodName)) : Jvm.Cond).before a0 Z = true := hw _ (List.mem_of_getElem? (i := 191) rfl)
theorem w192 {a0 : Array Value} {Z : State} (hw : ∀ d ∈ tables_1, d.before a0 Z = true) : ((Jvm.Cond.code ({ cls := "java/util/ArrayList", name := "elementData", desc := "(I)Ljava/lang/Object;" } : Jvm.MethodName) jdk_38_method_18_code (2 : Nat) (Option.some (Jvm.ClassFile.FieldType.object "java/lang/Object"))) : Jvm.Cond).before a0 Z = true := hw _ (List.mem_of_getElem? (i := 192) rfl)
theorem w193 {a0 : Array Value} {Z : State} (hw : ∀ d ∈ tables_1, d.before a0 Z = true) : ((Jvm.Cond.methodLink "com/example/fachwissen/fachwissen/mail/MessageWordTextsPinLaw" (44 : Nat) ({ cls := "java/lang/String", name := "equals", desc := "(Ljava/lang/Object;)Z" } : Jvm.MethodName)) : Jvm.Cond).before a0 Z = true := hw _ (List.mem_of_getElem? (i := 193) rfl)
theorem w194 {a0 : Array Value} {Z : State} (hw : ∀ d ∈ tables_1, d.before a0 Z = true) : ((Jvm.Cond.declares ({ cls := "java/lang/String", name := "equals", desc := "(Ljava/lang/Object;)Z" } : Jvm.MethodName)) : Jvm.Cond).before a0 Z = true := hw _ (List.mem_of_getElem? (i := 194) rfl)
theorem w195 {a0 : Array Value} {Z : State} (hw : ∀ d ∈ tables_1, d.before a0 Z = true) : ((Jvm.Cond.instanceMethod ({ cls := "java/lang/String", name := "equals", desc := "(Ljava/lang/Object;)Z" } : Jvm.MethodName)) : Jvm.Cond).before a0 Z = true := hw _ (List.mem_of_getElem? (i := 195) rfl)
theorem w196 {a0 : Array Value} {Z : State} (hw : ∀ d ∈ tables_1, d.before a0 Z = true) : ((Jvm.Cond.selects "java/lang/String" ({ cls := "java/lang/String", name := "equals", desc := "(Ljava/lang/Object;)Z" } : Jvm.MethodName) ({ cls := "java/lang/String", name := "equals", desc := "(Ljava/lang/Object;)Z" } : Jvm.MethodName)) : Jvm.Cond).before a0 Z = true := hw _ (List.mem_of_getElem? (i := 196) rfl)
theorem w197 {a0 : Array Value} {Z : State} (hw : ∀ d ∈ tables_1, d.before a0 Z = true) : ((Jvm.Cond.code ({ cls := "java/lang/String", name := "equals", desc := "(Ljava/lang/Object;)Z" } : Jvm.MethodName) jdk_42_method_66_code (3 : Nat) (Option.some Jvm.ClassFile.FieldType.boolean)) : Jvm.Cond).before a0 Z = true := hw _ (List.mem_of_getElem? (i := 197) rfl)
theorem w198 {a0 : Array Value} {Z : State} (hw : ∀ d ∈ tables_1, d.before a0 Z = true) : ((Jvm.Cond.methodLink "java/util/ArrayList" (73 : Nat) ({ cls := "jdk/internal/util/ArraysSupport", name := "newLength", desc := "(III)I" } : Jvm.MethodName)) : Jvm.Cond).before a0 Z = true := hw _ (List.mem_of_getElem? (i := 198) rfl)
theorem w199 {a0 : Array Value} {Z : State} (hw : ∀ d ∈ tables_1, d.before a0 Z = true) : ((Jvm.Cond.static ({ cls := "jdk/internal/util/ArraysSupport", name := "newLength", desc := "(III)I" } : Jvm.MethodName)) : Jvm.Cond).before a0 Z = true := hw _ (List.mem_of_getElem? (i := 199) rfl)
theorem w200 {a0 : Array Value} {Z : State} (hw : ∀ d ∈ tables_1, d.before a0 Z = true) : ((Jvm.Cond.initialized "jdk/internal/util/ArraysSupport") : Jvm.Cond).before a0 Z = true := hw _ (List.mem_of_getElem? (i := 200) rfl)
theorem w201 {a0 : Array Value} {Z : State} (hw : ∀ d ∈ tables_1, d.before a0 Z = true) : ((Jvm.Cond.code ({ cls := "jdk/internal/util/ArraysSupport", name := "newLength", desc := "(III)I" } : Jvm.MethodName) jdk_48_method_27_code (4 : Nat) (Option.some Jvm.ClassFile.FieldType.int)) : Jvm.Cond).before a0 Z = true := hw _ (List.mem_of_getElem? (i := 201) rfl)
theorem w202 {a0 : Array Value} {Z : State} (hw : ∀ d ∈ tables_1, d.before a0 Z = true) : ((Jvm.Cond.methodLink "jdk/internal/util/ArraysSupport" (194 : Nat) ({ cls := "java/lang/Math", name := "max", desc := "(II)I" } : Jvm.MethodName)) : Jvm.Cond).before a0 Z = true := hw _ (List.mem_of_getElem? (i := 202) rfl)
theorem w203 {a0 : Array Value} {Z : State} (hw : ∀ d ∈ tables_1, d.before a0 Z = true) : ((Jvm.Cond.constant "jdk/internal/util/ArraysSupport" (200 : Nat) (2147483639 : Int32)) : Jvm.Cond).before a0 Z = true := hw _ (List.mem_of_getElem? (i := 203) rfl)
theorem w204 {a0 : Array Value} {Z : State} (hw : ∀ d ∈ tables_1, d.before a0 Z = true) : ((Jvm.Cond.methodLink "java/util/ArrayList" (112 : Nat) ({ cls := "java/lang/System", name := "arraycopy", desc := "(Ljava/lang/Object;ILjava/lang/Object;II)V" } : Jvm.MethodName)) : Jvm.Cond).before a0 Z = true := hw _ (List.mem_of_getElem? (i := 204) rfl)
theorem own_i2c (x : Int32) : (x &&& (255 : Int32)).toUInt32.toUInt16.toUInt32.toInt32 = x &&& (255 : Int32) := by
  apply Int32.toBitVec_inj.mp
  simp only [UInt32.toBitVec_toInt32, UInt16.toBitVec_toUInt32, UInt32.toBitVec_toUInt16, Int32.toBitVec_toUInt32, Int32.toBitVec_and]
  have e : (255 : Int32).toBitVec = 255#32 := rfl
  rw [e]; generalize x.toBitVec = y
  apply BitVec.eq_of_toNat_eq
  have : (y &&& 255#32).toNat ≤ 255 := by rw [BitVec.toNat_and]; exact Nat.and_le_right
  simp only [BitVec.toNat_setWidth]; omega
theorem own_chr (x : Int32) : nar .char ((x &&& (255 : Int32)).toUInt32.toUInt16.toUInt32.toInt32) = x &&& (255 : Int32) ∧ nar .char (x &&& (255 : Int32)) = x &&& (255 : Int32) :=
  ⟨by simp only [nar, own_i2c], by simp only [nar, own_i2c]⟩
theorem own_shr0 (z : Int32) : z >>> ((0 : Int32) &&& 31) = z := by
  have : ((0 : Int32) &&& 31) = 0 := by decide
  rw [this]; simp
def own_isz (z : Int32) : Int32 := if z = 0 then 1 else 0
theorem own_wnew {Z : State} {a0 : Array Value} (hw : ∀ d ∈ tables_1, d.before a0 Z = true) : ∀ d ∈ StrChars.Road.words, d.before a0 Z = true := fun d hd => hw d ((by decide +kernel : ∀ d ∈ StrChars.Road.words, d ∈ tables_1) d hd)
theorem own_newX {p : Program} {l : Launch} {e : Env} {R : Room} {s : State} {args : Array Value} {below : List Frame} {W : Nat} {Z : State} {a0 : Array Value} {h : Heap} {n0 : Nat} (hZ : Z.Warmed39 s.vm) (hw : ∀ d ∈ tables_1, d.before a0 Z = true) {x b : Addr} {kC : ClassId} {cs : List Int32} {d v0 c0 : Value} {z N : Int32} {n : Nat}
    (hx0 : n0 ≤ x) (hh0 : n0 ≤ h.size) (E : Exa Z h x "java/lang/String") (V : Fld Z h x "java/lang/String" "value" "[B" v0) (C : Fld Z h x "java/lang/String" "coder" "B" c0) (K : Arv Z h b kC .char N (cs.map Value.int) d) (O : Old Z n0 h) (S : Sta Z Z.heap "java/lang/String" "COMPACT_STRINGS" "Z" (.int z)) (hz : ¬ z = 0)
    (hn : cs.length = n) (hN : N = Int32.ofNat n) (l0 : 0 < n) (l2 : n ≤ 4000) (hp : ∀ c ∈ cs, ¬ c < 0 ∧ ¬ (255 : Int32) < c) (hfr : 4 ≤ R.frames) (hlo : W + 65 ≤ R.locals) :
    Back l R p e below s args (⟨"java/lang/String", "<init>", "([C)V"⟩ : MethodName) 3 W (fun P a => a = #[.ref x, .ref b] ∧ P.U.heap = h ∧ P.cells + 1 ≤ R.cells ∧ P.slots + n ≤ R.slots)
      (fun P _ v B => ∃ L, (v = none ∧ Fr n0 L ∧ Keep h B.U.heap [x] ∧ Exa Z B.U.heap x "java/lang/String") ∧ B.locs = P.locs ++ L ∧ B.cells = P.cells + 1 ∧ B.slots = P.slots + n) := by
  refine Back.mono (StrChars.Road.backV hZ (own_wnew hw) (kI := 4) (w6 hw) hx0 hh0 E V C K (S.ext O.2) hz hn hN l0 l2 hp rfl hfr hlo) (fun P a hp => hp) (fun P a v B hq' hq => ?_)
  obtain ⟨L, ⟨q1, q2, q3, q4, q5, t, kb, q6, q7, q8, q9, q10⟩, r⟩ := hq
  exact ⟨L, ⟨q1, q2, q3, q4⟩, r⟩

abbrev own_nil : List Addr := []
def OwnM (Z : State) (C : String) (mr : Addr) : Prop := ∃ (c : ClassId) (k : Class), Z.vm.findClass C = some c ∧ Z.vm.classes[c]? = some k ∧ k.mirror = some mr
def own_n (es : List Addr) : Int32 := Int32.ofNat es.length
def OwnA (Z : State) (h : Heap) (a : Addr) (N : Nat) (es : List Addr) : Prop := es.length ≤ N ∧ N ≤ 10 ∧ Exa Z h a "[Ljava/lang/Object;" ∧ ∃ k : ClassId, Arv Z h a k (.object "java/lang/Object") (Int32.ofNat N) (es.map Value.ref) .null
def OwnE (Z : State) (h : Heap) (es : List Addr) : Prop := ∀ x ∈ es, Exa Z h x "java/lang/String"
section OwnAl
variable {p : Program} {l : Launch} {e : Env} {R : Room} {s Z : State} {m : MethodId} {args a0 : Array Value} {below : List Frame} {meth : Method} {c : Code} {T : State} {locs : List Loc} {cells slots : Nat} {h h' : Heap} {a b : Addr} {N N' : Nat} {es es1 es2 : List Addr} {sl : Nat} {v : Value} {ws : List Addr}
theorem OwnA.exa (F : OwnA Z h a N es) : Exa Z h a "[Ljava/lang/Object;" := F.2.2.1
theorem OwnA.lt (F : OwnA Z h a N es) : a < h.size := F.2.2.1.lt
theorem OwnA.ext (F : OwnA Z h a N es) (E : Ext h h') : OwnA Z h' a N es := by obtain ⟨h1, h2, h3, k, h4⟩ := F; exact ⟨h1, h2, h3.ext E, k, h4.ext E⟩
theorem OwnA.other (F : OwnA Z h a N es) (W : Wr h h' b sl v) (q : a ≠ b) : OwnA Z h' a N es := by obtain ⟨h1, h2, h3, k, h4⟩ := F; exact ⟨h1, h2, h3.wr W, k, h4.other W q⟩
theorem OwnA.keep (F : OwnA Z h a N es) (K : Keep h h' ws) (q : a ∉ ws) : OwnA Z h' a N es := by obtain ⟨h1, h2, h3, k, h4⟩ := F; exact ⟨h1, h2, h3.keep K, k, h4.keep K q⟩
theorem OwnE.ext (F : OwnE Z h es) (E : Ext h h') : OwnE Z h' es := fun x q => (F x q).ext E
theorem OwnE.other (F : OwnE Z h es) (W : Wr h h' b sl v) : OwnE Z h' es := fun x q => (F x q).wr W
theorem OwnE.keep (F : OwnE Z h es) (K : Keep h h' ws) : OwnE Z h' es := fun x q => (F x q).keep K
theorem OwnE.app (F : OwnE Z h es1) (G : OwnE Z h es2) : OwnE Z h (es1 ++ es2) := fun x q => (List.mem_append.mp q).elim (F x) (G x)
theorem OwnE.one {x : Addr} (F : Exa Z h x "java/lang/String") : OwnE Z h [x] := fun y q => by rw [List.mem_singleton.mp q]; exact F
theorem own_onI {n : Nat} (q : n < 2 ^ 31) : (Int32.ofNat n).toInt = n := len_toInt q
theorem own_onC {n : Nat} (q : n < 2 ^ 31) : (Int32.ofNat n).toNatClampNeg = n := by simp only [Int32.toNatClampNeg, own_onI q]; rfl
theorem own_onN {n : Nat} (q : n < 2 ^ 31) : ¬ Int32.ofNat n < 0 := by
  rw [Int32.lt_iff_toInt_lt, own_onI q]; have : (0 : Int32).toInt = 0 := rfl
  omega
theorem own_lt' {x y : Nat} (qx : x < 2 ^ 31) (qy : y < 2 ^ 31) : Int32.ofNat x < Int32.ofNat y ↔ x < y := by
  rw [Int32.lt_iff_toInt_lt, own_onI qx, own_onI qy]; omega
theorem own_eq' {x y : Nat} (qx : x < 2 ^ 31) (qy : y < 2 ^ 31) : Int32.ofNat x = Int32.ofNat y ↔ x = y := by
  rw [← Int32.toInt_inj, own_onI qx, own_onI qy]; omega
theorem own_add' (x y : Nat) : Int32.ofNat x + Int32.ofNat y = Int32.ofNat (x + y) := (Int32.ofNat_add x y).symm
theorem own_sub' {x y : Nat} (qx : x < 2 ^ 31) (q : y ≤ x) : Int32.ofNat x - Int32.ofNat y = Int32.ofNat (x - y) := by
  have e : Int32.ofNat (x - y) + Int32.ofNat y = Int32.ofNat x := by rw [own_add', Nat.sub_add_cancel q]
  rw [← e]; simp
theorem own_mEv {C : String} {mr : Addr} (hZ : Z.Warmed39 s.vm) (M : OwnM Z C mr) : (Term.mirror C).eval args s none [] s = some (.ref mr) := by
  obtain ⟨cc, kc, m1, m2, m3⟩ := M
  obtain ⟨k', q, ek⟩ := hZ.alike.2.2 _ _ m2
  have e1 : s.vm.findClass C = some cc := by rw [hZ.alike.findClass]; exact m1
  have e2 : k'.mirror = some mr := by rw [ek]; exact m3
  simp [Term.eval, e1, q, e2]
theorem own_ldcM (X : Stand p l e R s m args below meth c T locs cells slots) (hx : p.tables.exec = Jvm.exec) (hZ : Z.Warmed39 s.vm) {own C : String} {index : Nat} (hown : s.vm.findClass own = some m.cls)
    (w : (Cond.classLink own index C).before a0 Z = true) {mr : Addr} (M : OwnM Z C mr) (eT : T.heap = h) {g : JFrame} (hg : g.method = m) (hd : decode c.code g.pc = .ok (.ldc index, 2)) :
    ∃ T', Stand p l e R s m args below meth c T' locs cells slots ∧ T'.heap = h ∧ ∀ target, Steps p.tables e below (T'.setTop { g with pc := g.pc + 2, stack := .ref mr :: g.stack }) target → Steps p.tables e below (T.setTop g) target := by
  obtain ⟨vm', X', st⟩ := X.ldcMirror hx hown (mvT hZ w) (own_mEv hZ M) hg hd
  exact ⟨_, X', eT, st⟩
theorem own_gc (X : Stand p l e R s m args below meth c T locs cells slots) (hx : p.tables.exec = Jvm.exec) (hZ : Z.Warmed39 s.vm) {own C : String} {index : Nat} (hown : s.vm.findClass own = some m.cls)
    (w1 : (Cond.methodLink own index Jvm.Stand.gcN).before a0 Z = true) (w2 : (Cond.declares Jvm.Stand.gcN).before a0 Z = true) (w4 : (Cond.selects C Jvm.Stand.gcN Jvm.Stand.gcN).before a0 Z = true)
    (w5 : (Cond.instanceMethod Jvm.Stand.gcN).before a0 Z = true) (w6 : (Cond.native Jvm.Stand.gcN).before a0 Z = true) (eT : T.heap = h) (E : Exa Z h a C) {mr : Addr} (M : OwnM Z C mr)
    {g : JFrame} (hg : g.method = m) (hsize : g.locals.size = c.maxLocals) {rest : List Value} (hs : g.stack = .ref a :: rest) (hd : decode c.code g.pc = .ok (.invokevirtual index, 3)) (hf : 1 ≤ R.frames) {W : Nat} (hW : 2 * g.monitorRoom + (rest.map fun v => v.category).sum ≤ W) (hl : W + (nativeFrameWords "java/lang/Object" "getClass" 1 + 11) ≤ R.locals) :
    ∃ T', Stand p l e R s m args below meth c T' locs cells slots ∧ T'.heap = h ∧ ∀ target, Steps p.tables e below (T'.setTop { g with pc := g.pc + 3, stack := .ref mr :: rest }) target → Steps p.tables e below (T.setTop g) target := by
  obtain ⟨cB, kB, i1, i2, i3⟩ := isOf hZ eT E
  obtain ⟨cc, kc, m1, m2, m3⟩ := M
  rw [hZ.alike.findClass] at i1
  cases i1.symm.trans m1
  obtain ⟨k', q, ek⟩ := hZ.alike.2.2 _ _ m2
  obtain ⟨vm', X', st⟩ := X.getClassOf hx hown (mvT hZ w1) (mvT hZ w2) (notFace_of_selects (args := #[]) (mvT hZ w4)) (mvT hZ w4) (mvT hZ w5) (mvT hZ w6) (by rw [hZ.alike.findClass]; exact m1) i3 q (by rw [ek]; exact m3) hg hsize hs hd hf (by omega)
  exact ⟨_, X', eT, st⟩
theorem own_gcI (X : Stand p l e R s m args below meth c T locs cells slots) (hx : p.tables.exec = Jvm.exec) (hZ : Z.Warmed39 s.vm) {own C : String} {index count : Nat} (hown : s.vm.findClass own = some m.cls)
    (w1 : (Cond.methodLink own index ⟨"java/util/Collection", "getClass", "()Ljava/lang/Class;"⟩).before a0 Z = true) (w2 : (Cond.declares Jvm.Stand.gcN).before a0 Z = true) (w3 : (Cond.interfaceMethod "java/util/Collection" "java/lang/Object" "getClass" "()Ljava/lang/Class;").before a0 Z = true) (w4 : (Cond.selects C ⟨"java/util/Collection", "getClass", "()Ljava/lang/Class;"⟩ Jvm.Stand.gcN).before a0 Z = true)
    (w5 : (Cond.instanceMethod Jvm.Stand.gcN).before a0 Z = true) (w6 : (Cond.publicMethod Jvm.Stand.gcN).before a0 Z = true) (w7 : (Cond.unhidden C "getClass" "()Ljava/lang/Class;").before a0 Z = true) (w8 : (Cond.castable C "java/util/Collection").before a0 Z = true) (w9 : (Cond.native Jvm.Stand.gcN).before a0 Z = true)
    (eT : T.heap = h) (E : Exa Z h a C) {mr : Addr} (M : OwnM Z C mr)
    {g : JFrame} (hg : g.method = m) (hsize : g.locals.size = c.maxLocals) {rest : List Value} (hs : g.stack = .ref a :: rest) (hd : decode c.code g.pc = .ok (.invokeinterface index count, 5)) (hf : 1 ≤ R.frames) {W : Nat} (hW : 2 * g.monitorRoom + (rest.map fun v => v.category).sum ≤ W) (hl : W + (nativeFrameWords "java/lang/Object" "getClass" 1 + 11) ≤ R.locals) :
    ∃ T', Stand p l e R s m args below meth c T' locs cells slots ∧ T'.heap = h ∧ ∀ target, Steps p.tables e below (T'.setTop { g with pc := g.pc + 5, stack := .ref mr :: rest }) target → Steps p.tables e below (T.setTop g) target := by
  obtain ⟨cB, kB, i1, i2, i3⟩ := isOf hZ eT E
  obtain ⟨cc, kc, m1, m2, m3⟩ := M
  rw [hZ.alike.findClass] at i1
  cases i1.symm.trans m1
  obtain ⟨k', q, ek⟩ := hZ.alike.2.2 _ _ m2
  obtain ⟨vm', X', st⟩ := X.getClassOfI hx (xi := ⟨"java/util/Collection", "getClass", "()Ljava/lang/Class;"⟩) hown (mvT hZ w1) (mvT hZ w2) (Jvm.Free.ULB.iface_rides hZ.alike w3) (mvT hZ w4) (mvT hZ w5) (mvT hZ w6) (mvT hZ w7) (mvT hZ w8) (mvT hZ w9) (by decide) (by decide) rfl rfl (by rw [hZ.alike.findClass]; exact m1) q i3 (by rw [ek]; exact m3) hg hsize hs hd hf (by omega)
  exact ⟨_, X', eT, st⟩
theorem own_ovr {cl : Cell} {ty : FieldType} (w : (Cond.arrayOver (.object "java/lang/Object")).before a0 Z = true) (E : Exa Z h a "[Ljava/lang/Object;") (A : Arr Z h a cl ty) : Ovr Z cl.cls "java/lang/Object" := by
  obtain ⟨comp, cA, k, h1, -, h2, h3, h4⟩ := Cond.arrayOver_spec w
  obtain ⟨cell, k', g1, g2, g3, -⟩ := E
  cases g1.symm.trans A.1
  have h4' : Z.vm.findClass "[Ljava/lang/Object;" = some cA := h4
  cases g2.symm.trans h4'
  exact ⟨k, comp, h2, h3, h1⟩
theorem own_sto {y : Addr} (w : (Cond.arrayOver (.object "java/lang/Object")).before a0 Z = true) (wc : (Cond.castable "java/lang/String" "java/lang/Object").before a0 Z = true) (A : OwnA Z h a N es) (E : Exa Z h y "java/lang/String") : Sto Z h a (.ref y) := by
  obtain ⟨h1, h2, h3, k, cl, h4, -⟩ := A
  exact Sto.of h4 (own_ovr w h3 h4) (Ins.of_exa E wc)
theorem own_getD (es : List Addr) (i : Nat) : (es.map Value.ref).getD i .null = .null ∨ ∃ x ∈ es, (es.map Value.ref).getD i .null = .ref x := by
  simp only [List.getD_eq_getElem?_getD, List.getElem?_map]
  cases q : es[i]? with
  | none => exact Or.inl rfl
  | some x => exact Or.inr ⟨x, List.mem_of_getElem? q, rfl⟩
theorem own_stoL (w : (Cond.arrayOver (.object "java/lang/Object")).before a0 Z = true) (wc : (Cond.castable "java/lang/String" "java/lang/Object").before a0 Z = true) (A : OwnA Z h b N es1) (E : OwnE Z h es2) (is : List Nat) : StoL Z h b (is.map fun i => (es2.map Value.ref).getD (0 + i) .null) := by
  induction is with
  | nil => exact trivial
  | cons i r ih =>
    refine ⟨?_, ih⟩
    rcases own_getD es2 (0 + i) with q | ⟨x, q1, q2⟩
    · exact Or.inl q
    · show Sto Z h b ((es2.map Value.ref).getD (0 + i) .null)
      rw [q2]; exact own_sto w wc A (E x q1)
theorem own_list {es1 es2 : List Addr} {N cc : Nat} (h1 : es2.length ≤ cc) (h2 : es1.length + cc ≤ N) (i : Nat) :
    ((es1 ++ es2).map Value.ref).getD i .null = (((es1.map Value.ref ++ List.replicate (N - es1.length) Value.null).take es1.length ++ (List.range cc).map (fun i => (es2.map Value.ref).getD (0 + i) .null)) ++ (es1.map Value.ref ++ List.replicate (N - es1.length) Value.null).drop (es1.length + cc)).getD i .null := by
  have e1 : (es1.map Value.ref ++ List.replicate (N - es1.length) Value.null).take es1.length = es1.map Value.ref := by rw [List.take_append_of_le_length (by simp), List.take_of_length_le (by simp)]
  have e2 : (es1.map Value.ref ++ List.replicate (N - es1.length) Value.null).drop (es1.length + cc) = List.replicate (N - es1.length - cc) Value.null := by rw [List.drop_append]; simp
  rw [e1, e2, List.map_append]
  simp only [List.getD_eq_getElem?_getD]
  by_cases c1 : i < es1.length
  · rw [List.append_assoc, List.getElem?_append_left (by simpa using c1), List.getElem?_append_left (by simpa using c1)]
  · rw [List.append_assoc, List.getElem?_append_right (by simpa using c1), List.getElem?_append_right (by simpa using c1), List.length_map]
    generalize i - es1.length = j
    by_cases c2 : j < cc
    · rw [List.getElem?_append_left (by simpa using c2)]
      simp [List.getElem?_range, c2]
    · rw [List.getElem?_append_right (by simpa using c2), List.getElem?_eq_none (by simp; omega)]
      cases q : (List.replicate (N - es1.length - cc) Value.null)[j - ((List.range cc).map (fun i => ((es2.map Value.ref)[0 + i]?.getD .null))).length]? with
      | none => rfl
      | some x => have := List.mem_of_getElem? q; rw [(List.mem_replicate.mp this).2]; rfl
theorem own_cpO (X : Stand p l e R s m args below meth c T locs cells slots) (hx : p.tables.exec = Jvm.exec) (hZ : Z.Warmed39 s.vm) {own : String} {index : Nat} (hown : s.vm.findClass own = some m.cls)
    (w1 : (Cond.methodLink own index Jvm.Stand.acN).before a0 Z = true) (w2 : (Cond.native Jvm.Stand.acN).before a0 Z = true) (w3 : (Cond.static Jvm.Stand.acN).before a0 Z = true) (w4 : (Cond.initialized "java/lang/System").before a0 Z = true)
    (w5 : (Cond.arrayOver (.object "java/lang/Object")).before a0 Z = true) (w6 : (Cond.castable "java/lang/String" "java/lang/Object").before a0 Z = true) (eT : T.heap = h)
    (A : OwnA Z h a N es2) (B : OwnA Z h b N' es1) (E : OwnE Z h es2) {cc : Nat} {sp dp nn : Int32} (hsp : sp = Int32.ofNat 0) (hdp : dp = Int32.ofNat es1.length) (hnn : nn = Int32.ofNat cc) (h1 : es2.length ≤ cc) (h2 : cc ≤ N) (h3 : es1.length + cc ≤ N') {n0 : Nat} (Nf : Fr n0 locs) (ge : n0 ≤ b)
    {g : JFrame} (hg : g.method = m) (hsize : g.locals.size = c.maxLocals) {rest : List Value} (hs : g.stack = .int nn :: .int dp :: .ref b :: .int sp :: .ref a :: rest) (hd : decode c.code g.pc = .ok (.invokestatic index, 3))
    (hf : 1 ≤ R.frames) {W : Nat} (hW : 2 * g.monitorRoom + (rest.map fun v => v.category).sum ≤ W) (hlo : W + (nativeFrameWords "java/lang/System" "arraycopy" 5 + 11) ≤ R.locals) :
    ∃ T' h' L, Stand p l e R s m args below meth c T' L cells slots ∧ T'.heap = h' ∧ Fr n0 L ∧ Keep h h' [b] ∧ OwnA Z h' b N' (es1 ++ es2) ∧
      ∀ target, Steps p.tables e below (T'.setTop { g with pc := g.pc + 3, stack := rest }) target → Steps p.tables e below (T.setTop g) target := by
  subst hsp hdp hnn
  have SL := own_stoL w5 w6 B E (List.range cc)
  obtain ⟨a1, a2, a3, ka, a4⟩ := A
  obtain ⟨b1, b2, b3, kb, b4⟩ := B
  have b5 := b4.pad (pad_rep (es1.map Value.ref) .null (N' - es1.length))
  have z0 : (Int32.ofNat 0).toNatClampNeg = 0 := rfl
  have z1 : (Int32.ofNat es1.length).toNatClampNeg = es1.length := own_onC (by omega)
  have z2 : (Int32.ofNat cc).toNatClampNeg = cc := own_onC (by omega)
  have z3 : (Int32.ofNat N).toNatClampNeg = N := own_onC (by omega)
  have z4 : (Int32.ofNat N').toNatClampNeg = N' := own_onC (by omega)
  obtain ⟨T', h', L, X', e', N1, K, V, st⟩ := cpA X hx hZ hown w1 w2 w3 w4 eT (us := (List.range cc).map fun i => (es2.map Value.ref).getD (0 + i) .null) a4 b5 (Or.inr ⟨rfl, rfl, SL⟩) (sp := Int32.ofNat 0) (dp := Int32.ofNat es1.length) (nn := Int32.ofNat cc)
    (own_onN (by omega)) (own_onN (by omega)) (own_onN (by omega)) (by rw [z0, z2, z3]; omega) (by rw [z1, z2, z4]; omega) (by rw [z0, z2]) (by rw [z1, z2]; simp; omega) Nf ge hg hsize hs hd hf hW hlo
  rw [z1, z2] at V
  exact ⟨T', h', L, X', e', N1, K, ⟨by rw [List.length_append]; omega, b2, b3.keep K, kb, V.pad (own_list h1 h3)⟩, st⟩
theorem own_newA (X : Stand p l e R s m args below meth c T locs cells slots) (hx : p.tables.exec = Jvm.exec) (hZ : Z.Warmed39 s.vm) {own : String} {index : Nat} (hown : s.vm.findClass own = some m.cls) (w1 : (Cond.classLink own index "java/lang/Object").before a0 Z = true) (w2 : (Cond.arrayOver (.object "java/lang/Object")).before a0 Z = true)
    (eT : T.heap = h) {g : JFrame} (hg : g.method = m) (hd : decode c.code g.pc = .ok (.anewarray index, 3)) {rest : List Value} (hs : g.stack = .int (Int32.ofNat N) :: rest) (hN : N ≤ 10) (hc : cells + 1 ≤ R.cells) (hl : slots + 10 ≤ R.slots) :
    ∃ T' h', Stand p l e R s m args below meth c T' locs (cells + 1) (slots + 10) ∧ T'.heap = h' ∧ Ext h h' ∧ OwnA Z h' h.size N [] ∧
      ∀ target, Steps p.tables e below (T'.setTop { g with pc := g.pc + 3, stack := .ref h.size :: rest }) target → Steps p.tables e below (T.setTop g) target := by
  obtain ⟨T', h', cA, X', e', E, A, Ex, -, st⟩ := newRE (cap := 10) (ad := "[Ljava/lang/Object;") X hx hZ hown w1 w2 eT hg hd hs (own_onN (by omega)) (by rw [own_onC (by omega)]; exact hN) (by decide) hc hl rfl
  exact ⟨T', h', X', e', E, ⟨Nat.zero_le _, hN, Ex, cA, Arv.new A (own_onN (by omega))⟩, st⟩
theorem own_setA {y : Addr} {cl : Cell} {k : ClassId} {j : Int32} (h0 : es.length < N) (h1 : N ≤ 10) (h2 : Exa Z h a "[Ljava/lang/Object;") (A : Arr Z h a cl (.object "java/lang/Object")) (q1 : cl.cls = k) (S : cl.slots.size = (Int32.ofNat N).toNatClampNeg) (q3 : ¬ Int32.ofNat N < 0) (H : Has cl (es.map Value.ref) .null)
    (G : ∀ i, i < cl.slots.size → fits (.object "java/lang/Object") ((es.map Value.ref).getD i .null) = true) (hj : j = Int32.ofNat es.length) (W : Wr h h' a j.toNatClampNeg (.ref y)) : OwnA Z h' a N (es ++ [y]) := by
  have z1 : (Int32.ofNat es.length).toNatClampNeg = es.length := own_onC (by omega)
  subst hj
  have pd := (pad_rep (es.map Value.ref) .null (N - es.length))
  refine ⟨by rw [List.length_append]; simp; omega, h1, h2.wr W, k, ?_⟩
  have V := Arv.set (v := .ref y) (vs := es.map Value.ref ++ List.replicate (N - es.length) Value.null) A q1 S q3 (fun i hi => by rw [pd]; exact H i hi) (fun i hi => by rw [pd]; exact G i hi) rfl W es.length z1 (by simp; omega)
  refine V.pad fun i => ?_
  simp only [List.getD_eq_getElem?_getD, List.map_append, List.map_cons, List.map_nil]
  by_cases c1 : i < es.length
  · rw [List.getElem?_append_left (by simpa using c1), List.getElem?_set_ne (by omega), List.getElem?_append_left (by simpa using c1)]
  · by_cases c2 : i = es.length
    · subst c2
      rw [List.getElem?_append_right (by simp), List.getElem?_set_self (by simp; omega)]; simp
    · rw [List.getElem?_append_right (by simp; omega), List.getElem?_set_ne (by omega), List.getElem?_append_right (by simp; omega), List.getElem?_eq_none (by simp; omega)]
      cases q : (List.replicate (N - es.length) Value.null)[i - (es.map Value.ref).length]? with
      | none => rfl
      | some x => have := List.mem_of_getElem? q; rw [(List.mem_replicate.mp this).2]; rfl
theorem own_at {j : Int32} (A : OwnA Z h a N es) (h1 : ¬ j < 0) (h2 : j < own_n es) : ∃ x ∈ es, (es.map Value.ref).getD j.toNatClampNeg .null = .ref x ∧ j < Int32.ofNat N := by
  obtain ⟨a1, a2, -⟩ := A
  have e1 := own_onI (n := es.length) (by omega); have e2 := own_onI (n := N) (by omega)
  rw [own_n, Int32.lt_iff_toInt_lt, e1] at h2; rw [Int32.lt_iff_toInt_lt] at h1
  have z : (0 : Int32).toInt = 0 := rfl
  have hj : j.toNatClampNeg < es.length := by simp only [Int32.toNatClampNeg]; omega
  refine ⟨es[j.toNatClampNeg], List.getElem_mem hj, by simp [List.getD_eq_getElem?_getD, hj], ?_⟩
  rw [Int32.lt_iff_toInt_lt, e2]; omega
end OwnAl

theorem own_shr1 (n : Nat) (h : n ≤ 10) : Int32.ofNat n >>> ((1 : Int32) &&& 31) = Int32.ofNat (n / 2) := by
  have : n = 0 ∨ n = 1 ∨ n = 2 ∨ n = 3 ∨ n = 4 ∨ n = 5 ∨ n = 6 ∨ n = 7 ∨ n = 8 ∨ n = 9 ∨ n = 10 := by omega
  rcases this with rfl | rfl | rfl | rfl | rfl | rfl | rfl | rfl | rfl | rfl | rfl <;> decide
theorem own_napp (es fs : List Addr) : own_n es + own_n fs = own_n (es ++ fs) := by unfold own_n; rw [List.length_append]; exact own_add' _ _
theorem own_napp1 (es : List Addr) (x : Addr) : own_n es + (1 : Int32) = own_n (es ++ [x]) := own_napp es [x]

theorem own_c255 (x : Int32) : ¬ (255 : Int32) < (x &&& (255 : Int32)).toUInt32.toUInt16.toUInt32.toInt32 := by
  rw [own_i2c]; have := c_and x 255 (by decide); simp only [Int32.lt_iff_toInt_lt]; simp only [Int32.reduceToInt] at *; omega
theorem own_r3 (x : Int32) : (x &&& (3 : Int32)) % (3 : Int32) = 0 ∨ (x &&& (3 : Int32)) % (3 : Int32) = 1 ∨ (x &&& (3 : Int32)) % (3 : Int32) = 2 := by
  have h1 := c_and x 3 (by decide); have h2 := (c_irem (x &&& (3 : Int32)) 3 3 (by decide)).1 h1.1
  have e0 : ∀ x y : Int32, x = y ↔ x.toInt = y.toInt := fun x y => Int32.toInt_inj.symm
  simp only [e0]; simp only [Int32.reduceToInt] at *; omega
theorem own_nz {t : Term} {args : Array Value} {s : State} {z : Int32} (ev : t.eval args s none [] s = some (.int z)) (h : (Cond.not (Cond.eq t (.int 0))).value args s none s [] = some true) : ¬ (z = (0 : Int32)) := by
  have h1 := not_v h
  rintro rfl
  simp [Cond.value, Term.eval, ev] at h1
theorem own_empty {s : State} {args : Array Value} {n : String} {ca : Addr} (hf : Fit s) (ev : (Term.static "java/util/ArrayList" n "[Ljava/lang/Object;").eval args s none [] s = some (.ref ca))
    (h1 : (Cond.arrayOf (Term.static "java/util/ArrayList" n "[Ljava/lang/Object;") (.object "java/lang/Object")).before args s = true) (h2 : (Cond.exactly (Term.static "java/util/ArrayList" n "[Ljava/lang/Object;") "[Ljava/lang/Object;").before args s = true)
    (h3 : (Cond.eq (.length (Term.static "java/util/ArrayList" n "[Ljava/lang/Object;")) (.int 0)).before args s = true) : OwnA s s.heap ca 0 own_nil := by
  obtain ⟨cl, A⟩ := Arr.start ev (Cond.before_iff.mp h1)
  obtain ⟨q1, q2⟩ := Jvm.Free.IntBox.length_fwd h3 ev A.1 A.2.1 A.2.2
  exact ⟨Nat.le_refl _, by decide, Exa.start ev (Cond.before_iff.mp h2), cl.cls, Arv.start hf A q1 q2 (by decide) rfl trivial⟩

theorem own_setS {Z : State} {h h' : Heap} {a y : Addr} {cl : Cell} {k : ClassId} {ty : FieldType} {es : List Addr} {j z : Int32} (h0 : es.length < 6) (hz : z = 6) (A : Arr Z h a cl ty) (q1 : cl.cls = k) (S : cl.slots.size = z.toNatClampNeg) (q3 : ¬ z < 0) (H : Has cl (es.map Value.ref) .null)
    (G : ∀ i, i < cl.slots.size → fits ty ((es.map Value.ref).getD i .null) = true) (hv : fits ty (.ref y) = true) (hj : j = own_n es) (W : Wr h h' a j.toNatClampNeg (.ref y)) : Arv Z h' a k ty z ((es ++ [y]).map Value.ref) .null := by
  have z1 : (own_n es).toNatClampNeg = es.length := own_onC (by omega)
  subst hj
  have pd := (pad_rep (es.map Value.ref) .null (6 - es.length))
  have V := Arv.set (v := .ref y) (vs := es.map Value.ref ++ List.replicate (6 - es.length) Value.null) A q1 S q3 (fun i hi => by rw [pd]; exact H i hi) (fun i hi => by rw [pd]; exact G i hi) hv W es.length z1 (by simp; omega)
  refine V.pad fun i => ?_
  simp only [List.getD_eq_getElem?_getD, List.map_append, List.map_cons, List.map_nil]
  by_cases c1 : i < es.length
  · rw [List.getElem?_append_left (by simpa using c1), List.getElem?_set_ne (by omega), List.getElem?_append_left (by simpa using c1)]
  · by_cases c2 : i = es.length
    · subst c2
      rw [List.getElem?_append_right (by simp), List.getElem?_set_self (by simp; omega)]; simp
    · rw [List.getElem?_append_right (by simp; omega), List.getElem?_set_ne (by omega), List.getElem?_append_right (by simp; omega), List.getElem?_eq_none (by simp; omega)]
      cases q : (List.replicate (6 - es.length) Value.null)[i - (es.map Value.ref).length]? with
      | none => rfl
      | some x => have := List.mem_of_getElem? q; rw [(List.mem_replicate.mp this).2]; rfl
def own_case (v : Int32) (l : List Addr) (x y : Addr) : Prop := (v = 0 ∧ l = own_nil) ∨ (v = 1 ∧ l = (own_nil ++ [x])) ∨ (v = 2 ∧ l = ((own_nil ++ [x]) ++ [y]))
theorem own_case.len {v : Int32} {l : List Addr} {x y : Addr} (F : own_case v l x y) : l.length ≤ 2 := by rcases F with ⟨-, rfl⟩ | ⟨-, rfl⟩ | ⟨-, rfl⟩ <;> simp [own_nil]
theorem own_case.val {v : Int32} {l : List Addr} {x y : Addr} (F : own_case v l x y) : v = own_n l := by rcases F with ⟨rfl, rfl⟩ | ⟨rfl, rfl⟩ | ⟨rfl, rfl⟩ <;> rfl

theorem own_b255 (x : Int32) : ¬ (x &&& (255 : Int32)) < 0 ∧ ¬ (255 : Int32) < (x &&& (255 : Int32)) := by
  have := c_and x 255 (by decide); simp only [Int32.lt_iff_toInt_lt]; simp only [Int32.reduceToInt] at *; omega
theorem d10_0 : decode jdk_22_method_1_code 0 = .ok (.aload_n 0, 1) := by decide +kernel
theorem d10_1 : decode jdk_22_method_1_code 1 = .ok (.invokespecial 1, 3) := by decide +kernel
theorem d10_4 : decode jdk_22_method_1_code 4 = .ok (.return_, 1) := by decide +kernel
theorem pn_0 : plainName "java/util/AbstractCollection" = true := by first | (simp [plainName, overriddenIn]; done) | decide +kernel
theorem d9_0 : decode jdk_39_method_1_code 0 = .ok (.aload_n 0, 1) := by decide +kernel
theorem d9_1 : decode jdk_39_method_1_code 1 = .ok (.invokespecial 1, 3) := by decide +kernel
theorem pd_0 : parseMethodDescriptor "()V" = some ⟨[], none⟩ := by decide +kernel
theorem d9_4 : decode jdk_39_method_1_code 4 = .ok (.aload_n 0, 1) := by decide +kernel
theorem d9_5 : decode jdk_39_method_1_code 5 = .ok (.iconst 0, 1) := by decide +kernel
theorem d9_6 : decode jdk_39_method_1_code 6 = .ok (.putfield 7, 3) := by decide +kernel
theorem d9_9 : decode jdk_39_method_1_code 9 = .ok (.return_, 1) := by decide +kernel
theorem pn_1 : plainName "java/util/AbstractList" = true := by first | (simp [plainName, overriddenIn]; done) | decide +kernel
theorem d8_0 : decode jdk_38_method_2_code 0 = .ok (.aload_n 0, 1) := by decide +kernel
theorem d8_1 : decode jdk_38_method_2_code 1 = .ok (.invokespecial 1, 3) := by decide +kernel
theorem d8_4 : decode jdk_38_method_2_code 4 = .ok (.aload_n 0, 1) := by decide +kernel
theorem d8_5 : decode jdk_38_method_2_code 5 = .ok (.getstatic 39, 3) := by decide +kernel
theorem d8_8 : decode jdk_38_method_2_code 8 = .ok (.putfield 9, 3) := by decide +kernel
theorem d8_11 : decode jdk_38_method_2_code 11 = .ok (.return_, 1) := by decide +kernel
theorem pn_2 : plainName "java/util/ArrayList" = true := by first | (simp [plainName, overriddenIn]; done) | decide +kernel
theorem d18_0 : decode jdk_29_method_69_code 0 = .ok (.iload_n 0, 1) := by decide +kernel
theorem d18_1 : decode jdk_29_method_69_code 1 = .ok (.iload_n 1, 1) := by decide +kernel
theorem d18_2 : decode jdk_29_method_69_code 2 = .ok (.if_icmp .gt 7, 3) := by decide +kernel
theorem d18_9 : decode jdk_29_method_69_code 9 = .ok (.iload_n 1, 1) := by decide +kernel
theorem d18_10 : decode jdk_29_method_69_code 10 = .ok (.ireturn, 1) := by decide +kernel
theorem d18_5 : decode jdk_29_method_69_code 5 = .ok (.iload_n 0, 1) := by decide +kernel
theorem d18_6 : decode jdk_29_method_69_code 6 = .ok (.goto 4, 3) := by decide +kernel
theorem d25_0 : decode jdk_29_method_65_code 0 = .ok (.iload_n 0, 1) := by decide +kernel
theorem d25_1 : decode jdk_29_method_65_code 1 = .ok (.iload_n 1, 1) := by decide +kernel
theorem d25_2 : decode jdk_29_method_65_code 2 = .ok (.if_icmp .lt 7, 3) := by decide +kernel
theorem d25_9 : decode jdk_29_method_65_code 9 = .ok (.iload_n 1, 1) := by decide +kernel
theorem d25_10 : decode jdk_29_method_65_code 10 = .ok (.ireturn, 1) := by decide +kernel
theorem d25_5 : decode jdk_29_method_65_code 5 = .ok (.iload_n 0, 1) := by decide +kernel
theorem d25_6 : decode jdk_29_method_65_code 6 = .ok (.goto 4, 3) := by decide +kernel
theorem d31_0 : decode jdk_48_method_27_code 0 = .ok (.iload_n 0, 1) := by decide +kernel
theorem d31_1 : decode jdk_48_method_27_code 1 = .ok (.iload_n 1, 1) := by decide +kernel
theorem d31_2 : decode jdk_48_method_27_code 2 = .ok (.iload_n 2, 1) := by decide +kernel
theorem d31_3 : decode jdk_48_method_27_code 3 = .ok (.invokestatic 194, 3) := by decide +kernel
theorem pd_1 : parseMethodDescriptor "(II)I" = some ⟨[.int, .int], some .int⟩ := by decide +kernel
theorem d31_6 : decode jdk_48_method_27_code 6 = .ok (.iadd, 1) := by decide +kernel
theorem d31_7 : decode jdk_48_method_27_code 7 = .ok (.istore_n 3, 1) := by decide +kernel
theorem d31_8 : decode jdk_48_method_27_code 8 = .ok (.iconst 0, 1) := by decide +kernel
theorem d31_9 : decode jdk_48_method_27_code 9 = .ok (.iload_n 3, 1) := by decide +kernel
theorem d31_10 : decode jdk_48_method_27_code 10 = .ok (.if_icmp .ge 11, 3) := by decide +kernel
theorem d31_13 : decode jdk_48_method_27_code 13 = .ok (.iload_n 3, 1) := by decide +kernel
theorem d31_14 : decode jdk_48_method_27_code 14 = .ok (.ldc 200, 2) := by decide +kernel
theorem d31_16 : decode jdk_48_method_27_code 16 = .ok (.if_icmp .gt 5, 3) := by decide +kernel
theorem d31_19 : decode jdk_48_method_27_code 19 = .ok (.iload_n 3, 1) := by decide +kernel
theorem d31_20 : decode jdk_48_method_27_code 20 = .ok (.ireturn, 1) := by decide +kernel
theorem pn_3 : plainName "jdk/internal/util/ArraysSupport" = true := by first | (simp [plainName, overriddenIn]; done) | decide +kernel
theorem d17_0 : decode jdk_65_method_120_code 0 = .ok (.aload_n 2, 1) := by decide +kernel
theorem d17_1 : decode jdk_65_method_120_code 1 = .ok (.ldc 110, 2) := by decide +kernel
theorem d17_3 : decode jdk_65_method_120_code 3 = .ok (.if_acmp .ne 10, 3) := by decide +kernel
theorem d17_6 : decode jdk_65_method_120_code 6 = .ok (.iload_n 1, 1) := by decide +kernel
theorem d17_7 : decode jdk_65_method_120_code 7 = .ok (.anewarray 2, 3) := by decide +kernel
theorem d17_10 : decode jdk_65_method_120_code 10 = .ok (.goto 14, 3) := by decide +kernel
theorem d17_24 : decode jdk_65_method_120_code 24 = .ok (.astore_n 3, 1) := by decide +kernel
theorem d17_25 : decode jdk_65_method_120_code 25 = .ok (.aload_n 0, 1) := by decide +kernel
theorem d17_26 : decode jdk_65_method_120_code 26 = .ok (.iconst 0, 1) := by decide +kernel
theorem d17_27 : decode jdk_65_method_120_code 27 = .ok (.aload_n 3, 1) := by decide +kernel
theorem d17_28 : decode jdk_65_method_120_code 28 = .ok (.iconst 0, 1) := by decide +kernel
theorem d17_29 : decode jdk_65_method_120_code 29 = .ok (.aload_n 0, 1) := by decide +kernel
theorem d17_30 : decode jdk_65_method_120_code 30 = .ok (.arraylength, 1) := by decide +kernel
theorem d17_31 : decode jdk_65_method_120_code 31 = .ok (.iload_n 1, 1) := by decide +kernel
theorem d17_32 : decode jdk_65_method_120_code 32 = .ok (.invokestatic 304, 3) := by decide +kernel
theorem d17_35 : decode jdk_65_method_120_code 35 = .ok (.invokestatic 150, 3) := by decide +kernel
theorem d17_38 : decode jdk_65_method_120_code 38 = .ok (.aload_n 3, 1) := by decide +kernel
theorem d17_39 : decode jdk_65_method_120_code 39 = .ok (.areturn, 1) := by decide +kernel
theorem pn_4 : plainName "java/util/Arrays" = true := by first | (simp [plainName, overriddenIn]; done) | decide +kernel
theorem d16_0 : decode jdk_65_method_119_code 0 = .ok (.aload_n 0, 1) := by decide +kernel
theorem d16_1 : decode jdk_65_method_119_code 1 = .ok (.iload_n 1, 1) := by decide +kernel
theorem d16_2 : decode jdk_65_method_119_code 2 = .ok (.aload_n 0, 1) := by decide +kernel
theorem d16_3 : decode jdk_65_method_119_code 3 = .ok (.invokevirtual 86, 3) := by decide +kernel
theorem d16_6 : decode jdk_65_method_119_code 6 = .ok (.invokestatic 300, 3) := by decide +kernel
theorem pd_2 : parseMethodDescriptor "([Ljava/lang/Object;ILjava/lang/Class;)[Ljava/lang/Object;" = some ⟨[(.array (.object "java/lang/Object")), .int, (.object "java/lang/Class")], some (.array (.object "java/lang/Object"))⟩ := by decide +kernel
theorem d16_9 : decode jdk_65_method_119_code 9 = .ok (.areturn, 1) := by decide +kernel
theorem d15_0 : decode jdk_38_method_16_code 0 = .ok (.aload_n 0, 1) := by decide +kernel
theorem d15_1 : decode jdk_38_method_16_code 1 = .ok (.getfield 9, 3) := by decide +kernel
theorem d15_4 : decode jdk_38_method_16_code 4 = .ok (.aload_n 0, 1) := by decide +kernel
theorem d15_5 : decode jdk_38_method_16_code 5 = .ok (.getfield 48, 3) := by decide +kernel
theorem d15_8 : decode jdk_38_method_16_code 8 = .ok (.invokestatic 66, 3) := by decide +kernel
theorem pd_3 : parseMethodDescriptor "([Ljava/lang/Object;I)[Ljava/lang/Object;" = some ⟨[(.array (.object "java/lang/Object")), .int], some (.array (.object "java/lang/Object"))⟩ := by decide +kernel
theorem d15_11 : decode jdk_38_method_16_code 11 = .ok (.areturn, 1) := by decide +kernel
theorem d24_0 : decode jdk_38_method_6_code 0 = .ok (.aload_n 0, 1) := by decide +kernel
theorem d24_1 : decode jdk_38_method_6_code 1 = .ok (.getfield 9, 3) := by decide +kernel
theorem d24_4 : decode jdk_38_method_6_code 4 = .ok (.arraylength, 1) := by decide +kernel
theorem d24_5 : decode jdk_38_method_6_code 5 = .ok (.istore_n 2, 1) := by decide +kernel
theorem d24_6 : decode jdk_38_method_6_code 6 = .ok (.iload_n 2, 1) := by decide +kernel
theorem d24_7 : decode jdk_38_method_6_code 7 = .ok (.ifCond .gt 13, 3) := by decide +kernel
theorem d24_20 : decode jdk_38_method_6_code 20 = .ok (.iload_n 2, 1) := by decide +kernel
theorem d24_21 : decode jdk_38_method_6_code 21 = .ok (.iload_n 1, 1) := by decide +kernel
theorem d24_22 : decode jdk_38_method_6_code 22 = .ok (.iload_n 2, 1) := by decide +kernel
theorem d24_23 : decode jdk_38_method_6_code 23 = .ok (.isub, 1) := by decide +kernel
theorem d24_24 : decode jdk_38_method_6_code 24 = .ok (.iload_n 2, 1) := by decide +kernel
theorem d24_25 : decode jdk_38_method_6_code 25 = .ok (.iconst 1, 1) := by decide +kernel
theorem d24_26 : decode jdk_38_method_6_code 26 = .ok (.ishr, 1) := by decide +kernel
theorem d24_27 : decode jdk_38_method_6_code 27 = .ok (.invokestatic 73, 3) := by decide +kernel
theorem pd_4 : parseMethodDescriptor "(III)I" = some ⟨[.int, .int, .int], some .int⟩ := by decide +kernel
theorem d24_30 : decode jdk_38_method_6_code 30 = .ok (.istore_n 3, 1) := by decide +kernel
theorem d24_31 : decode jdk_38_method_6_code 31 = .ok (.aload_n 0, 1) := by decide +kernel
theorem d24_32 : decode jdk_38_method_6_code 32 = .ok (.aload_n 0, 1) := by decide +kernel
theorem d24_33 : decode jdk_38_method_6_code 33 = .ok (.getfield 9, 3) := by decide +kernel
theorem d24_36 : decode jdk_38_method_6_code 36 = .ok (.iload_n 3, 1) := by decide +kernel
theorem d24_37 : decode jdk_38_method_6_code 37 = .ok (.invokestatic 66, 3) := by decide +kernel
theorem d24_40 : decode jdk_38_method_6_code 40 = .ok (.dup_x1, 1) := by decide +kernel
theorem d24_41 : decode jdk_38_method_6_code 41 = .ok (.putfield 9, 3) := by decide +kernel
theorem d24_44 : decode jdk_38_method_6_code 44 = .ok (.areturn, 1) := by decide +kernel
theorem d24_10 : decode jdk_38_method_6_code 10 = .ok (.aload_n 0, 1) := by decide +kernel
theorem d24_11 : decode jdk_38_method_6_code 11 = .ok (.getfield 9, 3) := by decide +kernel
theorem d24_14 : decode jdk_38_method_6_code 14 = .ok (.getstatic 39, 3) := by decide +kernel
theorem d24_17 : decode jdk_38_method_6_code 17 = .ok (.if_acmp .eq 28, 3) := by decide +kernel
theorem d24_45 : decode jdk_38_method_6_code 45 = .ok (.aload_n 0, 1) := by decide +kernel
theorem d24_46 : decode jdk_38_method_6_code 46 = .ok (.bipush 10, 2) := by decide +kernel
theorem d24_48 : decode jdk_38_method_6_code 48 = .ok (.iload_n 1, 1) := by decide +kernel
theorem d24_49 : decode jdk_38_method_6_code 49 = .ok (.invokestatic 79, 3) := by decide +kernel
theorem d24_52 : decode jdk_38_method_6_code 52 = .ok (.anewarray 7, 3) := by decide +kernel
theorem d24_55 : decode jdk_38_method_6_code 55 = .ok (.dup_x1, 1) := by decide +kernel
theorem d24_56 : decode jdk_38_method_6_code 56 = .ok (.putfield 9, 3) := by decide +kernel
theorem d24_59 : decode jdk_38_method_6_code 59 = .ok (.areturn, 1) := by decide +kernel
theorem d23_0 : decode jdk_38_method_7_code 0 = .ok (.aload_n 0, 1) := by decide +kernel
theorem d23_1 : decode jdk_38_method_7_code 1 = .ok (.aload_n 0, 1) := by decide +kernel
theorem d23_2 : decode jdk_38_method_7_code 2 = .ok (.getfield 48, 3) := by decide +kernel
theorem d23_5 : decode jdk_38_method_7_code 5 = .ok (.iconst 1, 1) := by decide +kernel
theorem d23_6 : decode jdk_38_method_7_code 6 = .ok (.iadd, 1) := by decide +kernel
theorem d23_7 : decode jdk_38_method_7_code 7 = .ok (.invokevirtual 69, 3) := by decide +kernel
theorem pd_5 : parseMethodDescriptor "(I)[Ljava/lang/Object;" = some ⟨[.int], some (.array (.object "java/lang/Object"))⟩ := by decide +kernel
theorem d23_10 : decode jdk_38_method_7_code 10 = .ok (.areturn, 1) := by decide +kernel
theorem d22_0 : decode jdk_38_method_24_code 0 = .ok (.iload_n 3, 1) := by decide +kernel
theorem d22_1 : decode jdk_38_method_24_code 1 = .ok (.aload_n 2, 1) := by decide +kernel
theorem d22_2 : decode jdk_38_method_24_code 2 = .ok (.arraylength, 1) := by decide +kernel
theorem d22_3 : decode jdk_38_method_24_code 3 = .ok (.if_icmp .ne 8, 3) := by decide +kernel
theorem d22_6 : decode jdk_38_method_24_code 6 = .ok (.aload_n 0, 1) := by decide +kernel
theorem d22_7 : decode jdk_38_method_24_code 7 = .ok (.invokevirtual 129, 3) := by decide +kernel
theorem pd_6 : parseMethodDescriptor "()[Ljava/lang/Object;" = some ⟨[], some (.array (.object "java/lang/Object"))⟩ := by decide +kernel
theorem d22_10 : decode jdk_38_method_24_code 10 = .ok (.astore_n 2, 1) := by decide +kernel
theorem d22_11 : decode jdk_38_method_24_code 11 = .ok (.aload_n 2, 1) := by decide +kernel
theorem d22_12 : decode jdk_38_method_24_code 12 = .ok (.iload_n 3, 1) := by decide +kernel
theorem d22_13 : decode jdk_38_method_24_code 13 = .ok (.aload_n 1, 1) := by decide +kernel
theorem d22_14 : decode jdk_38_method_24_code 14 = .ok (.aastore, 1) := by decide +kernel
theorem d22_15 : decode jdk_38_method_24_code 15 = .ok (.aload_n 0, 1) := by decide +kernel
theorem d22_16 : decode jdk_38_method_24_code 16 = .ok (.iload_n 3, 1) := by decide +kernel
theorem d22_17 : decode jdk_38_method_24_code 17 = .ok (.iconst 1, 1) := by decide +kernel
theorem d22_18 : decode jdk_38_method_24_code 18 = .ok (.iadd, 1) := by decide +kernel
theorem d22_19 : decode jdk_38_method_24_code 19 = .ok (.putfield 48, 3) := by decide +kernel
theorem d22_22 : decode jdk_38_method_24_code 22 = .ok (.return_, 1) := by decide +kernel
theorem d21_0 : decode jdk_38_method_25_code 0 = .ok (.aload_n 0, 1) := by decide +kernel
theorem d21_1 : decode jdk_38_method_25_code 1 = .ok (.dup, 1) := by decide +kernel
theorem d21_2 : decode jdk_38_method_25_code 2 = .ok (.getfield 63, 3) := by decide +kernel
theorem d21_5 : decode jdk_38_method_25_code 5 = .ok (.iconst 1, 1) := by decide +kernel
theorem d21_6 : decode jdk_38_method_25_code 6 = .ok (.iadd, 1) := by decide +kernel
theorem d21_7 : decode jdk_38_method_25_code 7 = .ok (.putfield 63, 3) := by decide +kernel
theorem d21_10 : decode jdk_38_method_25_code 10 = .ok (.aload_n 0, 1) := by decide +kernel
theorem d21_11 : decode jdk_38_method_25_code 11 = .ok (.aload_n 1, 1) := by decide +kernel
theorem d21_12 : decode jdk_38_method_25_code 12 = .ok (.aload_n 0, 1) := by decide +kernel
theorem d21_13 : decode jdk_38_method_25_code 13 = .ok (.getfield 9, 3) := by decide +kernel
theorem d21_16 : decode jdk_38_method_25_code 16 = .ok (.aload_n 0, 1) := by decide +kernel
theorem d21_17 : decode jdk_38_method_25_code 17 = .ok (.getfield 48, 3) := by decide +kernel
theorem d21_20 : decode jdk_38_method_25_code 20 = .ok (.invokevirtual 131, 3) := by decide +kernel
theorem pd_7 : parseMethodDescriptor "(Ljava/lang/Object;[Ljava/lang/Object;I)V" = some ⟨[(.object "java/lang/Object"), (.array (.object "java/lang/Object")), .int], none⟩ := by decide +kernel
theorem d21_23 : decode jdk_38_method_25_code 23 = .ok (.iconst 1, 1) := by decide +kernel
theorem d21_24 : decode jdk_38_method_25_code 24 = .ok (.ireturn, 1) := by decide +kernel
theorem d20_0 : decode jdk_38_method_8_code 0 = .ok (.aload_n 0, 1) := by decide +kernel
theorem d20_1 : decode jdk_38_method_8_code 1 = .ok (.getfield 48, 3) := by decide +kernel
theorem d20_4 : decode jdk_38_method_8_code 4 = .ok (.ireturn, 1) := by decide +kernel
theorem d14_0 : decode jdk_38_method_3_code 0 = .ok (.aload_n 0, 1) := by decide +kernel
theorem d14_1 : decode jdk_38_method_3_code 1 = .ok (.invokespecial 1, 3) := by decide +kernel
theorem d14_4 : decode jdk_38_method_3_code 4 = .ok (.aload_n 1, 1) := by decide +kernel
theorem d14_5 : decode jdk_38_method_3_code 5 = .ok (.invokeinterface 42 1, 5) := by decide +kernel
theorem d14_10 : decode jdk_38_method_3_code 10 = .ok (.astore_n 2, 1) := by decide +kernel
theorem d14_11 : decode jdk_38_method_3_code 11 = .ok (.aload_n 0, 1) := by decide +kernel
theorem d14_12 : decode jdk_38_method_3_code 12 = .ok (.aload_n 2, 1) := by decide +kernel
theorem d14_13 : decode jdk_38_method_3_code 13 = .ok (.arraylength, 1) := by decide +kernel
theorem d14_14 : decode jdk_38_method_3_code 14 = .ok (.dup_x1, 1) := by decide +kernel
theorem d14_15 : decode jdk_38_method_3_code 15 = .ok (.putfield 48, 3) := by decide +kernel
theorem d14_18 : decode jdk_38_method_3_code 18 = .ok (.ifCond .eq 39, 3) := by decide +kernel
theorem d14_57 : decode jdk_38_method_3_code 57 = .ok (.aload_n 0, 1) := by decide +kernel
theorem d14_58 : decode jdk_38_method_3_code 58 = .ok (.getstatic 15, 3) := by decide +kernel
theorem d14_61 : decode jdk_38_method_3_code 61 = .ok (.putfield 9, 3) := by decide +kernel
theorem d14_64 : decode jdk_38_method_3_code 64 = .ok (.return_, 1) := by decide +kernel
theorem d14_21 : decode jdk_38_method_3_code 21 = .ok (.aload_n 1, 1) := by decide +kernel
theorem d14_22 : decode jdk_38_method_3_code 22 = .ok (.invokeinterface 52 1, 5) := by decide +kernel
theorem d14_27 : decode jdk_38_method_3_code 27 = .ok (.ldc 10, 2) := by decide +kernel
theorem d14_29 : decode jdk_38_method_3_code 29 = .ok (.if_acmp .ne 11, 3) := by decide +kernel
theorem d14_32 : decode jdk_38_method_3_code 32 = .ok (.aload_n 0, 1) := by decide +kernel
theorem d14_33 : decode jdk_38_method_3_code 33 = .ok (.aload_n 2, 1) := by decide +kernel
theorem d14_34 : decode jdk_38_method_3_code 34 = .ok (.putfield 9, 3) := by decide +kernel
theorem d14_37 : decode jdk_38_method_3_code 37 = .ok (.goto 27, 3) := by decide +kernel
theorem d19_0 : decode jdk_38_method_41_code 0 = .ok (.aload_n 1, 1) := by decide +kernel
theorem d19_1 : decode jdk_38_method_41_code 1 = .ok (.invokeinterface 42 1, 5) := by decide +kernel
theorem d19_6 : decode jdk_38_method_41_code 6 = .ok (.astore_n 2, 1) := by decide +kernel
theorem d19_7 : decode jdk_38_method_41_code 7 = .ok (.aload_n 0, 1) := by decide +kernel
theorem d19_8 : decode jdk_38_method_41_code 8 = .ok (.dup, 1) := by decide +kernel
theorem d19_9 : decode jdk_38_method_41_code 9 = .ok (.getfield 63, 3) := by decide +kernel
theorem d19_12 : decode jdk_38_method_41_code 12 = .ok (.iconst 1, 1) := by decide +kernel
theorem d19_13 : decode jdk_38_method_41_code 13 = .ok (.iadd, 1) := by decide +kernel
theorem d19_14 : decode jdk_38_method_41_code 14 = .ok (.putfield 63, 3) := by decide +kernel
theorem d19_17 : decode jdk_38_method_41_code 17 = .ok (.aload_n 2, 1) := by decide +kernel
theorem d19_18 : decode jdk_38_method_41_code 18 = .ok (.arraylength, 1) := by decide +kernel
theorem d19_19 : decode jdk_38_method_41_code 19 = .ok (.istore_n 3, 1) := by decide +kernel
theorem d19_20 : decode jdk_38_method_41_code 20 = .ok (.iload_n 3, 1) := by decide +kernel
theorem d19_21 : decode jdk_38_method_41_code 21 = .ok (.ifCond .ne 5, 3) := by decide +kernel
theorem d19_24 : decode jdk_38_method_41_code 24 = .ok (.iconst 0, 1) := by decide +kernel
theorem d19_25 : decode jdk_38_method_41_code 25 = .ok (.ireturn, 1) := by decide +kernel
theorem d19_26 : decode jdk_38_method_41_code 26 = .ok (.iload_n 3, 1) := by decide +kernel
theorem d19_27 : decode jdk_38_method_41_code 27 = .ok (.aload_n 0, 1) := by decide +kernel
theorem d19_28 : decode jdk_38_method_41_code 28 = .ok (.getfield 9, 3) := by decide +kernel
theorem d19_31 : decode jdk_38_method_41_code 31 = .ok (.dup, 1) := by decide +kernel
theorem d19_32 : decode jdk_38_method_41_code 32 = .ok (.astore 4, 2) := by decide +kernel
theorem d19_34 : decode jdk_38_method_41_code 34 = .ok (.arraylength, 1) := by decide +kernel
theorem d19_35 : decode jdk_38_method_41_code 35 = .ok (.aload_n 0, 1) := by decide +kernel
theorem d19_36 : decode jdk_38_method_41_code 36 = .ok (.getfield 48, 3) := by decide +kernel
theorem d19_39 : decode jdk_38_method_41_code 39 = .ok (.dup, 1) := by decide +kernel
theorem d19_40 : decode jdk_38_method_41_code 40 = .ok (.istore 5, 2) := by decide +kernel
theorem d19_42 : decode jdk_38_method_41_code 42 = .ok (.isub, 1) := by decide +kernel
theorem d19_43 : decode jdk_38_method_41_code 43 = .ok (.if_icmp .le 13, 3) := by decide +kernel
theorem d19_46 : decode jdk_38_method_41_code 46 = .ok (.aload_n 0, 1) := by decide +kernel
theorem d19_47 : decode jdk_38_method_41_code 47 = .ok (.iload 5, 2) := by decide +kernel
theorem d19_49 : decode jdk_38_method_41_code 49 = .ok (.iload_n 3, 1) := by decide +kernel
theorem d19_50 : decode jdk_38_method_41_code 50 = .ok (.iadd, 1) := by decide +kernel
theorem d19_51 : decode jdk_38_method_41_code 51 = .ok (.invokevirtual 69, 3) := by decide +kernel
theorem d19_54 : decode jdk_38_method_41_code 54 = .ok (.astore 4, 2) := by decide +kernel
theorem d19_56 : decode jdk_38_method_41_code 56 = .ok (.aload_n 2, 1) := by decide +kernel
theorem d19_57 : decode jdk_38_method_41_code 57 = .ok (.iconst 0, 1) := by decide +kernel
theorem d19_58 : decode jdk_38_method_41_code 58 = .ok (.aload 4, 2) := by decide +kernel
theorem d19_60 : decode jdk_38_method_41_code 60 = .ok (.iload 5, 2) := by decide +kernel
theorem d19_62 : decode jdk_38_method_41_code 62 = .ok (.iload_n 3, 1) := by decide +kernel
theorem d19_63 : decode jdk_38_method_41_code 63 = .ok (.invokestatic 112, 3) := by decide +kernel
theorem d19_66 : decode jdk_38_method_41_code 66 = .ok (.aload_n 0, 1) := by decide +kernel
theorem d19_67 : decode jdk_38_method_41_code 67 = .ok (.iload 5, 2) := by decide +kernel
theorem d19_69 : decode jdk_38_method_41_code 69 = .ok (.iload_n 3, 1) := by decide +kernel
theorem d19_70 : decode jdk_38_method_41_code 70 = .ok (.iadd, 1) := by decide +kernel
theorem d19_71 : decode jdk_38_method_41_code 71 = .ok (.putfield 48, 3) := by decide +kernel
theorem d19_74 : decode jdk_38_method_41_code 74 = .ok (.iconst 1, 1) := by decide +kernel
theorem d19_75 : decode jdk_38_method_41_code 75 = .ok (.ireturn, 1) := by decide +kernel
theorem d28_0 : decode jdk_41_method_11_code 0 = .ok (.iload_n 0, 1) := by decide +kernel
theorem d28_1 : decode jdk_41_method_11_code 1 = .ok (.ifCond .lt 8, 3) := by decide +kernel
theorem d28_4 : decode jdk_41_method_11_code 4 = .ok (.iload_n 0, 1) := by decide +kernel
theorem d28_5 : decode jdk_41_method_11_code 5 = .ok (.iload_n 1, 1) := by decide +kernel
theorem d28_6 : decode jdk_41_method_11_code 6 = .ok (.if_icmp .lt 10, 3) := by decide +kernel
theorem d28_16 : decode jdk_41_method_11_code 16 = .ok (.iload_n 0, 1) := by decide +kernel
theorem d28_17 : decode jdk_41_method_11_code 17 = .ok (.ireturn, 1) := by decide +kernel
theorem pn_5 : plainName "jdk/internal/util/Preconditions" = true := by first | (simp [plainName, overriddenIn]; done) | decide +kernel
theorem d27_0 : decode jdk_31_method_17_code 0 = .ok (.iload_n 0, 1) := by decide +kernel
theorem d27_1 : decode jdk_31_method_17_code 1 = .ok (.iload_n 1, 1) := by decide +kernel
theorem d27_2 : decode jdk_31_method_17_code 2 = .ok (.aconst_null, 1) := by decide +kernel
theorem d27_3 : decode jdk_31_method_17_code 3 = .ok (.invokestatic 105, 3) := by decide +kernel
theorem pd_8 : parseMethodDescriptor "(IILjava/util/function/BiFunction;)I" = some ⟨[.int, .int, (.object "java/util/function/BiFunction")], some .int⟩ := by decide +kernel
theorem d27_6 : decode jdk_31_method_17_code 6 = .ok (.ireturn, 1) := by decide +kernel
theorem pn_6 : plainName "java/util/Objects" = true := by first | (simp [plainName, overriddenIn]; done) | decide +kernel
theorem d29_0 : decode jdk_38_method_18_code 0 = .ok (.aload_n 0, 1) := by decide +kernel
theorem d29_1 : decode jdk_38_method_18_code 1 = .ok (.getfield 9, 3) := by decide +kernel
theorem d29_4 : decode jdk_38_method_18_code 4 = .ok (.iload_n 1, 1) := by decide +kernel
theorem d29_5 : decode jdk_38_method_18_code 5 = .ok (.aaload, 1) := by decide +kernel
theorem d29_6 : decode jdk_38_method_18_code 6 = .ok (.areturn, 1) := by decide +kernel
theorem d26_0 : decode jdk_38_method_20_code 0 = .ok (.iload_n 1, 1) := by decide +kernel
theorem d26_1 : decode jdk_38_method_20_code 1 = .ok (.aload_n 0, 1) := by decide +kernel
theorem d26_2 : decode jdk_38_method_20_code 2 = .ok (.getfield 48, 3) := by decide +kernel
theorem d26_5 : decode jdk_38_method_20_code 5 = .ok (.invokestatic 118, 3) := by decide +kernel
theorem d26_8 : decode jdk_38_method_20_code 8 = .ok (.pop, 1) := by decide +kernel
theorem d26_9 : decode jdk_38_method_20_code 9 = .ok (.aload_n 0, 1) := by decide +kernel
theorem d26_10 : decode jdk_38_method_20_code 10 = .ok (.iload_n 1, 1) := by decide +kernel
theorem d26_11 : decode jdk_38_method_20_code 11 = .ok (.invokevirtual 123, 3) := by decide +kernel
theorem pd_9 : parseMethodDescriptor "(I)Ljava/lang/Object;" = some ⟨[.int], some (.object "java/lang/Object")⟩ := by decide +kernel
theorem d26_14 : decode jdk_38_method_20_code 14 = .ok (.areturn, 1) := by decide +kernel
theorem d30_0 : decode jdk_42_method_66_code 0 = .ok (.aload_n 0, 1) := by decide +kernel
theorem d30_1 : decode jdk_42_method_66_code 1 = .ok (.aload_n 1, 1) := by decide +kernel
theorem d30_2 : decode jdk_42_method_66_code 2 = .ok (.if_acmp .ne 5, 3) := by decide +kernel
theorem d30_5 : decode jdk_42_method_66_code 5 = .ok (.iconst 1, 1) := by decide +kernel
theorem d30_6 : decode jdk_42_method_66_code 6 = .ok (.ireturn, 1) := by decide +kernel
theorem pn_7 : plainName "java/lang/String" = true := by first | (simp [plainName, overriddenIn]; done) | decide +kernel
theorem d1_0 : decode method_2_code 0 = .ok (.iconst 2, 1) := by decide +kernel
theorem d1_1 : decode method_2_code 1 = .ok (.newarray .char, 2) := by decide +kernel
theorem d1_3 : decode method_2_code 3 = .ok (.astore_n 2, 1) := by decide +kernel
theorem d1_4 : decode method_2_code 4 = .ok (.aload_n 2, 1) := by decide +kernel
theorem d1_5 : decode method_2_code 5 = .ok (.iconst 0, 1) := by decide +kernel
theorem d1_6 : decode method_2_code 6 = .ok (.iload_n 0, 1) := by decide +kernel
theorem d1_7 : decode method_2_code 7 = .ok (.iload_n 1, 1) := by decide +kernel
theorem d1_8 : decode method_2_code 8 = .ok (.iushr, 1) := by decide +kernel
theorem d1_9 : decode method_2_code 9 = .ok (.sipush 255, 3) := by decide +kernel
theorem d1_12 : decode method_2_code 12 = .ok (.iand, 1) := by decide +kernel
theorem d1_13 : decode method_2_code 13 = .ok (.i2c, 1) := by decide +kernel
theorem d1_14 : decode method_2_code 14 = .ok (.castore, 1) := by decide +kernel
theorem d1_15 : decode method_2_code 15 = .ok (.aload_n 2, 1) := by decide +kernel
theorem d1_16 : decode method_2_code 16 = .ok (.iconst 1, 1) := by decide +kernel
theorem d1_17 : decode method_2_code 17 = .ok (.iload_n 0, 1) := by decide +kernel
theorem d1_18 : decode method_2_code 18 = .ok (.iload_n 1, 1) := by decide +kernel
theorem d1_19 : decode method_2_code 19 = .ok (.bipush 8, 2) := by decide +kernel
theorem d1_21 : decode method_2_code 21 = .ok (.iadd, 1) := by decide +kernel
theorem d1_22 : decode method_2_code 22 = .ok (.iushr, 1) := by decide +kernel
theorem d1_23 : decode method_2_code 23 = .ok (.sipush 255, 3) := by decide +kernel
theorem d1_26 : decode method_2_code 26 = .ok (.iand, 1) := by decide +kernel
theorem d1_27 : decode method_2_code 27 = .ok (.i2c, 1) := by decide +kernel
theorem d1_28 : decode method_2_code 28 = .ok (.castore, 1) := by decide +kernel
theorem d1_29 : decode method_2_code 29 = .ok (.new 7, 3) := by decide +kernel
theorem d1_32 : decode method_2_code 32 = .ok (.dup, 1) := by decide +kernel
theorem d1_33 : decode method_2_code 33 = .ok (.aload_n 2, 1) := by decide +kernel
theorem d1_34 : decode method_2_code 34 = .ok (.invokespecial 9, 3) := by decide +kernel
theorem pd_10 : parseMethodDescriptor "([C)V" = some ⟨[(.array .char)], none⟩ := by decide +kernel
theorem d1_37 : decode method_2_code 37 = .ok (.areturn, 1) := by decide +kernel
theorem pn_8 : plainName "com/example/fachwissen/fachwissen/mail/MessageWordTextsPinLaw" = true := by first | (simp [plainName, overriddenIn]; done) | decide +kernel
theorem d12_0 : decode jdk_30_method_1_code 0 = .ok (.aload_n 0, 1) := by decide +kernel
theorem d12_1 : decode jdk_30_method_1_code 1 = .ok (.invokespecial 1, 3) := by decide +kernel
theorem d12_4 : decode jdk_30_method_1_code 4 = .ok (.return_, 1) := by decide +kernel
theorem pn_9 : plainName "java/lang/Record" = true := by first | (simp [plainName, overriddenIn]; done) | decide +kernel
theorem d11_0 : decode prog_12_method_1_code 0 = .ok (.aload_n 0, 1) := by decide +kernel
theorem d11_1 : decode prog_12_method_1_code 1 = .ok (.invokespecial 1, 3) := by decide +kernel
theorem d11_4 : decode prog_12_method_1_code 4 = .ok (.aload_n 0, 1) := by decide +kernel
theorem d11_5 : decode prog_12_method_1_code 5 = .ok (.aload_n 1, 1) := by decide +kernel
theorem d11_6 : decode prog_12_method_1_code 6 = .ok (.putfield 7, 3) := by decide +kernel
theorem d11_9 : decode prog_12_method_1_code 9 = .ok (.aload_n 0, 1) := by decide +kernel
theorem d11_10 : decode prog_12_method_1_code 10 = .ok (.aload_n 2, 1) := by decide +kernel
theorem d11_11 : decode prog_12_method_1_code 11 = .ok (.putfield 13, 3) := by decide +kernel
theorem d11_14 : decode prog_12_method_1_code 14 = .ok (.aload_n 0, 1) := by decide +kernel
theorem d11_15 : decode prog_12_method_1_code 15 = .ok (.aload_n 3, 1) := by decide +kernel
theorem d11_16 : decode prog_12_method_1_code 16 = .ok (.putfield 16, 3) := by decide +kernel
theorem d11_19 : decode prog_12_method_1_code 19 = .ok (.return_, 1) := by decide +kernel
theorem pn_10 : plainName "com/example/fachwissen/fachwissen/mail/Message" = true := by first | (simp [plainName, overriddenIn]; done) | decide +kernel
theorem d13_0 : decode prog_12_method_3_code 0 = .ok (.new 19, 3) := by decide +kernel
theorem d13_3 : decode prog_12_method_3_code 3 = .ok (.dup, 1) := by decide +kernel
theorem d13_4 : decode prog_12_method_3_code 4 = .ok (.aload_n 0, 1) := by decide +kernel
theorem d13_5 : decode prog_12_method_3_code 5 = .ok (.getfield 7, 3) := by decide +kernel
theorem d13_8 : decode prog_12_method_3_code 8 = .ok (.invokespecial 21, 3) := by decide +kernel
theorem pd_11 : parseMethodDescriptor "(Ljava/util/Collection;)V" = some ⟨[(.object "java/util/Collection")], none⟩ := by decide +kernel
theorem d13_11 : decode prog_12_method_3_code 11 = .ok (.astore_n 1, 1) := by decide +kernel
theorem d13_12 : decode prog_12_method_3_code 12 = .ok (.aload_n 1, 1) := by decide +kernel
theorem d13_13 : decode prog_12_method_3_code 13 = .ok (.aload_n 0, 1) := by decide +kernel
theorem d13_14 : decode prog_12_method_3_code 14 = .ok (.getfield 16, 3) := by decide +kernel
theorem d13_17 : decode prog_12_method_3_code 17 = .ok (.invokevirtual 24, 3) := by decide +kernel
theorem pd_12 : parseMethodDescriptor "(Ljava/util/Collection;)Z" = some ⟨[(.object "java/util/Collection")], some .boolean⟩ := by decide +kernel
theorem d13_20 : decode prog_12_method_3_code 20 = .ok (.pop, 1) := by decide +kernel
theorem d13_21 : decode prog_12_method_3_code 21 = .ok (.aload_n 1, 1) := by decide +kernel
theorem d13_22 : decode prog_12_method_3_code 22 = .ok (.areturn, 1) := by decide +kernel
theorem pd_13 : parseMethodDescriptor "(Ljava/util/List;Ljava/util/List;Ljava/util/List;)V" = some ⟨[(.object "java/util/List"), (.object "java/util/List"), (.object "java/util/List")], none⟩ := by decide +kernel
theorem pd_14 : parseMethodDescriptor "()Ljava/util/List;" = some ⟨[], some (.object "java/util/List")⟩ := by decide +kernel
theorem pd_15 : parseMethodDescriptor "()I" = some ⟨[], some .int⟩ := by decide +kernel
theorem pd_16 : parseMethodDescriptor "(Ljava/lang/Object;)Z" = some ⟨[(.object "java/lang/Object")], some .boolean⟩ := by decide +kernel
theorem pd_17 : parseMethodDescriptor "(II)Ljava/lang/String;" = some ⟨[.int, .int], some (.object "java/lang/String")⟩ := by decide +kernel
theorem ef_10 (m : MethodId) (a : Addr)  : entryFrame m #[(.ref a)] 1 = mkF m 0 #[.val (.ref a)] [] := by first | (simp [entryFrame, mkF, argsToLocals, Value.category]; done) | rfl
def Q10 (Z : State) (a : Addr) (h0 : Heap) (n0 : Nat) (v_ : Option Value) (h_ : Heap) (L_ : List Loc) : Prop := v_ = none ∧ Fr n0 L_ ∧ h_ = h0
set_option maxRecDepth 65536 in
set_option maxHeartbeats 40000000 in
theorem rm10 (l : Launch) (Z : State) (a0 : Array Value) (hw : ∀ d ∈ tables_1, d.before a0 Z = true) (ws : List Jvm.Cond) (a : Addr) (h0 : Heap) (n0 : Nat) (Z0 : n0 ≤ h0.size)  :
    MetFree l (⟨"java/util/AbstractCollection", "<init>", "()V"⟩ : MethodName) (head1 (Jvm.Cond.code (⟨"java/util/AbstractCollection", "<init>", "()V"⟩ : MethodName) jdk_22_method_1_code 1 none :: ws) ({ frames := 1, cells := 0, slots := 0, locals := 12 } : Room)) (fun A_ U => A_ = #[(.ref a)] ∧ Z.Warmed39 U.vm ∧ U.heap = h0) (fun _ _ _ _ _ => True) (fun _ U_ o_ U'_ => ∃ v_ L_, o_ = .returned v_ ∧ Q10 Z a h0 n0 v_ U'_.heap L_ ∧ FrameEnd U_ o_ U'_ L_ ({ frames := 1, cells := 0, slots := 0, locals := 12 } : Room).cells ({ frames := 1, cells := 0, slots := 0, locals := 12 } : Room).slots) := by
  refine MetFree.of_bodySF (plainFor_of_name pn_0) hisR ?_
  intro p e s m args below meth c s₁ Bd hml0 hP hK
  obtain ⟨rfl, hZ, hh⟩ := hP
  have hx := Bd.exec
  have hby := Bd.bytes
  have hml : c.maxLocals = 1 := hml0
  have hown : s.vm.findClass "java/util/AbstractCollection" = some m.cls := findClass_of_methodNamed Bd.named
  have hnm := (name_of_methodNamed Bd.named Bd.method).1
  have hlk : meth.locks = false := Bd.notSynchronized
  have X0 : Stand p l e ({ frames := 1, cells := 0, slots := 0, locals := 12 } : Room) s m #[(.ref a)] below meth c s₁ [] 0 0 := Stand.of_body Bd
  have e0 : s₁.heap = h0 := by rw [← hh, Bd.state]; rfl
  have N0 := Fr.nil n0
  have K0 : Keep h0 h0 [] := Keep.refl _ _
  refine own_cast (ef_10 m a) ?_
  show OwnGo p e below s (Q10 Z a h0 n0) ({ frames := 1, cells := 0, slots := 0, locals := 12 } : Room).cells ({ frames := 1, cells := 0, slots := 0, locals := 12 } : Room).slots (s₁.setTop (mkF m 0 #[.val (.ref a)] []))
  refine own_on (fun t_ k_ => XS.aloadN X0.here hx rfl (hb hby d10_0) rfl rfl k_) ?_
  show OwnGo p e below s _ _ _ (s₁.setTop (mkF m 1 #[.val (.ref a)] [(.ref a)]))
  obtain ⟨T1, X1, e1, st1⟩ := initO X0 hx hZ hown (w52 hw) (w16 hw) (w17 hw) e0 (g := (mkF m 1 #[.val (.ref a)] [(.ref a)])) rfl (by rw [hml]; rfl) rfl (hb hby d10_1) (by decide) (W := 0) (by show 2 * 0 + _ ≤ _; exact Nat.le_of_eq rfl) (by decide)
  refine own_on st1 ?_
  show OwnGo p e below s _ _ _ (T1.setTop (mkF m 4 #[.val (.ref a)] []))
  exact own_retV X1 hx hlk Bd.returns (hb hby d10_4) e1 ⟨rfl, N0, rfl⟩ (by decide) (by decide)
theorem ef_9 (m : MethodId) (a : Addr)  : entryFrame m #[(.ref a)] 1 = mkF m 0 #[.val (.ref a)] [] := by first | (simp [entryFrame, mkF, argsToLocals, Value.category]; done) | rfl
def Q9 (Z : State) (a : Addr) (u : Value) (u' : Value) (u'' : Value) (h0 : Heap) (n0 : Nat) (v_ : Option Value) (h_ : Heap) (L_ : List Loc) : Prop := v_ = none ∧ Fr n0 L_ ∧ Keep h0 h_ [a] ∧ (Exa Z h_ a "java/util/ArrayList") ∧ (Fld Z h_ a "java/util/ArrayList" "elementData" "[Ljava/lang/Object;" u) ∧ (Fld Z h_ a "java/util/ArrayList" "size" "I" u') ∧ (Fld Z h_ a "java/util/AbstractList" "modCount" "I" (.int (0 : Int32)))
set_option maxRecDepth 65536 in
set_option maxHeartbeats 40000000 in
theorem rm9 (l : Launch) (Z : State) (a0 : Array Value) (hw : ∀ d ∈ tables_1, d.before a0 Z = true) (ws : List Jvm.Cond) (a : Addr) (u : Value) (u' : Value) (u'' : Value) (h0 : Heap) (n0 : Nat) (Z0 : n0 ≤ h0.size) (P0 : Exa Z h0 a "java/util/ArrayList") (P1 : Fld Z h0 a "java/util/ArrayList" "elementData" "[Ljava/lang/Object;" u) (P2 : Fld Z h0 a "java/util/ArrayList" "size" "I" u') (P3 : Fld Z h0 a "java/util/AbstractList" "modCount" "I" u'') (P4 : n0 ≤ a) :
    MetFree l (⟨"java/util/AbstractList", "<init>", "()V"⟩ : MethodName) (head1 (Jvm.Cond.code (⟨"java/util/AbstractList", "<init>", "()V"⟩ : MethodName) jdk_39_method_1_code 1 none :: ws) ({ frames := 2, cells := 0, slots := 0, locals := 24 } : Room)) (fun A_ U => A_ = #[(.ref a)] ∧ Z.Warmed39 U.vm ∧ U.heap = h0) (fun _ _ _ _ _ => True) (fun _ U_ o_ U'_ => ∃ v_ L_, o_ = .returned v_ ∧ Q9 Z a u u' u'' h0 n0 v_ U'_.heap L_ ∧ FrameEnd U_ o_ U'_ L_ ({ frames := 2, cells := 0, slots := 0, locals := 24 } : Room).cells ({ frames := 2, cells := 0, slots := 0, locals := 24 } : Room).slots) := by
  refine MetFree.of_bodySF (plainFor_of_name pn_1) hisR ?_
  intro p e s m args below meth c s₁ Bd hml0 hP hK
  obtain ⟨rfl, hZ, hh⟩ := hP
  have hx := Bd.exec
  have hby := Bd.bytes
  have hml : c.maxLocals = 1 := hml0
  have hown : s.vm.findClass "java/util/AbstractList" = some m.cls := findClass_of_methodNamed Bd.named
  have hnm := (name_of_methodNamed Bd.named Bd.method).1
  have hlk : meth.locks = false := Bd.notSynchronized
  have X0 : Stand p l e ({ frames := 2, cells := 0, slots := 0, locals := 24 } : Room) s m #[(.ref a)] below meth c s₁ [] 0 0 := Stand.of_body Bd
  have e0 : s₁.heap = h0 := by rw [← hh, Bd.state]; rfl
  have N0 := Fr.nil n0
  have K0 : Keep h0 h0 [a] := Keep.refl _ _
  refine own_cast (ef_9 m a) ?_
  show OwnGo p e below s (Q9 Z a u u' u'' h0 n0) ({ frames := 2, cells := 0, slots := 0, locals := 24 } : Room).cells ({ frames := 2, cells := 0, slots := 0, locals := 24 } : Room).slots (s₁.setTop (mkF m 0 #[.val (.ref a)] []))
  refine own_on (fun t_ k_ => XS.aloadN X0.here hx rfl (hb hby d9_0) rfl rfl k_) ?_
  show OwnGo p e below s _ _ _ (s₁.setTop (mkF m 1 #[.val (.ref a)] [(.ref a)]))
  obtain ⟨_, _, ⟨T1, L1, k1, n1⟩, -, X1, ⟨Lc1, hQ1, l1, y1, z1⟩, st1⟩ := X0.specialBack hx (y := (⟨"java/util/AbstractCollection", "<init>", "()V"⟩ : MethodName)) rfl hown (mvT hZ (w46 hw)) (mvT hZ (w47 hw)) (mvT hZ (w51 hw)) (by decide) (backOf (W := 0) (rm10 l Z a0 hw [] a h0 n0 Z0 ) hZ (w51 hw) (w50 hw) (by decide) (by decide)) (g := (mkF m 1 #[.val (.ref a)] [(.ref a)])) rfl (by rw [hml]; rfl) (Steps.refl _) (a := a) (argsL := []) (rest := []) (lenOf pd_0 rfl) rfl (by show 2 * 0 + _ ≤ _; exact Nat.le_of_eq rfl) (hb hby d9_1) (fun _ hWx => ⟨rfl, e0, (by decide : 0 + 0 ≤ _), (by decide : 0 + 0 ≤ _)⟩)
  dsimp only [Pt.U, Pt.locs, Pt.cells, Pt.slots] at X1 l1 y1 z1 st1 hQ1
  replace X1 := own_num (c' := 0) (n' := 0) X1 l1 (y1.trans rfl) (z1.trans rfl)
  obtain ⟨rfl, N1q, e1⟩ := hQ1
  have N1 := Fr.app N0 N1q
  refine own_tr st1 ?_
  show OwnGo p e below s _ _ _ (T1.setTop (mkF m 4 #[.val (.ref a)] []))
  refine own_on (fun t_ k_ => XS.aloadN X1.here hx rfl (hb hby d9_4) rfl rfl k_) ?_
  show OwnGo p e below s _ _ _ (T1.setTop (mkF m 5 #[.val (.ref a)] [(.ref a)]))
  refine own_on (fun t_ k_ => XS.iconst X1.here hx rfl (hb hby d9_5) k_) ?_
  show OwnGo p e below s _ _ _ (T1.setTop (mkF m 6 #[.val (.ref a)] [(.int (0 : Int32)), (.ref a)]))
  obtain ⟨T2, h2, X2, e2, W2, st2⟩ := putF X1 hx hZ hown (host := "") (Or.inl (w53 hw)) Via.refl e1 P3 P0 (Or.inl (w54 hw)) (w35 hw) (ty := .int) (by decide) rfl rfl (g := (mkF m 6 #[.val (.ref a)] [(.int (0 : Int32)), (.ref a)])) rfl rfl (hb hby d9_6)
  have F2 := P3.same W2
  have N2 := Fr.snoc X2 N1 P4
  have Z2 : n0 ≤ h2.size := Nat.le_trans Z0 (Keep.of_wr W2).1
  have K2 : Keep h0 h2 [a] := K0.wr W2 (Or.inl (List.mem_of_getElem? (i := 0) rfl))
  refine own_on st2 ?_
  show OwnGo p e below s _ _ _ (T2.setTop (mkF m 9 #[.val (.ref a)] []))
  have f3 : Exa Z h2 a "java/util/ArrayList" := P0.wr W2
  have f4 : Fld Z h2 a "java/util/ArrayList" "elementData" "[Ljava/lang/Object;" u := P1.other W2 (Or.inr (slot_ne (Or.inl (w57 hw)) (Or.inl (w54 hw)) (by decide) (t := (.array (.object "java/lang/Object"))) (t' := .int) (by decide) (by decide)))
  have f5 : Fld Z h2 a "java/util/ArrayList" "size" "I" u' := P2.other W2 (Or.inr (slot_ne (Or.inl (w95 hw)) (Or.inl (w54 hw)) (by decide) (t := .int) (t' := .int) (by decide) (by decide)))
  exact own_retV X2 hx hlk Bd.returns (hb hby d9_9) e2 ⟨rfl, N2, K2, f3, f4, f5, F2⟩ (by decide) (by decide)
theorem ef_8 (m : MethodId) (a : Addr)  : entryFrame m #[(.ref a)] 1 = mkF m 0 #[.val (.ref a)] [] := by first | (simp [entryFrame, mkF, argsToLocals, Value.category]; done) | rfl
def Q8 (Z : State) (a : Addr) (u : Value) (u'' : Value) (dc : Addr) (h0 : Heap) (n0 : Nat) (v_ : Option Value) (h_ : Heap) (L_ : List Loc) : Prop := v_ = none ∧ Fr n0 L_ ∧ Keep h0 h_ [a] ∧ (Exa Z h_ a "java/util/ArrayList") ∧ (Fld Z h_ a "java/util/ArrayList" "elementData" "[Ljava/lang/Object;" (.ref dc)) ∧ (Fld Z h_ a "java/util/ArrayList" "size" "I" (.int (own_n own_nil))) ∧ (Fld Z h_ a "java/util/AbstractList" "modCount" "I" (.int (0 : Int32))) ∧ (OwnA Z h_ dc 0 own_nil) ∧ (Old Z n0 h_)
set_option maxRecDepth 65536 in
set_option maxHeartbeats 40000000 in
theorem rm8 (l : Launch) (Z : State) (a0 : Array Value) (hw : ∀ d ∈ tables_1, d.before a0 Z = true) (ws : List Jvm.Cond) (a : Addr) (u : Value) (u'' : Value) (dc : Addr) (h0 : Heap) (n0 : Nat) (Z0 : n0 ≤ h0.size) (P0 : Exa Z h0 a "java/util/ArrayList") (P1 : Fld Z h0 a "java/util/ArrayList" "elementData" "[Ljava/lang/Object;" u) (P2 : Fld Z h0 a "java/util/ArrayList" "size" "I" (.int (0 : Int32))) (P3 : Fld Z h0 a "java/util/AbstractList" "modCount" "I" u'') (P4 : n0 ≤ a) (P5 : Old Z n0 h0) (P6 : Sta Z Z.heap "java/util/ArrayList" "DEFAULTCAPACITY_EMPTY_ELEMENTDATA" "[Ljava/lang/Object;" (.ref dc)) (P7 : OwnA Z Z.heap dc 0 own_nil) :
    MetFree l (⟨"java/util/ArrayList", "<init>", "()V"⟩ : MethodName) (head1 (Jvm.Cond.code (⟨"java/util/ArrayList", "<init>", "()V"⟩ : MethodName) jdk_38_method_2_code 1 none :: ws) ({ frames := 3, cells := 0, slots := 0, locals := 36 } : Room)) (fun A_ U => A_ = #[(.ref a)] ∧ Z.Warmed39 U.vm ∧ U.heap = h0) (fun _ _ _ _ _ => True) (fun _ U_ o_ U'_ => ∃ v_ L_, o_ = .returned v_ ∧ Q8 Z a u u'' dc h0 n0 v_ U'_.heap L_ ∧ FrameEnd U_ o_ U'_ L_ ({ frames := 3, cells := 0, slots := 0, locals := 36 } : Room).cells ({ frames := 3, cells := 0, slots := 0, locals := 36 } : Room).slots) := by
  refine MetFree.of_bodySF (plainFor_of_name pn_2) hisR ?_
  intro p e s m args below meth c s₁ Bd hml0 hP hK
  obtain ⟨rfl, hZ, hh⟩ := hP
  have hx := Bd.exec
  have hby := Bd.bytes
  have hml : c.maxLocals = 1 := hml0
  have hown : s.vm.findClass "java/util/ArrayList" = some m.cls := findClass_of_methodNamed Bd.named
  have hnm := (name_of_methodNamed Bd.named Bd.method).1
  have hlk : meth.locks = false := Bd.notSynchronized
  have X0 : Stand p l e ({ frames := 3, cells := 0, slots := 0, locals := 36 } : Room) s m #[(.ref a)] below meth c s₁ [] 0 0 := Stand.of_body Bd
  have e0 : s₁.heap = h0 := by rw [← hh, Bd.state]; rfl
  have N0 := Fr.nil n0
  have K0 : Keep h0 h0 [a] := Keep.refl _ _
  refine own_cast (ef_8 m a) ?_
  show OwnGo p e below s (Q8 Z a u u'' dc h0 n0) ({ frames := 3, cells := 0, slots := 0, locals := 36 } : Room).cells ({ frames := 3, cells := 0, slots := 0, locals := 36 } : Room).slots (s₁.setTop (mkF m 0 #[.val (.ref a)] []))
  refine own_on (fun t_ k_ => XS.aloadN X0.here hx rfl (hb hby d8_0) rfl rfl k_) ?_
  show OwnGo p e below s _ _ _ (s₁.setTop (mkF m 1 #[.val (.ref a)] [(.ref a)]))
  obtain ⟨_, _, ⟨T1, L1, k1, n1⟩, -, X1, ⟨Lc1, hQ1, l1, y1, z1⟩, st1⟩ := X0.specialBack hx (y := (⟨"java/util/AbstractList", "<init>", "()V"⟩ : MethodName)) rfl hown (mvT hZ (w40 hw)) (mvT hZ (w41 hw)) (mvT hZ (w45 hw)) (by decide) (backOf (W := 0) (rm9 l Z a0 hw [] a u (.int (0 : Int32)) u'' h0 n0 Z0 P0 P1 P2 P3 P4) hZ (w45 hw) (w44 hw) (by decide) (by decide)) (g := (mkF m 1 #[.val (.ref a)] [(.ref a)])) rfl (by rw [hml]; rfl) (Steps.refl _) (a := a) (argsL := []) (rest := []) (lenOf pd_0 rfl) rfl (by show 2 * 0 + _ ≤ _; exact Nat.le_of_eq rfl) (hb hby d8_1) (fun _ hWx => ⟨rfl, e0, (by decide : 0 + 0 ≤ _), (by decide : 0 + 0 ≤ _)⟩)
  dsimp only [Pt.U, Pt.locs, Pt.cells, Pt.slots] at X1 l1 y1 z1 st1 hQ1
  replace X1 := own_num (c' := 0) (n' := 0) X1 l1 (y1.trans rfl) (z1.trans rfl)
  obtain ⟨rfl, N1q, K1q, c1_0, c1_1, c1_2, c1_3⟩ := hQ1
  have N1 := Fr.app N0 N1q
  have Z1 : n0 ≤ T1.heap.size := Nat.le_trans Z0 K1q.1
  have K1 : Keep h0 T1.heap [a] := K0.trans K1q (allS (P := fun x => x ∈ [a] ∨ h0.size ≤ x) (Or.inl (List.mem_of_getElem? (i := 0) rfl)) all0)
  refine own_tr st1 ?_
  show OwnGo p e below s _ _ _ (T1.setTop (mkF m 4 #[.val (.ref a)] []))
  refine own_on (fun t_ k_ => XS.aloadN X1.here hx rfl (hb hby d8_4) rfl rfl k_) ?_
  show OwnGo p e below s _ _ _ (T1.setTop (mkF m 5 #[.val (.ref a)] [(.ref a)]))
  have f2 : Old Z n0 T1.heap := P5.keep K1q (allS P4 all0)
  obtain ⟨T3, X3, e3, st3⟩ := getS2 X1 hx hZ hown (host := "") (Or.inl (w55 hw)) Via.refl rfl (P6.ext f2.2) (g := (mkF m 5 #[.val (.ref a)] [(.ref a)])) rfl (hb hby d8_5)
  refine own_on st3 ?_
  show OwnGo p e below s _ _ _ (T3.setTop (mkF m 8 #[.val (.ref a)] [(.ref dc), (.ref a)]))
  obtain ⟨T4, h4, X4, e4, W4, st4⟩ := putF X3 hx hZ hown (host := "") (Or.inl (w56 hw)) Via.refl e3 c1_1 c1_0 (Or.inl (w57 hw)) (w35 hw) (ty := (.array (.object "java/lang/Object"))) (by decide) rfl rfl (g := (mkF m 8 #[.val (.ref a)] [(.ref dc), (.ref a)])) rfl rfl (hb hby d8_8)
  have F4 := c1_1.same W4
  have N4 := Fr.snoc X4 N1 P4
  have Z4 : n0 ≤ h4.size := Nat.le_trans Z1 (Keep.of_wr W4).1
  have K4 : Keep h0 h4 [a] := K1.wr W4 (Or.inl (List.mem_of_getElem? (i := 0) rfl))
  refine own_on st4 ?_
  show OwnGo p e below s _ _ _ (T4.setTop (mkF m 11 #[.val (.ref a)] []))
  have f5 : Fld Z h4 a "java/util/ArrayList" "size" "I" (.int (0 : Int32)) := c1_2.other W4 (Or.inr (slot_ne (Or.inl (w95 hw)) (Or.inl (w57 hw)) (by decide) (t := .int) (t' := (.array (.object "java/lang/Object"))) (by decide) (by decide)))
  have f6 : Fld Z h4 a "java/util/ArrayList" "size" "I" (.int (own_n own_nil)) := f5
  have f7 : Old Z n0 h4 := f2.wr W4 P4
  have f8 : OwnA Z h4 dc 0 own_nil := P7.ext f7.2
  have f9 : Exa Z h4 a "java/util/ArrayList" := c1_0.wr W4
  have f10 : Fld Z h4 a "java/util/AbstractList" "modCount" "I" (.int (0 : Int32)) := c1_3.other W4 (Or.inr (slot_ne (Or.inl (w54 hw)) (Or.inl (w57 hw)) (by decide) (t := .int) (t' := (.array (.object "java/lang/Object"))) (by decide) (by decide)))
  exact own_retV X4 hx hlk Bd.returns (hb hby d8_11) e4 ⟨rfl, N4, K4, f9, F4, f6, f10, f8, f7⟩ (by decide) (by decide)
theorem ef_18 (m : MethodId) (nx : Nat) (ny : Nat)  : entryFrame m #[(.int (Int32.ofNat nx)), (.int (Int32.ofNat ny))] 2 = mkF m 0 #[.val (.int (Int32.ofNat nx)), .val (.int (Int32.ofNat ny))] [] := by first | (simp [entryFrame, mkF, argsToLocals, Value.category]; done) | rfl
def Q18 (Z : State) (nx : Nat) (ny : Nat) (h0 : Heap) (n0 : Nat) (v_ : Option Value) (h_ : Heap) (L_ : List Loc) : Prop := v_ = some (.int (Int32.ofNat (min nx ny))) ∧ Fr n0 L_ ∧ h_ = h0
set_option maxRecDepth 65536 in
set_option maxHeartbeats 40000000 in
theorem rm18 (l : Launch) (Z : State) (a0 : Array Value) (hw : ∀ d ∈ tables_1, d.before a0 Z = true) (ws : List Jvm.Cond) (nx : Nat) (ny : Nat) (h0 : Heap) (n0 : Nat) (Z0 : n0 ≤ h0.size) (P0 : nx ≤ 20) (P1 : ny ≤ 20) :
    MetFree l (⟨"java/lang/Math", "min", "(II)I"⟩ : MethodName) (head1 (Jvm.Cond.code (⟨"java/lang/Math", "min", "(II)I"⟩ : MethodName) jdk_29_method_69_code 2 (some .int) :: ws) ({ frames := 0, cells := 0, slots := 0, locals := 0 } : Room)) (fun A_ U => A_ = #[(.int (Int32.ofNat nx)), (.int (Int32.ofNat ny))] ∧ Z.Warmed39 U.vm ∧ U.heap = h0) (fun _ _ _ _ _ => True) (fun _ U_ o_ U'_ => ∃ v_ L_, o_ = .returned v_ ∧ Q18 Z nx ny h0 n0 v_ U'_.heap L_ ∧ FrameEnd U_ o_ U'_ L_ ({ frames := 0, cells := 0, slots := 0, locals := 0 } : Room).cells ({ frames := 0, cells := 0, slots := 0, locals := 0 } : Room).slots) := by
  refine MetFree.of_bodySF (by decide +kernel) hisR ?_
  intro p e s m args below meth c s₁ Bd hml0 hP hK
  obtain ⟨rfl, hZ, hh⟩ := hP
  have hx := Bd.exec
  have hby := Bd.bytes
  have hml : c.maxLocals = 2 := hml0
  have hown : s.vm.findClass "java/lang/Math" = some m.cls := findClass_of_methodNamed Bd.named
  have hnm := (name_of_methodNamed Bd.named Bd.method).1
  have hlk : meth.locks = false := Bd.notSynchronized
  have X0 : Stand p l e ({ frames := 0, cells := 0, slots := 0, locals := 0 } : Room) s m #[(.int (Int32.ofNat nx)), (.int (Int32.ofNat ny))] below meth c s₁ [] 0 0 := Stand.of_body Bd
  have e0 : s₁.heap = h0 := by rw [← hh, Bd.state]; rfl
  have N0 := Fr.nil n0
  have K0 : Keep h0 h0 [] := Keep.refl _ _
  refine own_cast (ef_18 m nx ny) ?_
  show OwnGo p e below s (Q18 Z nx ny h0 n0) ({ frames := 0, cells := 0, slots := 0, locals := 0 } : Room).cells ({ frames := 0, cells := 0, slots := 0, locals := 0 } : Room).slots (s₁.setTop (mkF m 0 #[.val (.int (Int32.ofNat nx)), .val (.int (Int32.ofNat ny))] []))
  refine own_on (fun t_ k_ => XS.iloadN X0.here hx rfl (hb hby d18_0) rfl k_) ?_
  show OwnGo p e below s _ _ _ (s₁.setTop (mkF m 1 #[.val (.int (Int32.ofNat nx)), .val (.int (Int32.ofNat ny))] [(.int (Int32.ofNat nx))]))
  refine own_on (fun t_ k_ => XS.iloadN X0.here hx rfl (hb hby d18_1) rfl k_) ?_
  show OwnGo p e below s _ _ _ (s₁.setTop (mkF m 2 #[.val (.int (Int32.ofNat nx)), .val (.int (Int32.ofNat ny))] [(.int (Int32.ofNat ny)), (.int (Int32.ofNat nx))]))
  by_cases q0 : (Int32.ofNat ny) < (Int32.ofNat nx)
  · refine own_on (fun t_ k_ => XS.icmpYes X0.here hx rfl (pc0 := 2) (pc' := 9) rfl (hb hby d18_2) rfl (tlt q0).2.2.1 (by decide) (by decide) k_) ?_
    show OwnGo p e below s _ _ _ (s₁.setTop (mkF m 9 #[.val (.int (Int32.ofNat nx)), .val (.int (Int32.ofNat ny))] []))
    rw [own_lt' (by omega) (by omega)] at q0
    refine own_on (fun t_ k_ => XS.iloadN X0.here hx rfl (hb hby d18_9) rfl k_) ?_
    show OwnGo p e below s _ _ _ (s₁.setTop (mkF m 10 #[.val (.int (Int32.ofNat nx)), .val (.int (Int32.ofNat ny))] [(.int (Int32.ofNat ny))]))
    exact own_retI X0 hx hlk Bd.returns (hb hby d18_10) e0 ⟨(congrArg (fun z => some (Value.int (Int32.ofNat z))) (by omega)), N0, rfl⟩ (by decide) (by decide)
  · refine own_on (fun t_ k_ => XS.icmpNo X0.here hx rfl (hb hby d18_2) rfl (flt q0).2.2.1 k_) ?_
    show OwnGo p e below s _ _ _ (s₁.setTop (mkF m 5 #[.val (.int (Int32.ofNat nx)), .val (.int (Int32.ofNat ny))] []))
    rw [own_lt' (by omega) (by omega)] at q0
    refine own_on (fun t_ k_ => XS.iloadN X0.here hx rfl (hb hby d18_5) rfl k_) ?_
    show OwnGo p e below s _ _ _ (s₁.setTop (mkF m 6 #[.val (.int (Int32.ofNat nx)), .val (.int (Int32.ofNat ny))] [(.int (Int32.ofNat nx))]))
    refine own_on (fun t_ k_ => XS.goto X0.here hx rfl (pc0 := 6) (pc' := 10) rfl (hb hby d18_6) (by decide) (by decide) k_) ?_
    show OwnGo p e below s _ _ _ (s₁.setTop (mkF m 10 #[.val (.int (Int32.ofNat nx)), .val (.int (Int32.ofNat ny))] [(.int (Int32.ofNat nx))]))
    exact own_retI X0 hx hlk Bd.returns (hb hby d18_10) e0 ⟨(congrArg (fun z => some (Value.int (Int32.ofNat z))) (by omega)), N0, rfl⟩ (by decide) (by decide)
theorem ef_25 (m : MethodId) (nx : Nat) (ny : Nat)  : entryFrame m #[(.int (Int32.ofNat nx)), (.int (Int32.ofNat ny))] 2 = mkF m 0 #[.val (.int (Int32.ofNat nx)), .val (.int (Int32.ofNat ny))] [] := by first | (simp [entryFrame, mkF, argsToLocals, Value.category]; done) | rfl
def Q25 (Z : State) (nx : Nat) (ny : Nat) (h0 : Heap) (n0 : Nat) (v_ : Option Value) (h_ : Heap) (L_ : List Loc) : Prop := v_ = some (.int (Int32.ofNat (max nx ny))) ∧ Fr n0 L_ ∧ h_ = h0
set_option maxRecDepth 65536 in
set_option maxHeartbeats 40000000 in
theorem rm25 (l : Launch) (Z : State) (a0 : Array Value) (hw : ∀ d ∈ tables_1, d.before a0 Z = true) (ws : List Jvm.Cond) (nx : Nat) (ny : Nat) (h0 : Heap) (n0 : Nat) (Z0 : n0 ≤ h0.size) (P0 : nx ≤ 20) (P1 : ny ≤ 20) :
    MetFree l (⟨"java/lang/Math", "max", "(II)I"⟩ : MethodName) (head1 (Jvm.Cond.code (⟨"java/lang/Math", "max", "(II)I"⟩ : MethodName) jdk_29_method_65_code 2 (some .int) :: ws) ({ frames := 0, cells := 0, slots := 0, locals := 0 } : Room)) (fun A_ U => A_ = #[(.int (Int32.ofNat nx)), (.int (Int32.ofNat ny))] ∧ Z.Warmed39 U.vm ∧ U.heap = h0) (fun _ _ _ _ _ => True) (fun _ U_ o_ U'_ => ∃ v_ L_, o_ = .returned v_ ∧ Q25 Z nx ny h0 n0 v_ U'_.heap L_ ∧ FrameEnd U_ o_ U'_ L_ ({ frames := 0, cells := 0, slots := 0, locals := 0 } : Room).cells ({ frames := 0, cells := 0, slots := 0, locals := 0 } : Room).slots) := by
  refine MetFree.of_bodySF (by decide +kernel) hisR ?_
  intro p e s m args below meth c s₁ Bd hml0 hP hK
  obtain ⟨rfl, hZ, hh⟩ := hP
  have hx := Bd.exec
  have hby := Bd.bytes
  have hml : c.maxLocals = 2 := hml0
  have hown : s.vm.findClass "java/lang/Math" = some m.cls := findClass_of_methodNamed Bd.named
  have hnm := (name_of_methodNamed Bd.named Bd.method).1
  have hlk : meth.locks = false := Bd.notSynchronized
  have X0 : Stand p l e ({ frames := 0, cells := 0, slots := 0, locals := 0 } : Room) s m #[(.int (Int32.ofNat nx)), (.int (Int32.ofNat ny))] below meth c s₁ [] 0 0 := Stand.of_body Bd
  have e0 : s₁.heap = h0 := by rw [← hh, Bd.state]; rfl
  have N0 := Fr.nil n0
  have K0 : Keep h0 h0 [] := Keep.refl _ _
  refine own_cast (ef_25 m nx ny) ?_
  show OwnGo p e below s (Q25 Z nx ny h0 n0) ({ frames := 0, cells := 0, slots := 0, locals := 0 } : Room).cells ({ frames := 0, cells := 0, slots := 0, locals := 0 } : Room).slots (s₁.setTop (mkF m 0 #[.val (.int (Int32.ofNat nx)), .val (.int (Int32.ofNat ny))] []))
  refine own_on (fun t_ k_ => XS.iloadN X0.here hx rfl (hb hby d25_0) rfl k_) ?_
  show OwnGo p e below s _ _ _ (s₁.setTop (mkF m 1 #[.val (.int (Int32.ofNat nx)), .val (.int (Int32.ofNat ny))] [(.int (Int32.ofNat nx))]))
  refine own_on (fun t_ k_ => XS.iloadN X0.here hx rfl (hb hby d25_1) rfl k_) ?_
  show OwnGo p e below s _ _ _ (s₁.setTop (mkF m 2 #[.val (.int (Int32.ofNat nx)), .val (.int (Int32.ofNat ny))] [(.int (Int32.ofNat ny)), (.int (Int32.ofNat nx))]))
  by_cases q0 : (Int32.ofNat nx) < (Int32.ofNat ny)
  · refine own_on (fun t_ k_ => XS.icmpYes X0.here hx rfl (pc0 := 2) (pc' := 9) rfl (hb hby d25_2) rfl (tlt q0).1 (by decide) (by decide) k_) ?_
    show OwnGo p e below s _ _ _ (s₁.setTop (mkF m 9 #[.val (.int (Int32.ofNat nx)), .val (.int (Int32.ofNat ny))] []))
    rw [own_lt' (by omega) (by omega)] at q0
    refine own_on (fun t_ k_ => XS.iloadN X0.here hx rfl (hb hby d25_9) rfl k_) ?_
    show OwnGo p e below s _ _ _ (s₁.setTop (mkF m 10 #[.val (.int (Int32.ofNat nx)), .val (.int (Int32.ofNat ny))] [(.int (Int32.ofNat ny))]))
    exact own_retI X0 hx hlk Bd.returns (hb hby d25_10) e0 ⟨(congrArg (fun z => some (Value.int (Int32.ofNat z))) (by omega)), N0, rfl⟩ (by decide) (by decide)
  · refine own_on (fun t_ k_ => XS.icmpNo X0.here hx rfl (hb hby d25_2) rfl (flt q0).1 k_) ?_
    show OwnGo p e below s _ _ _ (s₁.setTop (mkF m 5 #[.val (.int (Int32.ofNat nx)), .val (.int (Int32.ofNat ny))] []))
    rw [own_lt' (by omega) (by omega)] at q0
    refine own_on (fun t_ k_ => XS.iloadN X0.here hx rfl (hb hby d25_5) rfl k_) ?_
    show OwnGo p e below s _ _ _ (s₁.setTop (mkF m 6 #[.val (.int (Int32.ofNat nx)), .val (.int (Int32.ofNat ny))] [(.int (Int32.ofNat nx))]))
    refine own_on (fun t_ k_ => XS.goto X0.here hx rfl (pc0 := 6) (pc' := 10) rfl (hb hby d25_6) (by decide) (by decide) k_) ?_
    show OwnGo p e below s _ _ _ (s₁.setTop (mkF m 10 #[.val (.int (Int32.ofNat nx)), .val (.int (Int32.ofNat ny))] [(.int (Int32.ofNat nx))]))
    exact own_retI X0 hx hlk Bd.returns (hb hby d25_10) e0 ⟨(congrArg (fun z => some (Value.int (Int32.ofNat z))) (by omega)), N0, rfl⟩ (by decide) (by decide)
theorem ef_31 (m : MethodId) (nx : Nat) (ny : Nat) (nz : Nat)  : entryFrame m #[(.int (Int32.ofNat nx)), (.int (Int32.ofNat ny)), (.int (Int32.ofNat nz))] 4 = mkF m 0 #[.val (.int (Int32.ofNat nx)), .val (.int (Int32.ofNat ny)), .val (.int (Int32.ofNat nz)), .unset] [] := by first | (simp [entryFrame, mkF, argsToLocals, Value.category]; done) | rfl
def Q31 (Z : State) (nx : Nat) (ny : Nat) (nz : Nat) (h0 : Heap) (n0 : Nat) (v_ : Option Value) (h_ : Heap) (L_ : List Loc) : Prop := v_ = some (.int (Int32.ofNat (nx + max ny nz))) ∧ Fr n0 L_ ∧ h_ = h0
set_option maxRecDepth 65536 in
set_option maxHeartbeats 40000000 in
theorem rm31 (l : Launch) (Z : State) (a0 : Array Value) (hw : ∀ d ∈ tables_1, d.before a0 Z = true) (ws : List Jvm.Cond) (nx : Nat) (ny : Nat) (nz : Nat) (h0 : Heap) (n0 : Nat) (Z0 : n0 ≤ h0.size) (P0 : nx ≤ 10) (P1 : ny ≤ 10) (P2 : nz ≤ 10) (P3 : 0 < ny) :
    MetFree l (⟨"jdk/internal/util/ArraysSupport", "newLength", "(III)I"⟩ : MethodName) (head1 (Jvm.Cond.code (⟨"jdk/internal/util/ArraysSupport", "newLength", "(III)I"⟩ : MethodName) jdk_48_method_27_code 4 (some .int) :: ws) ({ frames := 1, cells := 0, slots := 0, locals := 14 } : Room)) (fun A_ U => A_ = #[(.int (Int32.ofNat nx)), (.int (Int32.ofNat ny)), (.int (Int32.ofNat nz))] ∧ Z.Warmed39 U.vm ∧ U.heap = h0) (fun _ _ _ _ _ => True) (fun _ U_ o_ U'_ => ∃ v_ L_, o_ = .returned v_ ∧ Q31 Z nx ny nz h0 n0 v_ U'_.heap L_ ∧ FrameEnd U_ o_ U'_ L_ ({ frames := 1, cells := 0, slots := 0, locals := 14 } : Room).cells ({ frames := 1, cells := 0, slots := 0, locals := 14 } : Room).slots) := by
  refine MetFree.of_bodySF (plainFor_of_name pn_3) hisR ?_
  intro p e s m args below meth c s₁ Bd hml0 hP hK
  obtain ⟨rfl, hZ, hh⟩ := hP
  have hx := Bd.exec
  have hby := Bd.bytes
  have hml : c.maxLocals = 4 := hml0
  have hown : s.vm.findClass "jdk/internal/util/ArraysSupport" = some m.cls := findClass_of_methodNamed Bd.named
  have hnm := (name_of_methodNamed Bd.named Bd.method).1
  have hlk : meth.locks = false := Bd.notSynchronized
  have X0 : Stand p l e ({ frames := 1, cells := 0, slots := 0, locals := 14 } : Room) s m #[(.int (Int32.ofNat nx)), (.int (Int32.ofNat ny)), (.int (Int32.ofNat nz))] below meth c s₁ [] 0 0 := Stand.of_body Bd
  have e0 : s₁.heap = h0 := by rw [← hh, Bd.state]; rfl
  have N0 := Fr.nil n0
  have K0 : Keep h0 h0 [] := Keep.refl _ _
  refine own_cast (ef_31 m nx ny nz) ?_
  show OwnGo p e below s (Q31 Z nx ny nz h0 n0) ({ frames := 1, cells := 0, slots := 0, locals := 14 } : Room).cells ({ frames := 1, cells := 0, slots := 0, locals := 14 } : Room).slots (s₁.setTop (mkF m 0 #[.val (.int (Int32.ofNat nx)), .val (.int (Int32.ofNat ny)), .val (.int (Int32.ofNat nz)), .unset] []))
  refine own_on (fun t_ k_ => XS.iloadN X0.here hx rfl (hb hby d31_0) rfl k_) ?_
  show OwnGo p e below s _ _ _ (s₁.setTop (mkF m 1 #[.val (.int (Int32.ofNat nx)), .val (.int (Int32.ofNat ny)), .val (.int (Int32.ofNat nz)), .unset] [(.int (Int32.ofNat nx))]))
  refine own_on (fun t_ k_ => XS.iloadN X0.here hx rfl (hb hby d31_1) rfl k_) ?_
  show OwnGo p e below s _ _ _ (s₁.setTop (mkF m 2 #[.val (.int (Int32.ofNat nx)), .val (.int (Int32.ofNat ny)), .val (.int (Int32.ofNat nz)), .unset] [(.int (Int32.ofNat ny)), (.int (Int32.ofNat nx))]))
  refine own_on (fun t_ k_ => XS.iloadN X0.here hx rfl (hb hby d31_2) rfl k_) ?_
  show OwnGo p e below s _ _ _ (s₁.setTop (mkF m 3 #[.val (.int (Int32.ofNat nx)), .val (.int (Int32.ofNat ny)), .val (.int (Int32.ofNat nz)), .unset] [(.int (Int32.ofNat nz)), (.int (Int32.ofNat ny)), (.int (Int32.ofNat nx))]))
  obtain ⟨_, _, ⟨T1, L1, k1, n1⟩, -, X1, ⟨Lc1, hQ1, l1, y1, z1⟩, st1⟩ := Jvm.LawKit.callS X0 hx (y := (⟨"java/lang/Math", "max", "(II)I"⟩ : MethodName)) hown (mvT hZ (w202 hw)) (mvT hZ (w161 hw)) (mvT hZ (w114 hw)) (mvT hZ (w162 hw)) (by decide) (backOf (W := 1) (rm25 l Z a0 hw [] ny nz h0 n0 Z0 (by omega : ny ≤ 20) (by omega : nz ≤ 20)) hZ (w162 hw) (w114 hw) (by decide) (by decide)) (g := (mkF m 3 #[.val (.int (Int32.ofNat nx)), .val (.int (Int32.ofNat ny)), .val (.int (Int32.ofNat nz)), .unset] [(.int (Int32.ofNat nz)), (.int (Int32.ofNat ny)), (.int (Int32.ofNat nx))])) rfl (by rw [hml]; rfl) (argsL := [(.int (Int32.ofNat ny)), (.int (Int32.ofNat nz))]) (rest := [(.int (Int32.ofNat nx))]) (lenOf pd_1 rfl) rfl (by show 2 * 0 + _ ≤ _; exact Nat.le_of_eq rfl) (hb hby d31_3) (fun _ hWx => ⟨rfl, e0, (by decide : 0 + 0 ≤ _), (by decide : 0 + 0 ≤ _)⟩)
  dsimp only [Pt.U, Pt.locs, Pt.cells, Pt.slots] at X1 l1 y1 z1 st1 hQ1
  replace X1 := own_num (c' := 0) (n' := 0) X1 l1 (y1.trans rfl) (z1.trans rfl)
  obtain ⟨rfl, N1q, e1⟩ := hQ1
  have N1 := Fr.app N0 N1q
  refine own_on st1 ?_
  show OwnGo p e below s _ _ _ (T1.setTop (mkF m 6 #[.val (.int (Int32.ofNat nx)), .val (.int (Int32.ofNat ny)), .val (.int (Int32.ofNat nz)), .unset] [(.int (Int32.ofNat (max ny nz))), (.int (Int32.ofNat nx))]))
  refine own_on (fun t_ k_ => XS.iadd X1.here hx rfl (hb hby d31_6) rfl k_) ?_
  show OwnGo p e below s _ _ _ (T1.setTop (mkF m 7 #[.val (.int (Int32.ofNat nx)), .val (.int (Int32.ofNat ny)), .val (.int (Int32.ofNat nz)), .unset] [(.int ((Int32.ofNat nx) + (Int32.ofNat (max ny nz))))]))
  rw [show ((Int32.ofNat nx) + (Int32.ofNat (max ny nz))) = (Int32.ofNat (nx + max ny nz)) from own_add' _ _]
  show OwnGo p e below s _ _ _ (T1.setTop (mkF m 7 #[.val (.int (Int32.ofNat nx)), .val (.int (Int32.ofNat ny)), .val (.int (Int32.ofNat nz)), .unset] [(.int (Int32.ofNat (nx + max ny nz)))]))
  refine own_on (fun t_ k_ => XS.istoreN X1.here hx rfl (hb hby d31_7) rfl (l' := #[.val (.int (Int32.ofNat nx)), .val (.int (Int32.ofNat ny)), .val (.int (Int32.ofNat nz)), .val (.int (Int32.ofNat (nx + max ny nz)))]) rfl k_) ?_
  show OwnGo p e below s _ _ _ (T1.setTop (mkF m 8 #[.val (.int (Int32.ofNat nx)), .val (.int (Int32.ofNat ny)), .val (.int (Int32.ofNat nz)), .val (.int (Int32.ofNat (nx + max ny nz)))] []))
  refine own_on (fun t_ k_ => XS.iconst X1.here hx rfl (hb hby d31_8) k_) ?_
  show OwnGo p e below s _ _ _ (T1.setTop (mkF m 9 #[.val (.int (Int32.ofNat nx)), .val (.int (Int32.ofNat ny)), .val (.int (Int32.ofNat nz)), .val (.int (Int32.ofNat (nx + max ny nz)))] [(.int (0 : Int32))]))
  refine own_on (fun t_ k_ => XS.iloadN X1.here hx rfl (hb hby d31_9) rfl k_) ?_
  show OwnGo p e below s _ _ _ (T1.setTop (mkF m 10 #[.val (.int (Int32.ofNat nx)), .val (.int (Int32.ofNat ny)), .val (.int (Int32.ofNat nz)), .val (.int (Int32.ofNat (nx + max ny nz)))] [(.int (Int32.ofNat (nx + max ny nz))), (.int (0 : Int32))]))
  refine own_on (fun t_ k_ => XS.icmpNo X1.here hx rfl (hb hby d31_10) rfl (tlt (by rw [show (0 : Int32) = Int32.ofNat 0 from rfl, own_lt' (by omega) (by omega)]; omega)).2.1 k_) ?_
  show OwnGo p e below s _ _ _ (T1.setTop (mkF m 13 #[.val (.int (Int32.ofNat nx)), .val (.int (Int32.ofNat ny)), .val (.int (Int32.ofNat nz)), .val (.int (Int32.ofNat (nx + max ny nz)))] []))
  refine own_on (fun t_ k_ => XS.iloadN X1.here hx rfl (hb hby d31_13) rfl k_) ?_
  show OwnGo p e below s _ _ _ (T1.setTop (mkF m 14 #[.val (.int (Int32.ofNat nx)), .val (.int (Int32.ofNat ny)), .val (.int (Int32.ofNat nz)), .val (.int (Int32.ofNat (nx + max ny nz)))] [(.int (Int32.ofNat (nx + max ny nz)))]))
  refine own_on (X1.ldcInt hx hown (mvT hZ (w203 hw)) (g := (mkF m 14 #[.val (.int (Int32.ofNat nx)), .val (.int (Int32.ofNat ny)), .val (.int (Int32.ofNat nz)), .val (.int (Int32.ofNat (nx + max ny nz)))] [(.int (Int32.ofNat (nx + max ny nz)))])) rfl (hb hby d31_14)) ?_
  show OwnGo p e below s _ _ _ (T1.setTop (mkF m 16 #[.val (.int (Int32.ofNat nx)), .val (.int (Int32.ofNat ny)), .val (.int (Int32.ofNat nz)), .val (.int (Int32.ofNat (nx + max ny nz)))] [(.int (2147483639 : Int32)), (.int (Int32.ofNat (nx + max ny nz)))]))
  refine own_on (fun t_ k_ => XS.icmpNo X1.here hx rfl (hb hby d31_16) rfl (flt (by rw [show (2147483639 : Int32) = Int32.ofNat 2147483639 from rfl, own_lt' (by omega) (by omega)]; omega)).2.2.1 k_) ?_
  show OwnGo p e below s _ _ _ (T1.setTop (mkF m 19 #[.val (.int (Int32.ofNat nx)), .val (.int (Int32.ofNat ny)), .val (.int (Int32.ofNat nz)), .val (.int (Int32.ofNat (nx + max ny nz)))] []))
  refine own_on (fun t_ k_ => XS.iloadN X1.here hx rfl (hb hby d31_19) rfl k_) ?_
  show OwnGo p e below s _ _ _ (T1.setTop (mkF m 20 #[.val (.int (Int32.ofNat nx)), .val (.int (Int32.ofNat ny)), .val (.int (Int32.ofNat nz)), .val (.int (Int32.ofNat (nx + max ny nz)))] [(.int (Int32.ofNat (nx + max ny nz)))]))
  exact own_retI X1 hx hlk Bd.returns (hb hby d31_20) e1 ⟨rfl, N1, rfl⟩ (by decide) (by decide)
theorem ef_17 (m : MethodId) (a : Addr) (nn : Nat) (mr : Addr)  : entryFrame m #[(.ref a), (.int (Int32.ofNat nn)), (.ref mr)] 4 = mkF m 0 #[.val (.ref a), .val (.int (Int32.ofNat nn)), .val (.ref mr), .unset] [] := by first | (simp [entryFrame, mkF, argsToLocals, Value.category]; done) | rfl
def Q17 (Z : State) (a : Addr) (nn : Nat) (mr : Addr) (cap : Nat) (es : List Addr) (h0 : Heap) (n0 : Nat) (v_ : Option Value) (h_ : Heap) (L_ : List Loc) : Prop := ∃ r : Addr, v_ = some (.ref r) ∧ Fr n0 L_ ∧ Keep h0 h_ [] ∧ (OwnA Z h_ r nn es) ∧ (n0 ≤ r) ∧ (h0.size ≤ r)
set_option maxRecDepth 65536 in
set_option maxHeartbeats 40000000 in
theorem rm17 (l : Launch) (Z : State) (a0 : Array Value) (hw : ∀ d ∈ tables_1, d.before a0 Z = true) (ws : List Jvm.Cond) (a : Addr) (nn : Nat) (mr : Addr) (cap : Nat) (es : List Addr) (h0 : Heap) (n0 : Nat) (Z0 : n0 ≤ h0.size) (P0 : OwnA Z h0 a cap es) (P1 : OwnE Z h0 es) (P2 : OwnM Z "[Ljava/lang/Object;" mr) (P3 : es.length ≤ nn) (P4 : nn ≤ 10) :
    MetFree l (⟨"java/util/Arrays", "copyOf", "([Ljava/lang/Object;ILjava/lang/Class;)[Ljava/lang/Object;"⟩ : MethodName) (head1 (Jvm.Cond.code (⟨"java/util/Arrays", "copyOf", "([Ljava/lang/Object;ILjava/lang/Class;)[Ljava/lang/Object;"⟩ : MethodName) jdk_65_method_120_code 4 (some (.array (.object "java/lang/Object"))) :: ws) ({ frames := 1, cells := 1, slots := 10, locals := 18 } : Room)) (fun A_ U => A_ = #[(.ref a), (.int (Int32.ofNat nn)), (.ref mr)] ∧ Z.Warmed39 U.vm ∧ U.heap = h0) (fun _ _ _ _ _ => True) (fun _ U_ o_ U'_ => ∃ v_ L_, o_ = .returned v_ ∧ Q17 Z a nn mr cap es h0 n0 v_ U'_.heap L_ ∧ FrameEnd U_ o_ U'_ L_ ({ frames := 1, cells := 1, slots := 10, locals := 18 } : Room).cells ({ frames := 1, cells := 1, slots := 10, locals := 18 } : Room).slots) := by
  refine MetFree.of_bodySF (plainFor_of_name pn_4) hisR ?_
  intro p e s m args below meth c s₁ Bd hml0 hP hK
  obtain ⟨rfl, hZ, hh⟩ := hP
  have hx := Bd.exec
  have hby := Bd.bytes
  have hml : c.maxLocals = 4 := hml0
  have hown : s.vm.findClass "java/util/Arrays" = some m.cls := findClass_of_methodNamed Bd.named
  have hnm := (name_of_methodNamed Bd.named Bd.method).1
  have hlk : meth.locks = false := Bd.notSynchronized
  have X0 : Stand p l e ({ frames := 1, cells := 1, slots := 10, locals := 18 } : Room) s m #[(.ref a), (.int (Int32.ofNat nn)), (.ref mr)] below meth c s₁ [] 0 0 := Stand.of_body Bd
  have e0 : s₁.heap = h0 := by rw [← hh, Bd.state]; rfl
  have N0 := Fr.nil n0
  have K0 : Keep h0 h0 [] := Keep.refl _ _
  refine own_cast (ef_17 m a nn mr) ?_
  show OwnGo p e below s (Q17 Z a nn mr cap es h0 n0) ({ frames := 1, cells := 1, slots := 10, locals := 18 } : Room).cells ({ frames := 1, cells := 1, slots := 10, locals := 18 } : Room).slots (s₁.setTop (mkF m 0 #[.val (.ref a), .val (.int (Int32.ofNat nn)), .val (.ref mr), .unset] []))
  have hl1a := P0.1
  have hl1b := P0.2.1
  refine own_on (fun t_ k_ => XS.aloadN X0.here hx rfl (hb hby d17_0) rfl rfl k_) ?_
  show OwnGo p e below s _ _ _ (s₁.setTop (mkF m 1 #[.val (.ref a), .val (.int (Int32.ofNat nn)), .val (.ref mr), .unset] [(.ref mr)]))
  obtain ⟨T2, X2, e2, st2⟩ := own_ldcM X0 hx hZ hown (w109 hw) P2 e0 (g := (mkF m 1 #[.val (.ref a), .val (.int (Int32.ofNat nn)), .val (.ref mr), .unset] [(.ref mr)])) rfl (hb hby d17_1)
  refine own_on st2 ?_
  show OwnGo p e below s _ _ _ (T2.setTop (mkF m 3 #[.val (.ref a), .val (.int (Int32.ofNat nn)), .val (.ref mr), .unset] [(.ref mr), (.ref mr)]))
  refine own_on (fun t_ k_ => Jvm.RoadKit.acmp (g := (mkF m 3 #[.val (.ref a), .val (.int (Int32.ofNat nn)), .val (.ref mr), .unset] [(.ref mr), (.ref mr)])) X2 hx rfl rfl rfl (pc0 := 3) (pc' := 6) (same := true) rfl (hb hby d17_3) rfl (decide_eq_true rfl) (by decide) (by decide) k_) ?_
  show OwnGo p e below s _ _ _ (T2.setTop (mkF m 6 #[.val (.ref a), .val (.int (Int32.ofNat nn)), .val (.ref mr), .unset] []))
  refine own_on (fun t_ k_ => XS.iloadN X2.here hx rfl (hb hby d17_6) rfl k_) ?_
  show OwnGo p e below s _ _ _ (T2.setTop (mkF m 7 #[.val (.ref a), .val (.int (Int32.ofNat nn)), .val (.ref mr), .unset] [(.int (Int32.ofNat nn))]))
  obtain ⟨T3, h3, X3, e3, E3, A3, st3⟩ := own_newA (N := nn) X2 hx hZ hown (w110 hw) (w111 hw) e2 (g := (mkF m 7 #[.val (.ref a), .val (.int (Int32.ofNat nn)), .val (.ref mr), .unset] [(.int (Int32.ofNat nn))])) rfl (hb hby d17_7) rfl (by omega) (by decide) (by decide)
  obtain ⟨b3, g3⟩ : ∃ z, z = h0.size := ⟨_, rfl⟩
  rw [← g3] at A3 st3
  have ne4' : a < b3 := Nat.lt_of_lt_of_le P0.lt (Nat.le_of_eq g3.symm)
  have ne4 : a ≠ b3 := Nat.ne_of_lt ne4'
  have g5 : n0 ≤ b3 := Nat.le_trans Z0 (Nat.le_of_eq g3.symm)
  have z6 : h0.size ≤ b3 := Nat.le_trans K0.1 (Nat.le_of_eq g3.symm)
  have Z3 : n0 ≤ h3.size := Nat.le_trans Z0 E3.1
  have K3 : Keep h0 h3 [] := K0.ext E3
  refine own_on st3 ?_
  show OwnGo p e below s _ _ _ (T3.setTop (mkF m 10 #[.val (.ref a), .val (.int (Int32.ofNat nn)), .val (.ref mr), .unset] [(.ref b3)]))
  refine own_on (fun t_ k_ => XS.goto X3.here hx rfl (pc0 := 10) (pc' := 24) rfl (hb hby d17_10) (by decide) (by decide) k_) ?_
  show OwnGo p e below s _ _ _ (T3.setTop (mkF m 24 #[.val (.ref a), .val (.int (Int32.ofNat nn)), .val (.ref mr), .unset] [(.ref b3)]))
  refine own_on (fun t_ k_ => XS.astoreN X3.here hx rfl (hb hby d17_24) rfl rfl (l' := #[.val (.ref a), .val (.int (Int32.ofNat nn)), .val (.ref mr), .val (.ref b3)]) rfl k_) ?_
  show OwnGo p e below s _ _ _ (T3.setTop (mkF m 25 #[.val (.ref a), .val (.int (Int32.ofNat nn)), .val (.ref mr), .val (.ref b3)] []))
  refine own_on (fun t_ k_ => XS.aloadN X3.here hx rfl (hb hby d17_25) rfl rfl k_) ?_
  show OwnGo p e below s _ _ _ (T3.setTop (mkF m 26 #[.val (.ref a), .val (.int (Int32.ofNat nn)), .val (.ref mr), .val (.ref b3)] [(.ref a)]))
  refine own_on (fun t_ k_ => XS.iconst X3.here hx rfl (hb hby d17_26) k_) ?_
  show OwnGo p e below s _ _ _ (T3.setTop (mkF m 27 #[.val (.ref a), .val (.int (Int32.ofNat nn)), .val (.ref mr), .val (.ref b3)] [(.int (0 : Int32)), (.ref a)]))
  refine own_on (fun t_ k_ => XS.aloadN X3.here hx rfl (hb hby d17_27) rfl rfl k_) ?_
  show OwnGo p e below s _ _ _ (T3.setTop (mkF m 28 #[.val (.ref a), .val (.int (Int32.ofNat nn)), .val (.ref mr), .val (.ref b3)] [(.ref b3), (.int (0 : Int32)), (.ref a)]))
  refine own_on (fun t_ k_ => XS.iconst X3.here hx rfl (hb hby d17_28) k_) ?_
  show OwnGo p e below s _ _ _ (T3.setTop (mkF m 29 #[.val (.ref a), .val (.int (Int32.ofNat nn)), .val (.ref mr), .val (.ref b3)] [(.int (0 : Int32)), (.ref b3), (.int (0 : Int32)), (.ref a)]))
  refine own_on (fun t_ k_ => XS.aloadN X3.here hx rfl (hb hby d17_29) rfl rfl k_) ?_
  show OwnGo p e below s _ _ _ (T3.setTop (mkF m 30 #[.val (.ref a), .val (.int (Int32.ofNat nn)), .val (.ref mr), .val (.ref b3)] [(.ref a), (.int (0 : Int32)), (.ref b3), (.int (0 : Int32)), (.ref a)]))
  have f7 : OwnA Z h3 a cap es := P0.ext E3
  obtain ⟨A8a, A8b, A8c, kk8, cl8, Ar8, q8, S8, M8, H8, G8⟩ := id f7
  refine own_on (X3.arraylength hx (by rw [e3]; exact Ar8.1) (State.isArrayOf_alike hZ.alike Ar8.2.1) (g := (mkF m 30 #[.val (.ref a), .val (.int (Int32.ofNat nn)), .val (.ref mr), .val (.ref b3)] [(.ref a), (.int (0 : Int32)), (.ref b3), (.int (0 : Int32)), (.ref a)])) rfl rfl (hb hby d17_30)) ?_
  rw [len_of S8 M8]
  show OwnGo p e below s _ _ _ (T3.setTop (mkF m 31 #[.val (.ref a), .val (.int (Int32.ofNat nn)), .val (.ref mr), .val (.ref b3)] [(.int (Int32.ofNat cap)), (.int (0 : Int32)), (.ref b3), (.int (0 : Int32)), (.ref a)]))
  refine own_on (fun t_ k_ => XS.iloadN X3.here hx rfl (hb hby d17_31) rfl k_) ?_
  show OwnGo p e below s _ _ _ (T3.setTop (mkF m 32 #[.val (.ref a), .val (.int (Int32.ofNat nn)), .val (.ref mr), .val (.ref b3)] [(.int (Int32.ofNat nn)), (.int (Int32.ofNat cap)), (.int (0 : Int32)), (.ref b3), (.int (0 : Int32)), (.ref a)]))
  obtain ⟨_, _, ⟨T9, L9, k9, n9⟩, -, X9, ⟨Lc9, hQ9, l9, y9, z9⟩, st9⟩ := Jvm.LawKit.callS X3 hx (y := (⟨"java/lang/Math", "min", "(II)I"⟩ : MethodName)) hown (mvT hZ (w112 hw)) (mvT hZ (w113 hw)) (mvT hZ (w114 hw)) (mvT hZ (w115 hw)) (by decide) (backOf (W := 4) (rm18 l Z a0 hw [] cap nn h3 n0 Z3 (by omega : cap ≤ 20) (by omega : nn ≤ 20)) hZ (w115 hw) (w114 hw) (by decide) (by decide)) (g := (mkF m 32 #[.val (.ref a), .val (.int (Int32.ofNat nn)), .val (.ref mr), .val (.ref b3)] [(.int (Int32.ofNat nn)), (.int (Int32.ofNat cap)), (.int (0 : Int32)), (.ref b3), (.int (0 : Int32)), (.ref a)])) rfl (by rw [hml]; rfl) (argsL := [(.int (Int32.ofNat cap)), (.int (Int32.ofNat nn))]) (rest := [(.int (0 : Int32)), (.ref b3), (.int (0 : Int32)), (.ref a)]) (lenOf pd_1 rfl) rfl (by show 2 * 0 + _ ≤ _; exact Nat.le_of_eq rfl) (hb hby d17_32) (fun _ hWx => ⟨rfl, e3, (by decide : 1 + 0 ≤ _), (by decide : 10 + 0 ≤ _)⟩)
  dsimp only [Pt.U, Pt.locs, Pt.cells, Pt.slots] at X9 l9 y9 z9 st9 hQ9
  replace X9 := own_num (c' := 1) (n' := 10) X9 l9 (y9.trans rfl) (z9.trans rfl)
  obtain ⟨rfl, N9q, e9⟩ := hQ9
  have N9 := Fr.app N0 N9q
  refine own_on st9 ?_
  show OwnGo p e below s _ _ _ (T9.setTop (mkF m 35 #[.val (.ref a), .val (.int (Int32.ofNat nn)), .val (.ref mr), .val (.ref b3)] [(.int (Int32.ofNat (min cap nn))), (.int (0 : Int32)), (.ref b3), (.int (0 : Int32)), (.ref a)]))
  have f10 : OwnE Z h3 es := P1.ext E3
  obtain ⟨T11, h11, L11, X11, e11, N11, K11, A11, st11⟩ := own_cpO (cc := (min cap nn)) (es1 := own_nil) X9 hx hZ hown (w116 hw) (w119 hw) (w117 hw) (w118 hw) (w111 hw) (w164 hw) e9 f7 A3 f10 (sp := (0 : Int32)) (dp := (0 : Int32)) (nn := (Int32.ofNat (min cap nn))) rfl rfl rfl (by omega) (by omega) (by simp; omega) N9 g5 (g := (mkF m 35 #[.val (.ref a), .val (.int (Int32.ofNat nn)), .val (.ref mr), .val (.ref b3)] [(.int (Int32.ofNat (min cap nn))), (.int (0 : Int32)), (.ref b3), (.int (0 : Int32)), (.ref a)])) rfl (by rw [hml]; rfl) (rest := []) rfl (hb hby d17_35) (by decide) (W := 0) (by show 2 * 0 + _ ≤ _; exact Nat.le_of_eq rfl) (by decide)
  have Z11 : n0 ≤ h11.size := Nat.le_trans Z3 K11.1
  have K11x : Keep h0 h11 [] := K3.trans K11 (allS (P := fun x => x ∈ [] ∨ h0.size ≤ x) (Or.inr z6) all0)
  refine own_on st11 ?_
  show OwnGo p e below s _ _ _ (T11.setTop (mkF m 38 #[.val (.ref a), .val (.int (Int32.ofNat nn)), .val (.ref mr), .val (.ref b3)] []))
  have f12 : OwnA Z h11 b3 nn es := A11
  refine own_on (fun t_ k_ => XS.aloadN X11.here hx rfl (hb hby d17_38) rfl rfl k_) ?_
  show OwnGo p e below s _ _ _ (T11.setTop (mkF m 39 #[.val (.ref a), .val (.int (Int32.ofNat nn)), .val (.ref mr), .val (.ref b3)] [(.ref b3)]))
  exact own_retA X11 hx hlk Bd.returns rfl rfl (hb hby d17_39) e11 ⟨b3, rfl, N11, K11x, f12, g5, z6⟩ (by decide) (by decide)
theorem ef_16 (m : MethodId) (a : Addr) (nn : Nat)  : entryFrame m #[(.ref a), (.int (Int32.ofNat nn))] 2 = mkF m 0 #[.val (.ref a), .val (.int (Int32.ofNat nn))] [] := by first | (simp [entryFrame, mkF, argsToLocals, Value.category]; done) | rfl
def Q16 (Z : State) (a : Addr) (nn : Nat) (cap : Nat) (es : List Addr) (mr : Addr) (h0 : Heap) (n0 : Nat) (v_ : Option Value) (h_ : Heap) (L_ : List Loc) : Prop := ∃ r : Addr, v_ = some (.ref r) ∧ Fr n0 L_ ∧ Keep h0 h_ [] ∧ (OwnA Z h_ r nn es) ∧ (n0 ≤ r) ∧ (h0.size ≤ r)
set_option maxRecDepth 65536 in
set_option maxHeartbeats 40000000 in
theorem rm16 (l : Launch) (Z : State) (a0 : Array Value) (hw : ∀ d ∈ tables_1, d.before a0 Z = true) (ws : List Jvm.Cond) (a : Addr) (nn : Nat) (cap : Nat) (es : List Addr) (mr : Addr) (h0 : Heap) (n0 : Nat) (Z0 : n0 ≤ h0.size) (P0 : OwnA Z h0 a cap es) (P1 : OwnE Z h0 es) (P2 : OwnM Z "[Ljava/lang/Object;" mr) (P3 : es.length ≤ nn) (P4 : nn ≤ 10) :
    MetFree l (⟨"java/util/Arrays", "copyOf", "([Ljava/lang/Object;I)[Ljava/lang/Object;"⟩ : MethodName) (head1 (Jvm.Cond.code (⟨"java/util/Arrays", "copyOf", "([Ljava/lang/Object;I)[Ljava/lang/Object;"⟩ : MethodName) jdk_65_method_119_code 2 (some (.array (.object "java/lang/Object"))) :: ws) ({ frames := 2, cells := 1, slots := 10, locals := 33 } : Room)) (fun A_ U => A_ = #[(.ref a), (.int (Int32.ofNat nn))] ∧ Z.Warmed39 U.vm ∧ U.heap = h0) (fun _ _ _ _ _ => True) (fun _ U_ o_ U'_ => ∃ v_ L_, o_ = .returned v_ ∧ Q16 Z a nn cap es mr h0 n0 v_ U'_.heap L_ ∧ FrameEnd U_ o_ U'_ L_ ({ frames := 2, cells := 1, slots := 10, locals := 33 } : Room).cells ({ frames := 2, cells := 1, slots := 10, locals := 33 } : Room).slots) := by
  refine MetFree.of_bodySF (plainFor_of_name pn_4) hisR ?_
  intro p e s m args below meth c s₁ Bd hml0 hP hK
  obtain ⟨rfl, hZ, hh⟩ := hP
  have hx := Bd.exec
  have hby := Bd.bytes
  have hml : c.maxLocals = 2 := hml0
  have hown : s.vm.findClass "java/util/Arrays" = some m.cls := findClass_of_methodNamed Bd.named
  have hnm := (name_of_methodNamed Bd.named Bd.method).1
  have hlk : meth.locks = false := Bd.notSynchronized
  have X0 : Stand p l e ({ frames := 2, cells := 1, slots := 10, locals := 33 } : Room) s m #[(.ref a), (.int (Int32.ofNat nn))] below meth c s₁ [] 0 0 := Stand.of_body Bd
  have e0 : s₁.heap = h0 := by rw [← hh, Bd.state]; rfl
  have N0 := Fr.nil n0
  have K0 : Keep h0 h0 [] := Keep.refl _ _
  refine own_cast (ef_16 m a nn) ?_
  show OwnGo p e below s (Q16 Z a nn cap es mr h0 n0) ({ frames := 2, cells := 1, slots := 10, locals := 33 } : Room).cells ({ frames := 2, cells := 1, slots := 10, locals := 33 } : Room).slots (s₁.setTop (mkF m 0 #[.val (.ref a), .val (.int (Int32.ofNat nn))] []))
  refine own_on (fun t_ k_ => XS.aloadN X0.here hx rfl (hb hby d16_0) rfl rfl k_) ?_
  show OwnGo p e below s _ _ _ (s₁.setTop (mkF m 1 #[.val (.ref a), .val (.int (Int32.ofNat nn))] [(.ref a)]))
  refine own_on (fun t_ k_ => XS.iloadN X0.here hx rfl (hb hby d16_1) rfl k_) ?_
  show OwnGo p e below s _ _ _ (s₁.setTop (mkF m 2 #[.val (.ref a), .val (.int (Int32.ofNat nn))] [(.int (Int32.ofNat nn)), (.ref a)]))
  refine own_on (fun t_ k_ => XS.aloadN X0.here hx rfl (hb hby d16_2) rfl rfl k_) ?_
  show OwnGo p e below s _ _ _ (s₁.setTop (mkF m 3 #[.val (.ref a), .val (.int (Int32.ofNat nn))] [(.ref a), (.int (Int32.ofNat nn)), (.ref a)]))
  obtain ⟨T1, X1, e1, st1⟩ := own_gc X0 hx hZ hown (w100 hw) (w101 hw) (w103 hw) (w102 hw) (w104 hw) e0 P0.exa P2 (g := (mkF m 3 #[.val (.ref a), .val (.int (Int32.ofNat nn))] [(.ref a), (.int (Int32.ofNat nn)), (.ref a)])) rfl (by rw [hml]; rfl) (rest := [(.int (Int32.ofNat nn)), (.ref a)]) rfl (hb hby d16_3) (by decide) (W := 2) (by show 2 * 0 + _ ≤ _; exact Nat.le_of_eq rfl) (by decide)
  refine own_on st1 ?_
  show OwnGo p e below s _ _ _ (T1.setTop (mkF m 6 #[.val (.ref a), .val (.int (Int32.ofNat nn))] [(.ref mr), (.int (Int32.ofNat nn)), (.ref a)]))
  obtain ⟨_, _, ⟨T2, L2, k2, n2⟩, -, X2, ⟨Lc2, hQ2, l2, y2, z2⟩, st2⟩ := Jvm.LawKit.callS X1 hx (y := (⟨"java/util/Arrays", "copyOf", "([Ljava/lang/Object;ILjava/lang/Class;)[Ljava/lang/Object;"⟩ : MethodName)) hown (mvT hZ (w106 hw)) (mvT hZ (w107 hw)) (mvT hZ (w98 hw)) (mvT hZ (w108 hw)) (by decide) (backOf (W := 0) (rm17 l Z a0 hw [] a nn mr cap es h0 n0 Z0 P0 P1 P2 P3 P4) hZ (w108 hw) (w98 hw) (by decide) (by decide)) (g := (mkF m 6 #[.val (.ref a), .val (.int (Int32.ofNat nn))] [(.ref mr), (.int (Int32.ofNat nn)), (.ref a)])) rfl (by rw [hml]; rfl) (argsL := [(.ref a), (.int (Int32.ofNat nn)), (.ref mr)]) (rest := []) (lenOf pd_2 rfl) rfl (by show 2 * 0 + _ ≤ _; exact Nat.le_of_eq rfl) (hb hby d16_6) (fun _ hWx => ⟨rfl, e1, (by decide : 0 + 1 ≤ _), (by decide : 0 + 10 ≤ _)⟩)
  dsimp only [Pt.U, Pt.locs, Pt.cells, Pt.slots] at X2 l2 y2 z2 st2 hQ2
  replace X2 := own_num (c' := 1) (n' := 10) X2 l2 (y2.trans rfl) (z2.trans rfl)
  obtain ⟨r_2, rfl, N2q, K2q, c2_0, c2_1, c2_2⟩ := hQ2
  have N2 := Fr.app N0 N2q
  have Z2 : n0 ≤ T2.heap.size := Nat.le_trans Z0 K2q.1
  have K2 : Keep h0 T2.heap [] := K0.trans K2q all0
  have ne3 : a ≠ r_2 := Nat.ne_of_lt (Nat.lt_of_lt_of_le P0.lt c2_2)
  have z4 : h0.size ≤ r_2 := Nat.le_trans K0.1 c2_2
  refine own_on st2 ?_
  show OwnGo p e below s _ _ _ (T2.setTop (mkF m 9 #[.val (.ref a), .val (.int (Int32.ofNat nn))] [(.ref r_2)]))
  exact own_retA X2 hx hlk Bd.returns rfl rfl (hb hby d16_9) rfl ⟨r_2, rfl, N2, K2, c2_0, c2_1, z4⟩ (by decide) (by decide)
theorem ef_15 (m : MethodId) (a : Addr)  : entryFrame m #[(.ref a)] 1 = mkF m 0 #[.val (.ref a)] [] := by first | (simp [entryFrame, mkF, argsToLocals, Value.category]; done) | rfl
def Q15 (Z : State) (a : Addr) (ea : Addr) (cap : Nat) (es : List Addr) (mr : Addr) (h0 : Heap) (n0 : Nat) (v_ : Option Value) (h_ : Heap) (L_ : List Loc) : Prop := ∃ r : Addr, v_ = some (.ref r) ∧ Fr n0 L_ ∧ Keep h0 h_ [] ∧ (OwnA Z h_ r es.length es) ∧ (n0 ≤ r) ∧ (h0.size ≤ r)
set_option maxRecDepth 65536 in
set_option maxHeartbeats 40000000 in
theorem rm15 (l : Launch) (Z : State) (a0 : Array Value) (hw : ∀ d ∈ tables_1, d.before a0 Z = true) (ws : List Jvm.Cond) (a : Addr) (ea : Addr) (cap : Nat) (es : List Addr) (mr : Addr) (h0 : Heap) (n0 : Nat) (Z0 : n0 ≤ h0.size) (P0 : Fld Z h0 a "java/util/ArrayList" "elementData" "[Ljava/lang/Object;" (.ref ea)) (P1 : Fld Z h0 a "java/util/ArrayList" "size" "I" (.int (own_n es))) (P2 : OwnA Z h0 ea cap es) (P3 : OwnE Z h0 es) (P4 : OwnM Z "[Ljava/lang/Object;" mr) :
    MetFree l (⟨"java/util/ArrayList", "toArray", "()[Ljava/lang/Object;"⟩ : MethodName) (head1 (Jvm.Cond.code (⟨"java/util/ArrayList", "toArray", "()[Ljava/lang/Object;"⟩ : MethodName) jdk_38_method_16_code 1 (some (.array (.object "java/lang/Object"))) :: ws) ({ frames := 3, cells := 1, slots := 10, locals := 46 } : Room)) (fun A_ U => A_ = #[(.ref a)] ∧ Z.Warmed39 U.vm ∧ U.heap = h0) (fun _ _ _ _ _ => True) (fun _ U_ o_ U'_ => ∃ v_ L_, o_ = .returned v_ ∧ Q15 Z a ea cap es mr h0 n0 v_ U'_.heap L_ ∧ FrameEnd U_ o_ U'_ L_ ({ frames := 3, cells := 1, slots := 10, locals := 46 } : Room).cells ({ frames := 3, cells := 1, slots := 10, locals := 46 } : Room).slots) := by
  refine MetFree.of_bodySF (plainFor_of_name pn_2) hisR ?_
  intro p e s m args below meth c s₁ Bd hml0 hP hK
  obtain ⟨rfl, hZ, hh⟩ := hP
  have hx := Bd.exec
  have hby := Bd.bytes
  have hml : c.maxLocals = 1 := hml0
  have hown : s.vm.findClass "java/util/ArrayList" = some m.cls := findClass_of_methodNamed Bd.named
  have hnm := (name_of_methodNamed Bd.named Bd.method).1
  have hlk : meth.locks = false := Bd.notSynchronized
  have X0 : Stand p l e ({ frames := 3, cells := 1, slots := 10, locals := 46 } : Room) s m #[(.ref a)] below meth c s₁ [] 0 0 := Stand.of_body Bd
  have e0 : s₁.heap = h0 := by rw [← hh, Bd.state]; rfl
  have N0 := Fr.nil n0
  have K0 : Keep h0 h0 [] := Keep.refl _ _
  refine own_cast (ef_15 m a) ?_
  show OwnGo p e below s (Q15 Z a ea cap es mr h0 n0) ({ frames := 3, cells := 1, slots := 10, locals := 46 } : Room).cells ({ frames := 3, cells := 1, slots := 10, locals := 46 } : Room).slots (s₁.setTop (mkF m 0 #[.val (.ref a)] []))
  have hl1a := P2.1
  have hl1b := P2.2.1
  refine own_on (fun t_ k_ => XS.aloadN X0.here hx rfl (hb hby d15_0) rfl rfl k_) ?_
  show OwnGo p e below s _ _ _ (s₁.setTop (mkF m 1 #[.val (.ref a)] [(.ref a)]))
  obtain ⟨T2, X2, e2, st2⟩ := getF X0 hx hZ hown (host := "") (Or.inl (w56 hw)) Via.refl e0 P0 (g := (mkF m 1 #[.val (.ref a)] [(.ref a)])) rfl rfl (hb hby d15_1)
  refine own_on st2 ?_
  show OwnGo p e below s _ _ _ (T2.setTop (mkF m 4 #[.val (.ref a)] [(.ref ea)]))
  refine own_on (fun t_ k_ => XS.aloadN X2.here hx rfl (hb hby d15_4) rfl rfl k_) ?_
  show OwnGo p e below s _ _ _ (T2.setTop (mkF m 5 #[.val (.ref a)] [(.ref a), (.ref ea)]))
  obtain ⟨T3, X3, e3, st3⟩ := getF X2 hx hZ hown (host := "") (Or.inl (w94 hw)) Via.refl e2 P1 (g := (mkF m 5 #[.val (.ref a)] [(.ref a), (.ref ea)])) rfl rfl (hb hby d15_5)
  refine own_on st3 ?_
  show OwnGo p e below s _ _ _ (T3.setTop (mkF m 8 #[.val (.ref a)] [(.int (own_n es)), (.ref ea)]))
  rw [show (own_n es) = (Int32.ofNat es.length) from rfl]
  show OwnGo p e below s _ _ _ (T3.setTop (mkF m 8 #[.val (.ref a)] [(.int (Int32.ofNat es.length)), (.ref ea)]))
  obtain ⟨_, _, ⟨T4, L4, k4, n4⟩, -, X4, ⟨Lc4, hQ4, l4, y4, z4⟩, st4⟩ := Jvm.LawKit.callS X3 hx (y := (⟨"java/util/Arrays", "copyOf", "([Ljava/lang/Object;I)[Ljava/lang/Object;"⟩ : MethodName)) hown (mvT hZ (w96 hw)) (mvT hZ (w97 hw)) (mvT hZ (w98 hw)) (mvT hZ (w99 hw)) (by decide) (backOf (W := 0) (rm16 l Z a0 hw [] ea es.length cap es mr h0 n0 Z0 P2 P3 P4 (by omega : es.length ≤ es.length) (by omega : es.length ≤ 10)) hZ (w99 hw) (w98 hw) (by decide) (by decide)) (g := (mkF m 8 #[.val (.ref a)] [(.int (Int32.ofNat es.length)), (.ref ea)])) rfl (by rw [hml]; rfl) (argsL := [(.ref ea), (.int (Int32.ofNat es.length))]) (rest := []) (lenOf pd_3 rfl) rfl (by show 2 * 0 + _ ≤ _; exact Nat.le_of_eq rfl) (hb hby d15_8) (fun _ hWx => ⟨rfl, e3, (by decide : 0 + 1 ≤ _), (by decide : 0 + 10 ≤ _)⟩)
  dsimp only [Pt.U, Pt.locs, Pt.cells, Pt.slots] at X4 l4 y4 z4 st4 hQ4
  replace X4 := own_num (c' := 1) (n' := 10) X4 l4 (y4.trans rfl) (z4.trans rfl)
  obtain ⟨r_4, rfl, N4q, K4q, c4_0, c4_1, c4_2⟩ := hQ4
  have N4 := Fr.app N0 N4q
  have Z4 : n0 ≤ T4.heap.size := Nat.le_trans Z0 K4q.1
  have K4 : Keep h0 T4.heap [] := K0.trans K4q all0
  have ne5 : a ≠ r_4 := Nat.ne_of_lt (Nat.lt_of_lt_of_le P0.lt c4_2)
  have ne6 : ea ≠ r_4 := Nat.ne_of_lt (Nat.lt_of_lt_of_le P2.lt c4_2)
  have z7 : h0.size ≤ r_4 := Nat.le_trans K0.1 c4_2
  refine own_on st4 ?_
  show OwnGo p e below s _ _ _ (T4.setTop (mkF m 11 #[.val (.ref a)] [(.ref r_4)]))
  exact own_retA X4 hx hlk Bd.returns rfl rfl (hb hby d15_11) rfl ⟨r_4, rfl, N4, K4, c4_0, c4_1, z7⟩ (by decide) (by decide)
theorem ef_24 (m : MethodId) (a : Addr) (mm : Nat)  : entryFrame m #[(.ref a), (.int (Int32.ofNat mm))] 4 = mkF m 0 #[.val (.ref a), .val (.int (Int32.ofNat mm)), .unset, .unset] [] := by first | (simp [entryFrame, mkF, argsToLocals, Value.category]; done) | rfl
def Q24 (Z : State) (a : Addr) (mm : Nat) (ea : Addr) (cap : Nat) (es : List Addr) (mc : Int32) (dc : Addr) (mr : Addr) (h0 : Heap) (n0 : Nat) (v_ : Option Value) (h_ : Heap) (L_ : List Loc) : Prop := ∃ r : Addr, ∃ cp2 : Nat, v_ = some (.ref r) ∧ Fr n0 L_ ∧ Keep h0 h_ [a] ∧ (Exa Z h_ a "java/util/ArrayList") ∧ (Fld Z h_ a "java/util/ArrayList" "elementData" "[Ljava/lang/Object;" (.ref r)) ∧ (Fld Z h_ a "java/util/ArrayList" "size" "I" (.int (own_n es))) ∧ (Fld Z h_ a "java/util/AbstractList" "modCount" "I" (.int mc)) ∧ (OwnA Z h_ r cp2 es) ∧ (mm ≤ cp2) ∧ (n0 ≤ r) ∧ (h0.size ≤ r) ∧ (OwnE Z h_ es) ∧ (Old Z n0 h_)
set_option maxRecDepth 65536 in
set_option maxHeartbeats 40000000 in
theorem rm24 (l : Launch) (Z : State) (a0 : Array Value) (hw : ∀ d ∈ tables_1, d.before a0 Z = true) (ws : List Jvm.Cond) (a : Addr) (mm : Nat) (ea : Addr) (cap : Nat) (es : List Addr) (mc : Int32) (dc : Addr) (mr : Addr) (h0 : Heap) (n0 : Nat) (Z0 : n0 ≤ h0.size) (P0 : Exa Z h0 a "java/util/ArrayList") (P1 : Fld Z h0 a "java/util/ArrayList" "elementData" "[Ljava/lang/Object;" (.ref ea)) (P2 : Fld Z h0 a "java/util/ArrayList" "size" "I" (.int (own_n es))) (P3 : Fld Z h0 a "java/util/AbstractList" "modCount" "I" (.int mc)) (P4 : OwnA Z h0 ea cap es) (P5 : OwnE Z h0 es) (P6 : Old Z n0 h0) (P7 : Sta Z Z.heap "java/util/ArrayList" "DEFAULTCAPACITY_EMPTY_ELEMENTDATA" "[Ljava/lang/Object;" (.ref dc)) (P8 : OwnM Z "[Ljava/lang/Object;" mr) (P9 : n0 ≤ a) (P10 : cap < mm) (P11 : mm ≤ 6) :
    MetFree l (⟨"java/util/ArrayList", "grow", "(I)[Ljava/lang/Object;"⟩ : MethodName) (head1 (Jvm.Cond.code (⟨"java/util/ArrayList", "grow", "(I)[Ljava/lang/Object;"⟩ : MethodName) jdk_38_method_6_code 4 (some (.array (.object "java/lang/Object"))) :: ws) ({ frames := 3, cells := 1, slots := 10, locals := 47 } : Room)) (fun A_ U => A_ = #[(.ref a), (.int (Int32.ofNat mm))] ∧ Z.Warmed39 U.vm ∧ U.heap = h0) (fun _ _ _ _ _ => True) (fun _ U_ o_ U'_ => ∃ v_ L_, o_ = .returned v_ ∧ Q24 Z a mm ea cap es mc dc mr h0 n0 v_ U'_.heap L_ ∧ FrameEnd U_ o_ U'_ L_ ({ frames := 3, cells := 1, slots := 10, locals := 47 } : Room).cells ({ frames := 3, cells := 1, slots := 10, locals := 47 } : Room).slots) := by
  refine MetFree.of_bodySF (plainFor_of_name pn_2) hisR ?_
  intro p e s m args below meth c s₁ Bd hml0 hP hK
  obtain ⟨rfl, hZ, hh⟩ := hP
  have hx := Bd.exec
  have hby := Bd.bytes
  have hml : c.maxLocals = 4 := hml0
  have hown : s.vm.findClass "java/util/ArrayList" = some m.cls := findClass_of_methodNamed Bd.named
  have hnm := (name_of_methodNamed Bd.named Bd.method).1
  have hlk : meth.locks = false := Bd.notSynchronized
  have X0 : Stand p l e ({ frames := 3, cells := 1, slots := 10, locals := 47 } : Room) s m #[(.ref a), (.int (Int32.ofNat mm))] below meth c s₁ [] 0 0 := Stand.of_body Bd
  have e0 : s₁.heap = h0 := by rw [← hh, Bd.state]; rfl
  have N0 := Fr.nil n0
  have K0 : Keep h0 h0 [a] := Keep.refl _ _
  refine own_cast (ef_24 m a mm) ?_
  show OwnGo p e below s (Q24 Z a mm ea cap es mc dc mr h0 n0) ({ frames := 3, cells := 1, slots := 10, locals := 47 } : Room).cells ({ frames := 3, cells := 1, slots := 10, locals := 47 } : Room).slots (s₁.setTop (mkF m 0 #[.val (.ref a), .val (.int (Int32.ofNat mm)), .unset, .unset] []))
  have hl1a := P4.1
  have hl1b := P4.2.1
  refine own_on (fun t_ k_ => XS.aloadN X0.here hx rfl (hb hby d24_0) rfl rfl k_) ?_
  show OwnGo p e below s _ _ _ (s₁.setTop (mkF m 1 #[.val (.ref a), .val (.int (Int32.ofNat mm)), .unset, .unset] [(.ref a)]))
  obtain ⟨T2, X2, e2, st2⟩ := getF X0 hx hZ hown (host := "") (Or.inl (w56 hw)) Via.refl e0 P1 (g := (mkF m 1 #[.val (.ref a), .val (.int (Int32.ofNat mm)), .unset, .unset] [(.ref a)])) rfl rfl (hb hby d24_1)
  refine own_on st2 ?_
  show OwnGo p e below s _ _ _ (T2.setTop (mkF m 4 #[.val (.ref a), .val (.int (Int32.ofNat mm)), .unset, .unset] [(.ref ea)]))
  obtain ⟨A3a, A3b, A3c, kk3, cl3, Ar3, q3, S3, M3, H3, G3⟩ := id P4
  refine own_on (X2.arraylength hx (by rw [e2]; exact Ar3.1) (State.isArrayOf_alike hZ.alike Ar3.2.1) (g := (mkF m 4 #[.val (.ref a), .val (.int (Int32.ofNat mm)), .unset, .unset] [(.ref ea)])) rfl rfl (hb hby d24_4)) ?_
  rw [len_of S3 M3]
  show OwnGo p e below s _ _ _ (T2.setTop (mkF m 5 #[.val (.ref a), .val (.int (Int32.ofNat mm)), .unset, .unset] [(.int (Int32.ofNat cap))]))
  refine own_on (fun t_ k_ => XS.istoreN X2.here hx rfl (hb hby d24_5) rfl (l' := #[.val (.ref a), .val (.int (Int32.ofNat mm)), .val (.int (Int32.ofNat cap)), .unset]) rfl k_) ?_
  show OwnGo p e below s _ _ _ (T2.setTop (mkF m 6 #[.val (.ref a), .val (.int (Int32.ofNat mm)), .val (.int (Int32.ofNat cap)), .unset] []))
  refine own_on (fun t_ k_ => XS.iloadN X2.here hx rfl (hb hby d24_6) rfl k_) ?_
  show OwnGo p e below s _ _ _ (T2.setTop (mkF m 7 #[.val (.ref a), .val (.int (Int32.ofNat mm)), .val (.int (Int32.ofNat cap)), .unset] [(.int (Int32.ofNat cap))]))
  by_cases q0 : (0 : Int32) < (Int32.ofNat cap)
  · refine own_on (fun t_ k_ => XS.ifYes X2.here hx rfl (pc0 := 7) (pc' := 20) rfl (hb hby d24_7) rfl ((if0 _ _).trans (tlt q0).2.2.1) (by decide) (by decide) k_) ?_
    show OwnGo p e below s _ _ _ (T2.setTop (mkF m 20 #[.val (.ref a), .val (.int (Int32.ofNat mm)), .val (.int (Int32.ofNat cap)), .unset] []))
    refine own_on (fun t_ k_ => XS.iloadN X2.here hx rfl (hb hby d24_20) rfl k_) ?_
    show OwnGo p e below s _ _ _ (T2.setTop (mkF m 21 #[.val (.ref a), .val (.int (Int32.ofNat mm)), .val (.int (Int32.ofNat cap)), .unset] [(.int (Int32.ofNat cap))]))
    refine own_on (fun t_ k_ => XS.iloadN X2.here hx rfl (hb hby d24_21) rfl k_) ?_
    show OwnGo p e below s _ _ _ (T2.setTop (mkF m 22 #[.val (.ref a), .val (.int (Int32.ofNat mm)), .val (.int (Int32.ofNat cap)), .unset] [(.int (Int32.ofNat mm)), (.int (Int32.ofNat cap))]))
    refine own_on (fun t_ k_ => XS.iloadN X2.here hx rfl (hb hby d24_22) rfl k_) ?_
    show OwnGo p e below s _ _ _ (T2.setTop (mkF m 23 #[.val (.ref a), .val (.int (Int32.ofNat mm)), .val (.int (Int32.ofNat cap)), .unset] [(.int (Int32.ofNat cap)), (.int (Int32.ofNat mm)), (.int (Int32.ofNat cap))]))
    refine own_on (fun t_ k_ => XS.isub X2.here hx rfl (hb hby d24_23) rfl k_) ?_
    show OwnGo p e below s _ _ _ (T2.setTop (mkF m 24 #[.val (.ref a), .val (.int (Int32.ofNat mm)), .val (.int (Int32.ofNat cap)), .unset] [(.int ((Int32.ofNat mm) - (Int32.ofNat cap))), (.int (Int32.ofNat cap))]))
    rw [show ((Int32.ofNat mm) - (Int32.ofNat cap)) = (Int32.ofNat (mm - cap)) from own_sub' (by omega) (by omega)]
    show OwnGo p e below s _ _ _ (T2.setTop (mkF m 24 #[.val (.ref a), .val (.int (Int32.ofNat mm)), .val (.int (Int32.ofNat cap)), .unset] [(.int (Int32.ofNat (mm - cap))), (.int (Int32.ofNat cap))]))
    refine own_on (fun t_ k_ => XS.iloadN X2.here hx rfl (hb hby d24_24) rfl k_) ?_
    show OwnGo p e below s _ _ _ (T2.setTop (mkF m 25 #[.val (.ref a), .val (.int (Int32.ofNat mm)), .val (.int (Int32.ofNat cap)), .unset] [(.int (Int32.ofNat cap)), (.int (Int32.ofNat (mm - cap))), (.int (Int32.ofNat cap))]))
    refine own_on (fun t_ k_ => XS.iconst X2.here hx rfl (hb hby d24_25) k_) ?_
    show OwnGo p e below s _ _ _ (T2.setTop (mkF m 26 #[.val (.ref a), .val (.int (Int32.ofNat mm)), .val (.int (Int32.ofNat cap)), .unset] [(.int (1 : Int32)), (.int (Int32.ofNat cap)), (.int (Int32.ofNat (mm - cap))), (.int (Int32.ofNat cap))]))
    refine own_on (fun t_ k_ => XS.ishr X2.here hx rfl (hb hby d24_26) rfl k_) ?_
    show OwnGo p e below s _ _ _ (T2.setTop (mkF m 27 #[.val (.ref a), .val (.int (Int32.ofNat mm)), .val (.int (Int32.ofNat cap)), .unset] [(.int ((Int32.ofNat cap) >>> ((1 : Int32) &&& 31))), (.int (Int32.ofNat (mm - cap))), (.int (Int32.ofNat cap))]))
    rw [show ((Int32.ofNat cap) >>> ((1 : Int32) &&& 31)) = (Int32.ofNat (cap / 2)) from own_shr1 _ (by omega)]
    show OwnGo p e below s _ _ _ (T2.setTop (mkF m 27 #[.val (.ref a), .val (.int (Int32.ofNat mm)), .val (.int (Int32.ofNat cap)), .unset] [(.int (Int32.ofNat (cap / 2))), (.int (Int32.ofNat (mm - cap))), (.int (Int32.ofNat cap))]))
    obtain ⟨_, _, ⟨T4, L4, k4, n4⟩, -, X4, ⟨Lc4, hQ4, l4, y4, z4⟩, st4⟩ := Jvm.LawKit.callS X2 hx (y := (⟨"jdk/internal/util/ArraysSupport", "newLength", "(III)I"⟩ : MethodName)) hown (mvT hZ (w198 hw)) (mvT hZ (w199 hw)) (mvT hZ (w200 hw)) (mvT hZ (w201 hw)) (by decide) (backOf (W := 0) (rm31 l Z a0 hw [] cap (mm - cap) (cap / 2) h0 n0 Z0 (by omega : cap ≤ 10) (by omega : (mm - cap) ≤ 10) (by omega : (cap / 2) ≤ 10) (by omega : 0 < (mm - cap))) hZ (w201 hw) (w200 hw) (by decide) (by decide)) (g := (mkF m 27 #[.val (.ref a), .val (.int (Int32.ofNat mm)), .val (.int (Int32.ofNat cap)), .unset] [(.int (Int32.ofNat (cap / 2))), (.int (Int32.ofNat (mm - cap))), (.int (Int32.ofNat cap))])) rfl (by rw [hml]; rfl) (argsL := [(.int (Int32.ofNat cap)), (.int (Int32.ofNat (mm - cap))), (.int (Int32.ofNat (cap / 2)))]) (rest := []) (lenOf pd_4 rfl) rfl (by show 2 * 0 + _ ≤ _; exact Nat.le_of_eq rfl) (hb hby d24_27) (fun _ hWx => ⟨rfl, e2, (by decide : 0 + 0 ≤ _), (by decide : 0 + 0 ≤ _)⟩)
    dsimp only [Pt.U, Pt.locs, Pt.cells, Pt.slots] at X4 l4 y4 z4 st4 hQ4
    replace X4 := own_num (c' := 0) (n' := 0) X4 l4 (y4.trans rfl) (z4.trans rfl)
    obtain ⟨rfl, N4q, e4⟩ := hQ4
    have N4 := Fr.app N0 N4q
    refine own_on st4 ?_
    show OwnGo p e below s _ _ _ (T4.setTop (mkF m 30 #[.val (.ref a), .val (.int (Int32.ofNat mm)), .val (.int (Int32.ofNat cap)), .unset] [(.int (Int32.ofNat (cap + max (mm - cap) (cap / 2))))]))
    refine own_on (fun t_ k_ => XS.istoreN X4.here hx rfl (hb hby d24_30) rfl (l' := #[.val (.ref a), .val (.int (Int32.ofNat mm)), .val (.int (Int32.ofNat cap)), .val (.int (Int32.ofNat (cap + max (mm - cap) (cap / 2))))]) rfl k_) ?_
    show OwnGo p e below s _ _ _ (T4.setTop (mkF m 31 #[.val (.ref a), .val (.int (Int32.ofNat mm)), .val (.int (Int32.ofNat cap)), .val (.int (Int32.ofNat (cap + max (mm - cap) (cap / 2))))] []))
    refine own_on (fun t_ k_ => XS.aloadN X4.here hx rfl (hb hby d24_31) rfl rfl k_) ?_
    show OwnGo p e below s _ _ _ (T4.setTop (mkF m 32 #[.val (.ref a), .val (.int (Int32.ofNat mm)), .val (.int (Int32.ofNat cap)), .val (.int (Int32.ofNat (cap + max (mm - cap) (cap / 2))))] [(.ref a)]))
    refine own_on (fun t_ k_ => XS.aloadN X4.here hx rfl (hb hby d24_32) rfl rfl k_) ?_
    show OwnGo p e below s _ _ _ (T4.setTop (mkF m 33 #[.val (.ref a), .val (.int (Int32.ofNat mm)), .val (.int (Int32.ofNat cap)), .val (.int (Int32.ofNat (cap + max (mm - cap) (cap / 2))))] [(.ref a), (.ref a)]))
    obtain ⟨T5, X5, e5, st5⟩ := getF X4 hx hZ hown (host := "") (Or.inl (w56 hw)) Via.refl e4 P1 (g := (mkF m 33 #[.val (.ref a), .val (.int (Int32.ofNat mm)), .val (.int (Int32.ofNat cap)), .val (.int (Int32.ofNat (cap + max (mm - cap) (cap / 2))))] [(.ref a), (.ref a)])) rfl rfl (hb hby d24_33)
    refine own_on st5 ?_
    show OwnGo p e below s _ _ _ (T5.setTop (mkF m 36 #[.val (.ref a), .val (.int (Int32.ofNat mm)), .val (.int (Int32.ofNat cap)), .val (.int (Int32.ofNat (cap + max (mm - cap) (cap / 2))))] [(.ref ea), (.ref a)]))
    refine own_on (fun t_ k_ => XS.iloadN X5.here hx rfl (hb hby d24_36) rfl k_) ?_
    show OwnGo p e below s _ _ _ (T5.setTop (mkF m 37 #[.val (.ref a), .val (.int (Int32.ofNat mm)), .val (.int (Int32.ofNat cap)), .val (.int (Int32.ofNat (cap + max (mm - cap) (cap / 2))))] [(.int (Int32.ofNat (cap + max (mm - cap) (cap / 2)))), (.ref ea), (.ref a)]))
    obtain ⟨_, _, ⟨T6, L6, k6, n6⟩, -, X6, ⟨Lc6, hQ6, l6, y6, z6⟩, st6⟩ := Jvm.LawKit.callS X5 hx (y := (⟨"java/util/Arrays", "copyOf", "([Ljava/lang/Object;I)[Ljava/lang/Object;"⟩ : MethodName)) hown (mvT hZ (w96 hw)) (mvT hZ (w97 hw)) (mvT hZ (w98 hw)) (mvT hZ (w99 hw)) (by decide) (backOf (W := 1) (rm16 l Z a0 hw [] ea (cap + max (mm - cap) (cap / 2)) cap es mr h0 n0 Z0 P4 P5 P8 (by omega : es.length ≤ (cap + max (mm - cap) (cap / 2))) (by omega : (cap + max (mm - cap) (cap / 2)) ≤ 10)) hZ (w99 hw) (w98 hw) (by decide) (by decide)) (g := (mkF m 37 #[.val (.ref a), .val (.int (Int32.ofNat mm)), .val (.int (Int32.ofNat cap)), .val (.int (Int32.ofNat (cap + max (mm - cap) (cap / 2))))] [(.int (Int32.ofNat (cap + max (mm - cap) (cap / 2)))), (.ref ea), (.ref a)])) rfl (by rw [hml]; rfl) (argsL := [(.ref ea), (.int (Int32.ofNat (cap + max (mm - cap) (cap / 2))))]) (rest := [(.ref a)]) (lenOf pd_3 rfl) rfl (by show 2 * 0 + _ ≤ _; exact Nat.le_of_eq rfl) (hb hby d24_37) (fun _ hWx => ⟨rfl, e5, (by decide : 0 + 1 ≤ _), (by decide : 0 + 10 ≤ _)⟩)
    dsimp only [Pt.U, Pt.locs, Pt.cells, Pt.slots] at X6 l6 y6 z6 st6 hQ6
    replace X6 := own_num (c' := 1) (n' := 10) X6 l6 (y6.trans rfl) (z6.trans rfl)
    obtain ⟨r_6, rfl, N6q, K6q, c6_0, c6_1, c6_2⟩ := hQ6
    have N6 := Fr.app N4 N6q
    have Z6 : n0 ≤ T6.heap.size := Nat.le_trans Z0 K6q.1
    have K6 : Keep h0 T6.heap [a] := K0.trans K6q all0
    have ne7 : a ≠ r_6 := Nat.ne_of_lt (Nat.lt_of_lt_of_le P0.lt c6_2)
    have ne8 : ea ≠ r_6 := Nat.ne_of_lt (Nat.lt_of_lt_of_le P4.lt c6_2)
    have z9 : h0.size ≤ r_6 := Nat.le_trans K0.1 c6_2
    refine own_on st6 ?_
    show OwnGo p e below s _ _ _ (T6.setTop (mkF m 40 #[.val (.ref a), .val (.int (Int32.ofNat mm)), .val (.int (Int32.ofNat cap)), .val (.int (Int32.ofNat (cap + max (mm - cap) (cap / 2))))] [(.ref r_6), (.ref a)]))
    refine own_on (fun t_ k_ => XS.dupX1 X6.here hx rfl (hb hby d24_40) rfl rfl rfl k_) ?_
    show OwnGo p e below s _ _ _ (T6.setTop (mkF m 41 #[.val (.ref a), .val (.int (Int32.ofNat mm)), .val (.int (Int32.ofNat cap)), .val (.int (Int32.ofNat (cap + max (mm - cap) (cap / 2))))] [(.ref r_6), (.ref a), (.ref r_6)]))
    have f10 : Fld Z T6.heap a "java/util/ArrayList" "elementData" "[Ljava/lang/Object;" (.ref ea) := P1.keep K6q nin0
    have f11 : Exa Z T6.heap a "java/util/ArrayList" := P0.keep K6q
    obtain ⟨T12, h12, X12, e12, W12, st12⟩ := putF X6 hx hZ hown (host := "") (Or.inl (w56 hw)) Via.refl rfl f10 f11 (Or.inl (w57 hw)) (w35 hw) (ty := (.array (.object "java/lang/Object"))) (by decide) rfl rfl (g := (mkF m 41 #[.val (.ref a), .val (.int (Int32.ofNat mm)), .val (.int (Int32.ofNat cap)), .val (.int (Int32.ofNat (cap + max (mm - cap) (cap / 2))))] [(.ref r_6), (.ref a), (.ref r_6)])) rfl rfl (hb hby d24_41)
    have F12 := f10.same W12
    have N12 := Fr.snoc X12 N6 P9
    have Z12 : n0 ≤ h12.size := Nat.le_trans Z6 (Keep.of_wr W12).1
    have K12 : Keep h0 h12 [a] := K6.wr W12 (Or.inl (List.mem_of_getElem? (i := 0) rfl))
    refine own_on st12 ?_
    show OwnGo p e below s _ _ _ (T12.setTop (mkF m 44 #[.val (.ref a), .val (.int (Int32.ofNat mm)), .val (.int (Int32.ofNat cap)), .val (.int (Int32.ofNat (cap + max (mm - cap) (cap / 2))))] [(.ref r_6)]))
    have f13 : Exa Z h12 a "java/util/ArrayList" := f11.wr W12
    have f14 : Fld Z T6.heap a "java/util/ArrayList" "size" "I" (.int (own_n es)) := P2.keep K6q nin0
    have f15 : Fld Z h12 a "java/util/ArrayList" "size" "I" (.int (own_n es)) := f14.other W12 (Or.inr (slot_ne (Or.inl (w95 hw)) (Or.inl (w57 hw)) (by decide) (t := .int) (t' := (.array (.object "java/lang/Object"))) (by decide) (by decide)))
    have f16 : Fld Z T6.heap a "java/util/AbstractList" "modCount" "I" (.int mc) := P3.keep K6q nin0
    have f17 : Fld Z h12 a "java/util/AbstractList" "modCount" "I" (.int mc) := f16.other W12 (Or.inr (slot_ne (Or.inl (w54 hw)) (Or.inl (w57 hw)) (by decide) (t := .int) (t' := (.array (.object "java/lang/Object"))) (by decide) (by decide)))
    have f18 : OwnA Z h12 r_6 (cap + max (mm - cap) (cap / 2)) es := c6_0.other W12 (Ne.symm ne7)
    have f19 : OwnE Z T6.heap es := P5.keep K6q 
    have f20 : OwnE Z h12 es := f19.other W12 
    have f21 : Old Z n0 T6.heap := P6.keep K6q all0
    have f22 : Old Z n0 h12 := f21.wr W12 P9
    exact own_retA X12 hx hlk Bd.returns rfl rfl (hb hby d24_44) e12 ⟨r_6, (cap + max (mm - cap) (cap / 2)), rfl, N12, K12, f13, F12, f15, f17, f18, (by omega), c6_1, z9, f20, f22⟩ (by decide) (by decide)
  · refine own_on (fun t_ k_ => XS.ifNo X2.here hx rfl (hb hby d24_7) rfl ((if0 _ _).trans (flt q0).2.2.1) k_) ?_
    show OwnGo p e below s _ _ _ (T2.setTop (mkF m 10 #[.val (.ref a), .val (.int (Int32.ofNat mm)), .val (.int (Int32.ofNat cap)), .unset] []))
    rw [show (0 : Int32) = Int32.ofNat 0 from rfl, own_lt' (by omega) (by omega)] at q0
    refine own_on (fun t_ k_ => XS.aloadN X2.here hx rfl (hb hby d24_10) rfl rfl k_) ?_
    show OwnGo p e below s _ _ _ (T2.setTop (mkF m 11 #[.val (.ref a), .val (.int (Int32.ofNat mm)), .val (.int (Int32.ofNat cap)), .unset] [(.ref a)]))
    obtain ⟨T23, X23, e23, st23⟩ := getF X2 hx hZ hown (host := "") (Or.inl (w56 hw)) Via.refl e2 P1 (g := (mkF m 11 #[.val (.ref a), .val (.int (Int32.ofNat mm)), .val (.int (Int32.ofNat cap)), .unset] [(.ref a)])) rfl rfl (hb hby d24_11)
    refine own_on st23 ?_
    show OwnGo p e below s _ _ _ (T23.setTop (mkF m 14 #[.val (.ref a), .val (.int (Int32.ofNat mm)), .val (.int (Int32.ofNat cap)), .unset] [(.ref ea)]))
    obtain ⟨T24, X24, e24, st24⟩ := getS2 X23 hx hZ hown (host := "") (Or.inl (w55 hw)) Via.refl e23 (P7.ext P6.2) (g := (mkF m 14 #[.val (.ref a), .val (.int (Int32.ofNat mm)), .val (.int (Int32.ofNat cap)), .unset] [(.ref ea)])) rfl (hb hby d24_14)
    refine own_on st24 ?_
    show OwnGo p e below s _ _ _ (T24.setTop (mkF m 17 #[.val (.ref a), .val (.int (Int32.ofNat mm)), .val (.int (Int32.ofNat cap)), .unset] [(.ref dc), (.ref ea)]))
    by_cases q1 : ea = dc
    · refine own_on (fun t_ k_ => Jvm.RoadKit.acmp (g := (mkF m 17 #[.val (.ref a), .val (.int (Int32.ofNat mm)), .val (.int (Int32.ofNat cap)), .unset] [(.ref dc), (.ref ea)])) X24 hx rfl rfl rfl (pc0 := 17) (pc' := 45) (same := true) rfl (hb hby d24_17) rfl (decide_eq_true (congrArg Value.ref q1)) (by decide) (by decide) k_) ?_
      show OwnGo p e below s _ _ _ (T24.setTop (mkF m 45 #[.val (.ref a), .val (.int (Int32.ofNat mm)), .val (.int (Int32.ofNat cap)), .unset] []))
      refine own_on (fun t_ k_ => XS.aloadN X24.here hx rfl (hb hby d24_45) rfl rfl k_) ?_
      show OwnGo p e below s _ _ _ (T24.setTop (mkF m 46 #[.val (.ref a), .val (.int (Int32.ofNat mm)), .val (.int (Int32.ofNat cap)), .unset] [(.ref a)]))
      refine own_on (fun t_ k_ => XS.bipush X24.here hx rfl (hb hby d24_46) k_) ?_
      show OwnGo p e below s _ _ _ (T24.setTop (mkF m 48 #[.val (.ref a), .val (.int (Int32.ofNat mm)), .val (.int (Int32.ofNat cap)), .unset] [(.int (10 : Int32)), (.ref a)]))
      rw [show (10 : Int32) = (Int32.ofNat 10) from rfl]
      show OwnGo p e below s _ _ _ (T24.setTop (mkF m 48 #[.val (.ref a), .val (.int (Int32.ofNat mm)), .val (.int (Int32.ofNat cap)), .unset] [(.int (Int32.ofNat 10)), (.ref a)]))
      refine own_on (fun t_ k_ => XS.iloadN X24.here hx rfl (hb hby d24_48) rfl k_) ?_
      show OwnGo p e below s _ _ _ (T24.setTop (mkF m 49 #[.val (.ref a), .val (.int (Int32.ofNat mm)), .val (.int (Int32.ofNat cap)), .unset] [(.int (Int32.ofNat mm)), (.int (Int32.ofNat 10)), (.ref a)]))
      obtain ⟨_, _, ⟨T25, L25, k25, n25⟩, -, X25, ⟨Lc25, hQ25, l25, y25, z25⟩, st25⟩ := Jvm.LawKit.callS X24 hx (y := (⟨"java/lang/Math", "max", "(II)I"⟩ : MethodName)) hown (mvT hZ (w160 hw)) (mvT hZ (w161 hw)) (mvT hZ (w114 hw)) (mvT hZ (w162 hw)) (by decide) (backOf (W := 1) (rm25 l Z a0 hw [] 10 mm h0 n0 Z0 (by omega : 10 ≤ 20) (by omega : mm ≤ 20)) hZ (w162 hw) (w114 hw) (by decide) (by decide)) (g := (mkF m 49 #[.val (.ref a), .val (.int (Int32.ofNat mm)), .val (.int (Int32.ofNat cap)), .unset] [(.int (Int32.ofNat mm)), (.int (Int32.ofNat 10)), (.ref a)])) rfl (by rw [hml]; rfl) (argsL := [(.int (Int32.ofNat 10)), (.int (Int32.ofNat mm))]) (rest := [(.ref a)]) (lenOf pd_1 rfl) rfl (by show 2 * 0 + _ ≤ _; exact Nat.le_of_eq rfl) (hb hby d24_49) (fun _ hWx => ⟨rfl, e24, (by decide : 0 + 0 ≤ _), (by decide : 0 + 0 ≤ _)⟩)
      dsimp only [Pt.U, Pt.locs, Pt.cells, Pt.slots] at X25 l25 y25 z25 st25 hQ25
      replace X25 := own_num (c' := 0) (n' := 0) X25 l25 (y25.trans rfl) (z25.trans rfl)
      obtain ⟨rfl, N25q, e25⟩ := hQ25
      have N25 := Fr.app N0 N25q
      refine own_on st25 ?_
      show OwnGo p e below s _ _ _ (T25.setTop (mkF m 52 #[.val (.ref a), .val (.int (Int32.ofNat mm)), .val (.int (Int32.ofNat cap)), .unset] [(.int (Int32.ofNat (max 10 mm))), (.ref a)]))
      obtain ⟨T26, h26, X26, e26, E26, A26, st26⟩ := own_newA (N := (max 10 mm)) X25 hx hZ hown (w163 hw) (w111 hw) e25 (g := (mkF m 52 #[.val (.ref a), .val (.int (Int32.ofNat mm)), .val (.int (Int32.ofNat cap)), .unset] [(.int (Int32.ofNat (max 10 mm))), (.ref a)])) rfl (hb hby d24_52) rfl (by omega) (by decide) (by decide)
      obtain ⟨b26, g26⟩ : ∃ z, z = h0.size := ⟨_, rfl⟩
      rw [← g26] at A26 st26
      have ne27' : a < b26 := Nat.lt_of_lt_of_le P0.lt (Nat.le_of_eq g26.symm)
      have ne27 : a ≠ b26 := Nat.ne_of_lt ne27'
      have ne28' : ea < b26 := Nat.lt_of_lt_of_le P4.lt (Nat.le_of_eq g26.symm)
      have ne28 : ea ≠ b26 := Nat.ne_of_lt ne28'
      have g29 : n0 ≤ b26 := Nat.le_trans Z0 (Nat.le_of_eq g26.symm)
      have z30 : h0.size ≤ b26 := Nat.le_trans K0.1 (Nat.le_of_eq g26.symm)
      have Z26 : n0 ≤ h26.size := Nat.le_trans Z0 E26.1
      have K26 : Keep h0 h26 [a] := K0.ext E26
      refine own_on st26 ?_
      show OwnGo p e below s _ _ _ (T26.setTop (mkF m 55 #[.val (.ref a), .val (.int (Int32.ofNat mm)), .val (.int (Int32.ofNat cap)), .unset] [(.ref b26), (.ref a)]))
      have hes : es = [] := List.length_eq_zero_iff.mp (by omega)
      have f31 : OwnA Z h26 b26 (max 10 mm) es := by rw [hes]; exact A26
      refine own_on (fun t_ k_ => XS.dupX1 X26.here hx rfl (hb hby d24_55) rfl rfl rfl k_) ?_
      show OwnGo p e below s _ _ _ (T26.setTop (mkF m 56 #[.val (.ref a), .val (.int (Int32.ofNat mm)), .val (.int (Int32.ofNat cap)), .unset] [(.ref b26), (.ref a), (.ref b26)]))
      have f32 : Fld Z h26 a "java/util/ArrayList" "elementData" "[Ljava/lang/Object;" (.ref ea) := P1.ext E26
      have f33 : Exa Z h26 a "java/util/ArrayList" := P0.ext E26
      obtain ⟨T34, h34, X34, e34, W34, st34⟩ := putF X26 hx hZ hown (host := "") (Or.inl (w56 hw)) Via.refl e26 f32 f33 (Or.inl (w57 hw)) (w35 hw) (ty := (.array (.object "java/lang/Object"))) (by decide) rfl rfl (g := (mkF m 56 #[.val (.ref a), .val (.int (Int32.ofNat mm)), .val (.int (Int32.ofNat cap)), .unset] [(.ref b26), (.ref a), (.ref b26)])) rfl rfl (hb hby d24_56)
      have F34 := f32.same W34
      have N34 := Fr.snoc X34 N25 P9
      have Z34 : n0 ≤ h34.size := Nat.le_trans Z26 (Keep.of_wr W34).1
      have K34 : Keep h0 h34 [a] := K26.wr W34 (Or.inl (List.mem_of_getElem? (i := 0) rfl))
      refine own_on st34 ?_
      show OwnGo p e below s _ _ _ (T34.setTop (mkF m 59 #[.val (.ref a), .val (.int (Int32.ofNat mm)), .val (.int (Int32.ofNat cap)), .unset] [(.ref b26)]))
      have f35 : Exa Z h34 a "java/util/ArrayList" := f33.wr W34
      have f36 : Fld Z h26 a "java/util/ArrayList" "size" "I" (.int (own_n es)) := P2.ext E26
      have f37 : Fld Z h34 a "java/util/ArrayList" "size" "I" (.int (own_n es)) := f36.other W34 (Or.inr (slot_ne (Or.inl (w95 hw)) (Or.inl (w57 hw)) (by decide) (t := .int) (t' := (.array (.object "java/lang/Object"))) (by decide) (by decide)))
      have f38 : Fld Z h26 a "java/util/AbstractList" "modCount" "I" (.int mc) := P3.ext E26
      have f39 : Fld Z h34 a "java/util/AbstractList" "modCount" "I" (.int mc) := f38.other W34 (Or.inr (slot_ne (Or.inl (w54 hw)) (Or.inl (w57 hw)) (by decide) (t := .int) (t' := (.array (.object "java/lang/Object"))) (by decide) (by decide)))
      have f40 : OwnA Z h34 b26 (max 10 mm) es := f31.other W34 (Ne.symm ne27)
      have f41 : OwnE Z h26 es := P5.ext E26
      have f42 : OwnE Z h34 es := f41.other W34 
      have f43 : Old Z n0 h26 := P6.ext E26
      have f44 : Old Z n0 h34 := f43.wr W34 P9
      exact own_retA X34 hx hlk Bd.returns rfl rfl (hb hby d24_59) e34 ⟨b26, (max 10 mm), rfl, N34, K34, f35, F34, f37, f39, f40, (by omega), g29, z30, f42, f44⟩ (by decide) (by decide)
    · refine own_on (fun t_ k_ => Jvm.RoadKit.acmp (g := (mkF m 17 #[.val (.ref a), .val (.int (Int32.ofNat mm)), .val (.int (Int32.ofNat cap)), .unset] [(.ref dc), (.ref ea)])) X24 hx rfl rfl rfl (pc0 := 17) (pc' := 20) (same := false) rfl (hb hby d24_17) rfl (decide_eq_false fun q => q1 (Value.ref.inj q)) (by decide) (by decide) k_) ?_
      show OwnGo p e below s _ _ _ (T24.setTop (mkF m 20 #[.val (.ref a), .val (.int (Int32.ofNat mm)), .val (.int (Int32.ofNat cap)), .unset] []))
      refine own_on (fun t_ k_ => XS.iloadN X24.here hx rfl (hb hby d24_20) rfl k_) ?_
      show OwnGo p e below s _ _ _ (T24.setTop (mkF m 21 #[.val (.ref a), .val (.int (Int32.ofNat mm)), .val (.int (Int32.ofNat cap)), .unset] [(.int (Int32.ofNat cap))]))
      refine own_on (fun t_ k_ => XS.iloadN X24.here hx rfl (hb hby d24_21) rfl k_) ?_
      show OwnGo p e below s _ _ _ (T24.setTop (mkF m 22 #[.val (.ref a), .val (.int (Int32.ofNat mm)), .val (.int (Int32.ofNat cap)), .unset] [(.int (Int32.ofNat mm)), (.int (Int32.ofNat cap))]))
      refine own_on (fun t_ k_ => XS.iloadN X24.here hx rfl (hb hby d24_22) rfl k_) ?_
      show OwnGo p e below s _ _ _ (T24.setTop (mkF m 23 #[.val (.ref a), .val (.int (Int32.ofNat mm)), .val (.int (Int32.ofNat cap)), .unset] [(.int (Int32.ofNat cap)), (.int (Int32.ofNat mm)), (.int (Int32.ofNat cap))]))
      refine own_on (fun t_ k_ => XS.isub X24.here hx rfl (hb hby d24_23) rfl k_) ?_
      show OwnGo p e below s _ _ _ (T24.setTop (mkF m 24 #[.val (.ref a), .val (.int (Int32.ofNat mm)), .val (.int (Int32.ofNat cap)), .unset] [(.int ((Int32.ofNat mm) - (Int32.ofNat cap))), (.int (Int32.ofNat cap))]))
      rw [show ((Int32.ofNat mm) - (Int32.ofNat cap)) = (Int32.ofNat (mm - cap)) from own_sub' (by omega) (by omega)]
      show OwnGo p e below s _ _ _ (T24.setTop (mkF m 24 #[.val (.ref a), .val (.int (Int32.ofNat mm)), .val (.int (Int32.ofNat cap)), .unset] [(.int (Int32.ofNat (mm - cap))), (.int (Int32.ofNat cap))]))
      refine own_on (fun t_ k_ => XS.iloadN X24.here hx rfl (hb hby d24_24) rfl k_) ?_
      show OwnGo p e below s _ _ _ (T24.setTop (mkF m 25 #[.val (.ref a), .val (.int (Int32.ofNat mm)), .val (.int (Int32.ofNat cap)), .unset] [(.int (Int32.ofNat cap)), (.int (Int32.ofNat (mm - cap))), (.int (Int32.ofNat cap))]))
      refine own_on (fun t_ k_ => XS.iconst X24.here hx rfl (hb hby d24_25) k_) ?_
      show OwnGo p e below s _ _ _ (T24.setTop (mkF m 26 #[.val (.ref a), .val (.int (Int32.ofNat mm)), .val (.int (Int32.ofNat cap)), .unset] [(.int (1 : Int32)), (.int (Int32.ofNat cap)), (.int (Int32.ofNat (mm - cap))), (.int (Int32.ofNat cap))]))
      refine own_on (fun t_ k_ => XS.ishr X24.here hx rfl (hb hby d24_26) rfl k_) ?_
      show OwnGo p e below s _ _ _ (T24.setTop (mkF m 27 #[.val (.ref a), .val (.int (Int32.ofNat mm)), .val (.int (Int32.ofNat cap)), .unset] [(.int ((Int32.ofNat cap) >>> ((1 : Int32) &&& 31))), (.int (Int32.ofNat (mm - cap))), (.int (Int32.ofNat cap))]))
      rw [show ((Int32.ofNat cap) >>> ((1 : Int32) &&& 31)) = (Int32.ofNat (cap / 2)) from own_shr1 _ (by omega)]
      show OwnGo p e below s _ _ _ (T24.setTop (mkF m 27 #[.val (.ref a), .val (.int (Int32.ofNat mm)), .val (.int (Int32.ofNat cap)), .unset] [(.int (Int32.ofNat (cap / 2))), (.int (Int32.ofNat (mm - cap))), (.int (Int32.ofNat cap))]))
      obtain ⟨_, _, ⟨T45, L45, k45, n45⟩, -, X45, ⟨Lc45, hQ45, l45, y45, z45⟩, st45⟩ := Jvm.LawKit.callS X24 hx (y := (⟨"jdk/internal/util/ArraysSupport", "newLength", "(III)I"⟩ : MethodName)) hown (mvT hZ (w198 hw)) (mvT hZ (w199 hw)) (mvT hZ (w200 hw)) (mvT hZ (w201 hw)) (by decide) (backOf (W := 0) (rm31 l Z a0 hw [] cap (mm - cap) (cap / 2) h0 n0 Z0 (by omega : cap ≤ 10) (by omega : (mm - cap) ≤ 10) (by omega : (cap / 2) ≤ 10) (by omega : 0 < (mm - cap))) hZ (w201 hw) (w200 hw) (by decide) (by decide)) (g := (mkF m 27 #[.val (.ref a), .val (.int (Int32.ofNat mm)), .val (.int (Int32.ofNat cap)), .unset] [(.int (Int32.ofNat (cap / 2))), (.int (Int32.ofNat (mm - cap))), (.int (Int32.ofNat cap))])) rfl (by rw [hml]; rfl) (argsL := [(.int (Int32.ofNat cap)), (.int (Int32.ofNat (mm - cap))), (.int (Int32.ofNat (cap / 2)))]) (rest := []) (lenOf pd_4 rfl) rfl (by show 2 * 0 + _ ≤ _; exact Nat.le_of_eq rfl) (hb hby d24_27) (fun _ hWx => ⟨rfl, e24, (by decide : 0 + 0 ≤ _), (by decide : 0 + 0 ≤ _)⟩)
      dsimp only [Pt.U, Pt.locs, Pt.cells, Pt.slots] at X45 l45 y45 z45 st45 hQ45
      replace X45 := own_num (c' := 0) (n' := 0) X45 l45 (y45.trans rfl) (z45.trans rfl)
      obtain ⟨rfl, N45q, e45⟩ := hQ45
      have N45 := Fr.app N0 N45q
      refine own_on st45 ?_
      show OwnGo p e below s _ _ _ (T45.setTop (mkF m 30 #[.val (.ref a), .val (.int (Int32.ofNat mm)), .val (.int (Int32.ofNat cap)), .unset] [(.int (Int32.ofNat (cap + max (mm - cap) (cap / 2))))]))
      refine own_on (fun t_ k_ => XS.istoreN X45.here hx rfl (hb hby d24_30) rfl (l' := #[.val (.ref a), .val (.int (Int32.ofNat mm)), .val (.int (Int32.ofNat cap)), .val (.int (Int32.ofNat (cap + max (mm - cap) (cap / 2))))]) rfl k_) ?_
      show OwnGo p e below s _ _ _ (T45.setTop (mkF m 31 #[.val (.ref a), .val (.int (Int32.ofNat mm)), .val (.int (Int32.ofNat cap)), .val (.int (Int32.ofNat (cap + max (mm - cap) (cap / 2))))] []))
      refine own_on (fun t_ k_ => XS.aloadN X45.here hx rfl (hb hby d24_31) rfl rfl k_) ?_
      show OwnGo p e below s _ _ _ (T45.setTop (mkF m 32 #[.val (.ref a), .val (.int (Int32.ofNat mm)), .val (.int (Int32.ofNat cap)), .val (.int (Int32.ofNat (cap + max (mm - cap) (cap / 2))))] [(.ref a)]))
      refine own_on (fun t_ k_ => XS.aloadN X45.here hx rfl (hb hby d24_32) rfl rfl k_) ?_
      show OwnGo p e below s _ _ _ (T45.setTop (mkF m 33 #[.val (.ref a), .val (.int (Int32.ofNat mm)), .val (.int (Int32.ofNat cap)), .val (.int (Int32.ofNat (cap + max (mm - cap) (cap / 2))))] [(.ref a), (.ref a)]))
      obtain ⟨T46, X46, e46, st46⟩ := getF X45 hx hZ hown (host := "") (Or.inl (w56 hw)) Via.refl e45 P1 (g := (mkF m 33 #[.val (.ref a), .val (.int (Int32.ofNat mm)), .val (.int (Int32.ofNat cap)), .val (.int (Int32.ofNat (cap + max (mm - cap) (cap / 2))))] [(.ref a), (.ref a)])) rfl rfl (hb hby d24_33)
      refine own_on st46 ?_
      show OwnGo p e below s _ _ _ (T46.setTop (mkF m 36 #[.val (.ref a), .val (.int (Int32.ofNat mm)), .val (.int (Int32.ofNat cap)), .val (.int (Int32.ofNat (cap + max (mm - cap) (cap / 2))))] [(.ref ea), (.ref a)]))
      refine own_on (fun t_ k_ => XS.iloadN X46.here hx rfl (hb hby d24_36) rfl k_) ?_
      show OwnGo p e below s _ _ _ (T46.setTop (mkF m 37 #[.val (.ref a), .val (.int (Int32.ofNat mm)), .val (.int (Int32.ofNat cap)), .val (.int (Int32.ofNat (cap + max (mm - cap) (cap / 2))))] [(.int (Int32.ofNat (cap + max (mm - cap) (cap / 2)))), (.ref ea), (.ref a)]))
      obtain ⟨_, _, ⟨T47, L47, k47, n47⟩, -, X47, ⟨Lc47, hQ47, l47, y47, z47⟩, st47⟩ := Jvm.LawKit.callS X46 hx (y := (⟨"java/util/Arrays", "copyOf", "([Ljava/lang/Object;I)[Ljava/lang/Object;"⟩ : MethodName)) hown (mvT hZ (w96 hw)) (mvT hZ (w97 hw)) (mvT hZ (w98 hw)) (mvT hZ (w99 hw)) (by decide) (backOf (W := 1) (rm16 l Z a0 hw [] ea (cap + max (mm - cap) (cap / 2)) cap es mr h0 n0 Z0 P4 P5 P8 (by omega : es.length ≤ (cap + max (mm - cap) (cap / 2))) (by omega : (cap + max (mm - cap) (cap / 2)) ≤ 10)) hZ (w99 hw) (w98 hw) (by decide) (by decide)) (g := (mkF m 37 #[.val (.ref a), .val (.int (Int32.ofNat mm)), .val (.int (Int32.ofNat cap)), .val (.int (Int32.ofNat (cap + max (mm - cap) (cap / 2))))] [(.int (Int32.ofNat (cap + max (mm - cap) (cap / 2)))), (.ref ea), (.ref a)])) rfl (by rw [hml]; rfl) (argsL := [(.ref ea), (.int (Int32.ofNat (cap + max (mm - cap) (cap / 2))))]) (rest := [(.ref a)]) (lenOf pd_3 rfl) rfl (by show 2 * 0 + _ ≤ _; exact Nat.le_of_eq rfl) (hb hby d24_37) (fun _ hWx => ⟨rfl, e46, (by decide : 0 + 1 ≤ _), (by decide : 0 + 10 ≤ _)⟩)
      dsimp only [Pt.U, Pt.locs, Pt.cells, Pt.slots] at X47 l47 y47 z47 st47 hQ47
      replace X47 := own_num (c' := 1) (n' := 10) X47 l47 (y47.trans rfl) (z47.trans rfl)
      obtain ⟨r_47, rfl, N47q, K47q, c47_0, c47_1, c47_2⟩ := hQ47
      have N47 := Fr.app N45 N47q
      have Z47 : n0 ≤ T47.heap.size := Nat.le_trans Z0 K47q.1
      have K47 : Keep h0 T47.heap [a] := K0.trans K47q all0
      have ne48 : a ≠ r_47 := Nat.ne_of_lt (Nat.lt_of_lt_of_le P0.lt c47_2)
      have ne49 : ea ≠ r_47 := Nat.ne_of_lt (Nat.lt_of_lt_of_le P4.lt c47_2)
      have z50 : h0.size ≤ r_47 := Nat.le_trans K0.1 c47_2
      refine own_on st47 ?_
      show OwnGo p e below s _ _ _ (T47.setTop (mkF m 40 #[.val (.ref a), .val (.int (Int32.ofNat mm)), .val (.int (Int32.ofNat cap)), .val (.int (Int32.ofNat (cap + max (mm - cap) (cap / 2))))] [(.ref r_47), (.ref a)]))
      refine own_on (fun t_ k_ => XS.dupX1 X47.here hx rfl (hb hby d24_40) rfl rfl rfl k_) ?_
      show OwnGo p e below s _ _ _ (T47.setTop (mkF m 41 #[.val (.ref a), .val (.int (Int32.ofNat mm)), .val (.int (Int32.ofNat cap)), .val (.int (Int32.ofNat (cap + max (mm - cap) (cap / 2))))] [(.ref r_47), (.ref a), (.ref r_47)]))
      have f51 : Fld Z T47.heap a "java/util/ArrayList" "elementData" "[Ljava/lang/Object;" (.ref ea) := P1.keep K47q nin0
      have f52 : Exa Z T47.heap a "java/util/ArrayList" := P0.keep K47q
      obtain ⟨T53, h53, X53, e53, W53, st53⟩ := putF X47 hx hZ hown (host := "") (Or.inl (w56 hw)) Via.refl rfl f51 f52 (Or.inl (w57 hw)) (w35 hw) (ty := (.array (.object "java/lang/Object"))) (by decide) rfl rfl (g := (mkF m 41 #[.val (.ref a), .val (.int (Int32.ofNat mm)), .val (.int (Int32.ofNat cap)), .val (.int (Int32.ofNat (cap + max (mm - cap) (cap / 2))))] [(.ref r_47), (.ref a), (.ref r_47)])) rfl rfl (hb hby d24_41)
      have F53 := f51.same W53
      have N53 := Fr.snoc X53 N47 P9
      have Z53 : n0 ≤ h53.size := Nat.le_trans Z47 (Keep.of_wr W53).1
      have K53 : Keep h0 h53 [a] := K47.wr W53 (Or.inl (List.mem_of_getElem? (i := 0) rfl))
      refine own_on st53 ?_
      show OwnGo p e below s _ _ _ (T53.setTop (mkF m 44 #[.val (.ref a), .val (.int (Int32.ofNat mm)), .val (.int (Int32.ofNat cap)), .val (.int (Int32.ofNat (cap + max (mm - cap) (cap / 2))))] [(.ref r_47)]))
      have f54 : Exa Z h53 a "java/util/ArrayList" := f52.wr W53
      have f55 : Fld Z T47.heap a "java/util/ArrayList" "size" "I" (.int (own_n es)) := P2.keep K47q nin0
      have f56 : Fld Z h53 a "java/util/ArrayList" "size" "I" (.int (own_n es)) := f55.other W53 (Or.inr (slot_ne (Or.inl (w95 hw)) (Or.inl (w57 hw)) (by decide) (t := .int) (t' := (.array (.object "java/lang/Object"))) (by decide) (by decide)))
      have f57 : Fld Z T47.heap a "java/util/AbstractList" "modCount" "I" (.int mc) := P3.keep K47q nin0
      have f58 : Fld Z h53 a "java/util/AbstractList" "modCount" "I" (.int mc) := f57.other W53 (Or.inr (slot_ne (Or.inl (w54 hw)) (Or.inl (w57 hw)) (by decide) (t := .int) (t' := (.array (.object "java/lang/Object"))) (by decide) (by decide)))
      have f59 : OwnA Z h53 r_47 (cap + max (mm - cap) (cap / 2)) es := c47_0.other W53 (Ne.symm ne48)
      have f60 : OwnE Z T47.heap es := P5.keep K47q 
      have f61 : OwnE Z h53 es := f60.other W53 
      have f62 : Old Z n0 T47.heap := P6.keep K47q all0
      have f63 : Old Z n0 h53 := f62.wr W53 P9
      exact own_retA X53 hx hlk Bd.returns rfl rfl (hb hby d24_44) e53 ⟨r_47, (cap + max (mm - cap) (cap / 2)), rfl, N53, K53, f54, F53, f56, f58, f59, (by omega), c47_1, z50, f61, f63⟩ (by decide) (by decide)
theorem ef_23 (m : MethodId) (a : Addr)  : entryFrame m #[(.ref a)] 1 = mkF m 0 #[.val (.ref a)] [] := by first | (simp [entryFrame, mkF, argsToLocals, Value.category]; done) | rfl
def Q23 (Z : State) (a : Addr) (ea : Addr) (cap : Nat) (es : List Addr) (mc : Int32) (dc : Addr) (mr : Addr) (h0 : Heap) (n0 : Nat) (v_ : Option Value) (h_ : Heap) (L_ : List Loc) : Prop := ∃ r : Addr, ∃ cp2 : Nat, v_ = some (.ref r) ∧ Fr n0 L_ ∧ Keep h0 h_ [a] ∧ (Exa Z h_ a "java/util/ArrayList") ∧ (Fld Z h_ a "java/util/ArrayList" "elementData" "[Ljava/lang/Object;" (.ref r)) ∧ (Fld Z h_ a "java/util/ArrayList" "size" "I" (.int (own_n es))) ∧ (Fld Z h_ a "java/util/AbstractList" "modCount" "I" (.int mc)) ∧ (OwnA Z h_ r cp2 es) ∧ (es.length + 1 ≤ cp2) ∧ (n0 ≤ r) ∧ (h0.size ≤ r) ∧ (OwnE Z h_ es) ∧ (Old Z n0 h_)
set_option maxRecDepth 65536 in
set_option maxHeartbeats 40000000 in
theorem rm23 (l : Launch) (Z : State) (a0 : Array Value) (hw : ∀ d ∈ tables_1, d.before a0 Z = true) (ws : List Jvm.Cond) (a : Addr) (ea : Addr) (cap : Nat) (es : List Addr) (mc : Int32) (dc : Addr) (mr : Addr) (h0 : Heap) (n0 : Nat) (Z0 : n0 ≤ h0.size) (P0 : Exa Z h0 a "java/util/ArrayList") (P1 : Fld Z h0 a "java/util/ArrayList" "elementData" "[Ljava/lang/Object;" (.ref ea)) (P2 : Fld Z h0 a "java/util/ArrayList" "size" "I" (.int (own_n es))) (P3 : Fld Z h0 a "java/util/AbstractList" "modCount" "I" (.int mc)) (P4 : OwnA Z h0 ea cap es) (P5 : OwnE Z h0 es) (P6 : Old Z n0 h0) (P7 : Sta Z Z.heap "java/util/ArrayList" "DEFAULTCAPACITY_EMPTY_ELEMENTDATA" "[Ljava/lang/Object;" (.ref dc)) (P8 : OwnM Z "[Ljava/lang/Object;" mr) (P9 : n0 ≤ a) (P10 : es.length = cap) (P11 : cap ≤ 5) :
    MetFree l (⟨"java/util/ArrayList", "grow", "()[Ljava/lang/Object;"⟩ : MethodName) (head1 (Jvm.Cond.code (⟨"java/util/ArrayList", "grow", "()[Ljava/lang/Object;"⟩ : MethodName) jdk_38_method_7_code 1 (some (.array (.object "java/lang/Object"))) :: ws) ({ frames := 4, cells := 1, slots := 10, locals := 62 } : Room)) (fun A_ U => A_ = #[(.ref a)] ∧ Z.Warmed39 U.vm ∧ U.heap = h0) (fun _ _ _ _ _ => True) (fun _ U_ o_ U'_ => ∃ v_ L_, o_ = .returned v_ ∧ Q23 Z a ea cap es mc dc mr h0 n0 v_ U'_.heap L_ ∧ FrameEnd U_ o_ U'_ L_ ({ frames := 4, cells := 1, slots := 10, locals := 62 } : Room).cells ({ frames := 4, cells := 1, slots := 10, locals := 62 } : Room).slots) := by
  refine MetFree.of_bodySF (plainFor_of_name pn_2) hisR ?_
  intro p e s m args below meth c s₁ Bd hml0 hP hK
  obtain ⟨rfl, hZ, hh⟩ := hP
  have hx := Bd.exec
  have hby := Bd.bytes
  have hml : c.maxLocals = 1 := hml0
  have hown : s.vm.findClass "java/util/ArrayList" = some m.cls := findClass_of_methodNamed Bd.named
  have hnm := (name_of_methodNamed Bd.named Bd.method).1
  have hlk : meth.locks = false := Bd.notSynchronized
  have X0 : Stand p l e ({ frames := 4, cells := 1, slots := 10, locals := 62 } : Room) s m #[(.ref a)] below meth c s₁ [] 0 0 := Stand.of_body Bd
  have e0 : s₁.heap = h0 := by rw [← hh, Bd.state]; rfl
  have N0 := Fr.nil n0
  have K0 : Keep h0 h0 [a] := Keep.refl _ _
  refine own_cast (ef_23 m a) ?_
  show OwnGo p e below s (Q23 Z a ea cap es mc dc mr h0 n0) ({ frames := 4, cells := 1, slots := 10, locals := 62 } : Room).cells ({ frames := 4, cells := 1, slots := 10, locals := 62 } : Room).slots (s₁.setTop (mkF m 0 #[.val (.ref a)] []))
  refine own_on (fun t_ k_ => XS.aloadN X0.here hx rfl (hb hby d23_0) rfl rfl k_) ?_
  show OwnGo p e below s _ _ _ (s₁.setTop (mkF m 1 #[.val (.ref a)] [(.ref a)]))
  refine own_on (fun t_ k_ => XS.aloadN X0.here hx rfl (hb hby d23_1) rfl rfl k_) ?_
  show OwnGo p e below s _ _ _ (s₁.setTop (mkF m 2 #[.val (.ref a)] [(.ref a), (.ref a)]))
  obtain ⟨T1, X1, e1, st1⟩ := getF X0 hx hZ hown (host := "") (Or.inl (w94 hw)) Via.refl e0 P2 (g := (mkF m 2 #[.val (.ref a)] [(.ref a), (.ref a)])) rfl rfl (hb hby d23_2)
  refine own_on st1 ?_
  show OwnGo p e below s _ _ _ (T1.setTop (mkF m 5 #[.val (.ref a)] [(.int (own_n es)), (.ref a)]))
  refine own_on (fun t_ k_ => XS.iconst X1.here hx rfl (hb hby d23_5) k_) ?_
  show OwnGo p e below s _ _ _ (T1.setTop (mkF m 6 #[.val (.ref a)] [(.int (1 : Int32)), (.int (own_n es)), (.ref a)]))
  refine own_on (fun t_ k_ => XS.iadd X1.here hx rfl (hb hby d23_6) rfl k_) ?_
  show OwnGo p e below s _ _ _ (T1.setTop (mkF m 7 #[.val (.ref a)] [(.int ((own_n es) + (1 : Int32))), (.ref a)]))
  rw [show ((own_n es) + (1 : Int32)) = (Int32.ofNat (es.length + 1)) from own_add' es.length 1]
  show OwnGo p e below s _ _ _ (T1.setTop (mkF m 7 #[.val (.ref a)] [(.int (Int32.ofNat (es.length + 1))), (.ref a)]))
  obtain ⟨cq2, q2, q2'⟩ := P0.cell
  obtain ⟨_, _, ⟨T2, L2, k2, n2⟩, -, X2, ⟨Lc2, hQ2, l2, y2, z2⟩, st2⟩ := X1.privateBack hx (y := (⟨"java/util/ArrayList", "grow", "(I)[Ljava/lang/Object;"⟩ : MethodName)) hown (mvT hZ (w155 hw)) (mvT hZ (w156 hw)) (mvT hZ (w158 hw)) (Cond.privateMethod_at (mvP hZ (w157 hw) (args := #[]))) (mvT hZ (w159 hw)) (by decide) (backOf (W := 0) (rm24 l Z a0 hw [] a (es.length + 1) ea cap es mc dc mr h0 n0 Z0 P0 P1 P2 P3 P4 P5 P6 P7 P8 P9 (by omega : cap < (es.length + 1)) (by omega : (es.length + 1) ≤ 6)) hZ (w159 hw) (w36 hw) (by decide) (by decide)) (g := (mkF m 7 #[.val (.ref a)] [(.int (Int32.ofNat (es.length + 1))), (.ref a)])) rfl (by rw [hml]; rfl) (Steps.refl _) (a := a) (by rw [e1]; exact q2) q2' (argsL := [(.int (Int32.ofNat (es.length + 1)))]) (rest := []) (lenOf pd_5 rfl) rfl (by show 2 * 0 + _ ≤ _; exact Nat.le_of_eq rfl) (hb hby d23_7) (fun _ hWx => ⟨rfl, e1, (by decide : 0 + 1 ≤ _), (by decide : 0 + 10 ≤ _)⟩)
  dsimp only [Pt.U, Pt.locs, Pt.cells, Pt.slots] at X2 l2 y2 z2 st2 hQ2
  replace X2 := own_num (c' := 1) (n' := 10) X2 l2 (y2.trans rfl) (z2.trans rfl)
  obtain ⟨r_2, cp2_2, rfl, N2q, K2q, c2_0, c2_1, c2_2, c2_3, c2_4, c2_5, c2_6, c2_7, c2_8, c2_9⟩ := hQ2
  have N2 := Fr.app N0 N2q
  have Z2 : n0 ≤ T2.heap.size := Nat.le_trans Z0 K2q.1
  have K2 : Keep h0 T2.heap [a] := K0.trans K2q (allS (P := fun x => x ∈ [a] ∨ h0.size ≤ x) (Or.inl (List.mem_of_getElem? (i := 0) rfl)) all0)
  have ne3 : a ≠ r_2 := Nat.ne_of_lt (Nat.lt_of_lt_of_le P0.lt c2_7)
  have ne4 : ea ≠ r_2 := Nat.ne_of_lt (Nat.lt_of_lt_of_le P4.lt c2_7)
  have z5 : h0.size ≤ r_2 := Nat.le_trans K0.1 c2_7
  refine own_tr st2 ?_
  show OwnGo p e below s _ _ _ (T2.setTop (mkF m 10 #[.val (.ref a)] [(.ref r_2)]))
  exact own_retA X2 hx hlk Bd.returns rfl rfl (hb hby d23_10) rfl ⟨r_2, cp2_2, rfl, N2, K2, c2_0, c2_1, c2_2, c2_3, c2_4, (by omega), c2_6, z5, c2_8, c2_9⟩ (by decide) (by decide)
theorem ef_22 (m : MethodId) (a : Addr) (x : Addr) (ea : Addr) (es : List Addr)  : entryFrame m #[(.ref a), (.ref x), (.ref ea), (.int (own_n es))] 4 = mkF m 0 #[.val (.ref a), .val (.ref x), .val (.ref ea), .val (.int (own_n es))] [] := by first | (simp [entryFrame, mkF, argsToLocals, Value.category]; done) | rfl
def Q22 (Z : State) (a : Addr) (x : Addr) (ea : Addr) (es : List Addr) (cap : Nat) (mc : Int32) (wa : Addr) (nb : Nat) (dc : Addr) (mr : Addr) (h0 : Heap) (n0 : Nat) (v_ : Option Value) (h_ : Heap) (L_ : List Loc) : Prop := ∃ ea2 : Addr, ∃ cp2 : Nat, ∃ wa2 : Addr, v_ = none ∧ Fr n0 L_ ∧ Keep h0 h_ [a, wa] ∧ (Exa Z h_ a "java/util/ArrayList") ∧ (Fld Z h_ a "java/util/ArrayList" "elementData" "[Ljava/lang/Object;" (.ref ea2)) ∧ (Fld Z h_ a "java/util/ArrayList" "size" "I" (.int (own_n (es ++ [x])))) ∧ (Fld Z h_ a "java/util/AbstractList" "modCount" "I" (.int mc)) ∧ (OwnA Z h_ ea2 cp2 (es ++ [x])) ∧ (wa2 = ea2 ∨ cp2 = 0) ∧ (n0 ≤ wa2) ∧ (nb ≤ wa2) ∧ (Old Z n0 h_) ∧ (OwnE Z h_ (es ++ [x]))
set_option maxRecDepth 65536 in
set_option maxHeartbeats 40000000 in
theorem rm22 (l : Launch) (Z : State) (a0 : Array Value) (hw : ∀ d ∈ tables_1, d.before a0 Z = true) (ws : List Jvm.Cond) (a : Addr) (x : Addr) (ea : Addr) (es : List Addr) (cap : Nat) (mc : Int32) (wa : Addr) (nb : Nat) (dc : Addr) (mr : Addr) (h0 : Heap) (n0 : Nat) (Z0 : n0 ≤ h0.size) (P0 : Exa Z h0 a "java/util/ArrayList") (P1 : Fld Z h0 a "java/util/ArrayList" "elementData" "[Ljava/lang/Object;" (.ref ea)) (P2 : Fld Z h0 a "java/util/ArrayList" "size" "I" (.int (own_n es))) (P3 : Fld Z h0 a "java/util/AbstractList" "modCount" "I" (.int mc)) (P4 : OwnA Z h0 ea cap es) (P5 : OwnE Z h0 es) (P6 : Exa Z h0 x "java/lang/String") (P7 : wa = ea ∨ cap = 0) (P8 : n0 ≤ wa) (P9 : nb ≤ wa) (P10 : nb ≤ h0.size) (P11 : Old Z n0 h0) (P12 : Sta Z Z.heap "java/util/ArrayList" "DEFAULTCAPACITY_EMPTY_ELEMENTDATA" "[Ljava/lang/Object;" (.ref dc)) (P13 : OwnM Z "[Ljava/lang/Object;" mr) (P14 : n0 ≤ a) (P15 : es.length ≤ 5) :
    MetFree l (⟨"java/util/ArrayList", "add", "(Ljava/lang/Object;[Ljava/lang/Object;I)V"⟩ : MethodName) (head1 (Jvm.Cond.code (⟨"java/util/ArrayList", "add", "(Ljava/lang/Object;[Ljava/lang/Object;I)V"⟩ : MethodName) jdk_38_method_24_code 4 none :: ws) ({ frames := 5, cells := 1, slots := 10, locals := 74 } : Room)) (fun A_ U => A_ = #[(.ref a), (.ref x), (.ref ea), (.int (own_n es))] ∧ Z.Warmed39 U.vm ∧ U.heap = h0) (fun _ _ _ _ _ => True) (fun _ U_ o_ U'_ => ∃ v_ L_, o_ = .returned v_ ∧ Q22 Z a x ea es cap mc wa nb dc mr h0 n0 v_ U'_.heap L_ ∧ FrameEnd U_ o_ U'_ L_ ({ frames := 5, cells := 1, slots := 10, locals := 74 } : Room).cells ({ frames := 5, cells := 1, slots := 10, locals := 74 } : Room).slots) := by
  refine MetFree.of_bodySF (plainFor_of_name pn_2) hisR ?_
  intro p e s m args below meth c s₁ Bd hml0 hP hK
  obtain ⟨rfl, hZ, hh⟩ := hP
  have hx := Bd.exec
  have hby := Bd.bytes
  have hml : c.maxLocals = 4 := hml0
  have hown : s.vm.findClass "java/util/ArrayList" = some m.cls := findClass_of_methodNamed Bd.named
  have hnm := (name_of_methodNamed Bd.named Bd.method).1
  have hlk : meth.locks = false := Bd.notSynchronized
  have X0 : Stand p l e ({ frames := 5, cells := 1, slots := 10, locals := 74 } : Room) s m #[(.ref a), (.ref x), (.ref ea), (.int (own_n es))] below meth c s₁ [] 0 0 := Stand.of_body Bd
  have e0 : s₁.heap = h0 := by rw [← hh, Bd.state]; rfl
  have N0 := Fr.nil n0
  have K0 : Keep h0 h0 [a, wa] := Keep.refl _ _
  refine own_cast (ef_22 m a x ea es) ?_
  show OwnGo p e below s (Q22 Z a x ea es cap mc wa nb dc mr h0 n0) ({ frames := 5, cells := 1, slots := 10, locals := 74 } : Room).cells ({ frames := 5, cells := 1, slots := 10, locals := 74 } : Room).slots (s₁.setTop (mkF m 0 #[.val (.ref a), .val (.ref x), .val (.ref ea), .val (.int (own_n es))] []))
  have hl1a := P4.1
  have hl1b := P4.2.1
  have ne2 : a ≠ ea := Exa.ne P0 P4.exa (by decide)
  refine own_on (fun t_ k_ => XS.iloadN X0.here hx rfl (hb hby d22_0) rfl k_) ?_
  show OwnGo p e below s _ _ _ (s₁.setTop (mkF m 1 #[.val (.ref a), .val (.ref x), .val (.ref ea), .val (.int (own_n es))] [(.int (own_n es))]))
  refine own_on (fun t_ k_ => XS.aloadN X0.here hx rfl (hb hby d22_1) rfl rfl k_) ?_
  show OwnGo p e below s _ _ _ (s₁.setTop (mkF m 2 #[.val (.ref a), .val (.ref x), .val (.ref ea), .val (.int (own_n es))] [(.ref ea), (.int (own_n es))]))
  obtain ⟨A3a, A3b, A3c, kk3, cl3, Ar3, q3, S3, M3, H3, G3⟩ := id P4
  refine own_on (X0.arraylength hx (by rw [e0]; exact Ar3.1) (State.isArrayOf_alike hZ.alike Ar3.2.1) (g := (mkF m 2 #[.val (.ref a), .val (.ref x), .val (.ref ea), .val (.int (own_n es))] [(.ref ea), (.int (own_n es))])) rfl rfl (hb hby d22_2)) ?_
  rw [len_of S3 M3]
  show OwnGo p e below s _ _ _ (s₁.setTop (mkF m 3 #[.val (.ref a), .val (.ref x), .val (.ref ea), .val (.int (own_n es))] [(.int (Int32.ofNat cap)), (.int (own_n es))]))
  by_cases q0 : (own_n es) = (Int32.ofNat cap)
  · refine own_on (fun t_ k_ => XS.icmpNo X0.here hx rfl (hb hby d22_3) rfl (teq q0).2 k_) ?_
    show OwnGo p e below s _ _ _ (s₁.setTop (mkF m 6 #[.val (.ref a), .val (.ref x), .val (.ref ea), .val (.int (own_n es))] []))
    have q0' : es.length = cap := (own_eq' (by omega) (by omega)).mp q0
    have hr4 : es.length = cap := q0'
    refine own_on (fun t_ k_ => XS.aloadN X0.here hx rfl (hb hby d22_6) rfl rfl k_) ?_
    show OwnGo p e below s _ _ _ (s₁.setTop (mkF m 7 #[.val (.ref a), .val (.ref x), .val (.ref ea), .val (.int (own_n es))] [(.ref a)]))
    obtain ⟨cq5, q5, q5'⟩ := P0.cell
    obtain ⟨_, _, ⟨T5, L5, k5, n5⟩, -, X5, ⟨Lc5, hQ5, l5, y5, z5⟩, st5⟩ := X0.privateBack hx (y := (⟨"java/util/ArrayList", "grow", "()[Ljava/lang/Object;"⟩ : MethodName)) hown (mvT hZ (w150 hw)) (mvT hZ (w151 hw)) (mvT hZ (w153 hw)) (Cond.privateMethod_at (mvP hZ (w152 hw) (args := #[]))) (mvT hZ (w154 hw)) (by decide) (backOf (W := 0) (rm23 l Z a0 hw [] a ea cap es mc dc mr h0 n0 Z0 P0 P1 P2 P3 P4 P5 P11 P12 P13 P14 hr4 (by omega : cap ≤ 5)) hZ (w154 hw) (w36 hw) (by decide) (by decide)) (g := (mkF m 7 #[.val (.ref a), .val (.ref x), .val (.ref ea), .val (.int (own_n es))] [(.ref a)])) rfl (by rw [hml]; rfl) (Steps.refl _) (a := a) (by rw [e0]; exact q5) q5' (argsL := []) (rest := []) (lenOf pd_6 rfl) rfl (by show 2 * 0 + _ ≤ _; exact Nat.le_of_eq rfl) (hb hby d22_7) (fun _ hWx => ⟨rfl, e0, (by decide : 0 + 1 ≤ _), (by decide : 0 + 10 ≤ _)⟩)
    dsimp only [Pt.U, Pt.locs, Pt.cells, Pt.slots] at X5 l5 y5 z5 st5 hQ5
    replace X5 := own_num (c' := 1) (n' := 10) X5 l5 (y5.trans rfl) (z5.trans rfl)
    obtain ⟨r_5, cp2_5, rfl, N5q, K5q, c5_0, c5_1, c5_2, c5_3, c5_4, c5_5, c5_6, c5_7, c5_8, c5_9⟩ := hQ5
    have N5 := Fr.app N0 N5q
    have Z5 : n0 ≤ T5.heap.size := Nat.le_trans Z0 K5q.1
    have K5 : Keep h0 T5.heap [a, wa] := K0.trans K5q (allS (P := fun x => x ∈ [a, wa] ∨ h0.size ≤ x) (Or.inl (List.mem_of_getElem? (i := 0) rfl)) all0)
    have ne6 : a ≠ r_5 := Nat.ne_of_lt (Nat.lt_of_lt_of_le P0.lt c5_7)
    have ne7 : ea ≠ r_5 := Nat.ne_of_lt (Nat.lt_of_lt_of_le P4.lt c5_7)
    have ne8 : x ≠ r_5 := Nat.ne_of_lt (Nat.lt_of_lt_of_le P6.lt c5_7)
    have z9 : h0.size ≤ r_5 := Nat.le_trans K0.1 c5_7
    refine own_tr st5 ?_
    show OwnGo p e below s _ _ _ (T5.setTop (mkF m 10 #[.val (.ref a), .val (.ref x), .val (.ref ea), .val (.int (own_n es))] [(.ref r_5)]))
    refine own_on (fun t_ k_ => XS.astoreN X5.here hx rfl (hb hby d22_10) rfl rfl (l' := #[.val (.ref a), .val (.ref x), .val (.ref r_5), .val (.int (own_n es))]) rfl k_) ?_
    show OwnGo p e below s _ _ _ (T5.setTop (mkF m 11 #[.val (.ref a), .val (.ref x), .val (.ref r_5), .val (.int (own_n es))] []))
    have hr10 : r_5 = r_5 ∨ cp2_5 = 0 := Or.inl rfl
    have hr11 : nb ≤ r_5 := Nat.le_trans P10 z9
    have hr12 : es.length < cp2_5 := by omega
    refine own_on (fun t_ k_ => XS.aloadN X5.here hx rfl (hb hby d22_11) rfl rfl k_) ?_
    show OwnGo p e below s _ _ _ (T5.setTop (mkF m 12 #[.val (.ref a), .val (.ref x), .val (.ref r_5), .val (.int (own_n es))] [(.ref r_5)]))
    refine own_on (fun t_ k_ => XS.iloadN X5.here hx rfl (hb hby d22_12) rfl k_) ?_
    show OwnGo p e below s _ _ _ (T5.setTop (mkF m 13 #[.val (.ref a), .val (.ref x), .val (.ref r_5), .val (.int (own_n es))] [(.int (own_n es)), (.ref r_5)]))
    refine own_on (fun t_ k_ => XS.aloadN X5.here hx rfl (hb hby d22_13) rfl rfl k_) ?_
    show OwnGo p e below s _ _ _ (T5.setTop (mkF m 14 #[.val (.ref a), .val (.ref x), .val (.ref r_5), .val (.int (own_n es))] [(.ref x), (.int (own_n es)), (.ref r_5)]))
    have f13 : Exa Z T5.heap x "java/lang/String" := P6.keep K5q
    obtain ⟨A14a, A14b, A14c, kk14, cl14, Ar14, q14, S14, M14, H14, G14⟩ := id c5_4
    have hlt15 : es.length < cp2_5 := by omega
    have hin14 : ¬ ((own_n es) < 0 ∨ cl14.slots.size ≤ ((own_n es)).toNatClampNeg) := inb_of S14 ⟨own_onN (by omega), (own_lt' (by omega) (by omega)).mpr hlt15⟩
    obtain ⟨T16, h16, X16, e16, W16, st16⟩ := stR X5 hx hZ rfl Ar14 (j := (own_n es)) hin14 rfl (own_sto (w111 hw) (w164 hw) c5_4 f13) (g := (mkF m 14 #[.val (.ref a), .val (.ref x), .val (.ref r_5), .val (.int (own_n es))] [(.ref x), (.int (own_n es)), (.ref r_5)])) rfl rfl (hb hby d22_14)
    have V16 : OwnA Z h16 r_5 cp2_5 (es ++ [x]) := own_setA hlt15 A14b A14c Ar14 q14 S14 M14 H14 G14 rfl W16
    have N16 := Fr.snoc X16 N5 c5_6
    have Z16 : n0 ≤ h16.size := Nat.le_trans Z5 (Keep.of_wr W16).1
    have K16 : Keep h0 h16 [a, wa] := K5.wr W16 (Or.inr z9)
    refine own_on st16 ?_
    show OwnGo p e below s _ _ _ (T16.setTop (mkF m 15 #[.val (.ref a), .val (.ref x), .val (.ref r_5), .val (.int (own_n es))] []))
    refine own_on (fun t_ k_ => XS.aloadN X16.here hx rfl (hb hby d22_15) rfl rfl k_) ?_
    show OwnGo p e below s _ _ _ (T16.setTop (mkF m 16 #[.val (.ref a), .val (.ref x), .val (.ref r_5), .val (.int (own_n es))] [(.ref a)]))
    refine own_on (fun t_ k_ => XS.iloadN X16.here hx rfl (hb hby d22_16) rfl k_) ?_
    show OwnGo p e below s _ _ _ (T16.setTop (mkF m 17 #[.val (.ref a), .val (.ref x), .val (.ref r_5), .val (.int (own_n es))] [(.int (own_n es)), (.ref a)]))
    refine own_on (fun t_ k_ => XS.iconst X16.here hx rfl (hb hby d22_17) k_) ?_
    show OwnGo p e below s _ _ _ (T16.setTop (mkF m 18 #[.val (.ref a), .val (.ref x), .val (.ref r_5), .val (.int (own_n es))] [(.int (1 : Int32)), (.int (own_n es)), (.ref a)]))
    refine own_on (fun t_ k_ => XS.iadd X16.here hx rfl (hb hby d22_18) rfl k_) ?_
    show OwnGo p e below s _ _ _ (T16.setTop (mkF m 19 #[.val (.ref a), .val (.ref x), .val (.ref r_5), .val (.int (own_n es))] [(.int ((own_n es) + (1 : Int32))), (.ref a)]))
    rw [show ((own_n es) + (1 : Int32)) = (own_n (es ++ [x])) from own_napp1 es x]
    show OwnGo p e below s _ _ _ (T16.setTop (mkF m 19 #[.val (.ref a), .val (.ref x), .val (.ref r_5), .val (.int (own_n es))] [(.int (own_n (es ++ [x]))), (.ref a)]))
    have f17 : Fld Z h16 a "java/util/ArrayList" "size" "I" (.int (own_n es)) := c5_2.other W16 (Or.inl ne6)
    have f18 : Exa Z h16 a "java/util/ArrayList" := c5_0.wr W16
    obtain ⟨T19, h19, X19, e19, W19, st19⟩ := putF X16 hx hZ hown (host := "") (Or.inl (w94 hw)) Via.refl e16 f17 f18 (Or.inl (w95 hw)) (w35 hw) (ty := .int) (by decide) rfl rfl (g := (mkF m 19 #[.val (.ref a), .val (.ref x), .val (.ref r_5), .val (.int (own_n es))] [(.int (own_n (es ++ [x]))), (.ref a)])) rfl rfl (hb hby d22_19)
    have F19 := f17.same W19
    have N19 := Fr.snoc X19 N16 P14
    have Z19 : n0 ≤ h19.size := Nat.le_trans Z16 (Keep.of_wr W19).1
    have K19 : Keep h0 h19 [a, wa] := K16.wr W19 (Or.inl (List.mem_of_getElem? (i := 0) rfl))
    refine own_on st19 ?_
    show OwnGo p e below s _ _ _ (T19.setTop (mkF m 22 #[.val (.ref a), .val (.ref x), .val (.ref r_5), .val (.int (own_n es))] []))
    have f20 : OwnE Z h16 es := c5_8.other W16 
    have f21 : OwnE Z h19 es := f20.other W19 
    have f22 : Exa Z h16 x "java/lang/String" := f13.wr W16
    have f23 : Exa Z h19 x "java/lang/String" := f22.wr W19
    have f24 : OwnE Z h19 (es ++ [x]) := f21.app (OwnE.one f23)
    have f25 : Exa Z h19 a "java/util/ArrayList" := f18.wr W19
    have f26 : Fld Z h16 a "java/util/ArrayList" "elementData" "[Ljava/lang/Object;" (.ref r_5) := c5_1.other W16 (Or.inl ne6)
    have f27 : Fld Z h19 a "java/util/ArrayList" "elementData" "[Ljava/lang/Object;" (.ref r_5) := f26.other W19 (Or.inr (slot_ne (Or.inl (w57 hw)) (Or.inl (w95 hw)) (by decide) (t := (.array (.object "java/lang/Object"))) (t' := .int) (by decide) (by decide)))
    have f28 : Fld Z h16 a "java/util/AbstractList" "modCount" "I" (.int mc) := c5_3.other W16 (Or.inl ne6)
    have f29 : Fld Z h19 a "java/util/AbstractList" "modCount" "I" (.int mc) := f28.other W19 (Or.inr (slot_ne (Or.inl (w54 hw)) (Or.inl (w95 hw)) (by decide) (t := .int) (t' := .int) (by decide) (by decide)))
    have f30 : OwnA Z h19 r_5 cp2_5 (es ++ [x]) := V16.other W19 (Ne.symm ne6)
    have f31 : Old Z n0 h16 := c5_9.wr W16 c5_6
    have f32 : Old Z n0 h19 := f31.wr W19 P14
    exact own_retV X19 hx hlk Bd.returns (hb hby d22_22) e19 ⟨r_5, cp2_5, r_5, rfl, N19, K19, f25, f27, F19, f29, f30, hr10, c5_6, hr11, f32, f24⟩ (by decide) (by decide)
  · refine own_on (fun t_ k_ => XS.icmpYes X0.here hx rfl (pc0 := 3) (pc' := 11) rfl (hb hby d22_3) rfl (feq q0).2 (by decide) (by decide) k_) ?_
    show OwnGo p e below s _ _ _ (s₁.setTop (mkF m 11 #[.val (.ref a), .val (.ref x), .val (.ref ea), .val (.int (own_n es))] []))
    have q0' : ¬ es.length = cap := fun q => q0 ((own_eq' (by omega) (by omega)).mpr q)
    have hwa : wa = ea := P7.resolve_right (by omega)
    have hmem : ea ∈ [a, wa] := by rw [← hwa]; exact List.mem_of_getElem? (i := 1) rfl
    have g33 : n0 ≤ ea := hwa ▸ P8
    refine own_on (fun t_ k_ => XS.aloadN X0.here hx rfl (hb hby d22_11) rfl rfl k_) ?_
    show OwnGo p e below s _ _ _ (s₁.setTop (mkF m 12 #[.val (.ref a), .val (.ref x), .val (.ref ea), .val (.int (own_n es))] [(.ref ea)]))
    refine own_on (fun t_ k_ => XS.iloadN X0.here hx rfl (hb hby d22_12) rfl k_) ?_
    show OwnGo p e below s _ _ _ (s₁.setTop (mkF m 13 #[.val (.ref a), .val (.ref x), .val (.ref ea), .val (.int (own_n es))] [(.int (own_n es)), (.ref ea)]))
    refine own_on (fun t_ k_ => XS.aloadN X0.here hx rfl (hb hby d22_13) rfl rfl k_) ?_
    show OwnGo p e below s _ _ _ (s₁.setTop (mkF m 14 #[.val (.ref a), .val (.ref x), .val (.ref ea), .val (.int (own_n es))] [(.ref x), (.int (own_n es)), (.ref ea)]))
    obtain ⟨A34a, A34b, A34c, kk34, cl34, Ar34, q34, S34, M34, H34, G34⟩ := id P4
    have hlt35 : es.length < cap := by omega
    have hin34 : ¬ ((own_n es) < 0 ∨ cl34.slots.size ≤ ((own_n es)).toNatClampNeg) := inb_of S34 ⟨own_onN (by omega), (own_lt' (by omega) (by omega)).mpr hlt35⟩
    obtain ⟨T36, h36, X36, e36, W36, st36⟩ := stR X0 hx hZ e0 Ar34 (j := (own_n es)) hin34 rfl (own_sto (w111 hw) (w164 hw) P4 P6) (g := (mkF m 14 #[.val (.ref a), .val (.ref x), .val (.ref ea), .val (.int (own_n es))] [(.ref x), (.int (own_n es)), (.ref ea)])) rfl rfl (hb hby d22_14)
    have V36 : OwnA Z h36 ea cap (es ++ [x]) := own_setA hlt35 A34b A34c Ar34 q34 S34 M34 H34 G34 rfl W36
    have N36 := Fr.snoc X36 N0 g33
    have Z36 : n0 ≤ h36.size := Nat.le_trans Z0 (Keep.of_wr W36).1
    have K36 : Keep h0 h36 [a, wa] := K0.wr W36 (Or.inl hmem)
    refine own_on st36 ?_
    show OwnGo p e below s _ _ _ (T36.setTop (mkF m 15 #[.val (.ref a), .val (.ref x), .val (.ref ea), .val (.int (own_n es))] []))
    refine own_on (fun t_ k_ => XS.aloadN X36.here hx rfl (hb hby d22_15) rfl rfl k_) ?_
    show OwnGo p e below s _ _ _ (T36.setTop (mkF m 16 #[.val (.ref a), .val (.ref x), .val (.ref ea), .val (.int (own_n es))] [(.ref a)]))
    refine own_on (fun t_ k_ => XS.iloadN X36.here hx rfl (hb hby d22_16) rfl k_) ?_
    show OwnGo p e below s _ _ _ (T36.setTop (mkF m 17 #[.val (.ref a), .val (.ref x), .val (.ref ea), .val (.int (own_n es))] [(.int (own_n es)), (.ref a)]))
    refine own_on (fun t_ k_ => XS.iconst X36.here hx rfl (hb hby d22_17) k_) ?_
    show OwnGo p e below s _ _ _ (T36.setTop (mkF m 18 #[.val (.ref a), .val (.ref x), .val (.ref ea), .val (.int (own_n es))] [(.int (1 : Int32)), (.int (own_n es)), (.ref a)]))
    refine own_on (fun t_ k_ => XS.iadd X36.here hx rfl (hb hby d22_18) rfl k_) ?_
    show OwnGo p e below s _ _ _ (T36.setTop (mkF m 19 #[.val (.ref a), .val (.ref x), .val (.ref ea), .val (.int (own_n es))] [(.int ((own_n es) + (1 : Int32))), (.ref a)]))
    rw [show ((own_n es) + (1 : Int32)) = (own_n (es ++ [x])) from own_napp1 es x]
    show OwnGo p e below s _ _ _ (T36.setTop (mkF m 19 #[.val (.ref a), .val (.ref x), .val (.ref ea), .val (.int (own_n es))] [(.int (own_n (es ++ [x]))), (.ref a)]))
    have f37 : Fld Z h36 a "java/util/ArrayList" "size" "I" (.int (own_n es)) := P2.other W36 (Or.inl ne2)
    have f38 : Exa Z h36 a "java/util/ArrayList" := P0.wr W36
    obtain ⟨T39, h39, X39, e39, W39, st39⟩ := putF X36 hx hZ hown (host := "") (Or.inl (w94 hw)) Via.refl e36 f37 f38 (Or.inl (w95 hw)) (w35 hw) (ty := .int) (by decide) rfl rfl (g := (mkF m 19 #[.val (.ref a), .val (.ref x), .val (.ref ea), .val (.int (own_n es))] [(.int (own_n (es ++ [x]))), (.ref a)])) rfl rfl (hb hby d22_19)
    have F39 := f37.same W39
    have N39 := Fr.snoc X39 N36 P14
    have Z39 : n0 ≤ h39.size := Nat.le_trans Z36 (Keep.of_wr W39).1
    have K39 : Keep h0 h39 [a, wa] := K36.wr W39 (Or.inl (List.mem_of_getElem? (i := 0) rfl))
    refine own_on st39 ?_
    show OwnGo p e below s _ _ _ (T39.setTop (mkF m 22 #[.val (.ref a), .val (.ref x), .val (.ref ea), .val (.int (own_n es))] []))
    have f40 : OwnE Z h36 es := P5.other W36 
    have f41 : OwnE Z h39 es := f40.other W39 
    have f42 : Exa Z h36 x "java/lang/String" := P6.wr W36
    have f43 : Exa Z h39 x "java/lang/String" := f42.wr W39
    have f44 : OwnE Z h39 (es ++ [x]) := f41.app (OwnE.one f43)
    have f45 : Exa Z h39 a "java/util/ArrayList" := f38.wr W39
    have f46 : Fld Z h36 a "java/util/ArrayList" "elementData" "[Ljava/lang/Object;" (.ref ea) := P1.other W36 (Or.inl ne2)
    have f47 : Fld Z h39 a "java/util/ArrayList" "elementData" "[Ljava/lang/Object;" (.ref ea) := f46.other W39 (Or.inr (slot_ne (Or.inl (w57 hw)) (Or.inl (w95 hw)) (by decide) (t := (.array (.object "java/lang/Object"))) (t' := .int) (by decide) (by decide)))
    have f48 : Fld Z h36 a "java/util/AbstractList" "modCount" "I" (.int mc) := P3.other W36 (Or.inl ne2)
    have f49 : Fld Z h39 a "java/util/AbstractList" "modCount" "I" (.int mc) := f48.other W39 (Or.inr (slot_ne (Or.inl (w54 hw)) (Or.inl (w95 hw)) (by decide) (t := .int) (t' := .int) (by decide) (by decide)))
    have f50 : OwnA Z h39 ea cap (es ++ [x]) := V36.other W39 (Ne.symm ne2)
    have f51 : Old Z n0 h36 := P11.wr W36 g33
    have f52 : Old Z n0 h39 := f51.wr W39 P14
    exact own_retV X39 hx hlk Bd.returns (hb hby d22_22) e39 ⟨ea, cap, wa, rfl, N39, K39, f45, f47, F39, f49, f50, P7, P8, P9, f52, f44⟩ (by decide) (by decide)
theorem ef_21 (m : MethodId) (a : Addr) (x : Addr)  : entryFrame m #[(.ref a), (.ref x)] 2 = mkF m 0 #[.val (.ref a), .val (.ref x)] [] := by first | (simp [entryFrame, mkF, argsToLocals, Value.category]; done) | rfl
def Q21 (Z : State) (a : Addr) (x : Addr) (ea : Addr) (cap : Nat) (es : List Addr) (mc : Int32) (wa : Addr) (nb : Nat) (dc : Addr) (mr : Addr) (h0 : Heap) (n0 : Nat) (v_ : Option Value) (h_ : Heap) (L_ : List Loc) : Prop := ∃ ea2 : Addr, ∃ cp2 : Nat, ∃ wa2 : Addr, v_ = some (.int (1 : Int32)) ∧ Fr n0 L_ ∧ Keep h0 h_ [a, wa] ∧ (Exa Z h_ a "java/util/ArrayList") ∧ (Fld Z h_ a "java/util/ArrayList" "elementData" "[Ljava/lang/Object;" (.ref ea2)) ∧ (Fld Z h_ a "java/util/ArrayList" "size" "I" (.int (own_n (es ++ [x])))) ∧ (Fld Z h_ a "java/util/AbstractList" "modCount" "I" (.int (mc + (1 : Int32)))) ∧ (OwnA Z h_ ea2 cp2 (es ++ [x])) ∧ (wa2 = ea2 ∨ cp2 = 0) ∧ (n0 ≤ wa2) ∧ (nb ≤ wa2) ∧ (Old Z n0 h_) ∧ (OwnE Z h_ (es ++ [x]))
set_option maxRecDepth 65536 in
set_option maxHeartbeats 40000000 in
theorem rm21 (l : Launch) (Z : State) (a0 : Array Value) (hw : ∀ d ∈ tables_1, d.before a0 Z = true) (ws : List Jvm.Cond) (a : Addr) (x : Addr) (ea : Addr) (cap : Nat) (es : List Addr) (mc : Int32) (wa : Addr) (nb : Nat) (dc : Addr) (mr : Addr) (h0 : Heap) (n0 : Nat) (Z0 : n0 ≤ h0.size) (P0 : Exa Z h0 a "java/util/ArrayList") (P1 : Fld Z h0 a "java/util/ArrayList" "elementData" "[Ljava/lang/Object;" (.ref ea)) (P2 : Fld Z h0 a "java/util/ArrayList" "size" "I" (.int (own_n es))) (P3 : Fld Z h0 a "java/util/AbstractList" "modCount" "I" (.int mc)) (P4 : OwnA Z h0 ea cap es) (P5 : OwnE Z h0 es) (P6 : Exa Z h0 x "java/lang/String") (P7 : wa = ea ∨ cap = 0) (P8 : n0 ≤ wa) (P9 : nb ≤ wa) (P10 : nb ≤ h0.size) (P11 : Old Z n0 h0) (P12 : Sta Z Z.heap "java/util/ArrayList" "DEFAULTCAPACITY_EMPTY_ELEMENTDATA" "[Ljava/lang/Object;" (.ref dc)) (P13 : OwnM Z "[Ljava/lang/Object;" mr) (P14 : n0 ≤ a) (P15 : es.length ≤ 5) :
    MetFree l (⟨"java/util/ArrayList", "add", "(Ljava/lang/Object;)Z"⟩ : MethodName) (head1 (Jvm.Cond.code (⟨"java/util/ArrayList", "add", "(Ljava/lang/Object;)Z"⟩ : MethodName) jdk_38_method_25_code 2 (some .boolean) :: ws) ({ frames := 6, cells := 1, slots := 10, locals := 89 } : Room)) (fun A_ U => A_ = #[(.ref a), (.ref x)] ∧ Z.Warmed39 U.vm ∧ U.heap = h0) (fun _ _ _ _ _ => True) (fun _ U_ o_ U'_ => ∃ v_ L_, o_ = .returned v_ ∧ Q21 Z a x ea cap es mc wa nb dc mr h0 n0 v_ U'_.heap L_ ∧ FrameEnd U_ o_ U'_ L_ ({ frames := 6, cells := 1, slots := 10, locals := 89 } : Room).cells ({ frames := 6, cells := 1, slots := 10, locals := 89 } : Room).slots) := by
  refine MetFree.of_bodySF (plainFor_of_name pn_2) hisR ?_
  intro p e s m args below meth c s₁ Bd hml0 hP hK
  obtain ⟨rfl, hZ, hh⟩ := hP
  have hx := Bd.exec
  have hby := Bd.bytes
  have hml : c.maxLocals = 2 := hml0
  have hown : s.vm.findClass "java/util/ArrayList" = some m.cls := findClass_of_methodNamed Bd.named
  have hnm := (name_of_methodNamed Bd.named Bd.method).1
  have hlk : meth.locks = false := Bd.notSynchronized
  have X0 : Stand p l e ({ frames := 6, cells := 1, slots := 10, locals := 89 } : Room) s m #[(.ref a), (.ref x)] below meth c s₁ [] 0 0 := Stand.of_body Bd
  have e0 : s₁.heap = h0 := by rw [← hh, Bd.state]; rfl
  have N0 := Fr.nil n0
  have K0 : Keep h0 h0 [a, wa] := Keep.refl _ _
  refine own_cast (ef_21 m a x) ?_
  show OwnGo p e below s (Q21 Z a x ea cap es mc wa nb dc mr h0 n0) ({ frames := 6, cells := 1, slots := 10, locals := 89 } : Room).cells ({ frames := 6, cells := 1, slots := 10, locals := 89 } : Room).slots (s₁.setTop (mkF m 0 #[.val (.ref a), .val (.ref x)] []))
  have ne1 : a ≠ ea := Exa.ne P0 P4.exa (by decide)
  refine own_on (fun t_ k_ => XS.aloadN X0.here hx rfl (hb hby d21_0) rfl rfl k_) ?_
  show OwnGo p e below s _ _ _ (s₁.setTop (mkF m 1 #[.val (.ref a), .val (.ref x)] [(.ref a)]))
  refine own_on (fun t_ k_ => XS.dup X0.here hx rfl (hb hby d21_1) rfl rfl k_) ?_
  show OwnGo p e below s _ _ _ (s₁.setTop (mkF m 2 #[.val (.ref a), .val (.ref x)] [(.ref a), (.ref a)]))
  obtain ⟨T2, X2, e2, st2⟩ := getF X0 hx hZ hown (host := "") (Or.inl (w126 hw)) (Via.of (w127 hw)) e0 P3 (g := (mkF m 2 #[.val (.ref a), .val (.ref x)] [(.ref a), (.ref a)])) rfl rfl (hb hby d21_2)
  refine own_on st2 ?_
  show OwnGo p e below s _ _ _ (T2.setTop (mkF m 5 #[.val (.ref a), .val (.ref x)] [(.int mc), (.ref a)]))
  refine own_on (fun t_ k_ => XS.iconst X2.here hx rfl (hb hby d21_5) k_) ?_
  show OwnGo p e below s _ _ _ (T2.setTop (mkF m 6 #[.val (.ref a), .val (.ref x)] [(.int (1 : Int32)), (.int mc), (.ref a)]))
  refine own_on (fun t_ k_ => XS.iadd X2.here hx rfl (hb hby d21_6) rfl k_) ?_
  show OwnGo p e below s _ _ _ (T2.setTop (mkF m 7 #[.val (.ref a), .val (.ref x)] [(.int (mc + (1 : Int32))), (.ref a)]))
  obtain ⟨T3, h3, X3, e3, W3, st3⟩ := putF X2 hx hZ hown (host := "") (Or.inl (w126 hw)) (Via.of (w127 hw)) e2 P3 P0 (Or.inl (w54 hw)) (w35 hw) (ty := .int) (by decide) rfl rfl (g := (mkF m 7 #[.val (.ref a), .val (.ref x)] [(.int (mc + (1 : Int32))), (.ref a)])) rfl rfl (hb hby d21_7)
  have F3 := P3.same W3
  have N3 := Fr.snoc X3 N0 P14
  have Z3 : n0 ≤ h3.size := Nat.le_trans Z0 (Keep.of_wr W3).1
  have K3 : Keep h0 h3 [a, wa] := K0.wr W3 (Or.inl (List.mem_of_getElem? (i := 0) rfl))
  refine own_on st3 ?_
  show OwnGo p e below s _ _ _ (T3.setTop (mkF m 10 #[.val (.ref a), .val (.ref x)] []))
  refine own_on (fun t_ k_ => XS.aloadN X3.here hx rfl (hb hby d21_10) rfl rfl k_) ?_
  show OwnGo p e below s _ _ _ (T3.setTop (mkF m 11 #[.val (.ref a), .val (.ref x)] [(.ref a)]))
  refine own_on (fun t_ k_ => XS.aloadN X3.here hx rfl (hb hby d21_11) rfl rfl k_) ?_
  show OwnGo p e below s _ _ _ (T3.setTop (mkF m 12 #[.val (.ref a), .val (.ref x)] [(.ref x), (.ref a)]))
  refine own_on (fun t_ k_ => XS.aloadN X3.here hx rfl (hb hby d21_12) rfl rfl k_) ?_
  show OwnGo p e below s _ _ _ (T3.setTop (mkF m 13 #[.val (.ref a), .val (.ref x)] [(.ref a), (.ref x), (.ref a)]))
  have f4 : Fld Z h3 a "java/util/ArrayList" "elementData" "[Ljava/lang/Object;" (.ref ea) := P1.other W3 (Or.inr (slot_ne (Or.inl (w57 hw)) (Or.inl (w54 hw)) (by decide) (t := (.array (.object "java/lang/Object"))) (t' := .int) (by decide) (by decide)))
  obtain ⟨T5, X5, e5, st5⟩ := getF X3 hx hZ hown (host := "") (Or.inl (w56 hw)) Via.refl e3 f4 (g := (mkF m 13 #[.val (.ref a), .val (.ref x)] [(.ref a), (.ref x), (.ref a)])) rfl rfl (hb hby d21_13)
  refine own_on st5 ?_
  show OwnGo p e below s _ _ _ (T5.setTop (mkF m 16 #[.val (.ref a), .val (.ref x)] [(.ref ea), (.ref x), (.ref a)]))
  refine own_on (fun t_ k_ => XS.aloadN X5.here hx rfl (hb hby d21_16) rfl rfl k_) ?_
  show OwnGo p e below s _ _ _ (T5.setTop (mkF m 17 #[.val (.ref a), .val (.ref x)] [(.ref a), (.ref ea), (.ref x), (.ref a)]))
  have f6 : Fld Z h3 a "java/util/ArrayList" "size" "I" (.int (own_n es)) := P2.other W3 (Or.inr (slot_ne (Or.inl (w95 hw)) (Or.inl (w54 hw)) (by decide) (t := .int) (t' := .int) (by decide) (by decide)))
  obtain ⟨T7, X7, e7, st7⟩ := getF X5 hx hZ hown (host := "") (Or.inl (w94 hw)) Via.refl e5 f6 (g := (mkF m 17 #[.val (.ref a), .val (.ref x)] [(.ref a), (.ref ea), (.ref x), (.ref a)])) rfl rfl (hb hby d21_17)
  refine own_on st7 ?_
  show OwnGo p e below s _ _ _ (T7.setTop (mkF m 20 #[.val (.ref a), .val (.ref x)] [(.int (own_n es)), (.ref ea), (.ref x), (.ref a)]))
  have f8 : Exa Z h3 a "java/util/ArrayList" := P0.wr W3
  have f9 : OwnA Z h3 ea cap es := P4.other W3 (Ne.symm ne1)
  have f10 : OwnE Z h3 es := P5.other W3 
  have f11 : Exa Z h3 x "java/lang/String" := P6.wr W3
  have f12 : nb ≤ h3.size := Nat.le_trans P10 (Keep.of_wr W3).1
  have f13 : Old Z n0 h3 := P11.wr W3 P14
  obtain ⟨cq14, q14, q14'⟩ := f8.cell
  obtain ⟨_, _, ⟨T14, L14, k14, n14⟩, -, X14, ⟨Lc14, hQ14, l14, y14, z14⟩, st14⟩ := X7.privateBack hx (y := (⟨"java/util/ArrayList", "add", "(Ljava/lang/Object;[Ljava/lang/Object;I)V"⟩ : MethodName)) hown (mvT hZ (w145 hw)) (mvT hZ (w146 hw)) (mvT hZ (w148 hw)) (Cond.privateMethod_at (mvP hZ (w147 hw) (args := #[]))) (mvT hZ (w149 hw)) (by decide) (backOf (W := 0) (rm22 l Z a0 hw [] a x ea es cap (mc + (1 : Int32)) wa nb dc mr h3 n0 Z3 f8 f4 f6 F3 f9 f10 f11 P7 P8 P9 f12 f13 P12 P13 P14 P15) hZ (w149 hw) (w36 hw) (by decide) (by decide)) (g := (mkF m 20 #[.val (.ref a), .val (.ref x)] [(.int (own_n es)), (.ref ea), (.ref x), (.ref a)])) rfl (by rw [hml]; rfl) (Steps.refl _) (a := a) (by rw [e7]; exact q14) q14' (argsL := [(.ref x), (.ref ea), (.int (own_n es))]) (rest := []) (lenOf pd_7 rfl) rfl (by show 2 * 0 + _ ≤ _; exact Nat.le_of_eq rfl) (hb hby d21_20) (fun _ hWx => ⟨rfl, e7, (by decide : 0 + 1 ≤ _), (by decide : 0 + 10 ≤ _)⟩)
  dsimp only [Pt.U, Pt.locs, Pt.cells, Pt.slots] at X14 l14 y14 z14 st14 hQ14
  replace X14 := own_num (c' := 1) (n' := 10) X14 l14 (y14.trans rfl) (z14.trans rfl)
  obtain ⟨ea2_14, cp2_14, wa2_14, rfl, N14q, K14q, c14_0, c14_1, c14_2, c14_3, c14_4, c14_5, c14_6, c14_7, c14_8, c14_9⟩ := hQ14
  have N14 := Fr.app N3 N14q
  have Z14 : n0 ≤ T14.heap.size := Nat.le_trans Z3 K14q.1
  have K14 : Keep h0 T14.heap [a, wa] := K3.trans K14q (allS (P := fun x => x ∈ [a, wa] ∨ h0.size ≤ x) (Or.inl (List.mem_of_getElem? (i := 0) rfl)) (allS (P := fun x => x ∈ [a, wa] ∨ h0.size ≤ x) (Or.inl (List.mem_of_getElem? (i := 1) rfl)) all0))
  refine own_tr st14 ?_
  show OwnGo p e below s _ _ _ (T14.setTop (mkF m 23 #[.val (.ref a), .val (.ref x)] []))
  refine own_on (fun t_ k_ => XS.iconst X14.here hx rfl (hb hby d21_23) k_) ?_
  show OwnGo p e below s _ _ _ (T14.setTop (mkF m 24 #[.val (.ref a), .val (.ref x)] [(.int (1 : Int32))]))
  exact own_retN X14 hx hlk (t := .boolean) Bd.returns (by simp) (hb hby d21_24) rfl ⟨ea2_14, cp2_14, wa2_14, rfl, N14, K14, c14_0, c14_1, c14_2, c14_3, c14_4, c14_5, c14_6, c14_7, c14_8, c14_9⟩ (by decide) (by decide)
theorem ef_20 (m : MethodId) (a : Addr)  : entryFrame m #[(.ref a)] 1 = mkF m 0 #[.val (.ref a)] [] := by first | (simp [entryFrame, mkF, argsToLocals, Value.category]; done) | rfl
def Q20 (Z : State) (a : Addr) (es : List Addr) (h0 : Heap) (n0 : Nat) (v_ : Option Value) (h_ : Heap) (L_ : List Loc) : Prop := v_ = some (.int (own_n es)) ∧ Fr n0 L_ ∧ h_ = h0
set_option maxRecDepth 65536 in
set_option maxHeartbeats 40000000 in
theorem rm20 (l : Launch) (Z : State) (a0 : Array Value) (hw : ∀ d ∈ tables_1, d.before a0 Z = true) (ws : List Jvm.Cond) (a : Addr) (es : List Addr) (h0 : Heap) (n0 : Nat) (Z0 : n0 ≤ h0.size) (P0 : Fld Z h0 a "java/util/ArrayList" "size" "I" (.int (own_n es))) :
    MetFree l (⟨"java/util/ArrayList", "size", "()I"⟩ : MethodName) (head1 (Jvm.Cond.code (⟨"java/util/ArrayList", "size", "()I"⟩ : MethodName) jdk_38_method_8_code 1 (some .int) :: ws) ({ frames := 0, cells := 0, slots := 0, locals := 0 } : Room)) (fun A_ U => A_ = #[(.ref a)] ∧ Z.Warmed39 U.vm ∧ U.heap = h0) (fun _ _ _ _ _ => True) (fun _ U_ o_ U'_ => ∃ v_ L_, o_ = .returned v_ ∧ Q20 Z a es h0 n0 v_ U'_.heap L_ ∧ FrameEnd U_ o_ U'_ L_ ({ frames := 0, cells := 0, slots := 0, locals := 0 } : Room).cells ({ frames := 0, cells := 0, slots := 0, locals := 0 } : Room).slots) := by
  refine MetFree.of_bodySF (plainFor_of_name pn_2) hisR ?_
  intro p e s m args below meth c s₁ Bd hml0 hP hK
  obtain ⟨rfl, hZ, hh⟩ := hP
  have hx := Bd.exec
  have hby := Bd.bytes
  have hml : c.maxLocals = 1 := hml0
  have hown : s.vm.findClass "java/util/ArrayList" = some m.cls := findClass_of_methodNamed Bd.named
  have hnm := (name_of_methodNamed Bd.named Bd.method).1
  have hlk : meth.locks = false := Bd.notSynchronized
  have X0 : Stand p l e ({ frames := 0, cells := 0, slots := 0, locals := 0 } : Room) s m #[(.ref a)] below meth c s₁ [] 0 0 := Stand.of_body Bd
  have e0 : s₁.heap = h0 := by rw [← hh, Bd.state]; rfl
  have N0 := Fr.nil n0
  have K0 : Keep h0 h0 [] := Keep.refl _ _
  refine own_cast (ef_20 m a) ?_
  show OwnGo p e below s (Q20 Z a es h0 n0) ({ frames := 0, cells := 0, slots := 0, locals := 0 } : Room).cells ({ frames := 0, cells := 0, slots := 0, locals := 0 } : Room).slots (s₁.setTop (mkF m 0 #[.val (.ref a)] []))
  refine own_on (fun t_ k_ => XS.aloadN X0.here hx rfl (hb hby d20_0) rfl rfl k_) ?_
  show OwnGo p e below s _ _ _ (s₁.setTop (mkF m 1 #[.val (.ref a)] [(.ref a)]))
  obtain ⟨T1, X1, e1, st1⟩ := getF X0 hx hZ hown (host := "") (Or.inl (w94 hw)) Via.refl e0 P0 (g := (mkF m 1 #[.val (.ref a)] [(.ref a)])) rfl rfl (hb hby d20_1)
  refine own_on st1 ?_
  show OwnGo p e below s _ _ _ (T1.setTop (mkF m 4 #[.val (.ref a)] [(.int (own_n es))]))
  exact own_retI X1 hx hlk Bd.returns (hb hby d20_4) e1 ⟨rfl, N0, rfl⟩ (by decide) (by decide)
theorem ef_14 (m : MethodId) (a : Addr) (cc : Addr)  : entryFrame m #[(.ref a), (.ref cc)] 3 = mkF m 0 #[.val (.ref a), .val (.ref cc), .unset] [] := by first | (simp [entryFrame, mkF, argsToLocals, Value.category]; done) | rfl
def Q14 (Z : State) (a : Addr) (cc : Addr) (u : Value) (u' : Value) (u'' : Value) (ec : Addr) (cap : Nat) (es : List Addr) (em : Addr) (mr : Addr) (ml : Addr) (h0 : Heap) (n0 : Nat) (v_ : Option Value) (h_ : Heap) (L_ : List Loc) : Prop := ∃ ea2 : Addr, ∃ cp2 : Nat, ∃ wa2 : Addr, v_ = none ∧ Fr n0 L_ ∧ Keep h0 h_ [a] ∧ (Exa Z h_ a "java/util/ArrayList") ∧ (Fld Z h_ a "java/util/ArrayList" "elementData" "[Ljava/lang/Object;" (.ref ea2)) ∧ (Fld Z h_ a "java/util/ArrayList" "size" "I" (.int (own_n es))) ∧ (Fld Z h_ a "java/util/AbstractList" "modCount" "I" (.int (0 : Int32))) ∧ (OwnA Z h_ ea2 cp2 es) ∧ (wa2 = ea2 ∨ cp2 = 0) ∧ (n0 ≤ wa2) ∧ (h0.size ≤ wa2) ∧ (Old Z n0 h_) ∧ (OwnE Z h_ es)
set_option maxRecDepth 65536 in
set_option maxHeartbeats 40000000 in
theorem rm14 (l : Launch) (Z : State) (a0 : Array Value) (hw : ∀ d ∈ tables_1, d.before a0 Z = true) (ws : List Jvm.Cond) (a : Addr) (cc : Addr) (u : Value) (u' : Value) (u'' : Value) (ec : Addr) (cap : Nat) (es : List Addr) (em : Addr) (mr : Addr) (ml : Addr) (h0 : Heap) (n0 : Nat) (Z0 : n0 ≤ h0.size) (P0 : Exa Z h0 a "java/util/ArrayList") (P1 : Fld Z h0 a "java/util/ArrayList" "elementData" "[Ljava/lang/Object;" u) (P2 : Fld Z h0 a "java/util/ArrayList" "size" "I" u') (P3 : Fld Z h0 a "java/util/AbstractList" "modCount" "I" u'') (P4 : n0 ≤ a) (P5 : Old Z n0 h0) (P6 : Exa Z h0 cc "java/util/ArrayList") (P7 : Fld Z h0 cc "java/util/ArrayList" "elementData" "[Ljava/lang/Object;" (.ref ec)) (P8 : Fld Z h0 cc "java/util/ArrayList" "size" "I" (.int (own_n es))) (P9 : OwnA Z h0 ec cap es) (P10 : OwnE Z h0 es) (P11 : Sta Z Z.heap "java/util/ArrayList" "EMPTY_ELEMENTDATA" "[Ljava/lang/Object;" (.ref em)) (P12 : OwnA Z Z.heap em 0 own_nil) (P13 : OwnM Z "[Ljava/lang/Object;" mr) (P14 : OwnM Z "java/util/ArrayList" ml) (P15 : cc ≠ a) :
    MetFree l (⟨"java/util/ArrayList", "<init>", "(Ljava/util/Collection;)V"⟩ : MethodName) (head1 (Jvm.Cond.code (⟨"java/util/ArrayList", "<init>", "(Ljava/util/Collection;)V"⟩ : MethodName) jdk_38_method_3_code 3 none :: ws) ({ frames := 4, cells := 1, slots := 10, locals := 58 } : Room)) (fun A_ U => A_ = #[(.ref a), (.ref cc)] ∧ Z.Warmed39 U.vm ∧ U.heap = h0) (fun _ _ _ _ _ => True) (fun _ U_ o_ U'_ => ∃ v_ L_, o_ = .returned v_ ∧ Q14 Z a cc u u' u'' ec cap es em mr ml h0 n0 v_ U'_.heap L_ ∧ FrameEnd U_ o_ U'_ L_ ({ frames := 4, cells := 1, slots := 10, locals := 58 } : Room).cells ({ frames := 4, cells := 1, slots := 10, locals := 58 } : Room).slots) := by
  refine MetFree.of_bodySF (plainFor_of_name pn_2) hisR ?_
  intro p e s m args below meth c s₁ Bd hml0 hP hK
  obtain ⟨rfl, hZ, hh⟩ := hP
  have hx := Bd.exec
  have hby := Bd.bytes
  have hml : c.maxLocals = 3 := hml0
  have hown : s.vm.findClass "java/util/ArrayList" = some m.cls := findClass_of_methodNamed Bd.named
  have hnm := (name_of_methodNamed Bd.named Bd.method).1
  have hlk : meth.locks = false := Bd.notSynchronized
  have X0 : Stand p l e ({ frames := 4, cells := 1, slots := 10, locals := 58 } : Room) s m #[(.ref a), (.ref cc)] below meth c s₁ [] 0 0 := Stand.of_body Bd
  have e0 : s₁.heap = h0 := by rw [← hh, Bd.state]; rfl
  have N0 := Fr.nil n0
  have K0 : Keep h0 h0 [a] := Keep.refl _ _
  refine own_cast (ef_14 m a cc) ?_
  show OwnGo p e below s (Q14 Z a cc u u' u'' ec cap es em mr ml h0 n0) ({ frames := 4, cells := 1, slots := 10, locals := 58 } : Room).cells ({ frames := 4, cells := 1, slots := 10, locals := 58 } : Room).slots (s₁.setTop (mkF m 0 #[.val (.ref a), .val (.ref cc), .unset] []))
  have hl1a := P9.1
  have hl1b := P9.2.1
  have ne2 : a ≠ ec := Exa.ne P0 P9.exa (by decide)
  refine own_on (fun t_ k_ => XS.aloadN X0.here hx rfl (hb hby d14_0) rfl rfl k_) ?_
  show OwnGo p e below s _ _ _ (s₁.setTop (mkF m 1 #[.val (.ref a), .val (.ref cc), .unset] [(.ref a)]))
  obtain ⟨_, _, ⟨T3, L3, k3, n3⟩, -, X3, ⟨Lc3, hQ3, l3, y3, z3⟩, st3⟩ := X0.specialBack hx (y := (⟨"java/util/AbstractList", "<init>", "()V"⟩ : MethodName)) rfl hown (mvT hZ (w40 hw)) (mvT hZ (w41 hw)) (mvT hZ (w45 hw)) (by decide) (backOf (W := 0) (rm9 l Z a0 hw [] a u u' u'' h0 n0 Z0 P0 P1 P2 P3 P4) hZ (w45 hw) (w44 hw) (by decide) (by decide)) (g := (mkF m 1 #[.val (.ref a), .val (.ref cc), .unset] [(.ref a)])) rfl (by rw [hml]; rfl) (Steps.refl _) (a := a) (argsL := []) (rest := []) (lenOf pd_0 rfl) rfl (by show 2 * 0 + _ ≤ _; exact Nat.le_of_eq rfl) (hb hby d14_1) (fun _ hWx => ⟨rfl, e0, (by decide : 0 + 0 ≤ _), (by decide : 0 + 0 ≤ _)⟩)
  dsimp only [Pt.U, Pt.locs, Pt.cells, Pt.slots] at X3 l3 y3 z3 st3 hQ3
  replace X3 := own_num (c' := 0) (n' := 0) X3 l3 (y3.trans rfl) (z3.trans rfl)
  obtain ⟨rfl, N3q, K3q, c3_0, c3_1, c3_2, c3_3⟩ := hQ3
  have N3 := Fr.app N0 N3q
  have Z3 : n0 ≤ T3.heap.size := Nat.le_trans Z0 K3q.1
  have K3 : Keep h0 T3.heap [a] := K0.trans K3q (allS (P := fun x => x ∈ [a] ∨ h0.size ≤ x) (Or.inl (List.mem_of_getElem? (i := 0) rfl)) all0)
  refine own_tr st3 ?_
  show OwnGo p e below s _ _ _ (T3.setTop (mkF m 4 #[.val (.ref a), .val (.ref cc), .unset] []))
  refine own_on (fun t_ k_ => XS.aloadN X3.here hx rfl (hb hby d14_4) rfl rfl k_) ?_
  show OwnGo p e below s _ _ _ (T3.setTop (mkF m 5 #[.val (.ref a), .val (.ref cc), .unset] [(.ref cc)]))
  have f4 : Fld Z T3.heap cc "java/util/ArrayList" "elementData" "[Ljava/lang/Object;" (.ref ec) := P7.keep K3q (ninS P15 nin0)
  have f5 : Fld Z T3.heap cc "java/util/ArrayList" "size" "I" (.int (own_n es)) := P8.keep K3q (ninS P15 nin0)
  have f6 : OwnA Z T3.heap ec cap es := P9.keep K3q (ninS (Ne.symm ne2) nin0)
  have f7 : OwnE Z T3.heap es := P10.keep K3q 
  have f8 : Exa Z T3.heap cc "java/util/ArrayList" := P6.keep K3q
  obtain ⟨cq9, kq9, q9a, q9b, q9c⟩ := isOf hZ rfl f8
  obtain ⟨_, _, ⟨T9, L9, k9, n9⟩, -, X9, ⟨Lc9, hQ9, l9, y9, z9⟩, st9⟩ := X3.interfaceBack hx (xi := (⟨"java/util/Collection", "toArray", "()[Ljava/lang/Object;"⟩ : MethodName)) (y := (⟨"java/util/ArrayList", "toArray", "()[Ljava/lang/Object;"⟩ : MethodName)) hown (mvT hZ (w85 hw)) (mvT hZ (w86 hw)) (mvT hZ (w87 hw)) (mvT hZ (w88 hw)) (mvT hZ (w89 hw)) (mvT hZ (w90 hw)) (mvT hZ (w91 hw)) (mvT hZ (w92 hw)) (by decide) (backOf (W := 0) (rm15 l Z a0 hw [] cc ec cap es mr T3.heap n0 Z3 f4 f5 f6 f7 P13) hZ (w93 hw) (w36 hw) (by decide) (by decide)) q9a q9b q9c (g := (mkF m 5 #[.val (.ref a), .val (.ref cc), .unset] [(.ref cc)])) rfl (by rw [hml]; rfl) (Steps.refl _) (argsL := []) (rest := []) (lenOf pd_6 rfl) rfl (by show 2 * 0 + _ ≤ _; exact Nat.le_of_eq rfl) (hb hby d14_5) (fun _ hWx => ⟨rfl, rfl, (by decide : 0 + 1 ≤ _), (by decide : 0 + 10 ≤ _)⟩)
  have f10 : Exa Z T3.heap a "java/util/ArrayList" := P0.keep K3q
  dsimp only [Pt.U, Pt.locs, Pt.cells, Pt.slots] at X9 l9 y9 z9 st9 hQ9
  replace X9 := own_num (c' := 1) (n' := 10) X9 l9 (y9.trans rfl) (z9.trans rfl)
  obtain ⟨r_9, rfl, N9q, K9q, c9_0, c9_1, c9_2⟩ := hQ9
  have N9 := Fr.app N3 N9q
  have Z9 : n0 ≤ T9.heap.size := Nat.le_trans Z3 K9q.1
  have K9 : Keep h0 T9.heap [a] := K3.trans K9q all0
  have ne11 : a ≠ r_9 := Nat.ne_of_lt (Nat.lt_of_lt_of_le f10.lt c9_2)
  have ne12 : cc ≠ r_9 := Nat.ne_of_lt (Nat.lt_of_lt_of_le f8.lt c9_2)
  have ne13 : ec ≠ r_9 := Nat.ne_of_lt (Nat.lt_of_lt_of_le f6.lt c9_2)
  have z14 : h0.size ≤ r_9 := Nat.le_trans K3.1 c9_2
  refine own_tr st9 ?_
  show OwnGo p e below s _ _ _ (T9.setTop (mkF m 10 #[.val (.ref a), .val (.ref cc), .unset] [(.ref r_9)]))
  refine own_on (fun t_ k_ => XS.astoreN X9.here hx rfl (hb hby d14_10) rfl rfl (l' := #[.val (.ref a), .val (.ref cc), .val (.ref r_9)]) rfl k_) ?_
  show OwnGo p e below s _ _ _ (T9.setTop (mkF m 11 #[.val (.ref a), .val (.ref cc), .val (.ref r_9)] []))
  refine own_on (fun t_ k_ => XS.aloadN X9.here hx rfl (hb hby d14_11) rfl rfl k_) ?_
  show OwnGo p e below s _ _ _ (T9.setTop (mkF m 12 #[.val (.ref a), .val (.ref cc), .val (.ref r_9)] [(.ref a)]))
  refine own_on (fun t_ k_ => XS.aloadN X9.here hx rfl (hb hby d14_12) rfl rfl k_) ?_
  show OwnGo p e below s _ _ _ (T9.setTop (mkF m 13 #[.val (.ref a), .val (.ref cc), .val (.ref r_9)] [(.ref r_9), (.ref a)]))
  obtain ⟨A15a, A15b, A15c, kk15, cl15, Ar15, q15, S15, M15, H15, G15⟩ := id c9_0
  refine own_on (X9.arraylength hx (by exact Ar15.1) (State.isArrayOf_alike hZ.alike Ar15.2.1) (g := (mkF m 13 #[.val (.ref a), .val (.ref cc), .val (.ref r_9)] [(.ref r_9), (.ref a)])) rfl rfl (hb hby d14_13)) ?_
  rw [len_of S15 M15]
  show OwnGo p e below s _ _ _ (T9.setTop (mkF m 14 #[.val (.ref a), .val (.ref cc), .val (.ref r_9)] [(.int (Int32.ofNat es.length)), (.ref a)]))
  rw [show (Int32.ofNat es.length) = (own_n es) from rfl]
  show OwnGo p e below s _ _ _ (T9.setTop (mkF m 14 #[.val (.ref a), .val (.ref cc), .val (.ref r_9)] [(.int (own_n es)), (.ref a)]))
  refine own_on (fun t_ k_ => XS.dupX1 X9.here hx rfl (hb hby d14_14) rfl rfl rfl k_) ?_
  show OwnGo p e below s _ _ _ (T9.setTop (mkF m 15 #[.val (.ref a), .val (.ref cc), .val (.ref r_9)] [(.int (own_n es)), (.ref a), (.int (own_n es))]))
  have f16 : Fld Z T9.heap a "java/util/ArrayList" "size" "I" u' := c3_2.keep K9q nin0
  have f17 : Exa Z T9.heap a "java/util/ArrayList" := c3_0.keep K9q
  obtain ⟨T18, h18, X18, e18, W18, st18⟩ := putF X9 hx hZ hown (host := "") (Or.inl (w94 hw)) Via.refl rfl f16 f17 (Or.inl (w95 hw)) (w35 hw) (ty := .int) (by decide) rfl rfl (g := (mkF m 15 #[.val (.ref a), .val (.ref cc), .val (.ref r_9)] [(.int (own_n es)), (.ref a), (.int (own_n es))])) rfl rfl (hb hby d14_15)
  have F18 := f16.same W18
  have N18 := Fr.snoc X18 N9 P4
  have Z18 : n0 ≤ h18.size := Nat.le_trans Z9 (Keep.of_wr W18).1
  have K18 : Keep h0 h18 [a] := K9.wr W18 (Or.inl (List.mem_of_getElem? (i := 0) rfl))
  refine own_on st18 ?_
  show OwnGo p e below s _ _ _ (T18.setTop (mkF m 18 #[.val (.ref a), .val (.ref cc), .val (.ref r_9)] [(.int (own_n es))]))
  by_cases q0 : (own_n es) = (0 : Int32)
  · refine own_on (fun t_ k_ => XS.ifYes X18.here hx rfl (pc0 := 18) (pc' := 57) rfl (hb hby d14_18) rfl ((if0 _ _).trans (teq q0).1) (by decide) (by decide) k_) ?_
    show OwnGo p e below s _ _ _ (T18.setTop (mkF m 57 #[.val (.ref a), .val (.ref cc), .val (.ref r_9)] []))
    have hes : es = [] := List.length_eq_zero_iff.mp ((own_eq' (by omega) (by omega)).mp (q0 : Int32.ofNat es.length = Int32.ofNat 0))
    refine own_on (fun t_ k_ => XS.aloadN X18.here hx rfl (hb hby d14_57) rfl rfl k_) ?_
    show OwnGo p e below s _ _ _ (T18.setTop (mkF m 58 #[.val (.ref a), .val (.ref cc), .val (.ref r_9)] [(.ref a)]))
    have f19 : Old Z n0 T3.heap := P5.keep K3q (allS P4 all0)
    have f20 : Old Z n0 T9.heap := f19.keep K9q all0
    have f21 : Old Z n0 h18 := f20.wr W18 P4
    obtain ⟨T22, X22, e22, st22⟩ := getS2 X18 hx hZ hown (host := "") (Or.inl (w120 hw)) Via.refl e18 (P11.ext f21.2) (g := (mkF m 58 #[.val (.ref a), .val (.ref cc), .val (.ref r_9)] [(.ref a)])) rfl (hb hby d14_58)
    refine own_on st22 ?_
    show OwnGo p e below s _ _ _ (T22.setTop (mkF m 61 #[.val (.ref a), .val (.ref cc), .val (.ref r_9)] [(.ref em), (.ref a)]))
    have f23 : Fld Z T9.heap a "java/util/ArrayList" "elementData" "[Ljava/lang/Object;" u := c3_1.keep K9q nin0
    have f24 : Fld Z h18 a "java/util/ArrayList" "elementData" "[Ljava/lang/Object;" u := f23.other W18 (Or.inr (slot_ne (Or.inl (w57 hw)) (Or.inl (w95 hw)) (by decide) (t := (.array (.object "java/lang/Object"))) (t' := .int) (by decide) (by decide)))
    have f25 : Exa Z h18 a "java/util/ArrayList" := f17.wr W18
    obtain ⟨T26, h26, X26, e26, W26, st26⟩ := putF X22 hx hZ hown (host := "") (Or.inl (w56 hw)) Via.refl e22 f24 f25 (Or.inl (w57 hw)) (w35 hw) (ty := (.array (.object "java/lang/Object"))) (by decide) rfl rfl (g := (mkF m 61 #[.val (.ref a), .val (.ref cc), .val (.ref r_9)] [(.ref em), (.ref a)])) rfl rfl (hb hby d14_61)
    have F26 := f24.same W26
    have N26 := Fr.snoc X26 N18 P4
    have Z26 : n0 ≤ h26.size := Nat.le_trans Z18 (Keep.of_wr W26).1
    have K26 : Keep h0 h26 [a] := K18.wr W26 (Or.inl (List.mem_of_getElem? (i := 0) rfl))
    refine own_on st26 ?_
    show OwnGo p e below s _ _ _ (T26.setTop (mkF m 64 #[.val (.ref a), .val (.ref cc), .val (.ref r_9)] []))
    have f27 : Old Z n0 h26 := f21.wr W26 P4
    have f28 : OwnA Z h26 em 0 own_nil := P12.ext f27.2
    have f29 : OwnA Z h26 em 0 es := by rw [hes]; exact f28
    have hr30 : r_9 = em ∨ 0 = 0 := Or.inr rfl
    have f31 : Exa Z h26 a "java/util/ArrayList" := f25.wr W26
    have f32 : Fld Z h26 a "java/util/ArrayList" "size" "I" (.int (own_n es)) := F18.other W26 (Or.inr (slot_ne (Or.inl (w95 hw)) (Or.inl (w57 hw)) (by decide) (t := .int) (t' := (.array (.object "java/lang/Object"))) (by decide) (by decide)))
    have f33 : Fld Z T9.heap a "java/util/AbstractList" "modCount" "I" (.int (0 : Int32)) := c3_3.keep K9q nin0
    have f34 : Fld Z h18 a "java/util/AbstractList" "modCount" "I" (.int (0 : Int32)) := f33.other W18 (Or.inr (slot_ne (Or.inl (w54 hw)) (Or.inl (w95 hw)) (by decide) (t := .int) (t' := .int) (by decide) (by decide)))
    have f35 : Fld Z h26 a "java/util/AbstractList" "modCount" "I" (.int (0 : Int32)) := f34.other W26 (Or.inr (slot_ne (Or.inl (w54 hw)) (Or.inl (w57 hw)) (by decide) (t := .int) (t' := (.array (.object "java/lang/Object"))) (by decide) (by decide)))
    have f36 : OwnE Z T9.heap es := f7.keep K9q 
    have f37 : OwnE Z h18 es := f36.other W18 
    have f38 : OwnE Z h26 es := f37.other W26 
    exact own_retV X26 hx hlk Bd.returns (hb hby d14_64) e26 ⟨em, 0, r_9, rfl, N26, K26, f31, F26, f32, f35, f29, hr30, c9_1, z14, f27, f38⟩ (by decide) (by decide)
  · refine own_on (fun t_ k_ => XS.ifNo X18.here hx rfl (hb hby d14_18) rfl ((if0 _ _).trans (feq q0).1) k_) ?_
    show OwnGo p e below s _ _ _ (T18.setTop (mkF m 21 #[.val (.ref a), .val (.ref cc), .val (.ref r_9)] []))
    refine own_on (fun t_ k_ => XS.aloadN X18.here hx rfl (hb hby d14_21) rfl rfl k_) ?_
    show OwnGo p e below s _ _ _ (T18.setTop (mkF m 22 #[.val (.ref a), .val (.ref cc), .val (.ref r_9)] [(.ref cc)]))
    have f39 : Exa Z T9.heap cc "java/util/ArrayList" := f8.keep K9q
    have f40 : Exa Z h18 cc "java/util/ArrayList" := f39.wr W18
    obtain ⟨T41, X41, e41, st41⟩ := own_gcI X18 hx hZ hown (w165 hw) (w101 hw) (w166 hw) (w167 hw) (w102 hw) (w168 hw) (w169 hw) (w92 hw) (w104 hw) e18 f40 P14 (g := (mkF m 22 #[.val (.ref a), .val (.ref cc), .val (.ref r_9)] [(.ref cc)])) rfl (by rw [hml]; rfl) (rest := []) rfl (hb hby d14_22) (by decide) (W := 0) (by show 2 * 0 + _ ≤ _; exact Nat.le_of_eq rfl) (by decide)
    refine own_on st41 ?_
    show OwnGo p e below s _ _ _ (T41.setTop (mkF m 27 #[.val (.ref a), .val (.ref cc), .val (.ref r_9)] [(.ref ml)]))
    obtain ⟨T42, X42, e42, st42⟩ := own_ldcM X41 hx hZ hown (w171 hw) P14 e41 (g := (mkF m 27 #[.val (.ref a), .val (.ref cc), .val (.ref r_9)] [(.ref ml)])) rfl (hb hby d14_27)
    refine own_on st42 ?_
    show OwnGo p e below s _ _ _ (T42.setTop (mkF m 29 #[.val (.ref a), .val (.ref cc), .val (.ref r_9)] [(.ref ml), (.ref ml)]))
    refine own_on (fun t_ k_ => Jvm.RoadKit.acmp (g := (mkF m 29 #[.val (.ref a), .val (.ref cc), .val (.ref r_9)] [(.ref ml), (.ref ml)])) X42 hx rfl rfl rfl (pc0 := 29) (pc' := 32) (same := true) rfl (hb hby d14_29) rfl (decide_eq_true rfl) (by decide) (by decide) k_) ?_
    show OwnGo p e below s _ _ _ (T42.setTop (mkF m 32 #[.val (.ref a), .val (.ref cc), .val (.ref r_9)] []))
    refine own_on (fun t_ k_ => XS.aloadN X42.here hx rfl (hb hby d14_32) rfl rfl k_) ?_
    show OwnGo p e below s _ _ _ (T42.setTop (mkF m 33 #[.val (.ref a), .val (.ref cc), .val (.ref r_9)] [(.ref a)]))
    refine own_on (fun t_ k_ => XS.aloadN X42.here hx rfl (hb hby d14_33) rfl rfl k_) ?_
    show OwnGo p e below s _ _ _ (T42.setTop (mkF m 34 #[.val (.ref a), .val (.ref cc), .val (.ref r_9)] [(.ref r_9), (.ref a)]))
    have f43 : Fld Z T9.heap a "java/util/ArrayList" "elementData" "[Ljava/lang/Object;" u := c3_1.keep K9q nin0
    have f44 : Fld Z h18 a "java/util/ArrayList" "elementData" "[Ljava/lang/Object;" u := f43.other W18 (Or.inr (slot_ne (Or.inl (w57 hw)) (Or.inl (w95 hw)) (by decide) (t := (.array (.object "java/lang/Object"))) (t' := .int) (by decide) (by decide)))
    have f45 : Exa Z h18 a "java/util/ArrayList" := f17.wr W18
    obtain ⟨T46, h46, X46, e46, W46, st46⟩ := putF X42 hx hZ hown (host := "") (Or.inl (w56 hw)) Via.refl e42 f44 f45 (Or.inl (w57 hw)) (w35 hw) (ty := (.array (.object "java/lang/Object"))) (by decide) rfl rfl (g := (mkF m 34 #[.val (.ref a), .val (.ref cc), .val (.ref r_9)] [(.ref r_9), (.ref a)])) rfl rfl (hb hby d14_34)
    have F46 := f44.same W46
    have N46 := Fr.snoc X46 N18 P4
    have Z46 : n0 ≤ h46.size := Nat.le_trans Z18 (Keep.of_wr W46).1
    have K46 : Keep h0 h46 [a] := K18.wr W46 (Or.inl (List.mem_of_getElem? (i := 0) rfl))
    refine own_on st46 ?_
    show OwnGo p e below s _ _ _ (T46.setTop (mkF m 37 #[.val (.ref a), .val (.ref cc), .val (.ref r_9)] []))
    refine own_on (fun t_ k_ => XS.goto X46.here hx rfl (pc0 := 37) (pc' := 64) rfl (hb hby d14_37) (by decide) (by decide) k_) ?_
    show OwnGo p e below s _ _ _ (T46.setTop (mkF m 64 #[.val (.ref a), .val (.ref cc), .val (.ref r_9)] []))
    have hr47 : r_9 = r_9 ∨ es.length = 0 := Or.inl rfl
    have f48 : Exa Z h46 a "java/util/ArrayList" := f45.wr W46
    have f49 : Fld Z h46 a "java/util/ArrayList" "size" "I" (.int (own_n es)) := F18.other W46 (Or.inr (slot_ne (Or.inl (w95 hw)) (Or.inl (w57 hw)) (by decide) (t := .int) (t' := (.array (.object "java/lang/Object"))) (by decide) (by decide)))
    have f50 : Fld Z T9.heap a "java/util/AbstractList" "modCount" "I" (.int (0 : Int32)) := c3_3.keep K9q nin0
    have f51 : Fld Z h18 a "java/util/AbstractList" "modCount" "I" (.int (0 : Int32)) := f50.other W18 (Or.inr (slot_ne (Or.inl (w54 hw)) (Or.inl (w95 hw)) (by decide) (t := .int) (t' := .int) (by decide) (by decide)))
    have f52 : Fld Z h46 a "java/util/AbstractList" "modCount" "I" (.int (0 : Int32)) := f51.other W46 (Or.inr (slot_ne (Or.inl (w54 hw)) (Or.inl (w57 hw)) (by decide) (t := .int) (t' := (.array (.object "java/lang/Object"))) (by decide) (by decide)))
    have f53 : OwnA Z h18 r_9 es.length es := c9_0.other W18 (Ne.symm ne11)
    have f54 : OwnA Z h46 r_9 es.length es := f53.other W46 (Ne.symm ne11)
    have f55 : Old Z n0 T3.heap := P5.keep K3q (allS P4 all0)
    have f56 : Old Z n0 T9.heap := f55.keep K9q all0
    have f57 : Old Z n0 h18 := f56.wr W18 P4
    have f58 : Old Z n0 h46 := f57.wr W46 P4
    have f59 : OwnE Z T9.heap es := f7.keep K9q 
    have f60 : OwnE Z h18 es := f59.other W18 
    have f61 : OwnE Z h46 es := f60.other W46 
    exact own_retV X46 hx hlk Bd.returns (hb hby d14_64) e46 ⟨r_9, es.length, r_9, rfl, N46, K46, f48, F46, f49, f52, f54, hr47, c9_1, z14, f58, f61⟩ (by decide) (by decide)
theorem ef_19 (m : MethodId) (a : Addr) (cc : Addr)  : entryFrame m #[(.ref a), (.ref cc)] 6 = mkF m 0 #[.val (.ref a), .val (.ref cc), .unset, .unset, .unset, .unset] [] := by first | (simp [entryFrame, mkF, argsToLocals, Value.category]; done) | rfl
def Q19 (Z : State) (a : Addr) (cc : Addr) (ea : Addr) (cap : Nat) (es : List Addr) (mc : Int32) (wa : Addr) (nb : Nat) (dc : Addr) (mr : Addr) (ec : Addr) (cpc : Nat) (fs : List Addr) (h0 : Heap) (n0 : Nat) (v_ : Option Value) (h_ : Heap) (L_ : List Loc) : Prop := ∃ ea2 : Addr, ∃ cp2 : Nat, ∃ wa2 : Addr, ∃ rr : Int32, v_ = some (.int rr) ∧ Fr n0 L_ ∧ Keep h0 h_ [a, wa] ∧ (Exa Z h_ a "java/util/ArrayList") ∧ (Fld Z h_ a "java/util/ArrayList" "elementData" "[Ljava/lang/Object;" (.ref ea2)) ∧ (Fld Z h_ a "java/util/ArrayList" "size" "I" (.int (own_n (es ++ fs)))) ∧ (Fld Z h_ a "java/util/AbstractList" "modCount" "I" (.int (mc + (1 : Int32)))) ∧ (OwnA Z h_ ea2 cp2 (es ++ fs)) ∧ (wa2 = ea2 ∨ cp2 = 0) ∧ (n0 ≤ wa2) ∧ (nb ≤ wa2) ∧ (Old Z n0 h_) ∧ (OwnE Z h_ (es ++ fs))
set_option maxRecDepth 65536 in
set_option maxHeartbeats 40000000 in
theorem rm19 (l : Launch) (Z : State) (a0 : Array Value) (hw : ∀ d ∈ tables_1, d.before a0 Z = true) (ws : List Jvm.Cond) (a : Addr) (cc : Addr) (ea : Addr) (cap : Nat) (es : List Addr) (mc : Int32) (wa : Addr) (nb : Nat) (dc : Addr) (mr : Addr) (ec : Addr) (cpc : Nat) (fs : List Addr) (h0 : Heap) (n0 : Nat) (Z0 : n0 ≤ h0.size) (P0 : Exa Z h0 a "java/util/ArrayList") (P1 : Fld Z h0 a "java/util/ArrayList" "elementData" "[Ljava/lang/Object;" (.ref ea)) (P2 : Fld Z h0 a "java/util/ArrayList" "size" "I" (.int (own_n es))) (P3 : Fld Z h0 a "java/util/AbstractList" "modCount" "I" (.int mc)) (P4 : OwnA Z h0 ea cap es) (P5 : OwnE Z h0 es) (P6 : wa = ea ∨ cap = 0) (P7 : n0 ≤ wa) (P8 : nb ≤ wa) (P9 : nb ≤ h0.size) (P10 : Old Z n0 h0) (P11 : Sta Z Z.heap "java/util/ArrayList" "DEFAULTCAPACITY_EMPTY_ELEMENTDATA" "[Ljava/lang/Object;" (.ref dc)) (P12 : OwnM Z "[Ljava/lang/Object;" mr) (P13 : n0 ≤ a) (P14 : Exa Z h0 cc "java/util/ArrayList") (P15 : Fld Z h0 cc "java/util/ArrayList" "elementData" "[Ljava/lang/Object;" (.ref ec)) (P16 : Fld Z h0 cc "java/util/ArrayList" "size" "I" (.int (own_n fs))) (P17 : OwnA Z h0 ec cpc fs) (P18 : OwnE Z h0 fs) (P19 : es.length + fs.length ≤ 6) :
    MetFree l (⟨"java/util/ArrayList", "addAll", "(Ljava/util/Collection;)Z"⟩ : MethodName) (head1 (Jvm.Cond.code (⟨"java/util/ArrayList", "addAll", "(Ljava/util/Collection;)Z"⟩ : MethodName) jdk_38_method_41_code 6 (some .boolean) :: ws) ({ frames := 4, cells := 2, slots := 20, locals := 62 } : Room)) (fun A_ U => A_ = #[(.ref a), (.ref cc)] ∧ Z.Warmed39 U.vm ∧ U.heap = h0) (fun _ _ _ _ _ => True) (fun _ U_ o_ U'_ => ∃ v_ L_, o_ = .returned v_ ∧ Q19 Z a cc ea cap es mc wa nb dc mr ec cpc fs h0 n0 v_ U'_.heap L_ ∧ FrameEnd U_ o_ U'_ L_ ({ frames := 4, cells := 2, slots := 20, locals := 62 } : Room).cells ({ frames := 4, cells := 2, slots := 20, locals := 62 } : Room).slots) := by
  refine MetFree.of_bodySF (plainFor_of_name pn_2) hisR ?_
  intro p e s m args below meth c s₁ Bd hml0 hP hK
  obtain ⟨rfl, hZ, hh⟩ := hP
  have hx := Bd.exec
  have hby := Bd.bytes
  have hml : c.maxLocals = 6 := hml0
  have hown : s.vm.findClass "java/util/ArrayList" = some m.cls := findClass_of_methodNamed Bd.named
  have hnm := (name_of_methodNamed Bd.named Bd.method).1
  have hlk : meth.locks = false := Bd.notSynchronized
  have X0 : Stand p l e ({ frames := 4, cells := 2, slots := 20, locals := 62 } : Room) s m #[(.ref a), (.ref cc)] below meth c s₁ [] 0 0 := Stand.of_body Bd
  have e0 : s₁.heap = h0 := by rw [← hh, Bd.state]; rfl
  have N0 := Fr.nil n0
  have K0 : Keep h0 h0 [a, wa] := Keep.refl _ _
  refine own_cast (ef_19 m a cc) ?_
  show OwnGo p e below s (Q19 Z a cc ea cap es mc wa nb dc mr ec cpc fs h0 n0) ({ frames := 4, cells := 2, slots := 20, locals := 62 } : Room).cells ({ frames := 4, cells := 2, slots := 20, locals := 62 } : Room).slots (s₁.setTop (mkF m 0 #[.val (.ref a), .val (.ref cc), .unset, .unset, .unset, .unset] []))
  have hl1a := P4.1
  have hl1b := P4.2.1
  have hl2a := P17.1
  have hl2b := P17.2.1
  have ne3 : a ≠ ea := Exa.ne P0 P4.exa (by decide)
  refine own_on (fun t_ k_ => XS.aloadN X0.here hx rfl (hb hby d19_0) rfl rfl k_) ?_
  show OwnGo p e below s _ _ _ (s₁.setTop (mkF m 1 #[.val (.ref a), .val (.ref cc), .unset, .unset, .unset, .unset] [(.ref cc)]))
  obtain ⟨cq4, kq4, q4a, q4b, q4c⟩ := isOf hZ e0 P14
  obtain ⟨_, _, ⟨T4, L4, k4, n4⟩, -, X4, ⟨Lc4, hQ4, l4, y4, z4⟩, st4⟩ := X0.interfaceBack hx (xi := (⟨"java/util/Collection", "toArray", "()[Ljava/lang/Object;"⟩ : MethodName)) (y := (⟨"java/util/ArrayList", "toArray", "()[Ljava/lang/Object;"⟩ : MethodName)) hown (mvT hZ (w85 hw)) (mvT hZ (w86 hw)) (mvT hZ (w87 hw)) (mvT hZ (w88 hw)) (mvT hZ (w89 hw)) (mvT hZ (w90 hw)) (mvT hZ (w91 hw)) (mvT hZ (w92 hw)) (by decide) (backOf (W := 0) (rm15 l Z a0 hw [] cc ec cpc fs mr h0 n0 Z0 P15 P16 P17 P18 P12) hZ (w93 hw) (w36 hw) (by decide) (by decide)) q4a q4b q4c (g := (mkF m 1 #[.val (.ref a), .val (.ref cc), .unset, .unset, .unset, .unset] [(.ref cc)])) rfl (by rw [hml]; rfl) (Steps.refl _) (argsL := []) (rest := []) (lenOf pd_6 rfl) rfl (by show 2 * 0 + _ ≤ _; exact Nat.le_of_eq rfl) (hb hby d19_1) (fun _ hWx => ⟨rfl, e0, (by decide : 0 + 1 ≤ _), (by decide : 0 + 10 ≤ _)⟩)
  dsimp only [Pt.U, Pt.locs, Pt.cells, Pt.slots] at X4 l4 y4 z4 st4 hQ4
  replace X4 := own_num (c' := 1) (n' := 10) X4 l4 (y4.trans rfl) (z4.trans rfl)
  obtain ⟨r_4, rfl, N4q, K4q, c4_0, c4_1, c4_2⟩ := hQ4
  have N4 := Fr.app N0 N4q
  have Z4 : n0 ≤ T4.heap.size := Nat.le_trans Z0 K4q.1
  have K4 : Keep h0 T4.heap [a, wa] := K0.trans K4q all0
  have ne5 : a ≠ r_4 := Nat.ne_of_lt (Nat.lt_of_lt_of_le P0.lt c4_2)
  have ne6 : ea ≠ r_4 := Nat.ne_of_lt (Nat.lt_of_lt_of_le P4.lt c4_2)
  have ne7 : cc ≠ r_4 := Nat.ne_of_lt (Nat.lt_of_lt_of_le P14.lt c4_2)
  have ne8 : ec ≠ r_4 := Nat.ne_of_lt (Nat.lt_of_lt_of_le P17.lt c4_2)
  have z9 : h0.size ≤ r_4 := Nat.le_trans K0.1 c4_2
  refine own_tr st4 ?_
  show OwnGo p e below s _ _ _ (T4.setTop (mkF m 6 #[.val (.ref a), .val (.ref cc), .unset, .unset, .unset, .unset] [(.ref r_4)]))
  refine own_on (fun t_ k_ => XS.astoreN X4.here hx rfl (hb hby d19_6) rfl rfl (l' := #[.val (.ref a), .val (.ref cc), .val (.ref r_4), .unset, .unset, .unset]) rfl k_) ?_
  show OwnGo p e below s _ _ _ (T4.setTop (mkF m 7 #[.val (.ref a), .val (.ref cc), .val (.ref r_4), .unset, .unset, .unset] []))
  refine own_on (fun t_ k_ => XS.aloadN X4.here hx rfl (hb hby d19_7) rfl rfl k_) ?_
  show OwnGo p e below s _ _ _ (T4.setTop (mkF m 8 #[.val (.ref a), .val (.ref cc), .val (.ref r_4), .unset, .unset, .unset] [(.ref a)]))
  refine own_on (fun t_ k_ => XS.dup X4.here hx rfl (hb hby d19_8) rfl rfl k_) ?_
  show OwnGo p e below s _ _ _ (T4.setTop (mkF m 9 #[.val (.ref a), .val (.ref cc), .val (.ref r_4), .unset, .unset, .unset] [(.ref a), (.ref a)]))
  have f10 : Fld Z T4.heap a "java/util/AbstractList" "modCount" "I" (.int mc) := P3.keep K4q nin0
  obtain ⟨T11, X11, e11, st11⟩ := getF X4 hx hZ hown (host := "") (Or.inl (w126 hw)) (Via.of (w127 hw)) rfl f10 (g := (mkF m 9 #[.val (.ref a), .val (.ref cc), .val (.ref r_4), .unset, .unset, .unset] [(.ref a), (.ref a)])) rfl rfl (hb hby d19_9)
  refine own_on st11 ?_
  show OwnGo p e below s _ _ _ (T11.setTop (mkF m 12 #[.val (.ref a), .val (.ref cc), .val (.ref r_4), .unset, .unset, .unset] [(.int mc), (.ref a)]))
  refine own_on (fun t_ k_ => XS.iconst X11.here hx rfl (hb hby d19_12) k_) ?_
  show OwnGo p e below s _ _ _ (T11.setTop (mkF m 13 #[.val (.ref a), .val (.ref cc), .val (.ref r_4), .unset, .unset, .unset] [(.int (1 : Int32)), (.int mc), (.ref a)]))
  refine own_on (fun t_ k_ => XS.iadd X11.here hx rfl (hb hby d19_13) rfl k_) ?_
  show OwnGo p e below s _ _ _ (T11.setTop (mkF m 14 #[.val (.ref a), .val (.ref cc), .val (.ref r_4), .unset, .unset, .unset] [(.int (mc + (1 : Int32))), (.ref a)]))
  have f12 : Exa Z T4.heap a "java/util/ArrayList" := P0.keep K4q
  obtain ⟨T13, h13, X13, e13, W13, st13⟩ := putF X11 hx hZ hown (host := "") (Or.inl (w126 hw)) (Via.of (w127 hw)) e11 f10 f12 (Or.inl (w54 hw)) (w35 hw) (ty := .int) (by decide) rfl rfl (g := (mkF m 14 #[.val (.ref a), .val (.ref cc), .val (.ref r_4), .unset, .unset, .unset] [(.int (mc + (1 : Int32))), (.ref a)])) rfl rfl (hb hby d19_14)
  have F13 := f10.same W13
  have N13 := Fr.snoc X13 N4 P13
  have Z13 : n0 ≤ h13.size := Nat.le_trans Z4 (Keep.of_wr W13).1
  have K13 : Keep h0 h13 [a, wa] := K4.wr W13 (Or.inl (List.mem_of_getElem? (i := 0) rfl))
  refine own_on st13 ?_
  show OwnGo p e below s _ _ _ (T13.setTop (mkF m 17 #[.val (.ref a), .val (.ref cc), .val (.ref r_4), .unset, .unset, .unset] []))
  refine own_on (fun t_ k_ => XS.aloadN X13.here hx rfl (hb hby d19_17) rfl rfl k_) ?_
  show OwnGo p e below s _ _ _ (T13.setTop (mkF m 18 #[.val (.ref a), .val (.ref cc), .val (.ref r_4), .unset, .unset, .unset] [(.ref r_4)]))
  have f14 : OwnA Z h13 r_4 fs.length fs := c4_0.other W13 (Ne.symm ne5)
  obtain ⟨A15a, A15b, A15c, kk15, cl15, Ar15, q15, S15, M15, H15, G15⟩ := id f14
  refine own_on (X13.arraylength hx (by rw [e13]; exact Ar15.1) (State.isArrayOf_alike hZ.alike Ar15.2.1) (g := (mkF m 18 #[.val (.ref a), .val (.ref cc), .val (.ref r_4), .unset, .unset, .unset] [(.ref r_4)])) rfl rfl (hb hby d19_18)) ?_
  rw [len_of S15 M15]
  show OwnGo p e below s _ _ _ (T13.setTop (mkF m 19 #[.val (.ref a), .val (.ref cc), .val (.ref r_4), .unset, .unset, .unset] [(.int (Int32.ofNat fs.length))]))
  refine own_on (fun t_ k_ => XS.istoreN X13.here hx rfl (hb hby d19_19) rfl (l' := #[.val (.ref a), .val (.ref cc), .val (.ref r_4), .val (.int (Int32.ofNat fs.length)), .unset, .unset]) rfl k_) ?_
  show OwnGo p e below s _ _ _ (T13.setTop (mkF m 20 #[.val (.ref a), .val (.ref cc), .val (.ref r_4), .val (.int (Int32.ofNat fs.length)), .unset, .unset] []))
  refine own_on (fun t_ k_ => XS.iloadN X13.here hx rfl (hb hby d19_20) rfl k_) ?_
  show OwnGo p e below s _ _ _ (T13.setTop (mkF m 21 #[.val (.ref a), .val (.ref cc), .val (.ref r_4), .val (.int (Int32.ofNat fs.length)), .unset, .unset] [(.int (Int32.ofNat fs.length))]))
  by_cases q0 : (Int32.ofNat fs.length) = (0 : Int32)
  · refine own_on (fun t_ k_ => XS.ifNo X13.here hx rfl (hb hby d19_21) rfl ((if0 _ _).trans (teq q0).2) k_) ?_
    show OwnGo p e below s _ _ _ (T13.setTop (mkF m 24 #[.val (.ref a), .val (.ref cc), .val (.ref r_4), .val (.int (Int32.ofNat fs.length)), .unset, .unset] []))
    have hfs : fs = [] := List.length_eq_zero_iff.mp ((own_eq' (by omega) (by omega)).mp (q0 : Int32.ofNat fs.length = Int32.ofNat 0))
    have hap : es ++ fs = es := by rw [hfs, List.append_nil]
    refine own_on (fun t_ k_ => XS.iconst X13.here hx rfl (hb hby d19_24) k_) ?_
    show OwnGo p e below s _ _ _ (T13.setTop (mkF m 25 #[.val (.ref a), .val (.ref cc), .val (.ref r_4), .val (.int (Int32.ofNat fs.length)), .unset, .unset] [(.int (0 : Int32))]))
    have f16 : OwnA Z T4.heap ea cap es := P4.keep K4q nin0
    have f17 : OwnA Z h13 ea cap es := f16.other W13 (Ne.symm ne3)
    have f18 : OwnA Z h13 ea cap (es ++ fs) := by rw [hap]; exact f17
    have f19 : Fld Z T4.heap a "java/util/ArrayList" "size" "I" (.int (own_n es)) := P2.keep K4q nin0
    have f20 : Fld Z h13 a "java/util/ArrayList" "size" "I" (.int (own_n es)) := f19.other W13 (Or.inr (slot_ne (Or.inl (w95 hw)) (Or.inl (w54 hw)) (by decide) (t := .int) (t' := .int) (by decide) (by decide)))
    have f21 : Fld Z h13 a "java/util/ArrayList" "size" "I" (.int (own_n (es ++ fs))) := by rw [hap]; exact f20
    have f22 : OwnE Z T4.heap es := P5.keep K4q 
    have f23 : OwnE Z h13 es := f22.other W13 
    have f24 : OwnE Z T4.heap fs := P18.keep K4q 
    have f25 : OwnE Z h13 fs := f24.other W13 
    have f26 : OwnE Z h13 (es ++ fs) := f23.app f25
    have f27 : Exa Z h13 a "java/util/ArrayList" := f12.wr W13
    have f28 : Fld Z T4.heap a "java/util/ArrayList" "elementData" "[Ljava/lang/Object;" (.ref ea) := P1.keep K4q nin0
    have f29 : Fld Z h13 a "java/util/ArrayList" "elementData" "[Ljava/lang/Object;" (.ref ea) := f28.other W13 (Or.inr (slot_ne (Or.inl (w57 hw)) (Or.inl (w54 hw)) (by decide) (t := (.array (.object "java/lang/Object"))) (t' := .int) (by decide) (by decide)))
    have f30 : Old Z n0 T4.heap := P10.keep K4q all0
    have f31 : Old Z n0 h13 := f30.wr W13 P13
    exact own_retN X13 hx hlk (t := .boolean) Bd.returns (by simp) (hb hby d19_25) e13 ⟨ea, cap, wa, (0 : Int32), rfl, N13, K13, f27, f29, f21, F13, f18, P6, P7, P8, f31, f26⟩ (by decide) (by decide)
  · refine own_on (fun t_ k_ => XS.ifYes X13.here hx rfl (pc0 := 21) (pc' := 26) rfl (hb hby d19_21) rfl ((if0 _ _).trans (feq q0).2) (by decide) (by decide) k_) ?_
    show OwnGo p e below s _ _ _ (T13.setTop (mkF m 26 #[.val (.ref a), .val (.ref cc), .val (.ref r_4), .val (.int (Int32.ofNat fs.length)), .unset, .unset] []))
    have hfs : ¬ fs.length = 0 := fun q => q0 (show Int32.ofNat fs.length = Int32.ofNat 0 by rw [q])
    refine own_on (fun t_ k_ => XS.iloadN X13.here hx rfl (hb hby d19_26) rfl k_) ?_
    show OwnGo p e below s _ _ _ (T13.setTop (mkF m 27 #[.val (.ref a), .val (.ref cc), .val (.ref r_4), .val (.int (Int32.ofNat fs.length)), .unset, .unset] [(.int (Int32.ofNat fs.length))]))
    refine own_on (fun t_ k_ => XS.aloadN X13.here hx rfl (hb hby d19_27) rfl rfl k_) ?_
    show OwnGo p e below s _ _ _ (T13.setTop (mkF m 28 #[.val (.ref a), .val (.ref cc), .val (.ref r_4), .val (.int (Int32.ofNat fs.length)), .unset, .unset] [(.ref a), (.int (Int32.ofNat fs.length))]))
    have f32 : Fld Z T4.heap a "java/util/ArrayList" "elementData" "[Ljava/lang/Object;" (.ref ea) := P1.keep K4q nin0
    have f33 : Fld Z h13 a "java/util/ArrayList" "elementData" "[Ljava/lang/Object;" (.ref ea) := f32.other W13 (Or.inr (slot_ne (Or.inl (w57 hw)) (Or.inl (w54 hw)) (by decide) (t := (.array (.object "java/lang/Object"))) (t' := .int) (by decide) (by decide)))
    obtain ⟨T34, X34, e34, st34⟩ := getF X13 hx hZ hown (host := "") (Or.inl (w56 hw)) Via.refl e13 f33 (g := (mkF m 28 #[.val (.ref a), .val (.ref cc), .val (.ref r_4), .val (.int (Int32.ofNat fs.length)), .unset, .unset] [(.ref a), (.int (Int32.ofNat fs.length))])) rfl rfl (hb hby d19_28)
    refine own_on st34 ?_
    show OwnGo p e below s _ _ _ (T34.setTop (mkF m 31 #[.val (.ref a), .val (.ref cc), .val (.ref r_4), .val (.int (Int32.ofNat fs.length)), .unset, .unset] [(.ref ea), (.int (Int32.ofNat fs.length))]))
    refine own_on (fun t_ k_ => XS.dup X34.here hx rfl (hb hby d19_31) rfl rfl k_) ?_
    show OwnGo p e below s _ _ _ (T34.setTop (mkF m 32 #[.val (.ref a), .val (.ref cc), .val (.ref r_4), .val (.int (Int32.ofNat fs.length)), .unset, .unset] [(.ref ea), (.ref ea), (.int (Int32.ofNat fs.length))]))
    refine own_on (fun t_ k_ => XS.astore X34.here hx rfl (hb hby d19_32) rfl rfl (l' := #[.val (.ref a), .val (.ref cc), .val (.ref r_4), .val (.int (Int32.ofNat fs.length)), .val (.ref ea), .unset]) rfl k_) ?_
    show OwnGo p e below s _ _ _ (T34.setTop (mkF m 34 #[.val (.ref a), .val (.ref cc), .val (.ref r_4), .val (.int (Int32.ofNat fs.length)), .val (.ref ea), .unset] [(.ref ea), (.int (Int32.ofNat fs.length))]))
    have f35 : OwnA Z T4.heap ea cap es := P4.keep K4q nin0
    have f36 : OwnA Z h13 ea cap es := f35.other W13 (Ne.symm ne3)
    obtain ⟨A37a, A37b, A37c, kk37, cl37, Ar37, q37, S37, M37, H37, G37⟩ := id f36
    refine own_on (X34.arraylength hx (by rw [e34]; exact Ar37.1) (State.isArrayOf_alike hZ.alike Ar37.2.1) (g := (mkF m 34 #[.val (.ref a), .val (.ref cc), .val (.ref r_4), .val (.int (Int32.ofNat fs.length)), .val (.ref ea), .unset] [(.ref ea), (.int (Int32.ofNat fs.length))])) rfl rfl (hb hby d19_34)) ?_
    rw [len_of S37 M37]
    show OwnGo p e below s _ _ _ (T34.setTop (mkF m 35 #[.val (.ref a), .val (.ref cc), .val (.ref r_4), .val (.int (Int32.ofNat fs.length)), .val (.ref ea), .unset] [(.int (Int32.ofNat cap)), (.int (Int32.ofNat fs.length))]))
    refine own_on (fun t_ k_ => XS.aloadN X34.here hx rfl (hb hby d19_35) rfl rfl k_) ?_
    show OwnGo p e below s _ _ _ (T34.setTop (mkF m 36 #[.val (.ref a), .val (.ref cc), .val (.ref r_4), .val (.int (Int32.ofNat fs.length)), .val (.ref ea), .unset] [(.ref a), (.int (Int32.ofNat cap)), (.int (Int32.ofNat fs.length))]))
    have f38 : Fld Z T4.heap a "java/util/ArrayList" "size" "I" (.int (own_n es)) := P2.keep K4q nin0
    have f39 : Fld Z h13 a "java/util/ArrayList" "size" "I" (.int (own_n es)) := f38.other W13 (Or.inr (slot_ne (Or.inl (w95 hw)) (Or.inl (w54 hw)) (by decide) (t := .int) (t' := .int) (by decide) (by decide)))
    obtain ⟨T40, X40, e40, st40⟩ := getF X34 hx hZ hown (host := "") (Or.inl (w94 hw)) Via.refl e34 f39 (g := (mkF m 36 #[.val (.ref a), .val (.ref cc), .val (.ref r_4), .val (.int (Int32.ofNat fs.length)), .val (.ref ea), .unset] [(.ref a), (.int (Int32.ofNat cap)), (.int (Int32.ofNat fs.length))])) rfl rfl (hb hby d19_36)
    refine own_on st40 ?_
    show OwnGo p e below s _ _ _ (T40.setTop (mkF m 39 #[.val (.ref a), .val (.ref cc), .val (.ref r_4), .val (.int (Int32.ofNat fs.length)), .val (.ref ea), .unset] [(.int (own_n es)), (.int (Int32.ofNat cap)), (.int (Int32.ofNat fs.length))]))
    refine own_on (fun t_ k_ => XS.dup X40.here hx rfl (hb hby d19_39) rfl rfl k_) ?_
    show OwnGo p e below s _ _ _ (T40.setTop (mkF m 40 #[.val (.ref a), .val (.ref cc), .val (.ref r_4), .val (.int (Int32.ofNat fs.length)), .val (.ref ea), .unset] [(.int (own_n es)), (.int (own_n es)), (.int (Int32.ofNat cap)), (.int (Int32.ofNat fs.length))]))
    refine own_on (fun t_ k_ => XS.istore X40.here hx rfl (hb hby d19_40) rfl (l' := #[.val (.ref a), .val (.ref cc), .val (.ref r_4), .val (.int (Int32.ofNat fs.length)), .val (.ref ea), .val (.int (own_n es))]) rfl k_) ?_
    show OwnGo p e below s _ _ _ (T40.setTop (mkF m 42 #[.val (.ref a), .val (.ref cc), .val (.ref r_4), .val (.int (Int32.ofNat fs.length)), .val (.ref ea), .val (.int (own_n es))] [(.int (own_n es)), (.int (Int32.ofNat cap)), (.int (Int32.ofNat fs.length))]))
    refine own_on (fun t_ k_ => XS.isub X40.here hx rfl (hb hby d19_42) rfl k_) ?_
    show OwnGo p e below s _ _ _ (T40.setTop (mkF m 43 #[.val (.ref a), .val (.ref cc), .val (.ref r_4), .val (.int (Int32.ofNat fs.length)), .val (.ref ea), .val (.int (own_n es))] [(.int ((Int32.ofNat cap) - (own_n es))), (.int (Int32.ofNat fs.length))]))
    rw [show ((Int32.ofNat cap) - (own_n es)) = (Int32.ofNat (cap - es.length)) from own_sub' (by omega) (by omega)]
    show OwnGo p e below s _ _ _ (T40.setTop (mkF m 43 #[.val (.ref a), .val (.ref cc), .val (.ref r_4), .val (.int (Int32.ofNat fs.length)), .val (.ref ea), .val (.int (own_n es))] [(.int (Int32.ofNat (cap - es.length))), (.int (Int32.ofNat fs.length))]))
    by_cases q1 : (Int32.ofNat (cap - es.length)) < (Int32.ofNat fs.length)
    · refine own_on (fun t_ k_ => XS.icmpNo X40.here hx rfl (hb hby d19_43) rfl (tlt q1).2.2.2 k_) ?_
      show OwnGo p e below s _ _ _ (T40.setTop (mkF m 46 #[.val (.ref a), .val (.ref cc), .val (.ref r_4), .val (.int (Int32.ofNat fs.length)), .val (.ref ea), .val (.int (own_n es))] []))
      rw [own_lt' (by omega) (by omega)] at q1
      refine own_on (fun t_ k_ => XS.aloadN X40.here hx rfl (hb hby d19_46) rfl rfl k_) ?_
      show OwnGo p e below s _ _ _ (T40.setTop (mkF m 47 #[.val (.ref a), .val (.ref cc), .val (.ref r_4), .val (.int (Int32.ofNat fs.length)), .val (.ref ea), .val (.int (own_n es))] [(.ref a)]))
      refine own_on (fun t_ k_ => XS.iload X40.here hx rfl (hb hby d19_47) rfl k_) ?_
      show OwnGo p e below s _ _ _ (T40.setTop (mkF m 49 #[.val (.ref a), .val (.ref cc), .val (.ref r_4), .val (.int (Int32.ofNat fs.length)), .val (.ref ea), .val (.int (own_n es))] [(.int (own_n es)), (.ref a)]))
      refine own_on (fun t_ k_ => XS.iloadN X40.here hx rfl (hb hby d19_49) rfl k_) ?_
      show OwnGo p e below s _ _ _ (T40.setTop (mkF m 50 #[.val (.ref a), .val (.ref cc), .val (.ref r_4), .val (.int (Int32.ofNat fs.length)), .val (.ref ea), .val (.int (own_n es))] [(.int (Int32.ofNat fs.length)), (.int (own_n es)), (.ref a)]))
      refine own_on (fun t_ k_ => XS.iadd X40.here hx rfl (hb hby d19_50) rfl k_) ?_
      show OwnGo p e below s _ _ _ (T40.setTop (mkF m 51 #[.val (.ref a), .val (.ref cc), .val (.ref r_4), .val (.int (Int32.ofNat fs.length)), .val (.ref ea), .val (.int (own_n es))] [(.int ((own_n es) + (Int32.ofNat fs.length))), (.ref a)]))
      rw [show ((own_n es) + (Int32.ofNat fs.length)) = (Int32.ofNat (es.length + fs.length)) from own_add' es.length fs.length]
      show OwnGo p e below s _ _ _ (T40.setTop (mkF m 51 #[.val (.ref a), .val (.ref cc), .val (.ref r_4), .val (.int (Int32.ofNat fs.length)), .val (.ref ea), .val (.int (own_n es))] [(.int (Int32.ofNat (es.length + fs.length))), (.ref a)]))
      have f41 : Exa Z h13 a "java/util/ArrayList" := f12.wr W13
      have f42 : OwnE Z T4.heap es := P5.keep K4q 
      have f43 : OwnE Z h13 es := f42.other W13 
      have f44 : Old Z n0 T4.heap := P10.keep K4q all0
      have f45 : Old Z n0 h13 := f44.wr W13 P13
      obtain ⟨cq46, q46, q46'⟩ := f41.cell
      obtain ⟨_, _, ⟨T46, L46, k46, n46⟩, -, X46, ⟨Lc46, hQ46, l46, y46, z46⟩, st46⟩ := X40.privateBack hx (y := (⟨"java/util/ArrayList", "grow", "(I)[Ljava/lang/Object;"⟩ : MethodName)) hown (mvT hZ (w155 hw)) (mvT hZ (w156 hw)) (mvT hZ (w158 hw)) (Cond.privateMethod_at (mvP hZ (w157 hw) (args := #[]))) (mvT hZ (w159 hw)) (by decide) (backOf (W := 0) (rm24 l Z a0 hw [] a (es.length + fs.length) ea cap es (mc + (1 : Int32)) dc mr h13 n0 Z13 f41 f33 f39 F13 f36 f43 f45 P11 P12 P13 (by omega : cap < (es.length + fs.length)) (by omega : (es.length + fs.length) ≤ 6)) hZ (w159 hw) (w36 hw) (by decide) (by decide)) (g := (mkF m 51 #[.val (.ref a), .val (.ref cc), .val (.ref r_4), .val (.int (Int32.ofNat fs.length)), .val (.ref ea), .val (.int (own_n es))] [(.int (Int32.ofNat (es.length + fs.length))), (.ref a)])) rfl (by rw [hml]; rfl) (Steps.refl _) (a := a) (by rw [e40]; exact q46) q46' (argsL := [(.int (Int32.ofNat (es.length + fs.length)))]) (rest := []) (lenOf pd_5 rfl) rfl (by show 2 * 0 + _ ≤ _; exact Nat.le_of_eq rfl) (hb hby d19_51) (fun _ hWx => ⟨rfl, e40, (by decide : 1 + 1 ≤ _), (by decide : 10 + 10 ≤ _)⟩)
      have f47 : Exa Z T4.heap cc "java/util/ArrayList" := P14.keep K4q
      have f48 : Exa Z h13 cc "java/util/ArrayList" := f47.wr W13
      dsimp only [Pt.U, Pt.locs, Pt.cells, Pt.slots] at X46 l46 y46 z46 st46 hQ46
      replace X46 := own_num (c' := 2) (n' := 20) X46 l46 (y46.trans rfl) (z46.trans rfl)
      obtain ⟨r_46, cp2_46, rfl, N46q, K46q, c46_0, c46_1, c46_2, c46_3, c46_4, c46_5, c46_6, c46_7, c46_8, c46_9⟩ := hQ46
      have N46 := Fr.app N13 N46q
      have Z46 : n0 ≤ T46.heap.size := Nat.le_trans Z13 K46q.1
      have K46 : Keep h0 T46.heap [a, wa] := K13.trans K46q (allS (P := fun x => x ∈ [a, wa] ∨ h0.size ≤ x) (Or.inl (List.mem_of_getElem? (i := 0) rfl)) all0)
      have ne49 : a ≠ r_46 := Nat.ne_of_lt (Nat.lt_of_lt_of_le f41.lt c46_7)
      have ne50 : ea ≠ r_46 := Nat.ne_of_lt (Nat.lt_of_lt_of_le f36.lt c46_7)
      have ne51 : cc ≠ r_46 := Nat.ne_of_lt (Nat.lt_of_lt_of_le f48.lt c46_7)
      have ne52 : r_4 ≠ r_46 := Nat.ne_of_lt (Nat.lt_of_lt_of_le f14.lt c46_7)
      have z53 : h0.size ≤ r_46 := Nat.le_trans K13.1 c46_7
      refine own_tr st46 ?_
      show OwnGo p e below s _ _ _ (T46.setTop (mkF m 54 #[.val (.ref a), .val (.ref cc), .val (.ref r_4), .val (.int (Int32.ofNat fs.length)), .val (.ref ea), .val (.int (own_n es))] [(.ref r_46)]))
      refine own_on (fun t_ k_ => XS.astore X46.here hx rfl (hb hby d19_54) rfl rfl (l' := #[.val (.ref a), .val (.ref cc), .val (.ref r_4), .val (.int (Int32.ofNat fs.length)), .val (.ref r_46), .val (.int (own_n es))]) rfl k_) ?_
      show OwnGo p e below s _ _ _ (T46.setTop (mkF m 56 #[.val (.ref a), .val (.ref cc), .val (.ref r_4), .val (.int (Int32.ofNat fs.length)), .val (.ref r_46), .val (.int (own_n es))] []))
      have hr54 : r_46 = r_46 ∨ cp2_46 = 0 := Or.inl rfl
      have hr55 : nb ≤ r_46 := Nat.le_trans P9 z53
      refine own_on (fun t_ k_ => XS.aloadN X46.here hx rfl (hb hby d19_56) rfl rfl k_) ?_
      show OwnGo p e below s _ _ _ (T46.setTop (mkF m 57 #[.val (.ref a), .val (.ref cc), .val (.ref r_4), .val (.int (Int32.ofNat fs.length)), .val (.ref r_46), .val (.int (own_n es))] [(.ref r_4)]))
      refine own_on (fun t_ k_ => XS.iconst X46.here hx rfl (hb hby d19_57) k_) ?_
      show OwnGo p e below s _ _ _ (T46.setTop (mkF m 58 #[.val (.ref a), .val (.ref cc), .val (.ref r_4), .val (.int (Int32.ofNat fs.length)), .val (.ref r_46), .val (.int (own_n es))] [(.int (0 : Int32)), (.ref r_4)]))
      refine own_on (fun t_ k_ => XS.aload X46.here hx rfl (hb hby d19_58) rfl rfl k_) ?_
      show OwnGo p e below s _ _ _ (T46.setTop (mkF m 60 #[.val (.ref a), .val (.ref cc), .val (.ref r_4), .val (.int (Int32.ofNat fs.length)), .val (.ref r_46), .val (.int (own_n es))] [(.ref r_46), (.int (0 : Int32)), (.ref r_4)]))
      refine own_on (fun t_ k_ => XS.iload X46.here hx rfl (hb hby d19_60) rfl k_) ?_
      show OwnGo p e below s _ _ _ (T46.setTop (mkF m 62 #[.val (.ref a), .val (.ref cc), .val (.ref r_4), .val (.int (Int32.ofNat fs.length)), .val (.ref r_46), .val (.int (own_n es))] [(.int (own_n es)), (.ref r_46), (.int (0 : Int32)), (.ref r_4)]))
      refine own_on (fun t_ k_ => XS.iloadN X46.here hx rfl (hb hby d19_62) rfl k_) ?_
      show OwnGo p e below s _ _ _ (T46.setTop (mkF m 63 #[.val (.ref a), .val (.ref cc), .val (.ref r_4), .val (.int (Int32.ofNat fs.length)), .val (.ref r_46), .val (.int (own_n es))] [(.int (Int32.ofNat fs.length)), (.int (own_n es)), (.ref r_46), (.int (0 : Int32)), (.ref r_4)]))
      have f56 : OwnA Z T46.heap r_4 fs.length fs := f14.keep K46q (ninS (Ne.symm ne5) nin0)
      have f57 : OwnE Z T4.heap fs := P18.keep K4q 
      have f58 : OwnE Z h13 fs := f57.other W13 
      have f59 : OwnE Z T46.heap fs := f58.keep K46q 
      obtain ⟨T60, h60, L60, X60, e60, N60, K60, A60, st60⟩ := own_cpO (cc := fs.length) (es1 := es) X46 hx hZ hown (w204 hw) (w119 hw) (w117 hw) (w118 hw) (w111 hw) (w164 hw) rfl f56 c46_4 f59 (sp := (0 : Int32)) (dp := (own_n es)) (nn := (Int32.ofNat fs.length)) rfl rfl rfl (Nat.le_refl _) (Nat.le_refl _) (by omega) N46 c46_6 (g := (mkF m 63 #[.val (.ref a), .val (.ref cc), .val (.ref r_4), .val (.int (Int32.ofNat fs.length)), .val (.ref r_46), .val (.int (own_n es))] [(.int (Int32.ofNat fs.length)), (.int (own_n es)), (.ref r_46), (.int (0 : Int32)), (.ref r_4)])) rfl (by rw [hml]; rfl) (rest := []) rfl (hb hby d19_63) (by decide) (W := 0) (by show 2 * 0 + _ ≤ _; exact Nat.le_of_eq rfl) (by decide)
      have Z60 : n0 ≤ h60.size := Nat.le_trans Z46 K60.1
      have K60x : Keep h0 h60 [a, wa] := K46.trans K60 (allS (P := fun x => x ∈ [a, wa] ∨ h0.size ≤ x) (Or.inr z53) all0)
      refine own_on st60 ?_
      show OwnGo p e below s _ _ _ (T60.setTop (mkF m 66 #[.val (.ref a), .val (.ref cc), .val (.ref r_4), .val (.int (Int32.ofNat fs.length)), .val (.ref r_46), .val (.int (own_n es))] []))
      refine own_on (fun t_ k_ => XS.aloadN X60.here hx rfl (hb hby d19_66) rfl rfl k_) ?_
      show OwnGo p e below s _ _ _ (T60.setTop (mkF m 67 #[.val (.ref a), .val (.ref cc), .val (.ref r_4), .val (.int (Int32.ofNat fs.length)), .val (.ref r_46), .val (.int (own_n es))] [(.ref a)]))
      refine own_on (fun t_ k_ => XS.iload X60.here hx rfl (hb hby d19_67) rfl k_) ?_
      show OwnGo p e below s _ _ _ (T60.setTop (mkF m 69 #[.val (.ref a), .val (.ref cc), .val (.ref r_4), .val (.int (Int32.ofNat fs.length)), .val (.ref r_46), .val (.int (own_n es))] [(.int (own_n es)), (.ref a)]))
      refine own_on (fun t_ k_ => XS.iloadN X60.here hx rfl (hb hby d19_69) rfl k_) ?_
      show OwnGo p e below s _ _ _ (T60.setTop (mkF m 70 #[.val (.ref a), .val (.ref cc), .val (.ref r_4), .val (.int (Int32.ofNat fs.length)), .val (.ref r_46), .val (.int (own_n es))] [(.int (Int32.ofNat fs.length)), (.int (own_n es)), (.ref a)]))
      refine own_on (fun t_ k_ => XS.iadd X60.here hx rfl (hb hby d19_70) rfl k_) ?_
      show OwnGo p e below s _ _ _ (T60.setTop (mkF m 71 #[.val (.ref a), .val (.ref cc), .val (.ref r_4), .val (.int (Int32.ofNat fs.length)), .val (.ref r_46), .val (.int (own_n es))] [(.int ((own_n es) + (Int32.ofNat fs.length))), (.ref a)]))
      rw [show ((own_n es) + (Int32.ofNat fs.length)) = (own_n (es ++ fs)) from own_napp es fs]
      show OwnGo p e below s _ _ _ (T60.setTop (mkF m 71 #[.val (.ref a), .val (.ref cc), .val (.ref r_4), .val (.int (Int32.ofNat fs.length)), .val (.ref r_46), .val (.int (own_n es))] [(.int (own_n (es ++ fs))), (.ref a)]))
      have f61 : Fld Z h60 a "java/util/ArrayList" "size" "I" (.int (own_n es)) := c46_2.keep K60 (ninS ne49 nin0)
      have f62 : Exa Z h60 a "java/util/ArrayList" := c46_0.keep K60
      obtain ⟨T63, h63, X63, e63, W63, st63⟩ := putF X60 hx hZ hown (host := "") (Or.inl (w94 hw)) Via.refl e60 f61 f62 (Or.inl (w95 hw)) (w35 hw) (ty := .int) (by decide) rfl rfl (g := (mkF m 71 #[.val (.ref a), .val (.ref cc), .val (.ref r_4), .val (.int (Int32.ofNat fs.length)), .val (.ref r_46), .val (.int (own_n es))] [(.int (own_n (es ++ fs))), (.ref a)])) rfl rfl (hb hby d19_71)
      have F63 := f61.same W63
      have N63 := Fr.snoc X63 N60 P13
      have Z63 : n0 ≤ h63.size := Nat.le_trans Z60 (Keep.of_wr W63).1
      have K63 : Keep h0 h63 [a, wa] := K60x.wr W63 (Or.inl (List.mem_of_getElem? (i := 0) rfl))
      refine own_on st63 ?_
      show OwnGo p e below s _ _ _ (T63.setTop (mkF m 74 #[.val (.ref a), .val (.ref cc), .val (.ref r_4), .val (.int (Int32.ofNat fs.length)), .val (.ref r_46), .val (.int (own_n es))] []))
      refine own_on (fun t_ k_ => XS.iconst X63.here hx rfl (hb hby d19_74) k_) ?_
      show OwnGo p e below s _ _ _ (T63.setTop (mkF m 75 #[.val (.ref a), .val (.ref cc), .val (.ref r_4), .val (.int (Int32.ofNat fs.length)), .val (.ref r_46), .val (.int (own_n es))] [(.int (1 : Int32))]))
      have f64 : OwnE Z h60 es := c46_8.keep K60 
      have f65 : OwnE Z h63 es := f64.other W63 
      have f66 : OwnE Z h60 fs := f59.keep K60 
      have f67 : OwnE Z h63 fs := f66.other W63 
      have f68 : OwnE Z h63 (es ++ fs) := f65.app f67
      have f69 : Exa Z h63 a "java/util/ArrayList" := f62.wr W63
      have f70 : Fld Z h60 a "java/util/ArrayList" "elementData" "[Ljava/lang/Object;" (.ref r_46) := c46_1.keep K60 (ninS ne49 nin0)
      have f71 : Fld Z h63 a "java/util/ArrayList" "elementData" "[Ljava/lang/Object;" (.ref r_46) := f70.other W63 (Or.inr (slot_ne (Or.inl (w57 hw)) (Or.inl (w95 hw)) (by decide) (t := (.array (.object "java/lang/Object"))) (t' := .int) (by decide) (by decide)))
      have f72 : Fld Z h60 a "java/util/AbstractList" "modCount" "I" (.int (mc + (1 : Int32))) := c46_3.keep K60 (ninS ne49 nin0)
      have f73 : Fld Z h63 a "java/util/AbstractList" "modCount" "I" (.int (mc + (1 : Int32))) := f72.other W63 (Or.inr (slot_ne (Or.inl (w54 hw)) (Or.inl (w95 hw)) (by decide) (t := .int) (t' := .int) (by decide) (by decide)))
      have f74 : OwnA Z h63 r_46 cp2_46 (es ++ fs) := A60.other W63 (Ne.symm ne49)
      have f75 : Old Z n0 h60 := c46_9.keep K60 (allS c46_6 all0)
      have f76 : Old Z n0 h63 := f75.wr W63 P13
      exact own_retN X63 hx hlk (t := .boolean) Bd.returns (by simp) (hb hby d19_75) e63 ⟨r_46, cp2_46, r_46, (1 : Int32), rfl, N63, K63, f69, f71, F63, f73, f74, hr54, c46_6, hr55, f76, f68⟩ (by decide) (by decide)
    · refine own_on (fun t_ k_ => XS.icmpYes X40.here hx rfl (pc0 := 43) (pc' := 56) rfl (hb hby d19_43) rfl (flt q1).2.2.2 (by decide) (by decide) k_) ?_
      show OwnGo p e below s _ _ _ (T40.setTop (mkF m 56 #[.val (.ref a), .val (.ref cc), .val (.ref r_4), .val (.int (Int32.ofNat fs.length)), .val (.ref ea), .val (.int (own_n es))] []))
      rw [own_lt' (by omega) (by omega)] at q1
      have hwa : wa = ea := P6.resolve_right (by omega)
      have hmem : ea ∈ [a, wa] := by rw [← hwa]; exact List.mem_of_getElem? (i := 1) rfl
      have g77 : n0 ≤ ea := hwa ▸ P7
      refine own_on (fun t_ k_ => XS.aloadN X40.here hx rfl (hb hby d19_56) rfl rfl k_) ?_
      show OwnGo p e below s _ _ _ (T40.setTop (mkF m 57 #[.val (.ref a), .val (.ref cc), .val (.ref r_4), .val (.int (Int32.ofNat fs.length)), .val (.ref ea), .val (.int (own_n es))] [(.ref r_4)]))
      refine own_on (fun t_ k_ => XS.iconst X40.here hx rfl (hb hby d19_57) k_) ?_
      show OwnGo p e below s _ _ _ (T40.setTop (mkF m 58 #[.val (.ref a), .val (.ref cc), .val (.ref r_4), .val (.int (Int32.ofNat fs.length)), .val (.ref ea), .val (.int (own_n es))] [(.int (0 : Int32)), (.ref r_4)]))
      refine own_on (fun t_ k_ => XS.aload X40.here hx rfl (hb hby d19_58) rfl rfl k_) ?_
      show OwnGo p e below s _ _ _ (T40.setTop (mkF m 60 #[.val (.ref a), .val (.ref cc), .val (.ref r_4), .val (.int (Int32.ofNat fs.length)), .val (.ref ea), .val (.int (own_n es))] [(.ref ea), (.int (0 : Int32)), (.ref r_4)]))
      refine own_on (fun t_ k_ => XS.iload X40.here hx rfl (hb hby d19_60) rfl k_) ?_
      show OwnGo p e below s _ _ _ (T40.setTop (mkF m 62 #[.val (.ref a), .val (.ref cc), .val (.ref r_4), .val (.int (Int32.ofNat fs.length)), .val (.ref ea), .val (.int (own_n es))] [(.int (own_n es)), (.ref ea), (.int (0 : Int32)), (.ref r_4)]))
      refine own_on (fun t_ k_ => XS.iloadN X40.here hx rfl (hb hby d19_62) rfl k_) ?_
      show OwnGo p e below s _ _ _ (T40.setTop (mkF m 63 #[.val (.ref a), .val (.ref cc), .val (.ref r_4), .val (.int (Int32.ofNat fs.length)), .val (.ref ea), .val (.int (own_n es))] [(.int (Int32.ofNat fs.length)), (.int (own_n es)), (.ref ea), (.int (0 : Int32)), (.ref r_4)]))
      have f78 : OwnE Z T4.heap fs := P18.keep K4q 
      have f79 : OwnE Z h13 fs := f78.other W13 
      obtain ⟨T80, h80, L80, X80, e80, N80, K80, A80, st80⟩ := own_cpO (cc := fs.length) (es1 := es) X40 hx hZ hown (w204 hw) (w119 hw) (w117 hw) (w118 hw) (w111 hw) (w164 hw) e40 f14 f36 f79 (sp := (0 : Int32)) (dp := (own_n es)) (nn := (Int32.ofNat fs.length)) rfl rfl rfl (Nat.le_refl _) (Nat.le_refl _) (by omega) N13 g77 (g := (mkF m 63 #[.val (.ref a), .val (.ref cc), .val (.ref r_4), .val (.int (Int32.ofNat fs.length)), .val (.ref ea), .val (.int (own_n es))] [(.int (Int32.ofNat fs.length)), (.int (own_n es)), (.ref ea), (.int (0 : Int32)), (.ref r_4)])) rfl (by rw [hml]; rfl) (rest := []) rfl (hb hby d19_63) (by decide) (W := 0) (by show 2 * 0 + _ ≤ _; exact Nat.le_of_eq rfl) (by decide)
      have Z80 : n0 ≤ h80.size := Nat.le_trans Z13 K80.1
      have K80x : Keep h0 h80 [a, wa] := K13.trans K80 (allS (P := fun x => x ∈ [a, wa] ∨ h0.size ≤ x) (Or.inl hmem) all0)
      refine own_on st80 ?_
      show OwnGo p e below s _ _ _ (T80.setTop (mkF m 66 #[.val (.ref a), .val (.ref cc), .val (.ref r_4), .val (.int (Int32.ofNat fs.length)), .val (.ref ea), .val (.int (own_n es))] []))
      refine own_on (fun t_ k_ => XS.aloadN X80.here hx rfl (hb hby d19_66) rfl rfl k_) ?_
      show OwnGo p e below s _ _ _ (T80.setTop (mkF m 67 #[.val (.ref a), .val (.ref cc), .val (.ref r_4), .val (.int (Int32.ofNat fs.length)), .val (.ref ea), .val (.int (own_n es))] [(.ref a)]))
      refine own_on (fun t_ k_ => XS.iload X80.here hx rfl (hb hby d19_67) rfl k_) ?_
      show OwnGo p e below s _ _ _ (T80.setTop (mkF m 69 #[.val (.ref a), .val (.ref cc), .val (.ref r_4), .val (.int (Int32.ofNat fs.length)), .val (.ref ea), .val (.int (own_n es))] [(.int (own_n es)), (.ref a)]))
      refine own_on (fun t_ k_ => XS.iloadN X80.here hx rfl (hb hby d19_69) rfl k_) ?_
      show OwnGo p e below s _ _ _ (T80.setTop (mkF m 70 #[.val (.ref a), .val (.ref cc), .val (.ref r_4), .val (.int (Int32.ofNat fs.length)), .val (.ref ea), .val (.int (own_n es))] [(.int (Int32.ofNat fs.length)), (.int (own_n es)), (.ref a)]))
      refine own_on (fun t_ k_ => XS.iadd X80.here hx rfl (hb hby d19_70) rfl k_) ?_
      show OwnGo p e below s _ _ _ (T80.setTop (mkF m 71 #[.val (.ref a), .val (.ref cc), .val (.ref r_4), .val (.int (Int32.ofNat fs.length)), .val (.ref ea), .val (.int (own_n es))] [(.int ((own_n es) + (Int32.ofNat fs.length))), (.ref a)]))
      rw [show ((own_n es) + (Int32.ofNat fs.length)) = (own_n (es ++ fs)) from own_napp es fs]
      show OwnGo p e below s _ _ _ (T80.setTop (mkF m 71 #[.val (.ref a), .val (.ref cc), .val (.ref r_4), .val (.int (Int32.ofNat fs.length)), .val (.ref ea), .val (.int (own_n es))] [(.int (own_n (es ++ fs))), (.ref a)]))
      have f81 : Fld Z h80 a "java/util/ArrayList" "size" "I" (.int (own_n es)) := f39.keep K80 (ninS ne3 nin0)
      have f82 : Exa Z h13 a "java/util/ArrayList" := f12.wr W13
      have f83 : Exa Z h80 a "java/util/ArrayList" := f82.keep K80
      obtain ⟨T84, h84, X84, e84, W84, st84⟩ := putF X80 hx hZ hown (host := "") (Or.inl (w94 hw)) Via.refl e80 f81 f83 (Or.inl (w95 hw)) (w35 hw) (ty := .int) (by decide) rfl rfl (g := (mkF m 71 #[.val (.ref a), .val (.ref cc), .val (.ref r_4), .val (.int (Int32.ofNat fs.length)), .val (.ref ea), .val (.int (own_n es))] [(.int (own_n (es ++ fs))), (.ref a)])) rfl rfl (hb hby d19_71)
      have F84 := f81.same W84
      have N84 := Fr.snoc X84 N80 P13
      have Z84 : n0 ≤ h84.size := Nat.le_trans Z80 (Keep.of_wr W84).1
      have K84 : Keep h0 h84 [a, wa] := K80x.wr W84 (Or.inl (List.mem_of_getElem? (i := 0) rfl))
      refine own_on st84 ?_
      show OwnGo p e below s _ _ _ (T84.setTop (mkF m 74 #[.val (.ref a), .val (.ref cc), .val (.ref r_4), .val (.int (Int32.ofNat fs.length)), .val (.ref ea), .val (.int (own_n es))] []))
      refine own_on (fun t_ k_ => XS.iconst X84.here hx rfl (hb hby d19_74) k_) ?_
      show OwnGo p e below s _ _ _ (T84.setTop (mkF m 75 #[.val (.ref a), .val (.ref cc), .val (.ref r_4), .val (.int (Int32.ofNat fs.length)), .val (.ref ea), .val (.int (own_n es))] [(.int (1 : Int32))]))
      have f85 : OwnE Z T4.heap es := P5.keep K4q 
      have f86 : OwnE Z h13 es := f85.other W13 
      have f87 : OwnE Z h80 es := f86.keep K80 
      have f88 : OwnE Z h84 es := f87.other W84 
      have f89 : OwnE Z h80 fs := f79.keep K80 
      have f90 : OwnE Z h84 fs := f89.other W84 
      have f91 : OwnE Z h84 (es ++ fs) := f88.app f90
      have f92 : Exa Z h84 a "java/util/ArrayList" := f83.wr W84
      have f93 : Fld Z h80 a "java/util/ArrayList" "elementData" "[Ljava/lang/Object;" (.ref ea) := f33.keep K80 (ninS ne3 nin0)
      have f94 : Fld Z h84 a "java/util/ArrayList" "elementData" "[Ljava/lang/Object;" (.ref ea) := f93.other W84 (Or.inr (slot_ne (Or.inl (w57 hw)) (Or.inl (w95 hw)) (by decide) (t := (.array (.object "java/lang/Object"))) (t' := .int) (by decide) (by decide)))
      have f95 : Fld Z h80 a "java/util/AbstractList" "modCount" "I" (.int (mc + (1 : Int32))) := F13.keep K80 (ninS ne3 nin0)
      have f96 : Fld Z h84 a "java/util/AbstractList" "modCount" "I" (.int (mc + (1 : Int32))) := f95.other W84 (Or.inr (slot_ne (Or.inl (w54 hw)) (Or.inl (w95 hw)) (by decide) (t := .int) (t' := .int) (by decide) (by decide)))
      have f97 : OwnA Z h84 ea cap (es ++ fs) := A80.other W84 (Ne.symm ne3)
      have f98 : Old Z n0 T4.heap := P10.keep K4q all0
      have f99 : Old Z n0 h13 := f98.wr W13 P13
      have f100 : Old Z n0 h80 := f99.keep K80 (allS g77 all0)
      have f101 : Old Z n0 h84 := f100.wr W84 P13
      exact own_retN X84 hx hlk (t := .boolean) Bd.returns (by simp) (hb hby d19_75) e84 ⟨ea, cap, wa, (1 : Int32), rfl, N84, K84, f92, f94, F84, f96, f97, P6, P7, P8, f101, f91⟩ (by decide) (by decide)
theorem ef_28 (m : MethodId) (jj : Int32) (zz : Int32)  : entryFrame m #[(.int jj), (.int zz), .null] 3 = mkF m 0 #[.val (.int jj), .val (.int zz), .val .null] [] := by first | (simp [entryFrame, mkF, argsToLocals, Value.category]; done) | rfl
def Q28 (Z : State) (jj : Int32) (zz : Int32) (h0 : Heap) (n0 : Nat) (v_ : Option Value) (h_ : Heap) (L_ : List Loc) : Prop := v_ = some (.int jj) ∧ Fr n0 L_ ∧ h_ = h0
set_option maxRecDepth 65536 in
set_option maxHeartbeats 40000000 in
theorem rm28 (l : Launch) (Z : State) (a0 : Array Value) (hw : ∀ d ∈ tables_1, d.before a0 Z = true) (ws : List Jvm.Cond) (jj : Int32) (zz : Int32) (h0 : Heap) (n0 : Nat) (Z0 : n0 ≤ h0.size) (P0 : ¬ jj < 0) (P1 : jj < zz) :
    MetFree l (⟨"jdk/internal/util/Preconditions", "checkIndex", "(IILjava/util/function/BiFunction;)I"⟩ : MethodName) (head1 (Jvm.Cond.code (⟨"jdk/internal/util/Preconditions", "checkIndex", "(IILjava/util/function/BiFunction;)I"⟩ : MethodName) jdk_41_method_11_code 3 (some .int) :: ws) ({ frames := 0, cells := 0, slots := 0, locals := 0 } : Room)) (fun A_ U => A_ = #[(.int jj), (.int zz), .null] ∧ Z.Warmed39 U.vm ∧ U.heap = h0) (fun _ _ _ _ _ => True) (fun _ U_ o_ U'_ => ∃ v_ L_, o_ = .returned v_ ∧ Q28 Z jj zz h0 n0 v_ U'_.heap L_ ∧ FrameEnd U_ o_ U'_ L_ ({ frames := 0, cells := 0, slots := 0, locals := 0 } : Room).cells ({ frames := 0, cells := 0, slots := 0, locals := 0 } : Room).slots) := by
  refine MetFree.of_bodySF (plainFor_of_name pn_5) hisR ?_
  intro p e s m args below meth c s₁ Bd hml0 hP hK
  obtain ⟨rfl, hZ, hh⟩ := hP
  have hx := Bd.exec
  have hby := Bd.bytes
  have hml : c.maxLocals = 3 := hml0
  have hown : s.vm.findClass "jdk/internal/util/Preconditions" = some m.cls := findClass_of_methodNamed Bd.named
  have hnm := (name_of_methodNamed Bd.named Bd.method).1
  have hlk : meth.locks = false := Bd.notSynchronized
  have X0 : Stand p l e ({ frames := 0, cells := 0, slots := 0, locals := 0 } : Room) s m #[(.int jj), (.int zz), .null] below meth c s₁ [] 0 0 := Stand.of_body Bd
  have e0 : s₁.heap = h0 := by rw [← hh, Bd.state]; rfl
  have N0 := Fr.nil n0
  have K0 : Keep h0 h0 [] := Keep.refl _ _
  refine own_cast (ef_28 m jj zz) ?_
  show OwnGo p e below s (Q28 Z jj zz h0 n0) ({ frames := 0, cells := 0, slots := 0, locals := 0 } : Room).cells ({ frames := 0, cells := 0, slots := 0, locals := 0 } : Room).slots (s₁.setTop (mkF m 0 #[.val (.int jj), .val (.int zz), .val .null] []))
  refine own_on (fun t_ k_ => XS.iloadN X0.here hx rfl (hb hby d28_0) rfl k_) ?_
  show OwnGo p e below s _ _ _ (s₁.setTop (mkF m 1 #[.val (.int jj), .val (.int zz), .val .null] [(.int jj)]))
  refine own_on (fun t_ k_ => XS.ifNo X0.here hx rfl (hb hby d28_1) rfl ((if0 _ _).trans (flt P0).1) k_) ?_
  show OwnGo p e below s _ _ _ (s₁.setTop (mkF m 4 #[.val (.int jj), .val (.int zz), .val .null] []))
  refine own_on (fun t_ k_ => XS.iloadN X0.here hx rfl (hb hby d28_4) rfl k_) ?_
  show OwnGo p e below s _ _ _ (s₁.setTop (mkF m 5 #[.val (.int jj), .val (.int zz), .val .null] [(.int jj)]))
  refine own_on (fun t_ k_ => XS.iloadN X0.here hx rfl (hb hby d28_5) rfl k_) ?_
  show OwnGo p e below s _ _ _ (s₁.setTop (mkF m 6 #[.val (.int jj), .val (.int zz), .val .null] [(.int zz), (.int jj)]))
  refine own_on (fun t_ k_ => XS.icmpYes X0.here hx rfl (pc0 := 6) (pc' := 16) rfl (hb hby d28_6) rfl (tlt P1).1 (by decide) (by decide) k_) ?_
  show OwnGo p e below s _ _ _ (s₁.setTop (mkF m 16 #[.val (.int jj), .val (.int zz), .val .null] []))
  refine own_on (fun t_ k_ => XS.iloadN X0.here hx rfl (hb hby d28_16) rfl k_) ?_
  show OwnGo p e below s _ _ _ (s₁.setTop (mkF m 17 #[.val (.int jj), .val (.int zz), .val .null] [(.int jj)]))
  exact own_retI X0 hx hlk Bd.returns (hb hby d28_17) e0 ⟨rfl, N0, rfl⟩ (by decide) (by decide)
theorem ef_27 (m : MethodId) (jj : Int32) (zz : Int32)  : entryFrame m #[(.int jj), (.int zz)] 2 = mkF m 0 #[.val (.int jj), .val (.int zz)] [] := by first | (simp [entryFrame, mkF, argsToLocals, Value.category]; done) | rfl
def Q27 (Z : State) (jj : Int32) (zz : Int32) (h0 : Heap) (n0 : Nat) (v_ : Option Value) (h_ : Heap) (L_ : List Loc) : Prop := v_ = some (.int jj) ∧ Fr n0 L_ ∧ h_ = h0
set_option maxRecDepth 65536 in
set_option maxHeartbeats 40000000 in
theorem rm27 (l : Launch) (Z : State) (a0 : Array Value) (hw : ∀ d ∈ tables_1, d.before a0 Z = true) (ws : List Jvm.Cond) (jj : Int32) (zz : Int32) (h0 : Heap) (n0 : Nat) (Z0 : n0 ≤ h0.size) (P0 : ¬ jj < 0) (P1 : jj < zz) :
    MetFree l (⟨"java/util/Objects", "checkIndex", "(II)I"⟩ : MethodName) (head1 (Jvm.Cond.code (⟨"java/util/Objects", "checkIndex", "(II)I"⟩ : MethodName) jdk_31_method_17_code 2 (some .int) :: ws) ({ frames := 1, cells := 0, slots := 0, locals := 14 } : Room)) (fun A_ U => A_ = #[(.int jj), (.int zz)] ∧ Z.Warmed39 U.vm ∧ U.heap = h0) (fun _ _ _ _ _ => True) (fun _ U_ o_ U'_ => ∃ v_ L_, o_ = .returned v_ ∧ Q27 Z jj zz h0 n0 v_ U'_.heap L_ ∧ FrameEnd U_ o_ U'_ L_ ({ frames := 1, cells := 0, slots := 0, locals := 14 } : Room).cells ({ frames := 1, cells := 0, slots := 0, locals := 14 } : Room).slots) := by
  refine MetFree.of_bodySF (plainFor_of_name pn_6) hisR ?_
  intro p e s m args below meth c s₁ Bd hml0 hP hK
  obtain ⟨rfl, hZ, hh⟩ := hP
  have hx := Bd.exec
  have hby := Bd.bytes
  have hml : c.maxLocals = 2 := hml0
  have hown : s.vm.findClass "java/util/Objects" = some m.cls := findClass_of_methodNamed Bd.named
  have hnm := (name_of_methodNamed Bd.named Bd.method).1
  have hlk : meth.locks = false := Bd.notSynchronized
  have X0 : Stand p l e ({ frames := 1, cells := 0, slots := 0, locals := 14 } : Room) s m #[(.int jj), (.int zz)] below meth c s₁ [] 0 0 := Stand.of_body Bd
  have e0 : s₁.heap = h0 := by rw [← hh, Bd.state]; rfl
  have N0 := Fr.nil n0
  have K0 : Keep h0 h0 [] := Keep.refl _ _
  refine own_cast (ef_27 m jj zz) ?_
  show OwnGo p e below s (Q27 Z jj zz h0 n0) ({ frames := 1, cells := 0, slots := 0, locals := 14 } : Room).cells ({ frames := 1, cells := 0, slots := 0, locals := 14 } : Room).slots (s₁.setTop (mkF m 0 #[.val (.int jj), .val (.int zz)] []))
  refine own_on (fun t_ k_ => XS.iloadN X0.here hx rfl (hb hby d27_0) rfl k_) ?_
  show OwnGo p e below s _ _ _ (s₁.setTop (mkF m 1 #[.val (.int jj), .val (.int zz)] [(.int jj)]))
  refine own_on (fun t_ k_ => XS.iloadN X0.here hx rfl (hb hby d27_1) rfl k_) ?_
  show OwnGo p e below s _ _ _ (s₁.setTop (mkF m 2 #[.val (.int jj), .val (.int zz)] [(.int zz), (.int jj)]))
  refine own_on (fun t_ k_ => XS.aconstNull X0.here hx rfl (hb hby d27_2) k_) ?_
  show OwnGo p e below s _ _ _ (s₁.setTop (mkF m 3 #[.val (.int jj), .val (.int zz)] [.null, (.int zz), (.int jj)]))
  obtain ⟨_, _, ⟨T1, L1, k1, n1⟩, -, X1, ⟨Lc1, hQ1, l1, y1, z1⟩, st1⟩ := Jvm.LawKit.callS X0 hx (y := (⟨"jdk/internal/util/Preconditions", "checkIndex", "(IILjava/util/function/BiFunction;)I"⟩ : MethodName)) hown (mvT hZ (w184 hw)) (mvT hZ (w185 hw)) (mvT hZ (w186 hw)) (mvT hZ (w187 hw)) (by decide) (backOf (W := 0) (rm28 l Z a0 hw [] jj zz h0 n0 Z0 P0 P1) hZ (w187 hw) (w186 hw) (by decide) (by decide)) (g := (mkF m 3 #[.val (.int jj), .val (.int zz)] [.null, (.int zz), (.int jj)])) rfl (by rw [hml]; rfl) (argsL := [(.int jj), (.int zz), .null]) (rest := []) (lenOf pd_8 rfl) rfl (by show 2 * 0 + _ ≤ _; exact Nat.le_of_eq rfl) (hb hby d27_3) (fun _ hWx => ⟨rfl, e0, (by decide : 0 + 0 ≤ _), (by decide : 0 + 0 ≤ _)⟩)
  dsimp only [Pt.U, Pt.locs, Pt.cells, Pt.slots] at X1 l1 y1 z1 st1 hQ1
  replace X1 := own_num (c' := 0) (n' := 0) X1 l1 (y1.trans rfl) (z1.trans rfl)
  obtain ⟨rfl, N1q, e1⟩ := hQ1
  have N1 := Fr.app N0 N1q
  refine own_on st1 ?_
  show OwnGo p e below s _ _ _ (T1.setTop (mkF m 6 #[.val (.int jj), .val (.int zz)] [(.int jj)]))
  exact own_retI X1 hx hlk Bd.returns (hb hby d27_6) e1 ⟨rfl, N1, rfl⟩ (by decide) (by decide)
theorem ef_29 (m : MethodId) (a : Addr) (jj : Int32)  : entryFrame m #[(.ref a), (.int jj)] 2 = mkF m 0 #[.val (.ref a), .val (.int jj)] [] := by first | (simp [entryFrame, mkF, argsToLocals, Value.category]; done) | rfl
def Q29 (Z : State) (a : Addr) (jj : Int32) (ea : Addr) (cap : Nat) (es : List Addr) (xx : Addr) (h0 : Heap) (n0 : Nat) (v_ : Option Value) (h_ : Heap) (L_ : List Loc) : Prop := v_ = some (.ref xx) ∧ Fr n0 L_ ∧ h_ = h0
set_option maxRecDepth 65536 in
set_option maxHeartbeats 40000000 in
theorem rm29 (l : Launch) (Z : State) (a0 : Array Value) (hw : ∀ d ∈ tables_1, d.before a0 Z = true) (ws : List Jvm.Cond) (a : Addr) (jj : Int32) (ea : Addr) (cap : Nat) (es : List Addr) (xx : Addr) (h0 : Heap) (n0 : Nat) (Z0 : n0 ≤ h0.size) (P0 : Fld Z h0 a "java/util/ArrayList" "elementData" "[Ljava/lang/Object;" (.ref ea)) (P1 : OwnA Z h0 ea cap es) (P2 : ¬ jj < 0) (P3 : jj < (own_n es)) (P4 : (es.map Value.ref).getD (jj).toNatClampNeg .null = .ref xx) (P5 : jj < Int32.ofNat cap) :
    MetFree l (⟨"java/util/ArrayList", "elementData", "(I)Ljava/lang/Object;"⟩ : MethodName) (head1 (Jvm.Cond.code (⟨"java/util/ArrayList", "elementData", "(I)Ljava/lang/Object;"⟩ : MethodName) jdk_38_method_18_code 2 (some (.object "java/lang/Object")) :: ws) ({ frames := 0, cells := 0, slots := 0, locals := 0 } : Room)) (fun A_ U => A_ = #[(.ref a), (.int jj)] ∧ Z.Warmed39 U.vm ∧ U.heap = h0) (fun _ _ _ _ _ => True) (fun _ U_ o_ U'_ => ∃ v_ L_, o_ = .returned v_ ∧ Q29 Z a jj ea cap es xx h0 n0 v_ U'_.heap L_ ∧ FrameEnd U_ o_ U'_ L_ ({ frames := 0, cells := 0, slots := 0, locals := 0 } : Room).cells ({ frames := 0, cells := 0, slots := 0, locals := 0 } : Room).slots) := by
  refine MetFree.of_bodySF (plainFor_of_name pn_2) hisR ?_
  intro p e s m args below meth c s₁ Bd hml0 hP hK
  obtain ⟨rfl, hZ, hh⟩ := hP
  have hx := Bd.exec
  have hby := Bd.bytes
  have hml : c.maxLocals = 2 := hml0
  have hown : s.vm.findClass "java/util/ArrayList" = some m.cls := findClass_of_methodNamed Bd.named
  have hnm := (name_of_methodNamed Bd.named Bd.method).1
  have hlk : meth.locks = false := Bd.notSynchronized
  have X0 : Stand p l e ({ frames := 0, cells := 0, slots := 0, locals := 0 } : Room) s m #[(.ref a), (.int jj)] below meth c s₁ [] 0 0 := Stand.of_body Bd
  have e0 : s₁.heap = h0 := by rw [← hh, Bd.state]; rfl
  have N0 := Fr.nil n0
  have K0 : Keep h0 h0 [] := Keep.refl _ _
  refine own_cast (ef_29 m a jj) ?_
  show OwnGo p e below s (Q29 Z a jj ea cap es xx h0 n0) ({ frames := 0, cells := 0, slots := 0, locals := 0 } : Room).cells ({ frames := 0, cells := 0, slots := 0, locals := 0 } : Room).slots (s₁.setTop (mkF m 0 #[.val (.ref a), .val (.int jj)] []))
  refine own_on (fun t_ k_ => XS.aloadN X0.here hx rfl (hb hby d29_0) rfl rfl k_) ?_
  show OwnGo p e below s _ _ _ (s₁.setTop (mkF m 1 #[.val (.ref a), .val (.int jj)] [(.ref a)]))
  obtain ⟨T1, X1, e1, st1⟩ := getF X0 hx hZ hown (host := "") (Or.inl (w56 hw)) Via.refl e0 P0 (g := (mkF m 1 #[.val (.ref a), .val (.int jj)] [(.ref a)])) rfl rfl (hb hby d29_1)
  refine own_on st1 ?_
  show OwnGo p e below s _ _ _ (T1.setTop (mkF m 4 #[.val (.ref a), .val (.int jj)] [(.ref ea)]))
  refine own_on (fun t_ k_ => XS.iloadN X1.here hx rfl (hb hby d29_4) rfl k_) ?_
  show OwnGo p e below s _ _ _ (T1.setTop (mkF m 5 #[.val (.ref a), .val (.int jj)] [(.int jj), (.ref ea)]))
  obtain ⟨A2a, A2b, A2c, kk2, cl2, Ar2, q2, S2, M2, H2, G2⟩ := id P1
  have hin2 : ¬ (jj < 0 ∨ cl2.slots.size ≤ (jj).toNatClampNeg) := inb_of S2 ⟨P2, P5⟩
  have hat2 : cl2.slots[(jj).toNatClampNeg]? = some (.ref xx) := Has.at H2 hin2 P4
  refine own_on (X1.aaload hx (j := jj) (v := (.ref xx)) (by rw [e1]; exact Ar2.1) (State.isArrayOf_alike hZ.alike Ar2.2.1) rfl Ar2.2.2 hin2 hat2 (g := (mkF m 5 #[.val (.ref a), .val (.int jj)] [(.int jj), (.ref ea)])) rfl rfl (hb hby d29_5)) ?_
  show OwnGo p e below s _ _ _ (T1.setTop (mkF m 6 #[.val (.ref a), .val (.int jj)] [(.ref xx)]))
  exact own_retA X1 hx hlk Bd.returns rfl rfl (hb hby d29_6) e1 ⟨rfl, N0, rfl⟩ (by decide) (by decide)
theorem ef_26 (m : MethodId) (a : Addr) (jj : Int32)  : entryFrame m #[(.ref a), (.int jj)] 2 = mkF m 0 #[.val (.ref a), .val (.int jj)] [] := by first | (simp [entryFrame, mkF, argsToLocals, Value.category]; done) | rfl
def Q26 (Z : State) (a : Addr) (jj : Int32) (ea : Addr) (cap : Nat) (es : List Addr) (xx : Addr) (h0 : Heap) (n0 : Nat) (v_ : Option Value) (h_ : Heap) (L_ : List Loc) : Prop := v_ = some (.ref xx) ∧ Fr n0 L_ ∧ h_ = h0
set_option maxRecDepth 65536 in
set_option maxHeartbeats 40000000 in
theorem rm26 (l : Launch) (Z : State) (a0 : Array Value) (hw : ∀ d ∈ tables_1, d.before a0 Z = true) (ws : List Jvm.Cond) (a : Addr) (jj : Int32) (ea : Addr) (cap : Nat) (es : List Addr) (xx : Addr) (h0 : Heap) (n0 : Nat) (Z0 : n0 ≤ h0.size) (P0 : Exa Z h0 a "java/util/ArrayList") (P1 : Fld Z h0 a "java/util/ArrayList" "elementData" "[Ljava/lang/Object;" (.ref ea)) (P2 : Fld Z h0 a "java/util/ArrayList" "size" "I" (.int (own_n es))) (P3 : OwnA Z h0 ea cap es) (P4 : ¬ jj < 0) (P5 : jj < (own_n es)) (P6 : (es.map Value.ref).getD (jj).toNatClampNeg .null = .ref xx) (P7 : jj < Int32.ofNat cap) :
    MetFree l (⟨"java/util/ArrayList", "get", "(I)Ljava/lang/Object;"⟩ : MethodName) (head1 (Jvm.Cond.code (⟨"java/util/ArrayList", "get", "(I)Ljava/lang/Object;"⟩ : MethodName) jdk_38_method_20_code 2 (some (.object "java/lang/Object")) :: ws) ({ frames := 2, cells := 0, slots := 0, locals := 27 } : Room)) (fun A_ U => A_ = #[(.ref a), (.int jj)] ∧ Z.Warmed39 U.vm ∧ U.heap = h0) (fun _ _ _ _ _ => True) (fun _ U_ o_ U'_ => ∃ v_ L_, o_ = .returned v_ ∧ Q26 Z a jj ea cap es xx h0 n0 v_ U'_.heap L_ ∧ FrameEnd U_ o_ U'_ L_ ({ frames := 2, cells := 0, slots := 0, locals := 27 } : Room).cells ({ frames := 2, cells := 0, slots := 0, locals := 27 } : Room).slots) := by
  refine MetFree.of_bodySF (plainFor_of_name pn_2) hisR ?_
  intro p e s m args below meth c s₁ Bd hml0 hP hK
  obtain ⟨rfl, hZ, hh⟩ := hP
  have hx := Bd.exec
  have hby := Bd.bytes
  have hml : c.maxLocals = 2 := hml0
  have hown : s.vm.findClass "java/util/ArrayList" = some m.cls := findClass_of_methodNamed Bd.named
  have hnm := (name_of_methodNamed Bd.named Bd.method).1
  have hlk : meth.locks = false := Bd.notSynchronized
  have X0 : Stand p l e ({ frames := 2, cells := 0, slots := 0, locals := 27 } : Room) s m #[(.ref a), (.int jj)] below meth c s₁ [] 0 0 := Stand.of_body Bd
  have e0 : s₁.heap = h0 := by rw [← hh, Bd.state]; rfl
  have N0 := Fr.nil n0
  have K0 : Keep h0 h0 [] := Keep.refl _ _
  refine own_cast (ef_26 m a jj) ?_
  show OwnGo p e below s (Q26 Z a jj ea cap es xx h0 n0) ({ frames := 2, cells := 0, slots := 0, locals := 27 } : Room).cells ({ frames := 2, cells := 0, slots := 0, locals := 27 } : Room).slots (s₁.setTop (mkF m 0 #[.val (.ref a), .val (.int jj)] []))
  refine own_on (fun t_ k_ => XS.iloadN X0.here hx rfl (hb hby d26_0) rfl k_) ?_
  show OwnGo p e below s _ _ _ (s₁.setTop (mkF m 1 #[.val (.ref a), .val (.int jj)] [(.int jj)]))
  refine own_on (fun t_ k_ => XS.aloadN X0.here hx rfl (hb hby d26_1) rfl rfl k_) ?_
  show OwnGo p e below s _ _ _ (s₁.setTop (mkF m 2 #[.val (.ref a), .val (.int jj)] [(.ref a), (.int jj)]))
  obtain ⟨T1, X1, e1, st1⟩ := getF X0 hx hZ hown (host := "") (Or.inl (w94 hw)) Via.refl e0 P2 (g := (mkF m 2 #[.val (.ref a), .val (.int jj)] [(.ref a), (.int jj)])) rfl rfl (hb hby d26_2)
  refine own_on st1 ?_
  show OwnGo p e below s _ _ _ (T1.setTop (mkF m 5 #[.val (.ref a), .val (.int jj)] [(.int (own_n es)), (.int jj)]))
  obtain ⟨_, _, ⟨T2, L2, k2, n2⟩, -, X2, ⟨Lc2, hQ2, l2, y2, z2⟩, st2⟩ := Jvm.LawKit.callS X1 hx (y := (⟨"java/util/Objects", "checkIndex", "(II)I"⟩ : MethodName)) hown (mvT hZ (w180 hw)) (mvT hZ (w181 hw)) (mvT hZ (w182 hw)) (mvT hZ (w183 hw)) (by decide) (backOf (W := 0) (rm27 l Z a0 hw [] jj (own_n es) h0 n0 Z0 P4 P5) hZ (w183 hw) (w182 hw) (by decide) (by decide)) (g := (mkF m 5 #[.val (.ref a), .val (.int jj)] [(.int (own_n es)), (.int jj)])) rfl (by rw [hml]; rfl) (argsL := [(.int jj), (.int (own_n es))]) (rest := []) (lenOf pd_1 rfl) rfl (by show 2 * 0 + _ ≤ _; exact Nat.le_of_eq rfl) (hb hby d26_5) (fun _ hWx => ⟨rfl, e1, (by decide : 0 + 0 ≤ _), (by decide : 0 + 0 ≤ _)⟩)
  dsimp only [Pt.U, Pt.locs, Pt.cells, Pt.slots] at X2 l2 y2 z2 st2 hQ2
  replace X2 := own_num (c' := 0) (n' := 0) X2 l2 (y2.trans rfl) (z2.trans rfl)
  obtain ⟨rfl, N2q, e2⟩ := hQ2
  have N2 := Fr.app N0 N2q
  refine own_on st2 ?_
  show OwnGo p e below s _ _ _ (T2.setTop (mkF m 8 #[.val (.ref a), .val (.int jj)] [(.int jj)]))
  refine own_on (fun t_ k_ => XS.pop X2.here hx rfl (hb hby d26_8) rfl rfl k_) ?_
  show OwnGo p e below s _ _ _ (T2.setTop (mkF m 9 #[.val (.ref a), .val (.int jj)] []))
  refine own_on (fun t_ k_ => XS.aloadN X2.here hx rfl (hb hby d26_9) rfl rfl k_) ?_
  show OwnGo p e below s _ _ _ (T2.setTop (mkF m 10 #[.val (.ref a), .val (.int jj)] [(.ref a)]))
  refine own_on (fun t_ k_ => XS.iloadN X2.here hx rfl (hb hby d26_10) rfl k_) ?_
  show OwnGo p e below s _ _ _ (T2.setTop (mkF m 11 #[.val (.ref a), .val (.int jj)] [(.int jj), (.ref a)]))
  obtain ⟨cq3, kq3, q3a, q3b, q3c⟩ := isOf hZ e2 P0
  obtain ⟨_, _, ⟨T3, L3, k3, n3⟩, -, X3, ⟨Lc3, hQ3, l3, y3, z3⟩, st3⟩ := X2.virtualBack hx (y := (⟨"java/util/ArrayList", "elementData", "(I)Ljava/lang/Object;"⟩ : MethodName)) (z := (⟨"java/util/ArrayList", "elementData", "(I)Ljava/lang/Object;"⟩ : MethodName)) hown (mvT hZ (w188 hw)) (mvT hZ (w189 hw)) (notFace_of_selects (args := #[]) (mvT hZ (w191 hw))) (mvT hZ (w191 hw)) (mvT hZ (w190 hw)) (by decide) (backOf (W := 0) (rm29 l Z a0 hw [] a jj ea cap es xx h0 n0 Z0 P1 P3 P4 P5 P6 P7) hZ (w192 hw) (w36 hw) (by decide) (by decide)) q3a q3c (g := (mkF m 11 #[.val (.ref a), .val (.int jj)] [(.int jj), (.ref a)])) rfl (by rw [hml]; rfl) (Steps.refl _) (argsL := [(.int jj)]) (rest := []) (lenOf pd_9 rfl) rfl (by show 2 * 0 + _ ≤ _; exact Nat.le_of_eq rfl) (hb hby d26_11) (fun _ hWx => ⟨rfl, e2, (by decide : 0 + 0 ≤ _), (by decide : 0 + 0 ≤ _)⟩)
  dsimp only [Pt.U, Pt.locs, Pt.cells, Pt.slots] at X3 l3 y3 z3 st3 hQ3
  replace X3 := own_num (c' := 0) (n' := 0) X3 l3 (y3.trans rfl) (z3.trans rfl)
  obtain ⟨rfl, N3q, e3⟩ := hQ3
  have N3 := Fr.app N2 N3q
  refine own_tr st3 ?_
  show OwnGo p e below s _ _ _ (T3.setTop (mkF m 14 #[.val (.ref a), .val (.int jj)] [(.ref xx)]))
  exact own_retA X3 hx hlk Bd.returns rfl rfl (hb hby d26_14) e3 ⟨rfl, N3, rfl⟩ (by decide) (by decide)
theorem ef_30 (m : MethodId) (a : Addr) (a : Addr)  : entryFrame m #[(.ref a), (.ref a)] 3 = mkF m 0 #[.val (.ref a), .val (.ref a), .unset] [] := by first | (simp [entryFrame, mkF, argsToLocals, Value.category]; done) | rfl
def Q30 (Z : State) (a : Addr) (h0 : Heap) (n0 : Nat) (v_ : Option Value) (h_ : Heap) (L_ : List Loc) : Prop := v_ = some (.int (1 : Int32)) ∧ Fr n0 L_ ∧ h_ = h0
set_option maxRecDepth 65536 in
set_option maxHeartbeats 40000000 in
theorem rm30 (l : Launch) (Z : State) (a0 : Array Value) (hw : ∀ d ∈ tables_1, d.before a0 Z = true) (ws : List Jvm.Cond) (a : Addr) (h0 : Heap) (n0 : Nat) (Z0 : n0 ≤ h0.size)  :
    MetFree l (⟨"java/lang/String", "equals", "(Ljava/lang/Object;)Z"⟩ : MethodName) (head1 (Jvm.Cond.code (⟨"java/lang/String", "equals", "(Ljava/lang/Object;)Z"⟩ : MethodName) jdk_42_method_66_code 3 (some .boolean) :: ws) ({ frames := 0, cells := 0, slots := 0, locals := 0 } : Room)) (fun A_ U => A_ = #[(.ref a), (.ref a)] ∧ Z.Warmed39 U.vm ∧ U.heap = h0) (fun _ _ _ _ _ => True) (fun _ U_ o_ U'_ => ∃ v_ L_, o_ = .returned v_ ∧ Q30 Z a h0 n0 v_ U'_.heap L_ ∧ FrameEnd U_ o_ U'_ L_ ({ frames := 0, cells := 0, slots := 0, locals := 0 } : Room).cells ({ frames := 0, cells := 0, slots := 0, locals := 0 } : Room).slots) := by
  refine MetFree.of_bodySF (plainFor_of_name pn_7) hisR ?_
  intro p e s m args below meth c s₁ Bd hml0 hP hK
  obtain ⟨rfl, hZ, hh⟩ := hP
  have hx := Bd.exec
  have hby := Bd.bytes
  have hml : c.maxLocals = 3 := hml0
  have hown : s.vm.findClass "java/lang/String" = some m.cls := findClass_of_methodNamed Bd.named
  have hnm := (name_of_methodNamed Bd.named Bd.method).1
  have hlk : meth.locks = false := Bd.notSynchronized
  have X0 : Stand p l e ({ frames := 0, cells := 0, slots := 0, locals := 0 } : Room) s m #[(.ref a), (.ref a)] below meth c s₁ [] 0 0 := Stand.of_body Bd
  have e0 : s₁.heap = h0 := by rw [← hh, Bd.state]; rfl
  have N0 := Fr.nil n0
  have K0 : Keep h0 h0 [] := Keep.refl _ _
  refine own_cast (ef_30 m a a) ?_
  show OwnGo p e below s (Q30 Z a h0 n0) ({ frames := 0, cells := 0, slots := 0, locals := 0 } : Room).cells ({ frames := 0, cells := 0, slots := 0, locals := 0 } : Room).slots (s₁.setTop (mkF m 0 #[.val (.ref a), .val (.ref a), .unset] []))
  refine own_on (fun t_ k_ => XS.aloadN X0.here hx rfl (hb hby d30_0) rfl rfl k_) ?_
  show OwnGo p e below s _ _ _ (s₁.setTop (mkF m 1 #[.val (.ref a), .val (.ref a), .unset] [(.ref a)]))
  refine own_on (fun t_ k_ => XS.aloadN X0.here hx rfl (hb hby d30_1) rfl rfl k_) ?_
  show OwnGo p e below s _ _ _ (s₁.setTop (mkF m 2 #[.val (.ref a), .val (.ref a), .unset] [(.ref a), (.ref a)]))
  refine own_on (fun t_ k_ => Jvm.RoadKit.acmp (g := (mkF m 2 #[.val (.ref a), .val (.ref a), .unset] [(.ref a), (.ref a)])) X0 hx rfl rfl rfl (pc0 := 2) (pc' := 5) (same := true) rfl (hb hby d30_2) rfl (decide_eq_true rfl) (by decide) (by decide) k_) ?_
  show OwnGo p e below s _ _ _ (s₁.setTop (mkF m 5 #[.val (.ref a), .val (.ref a), .unset] []))
  refine own_on (fun t_ k_ => XS.iconst X0.here hx rfl (hb hby d30_5) k_) ?_
  show OwnGo p e below s _ _ _ (s₁.setTop (mkF m 6 #[.val (.ref a), .val (.ref a), .unset] [(.int (1 : Int32))]))
  exact own_retN X0 hx hlk (t := .boolean) Bd.returns (by simp) (hb hby d30_6) e0 ⟨rfl, N0, rfl⟩ (by decide) (by decide)
theorem ef_1 (m : MethodId) (xx : Int32) (sh : Int32)  : entryFrame m #[(.int xx), (.int sh)] 3 = mkF m 0 #[.val (.int xx), .val (.int sh), .unset] [] := by first | (simp [entryFrame, mkF, argsToLocals, Value.category]; done) | rfl
def Q1 (Z : State) (xx : Int32) (sh : Int32) (cs : Int32) (h0 : Heap) (n0 : Nat) (v_ : Option Value) (h_ : Heap) (L_ : List Loc) : Prop := ∃ r : Addr, v_ = some (.ref r) ∧ Fr n0 L_ ∧ Keep h0 h_ [] ∧ (Exa Z h_ r "java/lang/String") ∧ (n0 ≤ r) ∧ (h0.size ≤ r) ∧ (Old Z n0 h_)
set_option maxRecDepth 65536 in
set_option maxHeartbeats 40000000 in
theorem rm1 (l : Launch) (Z : State) (a0 : Array Value) (hw : ∀ d ∈ tables_1, d.before a0 Z = true) (ws : List Jvm.Cond) (xx : Int32) (sh : Int32) (cs : Int32) (h0 : Heap) (n0 : Nat) (Z0 : n0 ≤ h0.size) (P0 : Old Z n0 h0) (P1 : Sta Z Z.heap "java/lang/String" "COMPACT_STRINGS" "Z" (.int cs)) (P2 : ¬ (cs = (0 : Int32))) :
    MetFree l (⟨"com/example/fachwissen/fachwissen/mail/MessageWordTextsPinLaw", "str", "(II)Ljava/lang/String;"⟩ : MethodName) (head1 (Jvm.Cond.code (⟨"com/example/fachwissen/fachwissen/mail/MessageWordTextsPinLaw", "str", "(II)Ljava/lang/String;"⟩ : MethodName) method_2_code 3 (some (.object "java/lang/String")) :: ws) ({ frames := 4, cells := 3, slots := 8, locals := 66 } : Room)) (fun A_ U => A_ = #[(.int xx), (.int sh)] ∧ Z.Warmed39 U.vm ∧ U.heap = h0) (fun _ _ _ _ _ => True) (fun _ U_ o_ U'_ => ∃ v_ L_, o_ = .returned v_ ∧ Q1 Z xx sh cs h0 n0 v_ U'_.heap L_ ∧ FrameEnd U_ o_ U'_ L_ ({ frames := 4, cells := 3, slots := 8, locals := 66 } : Room).cells ({ frames := 4, cells := 3, slots := 8, locals := 66 } : Room).slots) := by
  refine MetFree.of_bodySF (plainFor_of_name pn_8) hisR ?_
  intro p e s m args below meth c s₁ Bd hml0 hP hK
  obtain ⟨rfl, hZ, hh⟩ := hP
  have hx := Bd.exec
  have hby := Bd.bytes
  have hml : c.maxLocals = 3 := hml0
  have hown : s.vm.findClass "com/example/fachwissen/fachwissen/mail/MessageWordTextsPinLaw" = some m.cls := findClass_of_methodNamed Bd.named
  have hnm := (name_of_methodNamed Bd.named Bd.method).1
  have hlk : meth.locks = false := Bd.notSynchronized
  have X0 : Stand p l e ({ frames := 4, cells := 3, slots := 8, locals := 66 } : Room) s m #[(.int xx), (.int sh)] below meth c s₁ [] 0 0 := Stand.of_body Bd
  have e0 : s₁.heap = h0 := by rw [← hh, Bd.state]; rfl
  have N0 := Fr.nil n0
  have K0 : Keep h0 h0 [] := Keep.refl _ _
  refine own_cast (ef_1 m xx sh) ?_
  show OwnGo p e below s (Q1 Z xx sh cs h0 n0) ({ frames := 4, cells := 3, slots := 8, locals := 66 } : Room).cells ({ frames := 4, cells := 3, slots := 8, locals := 66 } : Room).slots (s₁.setTop (mkF m 0 #[.val (.int xx), .val (.int sh), .unset] []))
  refine own_on (fun t_ k_ => XS.iconst X0.here hx rfl (hb hby d1_0) k_) ?_
  show OwnGo p e below s _ _ _ (s₁.setTop (mkF m 1 #[.val (.int xx), .val (.int sh), .unset] [(.int (2 : Int32))]))
  obtain ⟨T1, h1, k1, X1, e1, E1, A1, st1⟩ := newP (aty := .char) X0 hx hZ (w4 hw) e0 (g := (mkF m 1 #[.val (.int xx), .val (.int sh), .unset] [(.int (2 : Int32))])) rfl (hb hby d1_1) rfl (by decide) (cap := 2) (by decide) (by decide) (by decide) (by decide)
  obtain ⟨b1, g1⟩ : ∃ z, z = h0.size := ⟨_, rfl⟩
  rw [← g1] at A1 st1
  have g2 : n0 ≤ b1 := Nat.le_trans Z0 (Nat.le_of_eq g1.symm)
  have z3 : h0.size ≤ b1 := Nat.le_trans K0.1 (Nat.le_of_eq g1.symm)
  have V1 : Arv Z h1 b1 k1 .char (2 : Int32) [(.int (0 : Int32)), (.int (0 : Int32))] (.int (0 : Int32)) := (Arv.new A1 (by decide)).pad (pad_rep [] (.int (0 : Int32)) 2)
  have Z1 : n0 ≤ h1.size := Nat.le_trans Z0 E1.1
  have K1 : Keep h0 h1 [] := K0.ext E1
  refine own_on st1 ?_
  show OwnGo p e below s _ _ _ (T1.setTop (mkF m 3 #[.val (.int xx), .val (.int sh), .unset] [(.ref b1)]))
  refine own_on (fun t_ k_ => XS.astoreN X1.here hx rfl (hb hby d1_3) rfl rfl (l' := #[.val (.int xx), .val (.int sh), .val (.ref b1)]) rfl k_) ?_
  show OwnGo p e below s _ _ _ (T1.setTop (mkF m 4 #[.val (.int xx), .val (.int sh), .val (.ref b1)] []))
  refine own_on (fun t_ k_ => XS.aloadN X1.here hx rfl (hb hby d1_4) rfl rfl k_) ?_
  show OwnGo p e below s _ _ _ (T1.setTop (mkF m 5 #[.val (.int xx), .val (.int sh), .val (.ref b1)] [(.ref b1)]))
  refine own_on (fun t_ k_ => XS.iconst X1.here hx rfl (hb hby d1_5) k_) ?_
  show OwnGo p e below s _ _ _ (T1.setTop (mkF m 6 #[.val (.int xx), .val (.int sh), .val (.ref b1)] [(.int (0 : Int32)), (.ref b1)]))
  refine own_on (fun t_ k_ => XS.iloadN X1.here hx rfl (hb hby d1_6) rfl k_) ?_
  show OwnGo p e below s _ _ _ (T1.setTop (mkF m 7 #[.val (.int xx), .val (.int sh), .val (.ref b1)] [(.int xx), (.int (0 : Int32)), (.ref b1)]))
  refine own_on (fun t_ k_ => XS.iloadN X1.here hx rfl (hb hby d1_7) rfl k_) ?_
  show OwnGo p e below s _ _ _ (T1.setTop (mkF m 8 #[.val (.int xx), .val (.int sh), .val (.ref b1)] [(.int sh), (.int xx), (.int (0 : Int32)), (.ref b1)]))
  refine own_on (fun t_ k_ => XS.iushr X1.here hx rfl (hb hby d1_8) rfl k_) ?_
  show OwnGo p e below s _ _ _ (T1.setTop (mkF m 9 #[.val (.int xx), .val (.int sh), .val (.ref b1)] [(.int ((xx.toUInt32 >>> (sh &&& 31).toUInt32).toInt32)), (.int (0 : Int32)), (.ref b1)]))
  refine own_on (fun t_ k_ => XS.sipush X1.here hx rfl (hb hby d1_9) k_) ?_
  show OwnGo p e below s _ _ _ (T1.setTop (mkF m 12 #[.val (.int xx), .val (.int sh), .val (.ref b1)] [(.int (255 : Int32)), (.int ((xx.toUInt32 >>> (sh &&& 31).toUInt32).toInt32)), (.int (0 : Int32)), (.ref b1)]))
  refine own_on (fun t_ k_ => XS.iand X1.here hx rfl (hb hby d1_12) rfl k_) ?_
  show OwnGo p e below s _ _ _ (T1.setTop (mkF m 13 #[.val (.int xx), .val (.int sh), .val (.ref b1)] [(.int (((xx.toUInt32 >>> (sh &&& 31).toUInt32).toInt32) &&& (255 : Int32))), (.int (0 : Int32)), (.ref b1)]))
  refine own_on (fun t_ k_ => XS.i2c X1.here hx rfl (hb hby d1_13) rfl k_) ?_
  show OwnGo p e below s _ _ _ (T1.setTop (mkF m 14 #[.val (.int xx), .val (.int sh), .val (.ref b1)] [(.int ((((xx.toUInt32 >>> (sh &&& 31).toUInt32).toInt32) &&& (255 : Int32)).toUInt32.toUInt16.toUInt32.toInt32)), (.int (0 : Int32)), (.ref b1)]))
  rw [show ((((xx.toUInt32 >>> (sh &&& 31).toUInt32).toInt32) &&& (255 : Int32)).toUInt32.toUInt16.toUInt32.toInt32) = (((xx.toUInt32 >>> (sh &&& 31).toUInt32).toInt32) &&& (255 : Int32)) from own_i2c _]
  show OwnGo p e below s _ _ _ (T1.setTop (mkF m 14 #[.val (.int xx), .val (.int sh), .val (.ref b1)] [(.int (((xx.toUInt32 >>> (sh &&& 31).toUInt32).toInt32) &&& (255 : Int32))), (.int (0 : Int32)), (.ref b1)]))
  obtain ⟨cl4, Ar4, q4, S4, M4, H4, G4⟩ := id V1
  have hin4 : ¬ ((0 : Int32) < 0 ∨ cl4.slots.size ≤ ((0 : Int32)).toNatClampNeg) := inb_of S4 ⟨by decide, by decide⟩
  obtain ⟨T5, h5, X5, e5, W5, st5⟩ := stC X1 hx hZ e1 Ar4 (j := (0 : Int32)) hin4 (g := (mkF m 14 #[.val (.int xx), .val (.int sh), .val (.ref b1)] [(.int (((xx.toUInt32 >>> (sh &&& 31).toUInt32).toInt32) &&& (255 : Int32))), (.int (0 : Int32)), (.ref b1)])) rfl rfl (hb hby d1_14)
  have V5 : Arv Z h5 b1 k1 .char (2 : Int32) [(.int (nar .char (((xx.toUInt32 >>> (sh &&& 31).toUInt32).toInt32) &&& (255 : Int32)))), (.int (0 : Int32))] (.int (0 : Int32)) :=  Arv.set Ar4 q4 S4 M4 H4 G4 (fits_nar_char _) W5 0 rfl (Nat.le_of_ble_eq_true rfl)
  have N5 := Fr.snoc X5 N0 g2
  have Z5 : n0 ≤ h5.size := Nat.le_trans Z1 (Keep.of_wr W5).1
  have K5 : Keep h0 h5 [] := K1.wr W5 (Or.inr z3)
  refine own_on st5 ?_
  show OwnGo p e below s _ _ _ (T5.setTop (mkF m 15 #[.val (.int xx), .val (.int sh), .val (.ref b1)] []))
  refine own_on (fun t_ k_ => XS.aloadN X5.here hx rfl (hb hby d1_15) rfl rfl k_) ?_
  show OwnGo p e below s _ _ _ (T5.setTop (mkF m 16 #[.val (.int xx), .val (.int sh), .val (.ref b1)] [(.ref b1)]))
  refine own_on (fun t_ k_ => XS.iconst X5.here hx rfl (hb hby d1_16) k_) ?_
  show OwnGo p e below s _ _ _ (T5.setTop (mkF m 17 #[.val (.int xx), .val (.int sh), .val (.ref b1)] [(.int (1 : Int32)), (.ref b1)]))
  refine own_on (fun t_ k_ => XS.iloadN X5.here hx rfl (hb hby d1_17) rfl k_) ?_
  show OwnGo p e below s _ _ _ (T5.setTop (mkF m 18 #[.val (.int xx), .val (.int sh), .val (.ref b1)] [(.int xx), (.int (1 : Int32)), (.ref b1)]))
  refine own_on (fun t_ k_ => XS.iloadN X5.here hx rfl (hb hby d1_18) rfl k_) ?_
  show OwnGo p e below s _ _ _ (T5.setTop (mkF m 19 #[.val (.int xx), .val (.int sh), .val (.ref b1)] [(.int sh), (.int xx), (.int (1 : Int32)), (.ref b1)]))
  refine own_on (fun t_ k_ => XS.bipush X5.here hx rfl (hb hby d1_19) k_) ?_
  show OwnGo p e below s _ _ _ (T5.setTop (mkF m 21 #[.val (.int xx), .val (.int sh), .val (.ref b1)] [(.int (8 : Int32)), (.int sh), (.int xx), (.int (1 : Int32)), (.ref b1)]))
  refine own_on (fun t_ k_ => XS.iadd X5.here hx rfl (hb hby d1_21) rfl k_) ?_
  show OwnGo p e below s _ _ _ (T5.setTop (mkF m 22 #[.val (.int xx), .val (.int sh), .val (.ref b1)] [(.int (sh + (8 : Int32))), (.int xx), (.int (1 : Int32)), (.ref b1)]))
  refine own_on (fun t_ k_ => XS.iushr X5.here hx rfl (hb hby d1_22) rfl k_) ?_
  show OwnGo p e below s _ _ _ (T5.setTop (mkF m 23 #[.val (.int xx), .val (.int sh), .val (.ref b1)] [(.int ((xx.toUInt32 >>> ((sh + (8 : Int32)) &&& 31).toUInt32).toInt32)), (.int (1 : Int32)), (.ref b1)]))
  refine own_on (fun t_ k_ => XS.sipush X5.here hx rfl (hb hby d1_23) k_) ?_
  show OwnGo p e below s _ _ _ (T5.setTop (mkF m 26 #[.val (.int xx), .val (.int sh), .val (.ref b1)] [(.int (255 : Int32)), (.int ((xx.toUInt32 >>> ((sh + (8 : Int32)) &&& 31).toUInt32).toInt32)), (.int (1 : Int32)), (.ref b1)]))
  refine own_on (fun t_ k_ => XS.iand X5.here hx rfl (hb hby d1_26) rfl k_) ?_
  show OwnGo p e below s _ _ _ (T5.setTop (mkF m 27 #[.val (.int xx), .val (.int sh), .val (.ref b1)] [(.int (((xx.toUInt32 >>> ((sh + (8 : Int32)) &&& 31).toUInt32).toInt32) &&& (255 : Int32))), (.int (1 : Int32)), (.ref b1)]))
  refine own_on (fun t_ k_ => XS.i2c X5.here hx rfl (hb hby d1_27) rfl k_) ?_
  show OwnGo p e below s _ _ _ (T5.setTop (mkF m 28 #[.val (.int xx), .val (.int sh), .val (.ref b1)] [(.int ((((xx.toUInt32 >>> ((sh + (8 : Int32)) &&& 31).toUInt32).toInt32) &&& (255 : Int32)).toUInt32.toUInt16.toUInt32.toInt32)), (.int (1 : Int32)), (.ref b1)]))
  rw [show ((((xx.toUInt32 >>> ((sh + (8 : Int32)) &&& 31).toUInt32).toInt32) &&& (255 : Int32)).toUInt32.toUInt16.toUInt32.toInt32) = (((xx.toUInt32 >>> ((sh + (8 : Int32)) &&& 31).toUInt32).toInt32) &&& (255 : Int32)) from own_i2c _]
  show OwnGo p e below s _ _ _ (T5.setTop (mkF m 28 #[.val (.int xx), .val (.int sh), .val (.ref b1)] [(.int (((xx.toUInt32 >>> ((sh + (8 : Int32)) &&& 31).toUInt32).toInt32) &&& (255 : Int32))), (.int (1 : Int32)), (.ref b1)]))
  obtain ⟨cl6, Ar6, q6, S6, M6, H6, G6⟩ := id V5
  have hin6 : ¬ ((1 : Int32) < 0 ∨ cl6.slots.size ≤ ((1 : Int32)).toNatClampNeg) := inb_of S6 ⟨by decide, by decide⟩
  obtain ⟨T7, h7, X7, e7, W7, st7⟩ := stC X5 hx hZ e5 Ar6 (j := (1 : Int32)) hin6 (g := (mkF m 28 #[.val (.int xx), .val (.int sh), .val (.ref b1)] [(.int (((xx.toUInt32 >>> ((sh + (8 : Int32)) &&& 31).toUInt32).toInt32) &&& (255 : Int32))), (.int (1 : Int32)), (.ref b1)])) rfl rfl (hb hby d1_28)
  have V7 : Arv Z h7 b1 k1 .char (2 : Int32) [(.int (nar .char (((xx.toUInt32 >>> (sh &&& 31).toUInt32).toInt32) &&& (255 : Int32)))), (.int (nar .char (((xx.toUInt32 >>> ((sh + (8 : Int32)) &&& 31).toUInt32).toInt32) &&& (255 : Int32))))] (.int (0 : Int32)) :=  Arv.set Ar6 q6 S6 M6 H6 G6 (fits_nar_char _) W7 1 rfl (Nat.le_of_ble_eq_true rfl)
  have N7 := Fr.snoc X7 N5 g2
  have Z7 : n0 ≤ h7.size := Nat.le_trans Z5 (Keep.of_wr W7).1
  have K7 : Keep h0 h7 [] := K5.wr W7 (Or.inr z3)
  refine own_on st7 ?_
  show OwnGo p e below s _ _ _ (T7.setTop (mkF m 29 #[.val (.int xx), .val (.int sh), .val (.ref b1)] []))
  rw [(own_chr ((xx.toUInt32 >>> (sh &&& 31).toUInt32).toInt32)).2, (own_chr ((xx.toUInt32 >>> ((sh + (8 : Int32)) &&& 31).toUInt32).toInt32)).2] at V7
  obtain ⟨T8, h8, X8, e8, E8, A8, D8, u8, st8⟩ := newO X7 hx hZ hown (w5 hw) (w6 hw) (w7 hw) e7 (g := (mkF m 29 #[.val (.int xx), .val (.int sh), .val (.ref b1)] [])) rfl (hb hby d1_29) (by decide) (by decide)
  obtain ⟨b8, g8⟩ : ∃ z, z = h7.size := ⟨_, rfl⟩
  rw [← g8] at A8 D8 st8
  have ne9' : b1 < b8 := Nat.lt_of_lt_of_le V7.lt (Nat.le_of_eq g8.symm)
  have ne9 : b1 ≠ b8 := Nat.ne_of_lt ne9'
  have g10 : n0 ≤ b8 := Nat.le_trans Z7 (Nat.le_of_eq g8.symm)
  have z11 : h0.size ≤ b8 := Nat.le_trans K7.1 (Nat.le_of_eq g8.symm)
  have Z8 : n0 ≤ h8.size := Nat.le_trans Z7 E8.1
  have K8 : Keep h0 h8 [] := K7.ext E8
  have F8_coder : Fld Z h8 b8 "java/lang/String" "coder" "B" (.int (0 : Int32)) := D8 (Or.inr (w31 hw)) (ty := .byte) (by decide)
  have F8_value : Fld Z h8 b8 "java/lang/String" "value" "[B" .null := D8 (Or.inr (w33 hw)) (ty := (.array .byte)) (by decide)
  refine own_on st8 ?_
  show OwnGo p e below s _ _ _ (T8.setTop (mkF m 32 #[.val (.int xx), .val (.int sh), .val (.ref b1)] [(.ref b8)]))
  refine own_on (fun t_ k_ => XS.dup X8.here hx rfl (hb hby d1_32) rfl rfl k_) ?_
  show OwnGo p e below s _ _ _ (T8.setTop (mkF m 33 #[.val (.int xx), .val (.int sh), .val (.ref b1)] [(.ref b8), (.ref b8)]))
  refine own_on (fun t_ k_ => XS.aloadN X8.here hx rfl (hb hby d1_33) rfl rfl k_) ?_
  show OwnGo p e below s _ _ _ (T8.setTop (mkF m 34 #[.val (.int xx), .val (.int sh), .val (.ref b1)] [(.ref b1), (.ref b8), (.ref b8)]))
  have f12 : Arv Z h8 b1 k1 .char (2 : Int32) [(.int (((xx.toUInt32 >>> (sh &&& 31).toUInt32).toInt32) &&& (255 : Int32))), (.int (((xx.toUInt32 >>> ((sh + (8 : Int32)) &&& 31).toUInt32).toInt32) &&& (255 : Int32)))] (.int (0 : Int32)) := V7.ext E8
  have f13 : Old Z n0 h1 := P0.ext E1
  have f14 : Old Z n0 h5 := f13.wr W5 g2
  have f15 : Old Z n0 h7 := f14.wr W7 g2
  have f16 : Old Z n0 h8 := f15.ext E8
  obtain ⟨_, _, ⟨T17, L17, k17, n17⟩, -, X17, ⟨Lc17, hQ17, l17, y17, z17⟩, st17⟩ := X8.specialBack hx (y := (⟨"java/lang/String", "<init>", "([C)V"⟩ : MethodName)) rfl hown (mvT hZ (w8 hw)) (mvT hZ (w9 hw)) (mvT hZ (w10 hw)) (by decide) (own_newX (n0 := n0) (W := 1) (cs := [(((xx.toUInt32 >>> (sh &&& 31).toUInt32).toInt32) &&& (255 : Int32)), (((xx.toUInt32 >>> ((sh + (8 : Int32)) &&& 31).toUInt32).toInt32) &&& (255 : Int32))]) (n := 2) hZ hw g10 Z8 A8 F8_value F8_coder f12 f16 P1 P2 rfl rfl (by decide) (by decide) (by intro c hc; simp only [List.mem_cons, List.not_mem_nil, or_false] at hc; rcases hc with rfl | rfl <;> exact own_b255 _) (by decide) (by decide)) (g := (mkF m 34 #[.val (.int xx), .val (.int sh), .val (.ref b1)] [(.ref b1), (.ref b8), (.ref b8)])) rfl (by rw [hml]; rfl) (Steps.refl _) (a := b8) (argsL := [(.ref b1)]) (rest := [(.ref b8)]) (lenOf pd_10 rfl) rfl (by show 2 * 0 + _ ≤ _; exact Nat.le_of_eq rfl) (hb hby d1_34) (fun _ hWx => ⟨rfl, e8, (by decide : 2 + 1 ≤ _), (by decide : 6 + 2 ≤ _)⟩)
  dsimp only [Pt.U, Pt.locs, Pt.cells, Pt.slots] at X17 l17 y17 z17 st17 hQ17
  replace X17 := own_num (c' := 3) (n' := 8) X17 l17 (y17.trans rfl) (z17.trans rfl)
  obtain ⟨rfl, N17q, K17q, c17_0⟩ := hQ17
  have N17 := Fr.app N7 N17q
  have Z17 : n0 ≤ T17.heap.size := Nat.le_trans Z8 K17q.1
  have K17 : Keep h0 T17.heap [] := K8.trans K17q (allS (P := fun x => x ∈ [] ∨ h0.size ≤ x) (Or.inr z11) all0)
  refine own_tr st17 ?_
  show OwnGo p e below s _ _ _ (T17.setTop (mkF m 37 #[.val (.int xx), .val (.int sh), .val (.ref b1)] [(.ref b8)]))
  have f18 : Old Z n0 T17.heap := f16.keep K17q (allS g10 all0)
  exact own_retA X17 hx hlk Bd.returns rfl rfl (hb hby d1_37) rfl ⟨b8, rfl, N17, K17, c17_0, g10, z11, f18⟩ (by decide) (by decide)
theorem ef_12 (m : MethodId) (a : Addr)  : entryFrame m #[(.ref a)] 1 = mkF m 0 #[.val (.ref a)] [] := by first | (simp [entryFrame, mkF, argsToLocals, Value.category]; done) | rfl
def Q12 (Z : State) (a : Addr) (h0 : Heap) (n0 : Nat) (v_ : Option Value) (h_ : Heap) (L_ : List Loc) : Prop := v_ = none ∧ Fr n0 L_ ∧ h_ = h0
set_option maxRecDepth 65536 in
set_option maxHeartbeats 40000000 in
theorem rm12 (l : Launch) (Z : State) (a0 : Array Value) (hw : ∀ d ∈ tables_1, d.before a0 Z = true) (ws : List Jvm.Cond) (a : Addr) (h0 : Heap) (n0 : Nat) (Z0 : n0 ≤ h0.size)  :
    MetFree l (⟨"java/lang/Record", "<init>", "()V"⟩ : MethodName) (head1 (Jvm.Cond.code (⟨"java/lang/Record", "<init>", "()V"⟩ : MethodName) jdk_30_method_1_code 1 none :: ws) ({ frames := 1, cells := 0, slots := 0, locals := 12 } : Room)) (fun A_ U => A_ = #[(.ref a)] ∧ Z.Warmed39 U.vm ∧ U.heap = h0) (fun _ _ _ _ _ => True) (fun _ U_ o_ U'_ => ∃ v_ L_, o_ = .returned v_ ∧ Q12 Z a h0 n0 v_ U'_.heap L_ ∧ FrameEnd U_ o_ U'_ L_ ({ frames := 1, cells := 0, slots := 0, locals := 12 } : Room).cells ({ frames := 1, cells := 0, slots := 0, locals := 12 } : Room).slots) := by
  refine MetFree.of_bodySF (plainFor_of_name pn_9) hisR ?_
  intro p e s m args below meth c s₁ Bd hml0 hP hK
  obtain ⟨rfl, hZ, hh⟩ := hP
  have hx := Bd.exec
  have hby := Bd.bytes
  have hml : c.maxLocals = 1 := hml0
  have hown : s.vm.findClass "java/lang/Record" = some m.cls := findClass_of_methodNamed Bd.named
  have hnm := (name_of_methodNamed Bd.named Bd.method).1
  have hlk : meth.locks = false := Bd.notSynchronized
  have X0 : Stand p l e ({ frames := 1, cells := 0, slots := 0, locals := 12 } : Room) s m #[(.ref a)] below meth c s₁ [] 0 0 := Stand.of_body Bd
  have e0 : s₁.heap = h0 := by rw [← hh, Bd.state]; rfl
  have N0 := Fr.nil n0
  have K0 : Keep h0 h0 [] := Keep.refl _ _
  refine own_cast (ef_12 m a) ?_
  show OwnGo p e below s (Q12 Z a h0 n0) ({ frames := 1, cells := 0, slots := 0, locals := 12 } : Room).cells ({ frames := 1, cells := 0, slots := 0, locals := 12 } : Room).slots (s₁.setTop (mkF m 0 #[.val (.ref a)] []))
  refine own_on (fun t_ k_ => XS.aloadN X0.here hx rfl (hb hby d12_0) rfl rfl k_) ?_
  show OwnGo p e below s _ _ _ (s₁.setTop (mkF m 1 #[.val (.ref a)] [(.ref a)]))
  obtain ⟨T1, X1, e1, st1⟩ := initO X0 hx hZ hown (w69 hw) (w16 hw) (w17 hw) e0 (g := (mkF m 1 #[.val (.ref a)] [(.ref a)])) rfl (by rw [hml]; rfl) rfl (hb hby d12_1) (by decide) (W := 0) (by show 2 * 0 + _ ≤ _; exact Nat.le_of_eq rfl) (by decide)
  refine own_on st1 ?_
  show OwnGo p e below s _ _ _ (T1.setTop (mkF m 4 #[.val (.ref a)] []))
  exact own_retV X1 hx hlk Bd.returns (hb hby d12_4) e1 ⟨rfl, N0, rfl⟩ (by decide) (by decide)
theorem ef_11 (m : MethodId) (a : Addr) (oS : Addr) (oH : Addr) (oT : Addr)  : entryFrame m #[(.ref a), (.ref oS), (.ref oH), (.ref oT)] 4 = mkF m 0 #[.val (.ref a), .val (.ref oS), .val (.ref oH), .val (.ref oT)] [] := by first | (simp [entryFrame, mkF, argsToLocals, Value.category]; done) | rfl
def Q11 (Z : State) (a : Addr) (oS : Addr) (oH : Addr) (oT : Addr) (u : Value) (u' : Value) (u'' : Value) (h0 : Heap) (n0 : Nat) (v_ : Option Value) (h_ : Heap) (L_ : List Loc) : Prop := v_ = none ∧ Fr n0 L_ ∧ Keep h0 h_ [a] ∧ (Exa Z h_ a "com/example/fachwissen/fachwissen/mail/Message") ∧ (Fld Z h_ a "com/example/fachwissen/fachwissen/mail/Message" "subjects" "Ljava/util/List;" (.ref oS)) ∧ (Fld Z h_ a "com/example/fachwissen/fachwissen/mail/Message" "addressHeaders" "Ljava/util/List;" (.ref oH)) ∧ (Fld Z h_ a "com/example/fachwissen/fachwissen/mail/Message" "textParts" "Ljava/util/List;" (.ref oT))
set_option maxRecDepth 65536 in
set_option maxHeartbeats 40000000 in
theorem rm11 (l : Launch) (Z : State) (a0 : Array Value) (hw : ∀ d ∈ tables_1, d.before a0 Z = true) (ws : List Jvm.Cond) (a : Addr) (oS : Addr) (oH : Addr) (oT : Addr) (u : Value) (u' : Value) (u'' : Value) (h0 : Heap) (n0 : Nat) (Z0 : n0 ≤ h0.size) (P0 : Exa Z h0 a "com/example/fachwissen/fachwissen/mail/Message") (P1 : Fld Z h0 a "com/example/fachwissen/fachwissen/mail/Message" "subjects" "Ljava/util/List;" u) (P2 : Fld Z h0 a "com/example/fachwissen/fachwissen/mail/Message" "addressHeaders" "Ljava/util/List;" u') (P3 : Fld Z h0 a "com/example/fachwissen/fachwissen/mail/Message" "textParts" "Ljava/util/List;" u'') (P4 : n0 ≤ a) :
    MetFree l (⟨"com/example/fachwissen/fachwissen/mail/Message", "<init>", "(Ljava/util/List;Ljava/util/List;Ljava/util/List;)V"⟩ : MethodName) (head1 (Jvm.Cond.code (⟨"com/example/fachwissen/fachwissen/mail/Message", "<init>", "(Ljava/util/List;Ljava/util/List;Ljava/util/List;)V"⟩ : MethodName) prog_12_method_1_code 4 none :: ws) ({ frames := 2, cells := 0, slots := 0, locals := 24 } : Room)) (fun A_ U => A_ = #[(.ref a), (.ref oS), (.ref oH), (.ref oT)] ∧ Z.Warmed39 U.vm ∧ U.heap = h0) (fun _ _ _ _ _ => True) (fun _ U_ o_ U'_ => ∃ v_ L_, o_ = .returned v_ ∧ Q11 Z a oS oH oT u u' u'' h0 n0 v_ U'_.heap L_ ∧ FrameEnd U_ o_ U'_ L_ ({ frames := 2, cells := 0, slots := 0, locals := 24 } : Room).cells ({ frames := 2, cells := 0, slots := 0, locals := 24 } : Room).slots) := by
  refine MetFree.of_bodySF (plainFor_of_name pn_10) hisR ?_
  intro p e s m args below meth c s₁ Bd hml0 hP hK
  obtain ⟨rfl, hZ, hh⟩ := hP
  have hx := Bd.exec
  have hby := Bd.bytes
  have hml : c.maxLocals = 4 := hml0
  have hown : s.vm.findClass "com/example/fachwissen/fachwissen/mail/Message" = some m.cls := findClass_of_methodNamed Bd.named
  have hnm := (name_of_methodNamed Bd.named Bd.method).1
  have hlk : meth.locks = false := Bd.notSynchronized
  have X0 : Stand p l e ({ frames := 2, cells := 0, slots := 0, locals := 24 } : Room) s m #[(.ref a), (.ref oS), (.ref oH), (.ref oT)] below meth c s₁ [] 0 0 := Stand.of_body Bd
  have e0 : s₁.heap = h0 := by rw [← hh, Bd.state]; rfl
  have N0 := Fr.nil n0
  have K0 : Keep h0 h0 [a] := Keep.refl _ _
  refine own_cast (ef_11 m a oS oH oT) ?_
  show OwnGo p e below s (Q11 Z a oS oH oT u u' u'' h0 n0) ({ frames := 2, cells := 0, slots := 0, locals := 24 } : Room).cells ({ frames := 2, cells := 0, slots := 0, locals := 24 } : Room).slots (s₁.setTop (mkF m 0 #[.val (.ref a), .val (.ref oS), .val (.ref oH), .val (.ref oT)] []))
  refine own_on (fun t_ k_ => XS.aloadN X0.here hx rfl (hb hby d11_0) rfl rfl k_) ?_
  show OwnGo p e below s _ _ _ (s₁.setTop (mkF m 1 #[.val (.ref a), .val (.ref oS), .val (.ref oH), .val (.ref oT)] [(.ref a)]))
  obtain ⟨_, _, ⟨T1, L1, k1, n1⟩, -, X1, ⟨Lc1, hQ1, l1, y1, z1⟩, st1⟩ := X0.specialBack hx (y := (⟨"java/lang/Record", "<init>", "()V"⟩ : MethodName)) rfl hown (mvT hZ (w64 hw)) (mvT hZ (w65 hw)) (mvT hZ (w68 hw)) (by decide) (backOf (W := 0) (rm12 l Z a0 hw [] a h0 n0 Z0 ) hZ (w68 hw) (w67 hw) (by decide) (by decide)) (g := (mkF m 1 #[.val (.ref a), .val (.ref oS), .val (.ref oH), .val (.ref oT)] [(.ref a)])) rfl (by rw [hml]; rfl) (Steps.refl _) (a := a) (argsL := []) (rest := []) (lenOf pd_0 rfl) rfl (by show 2 * 0 + _ ≤ _; exact Nat.le_of_eq rfl) (hb hby d11_1) (fun _ hWx => ⟨rfl, e0, (by decide : 0 + 0 ≤ _), (by decide : 0 + 0 ≤ _)⟩)
  dsimp only [Pt.U, Pt.locs, Pt.cells, Pt.slots] at X1 l1 y1 z1 st1 hQ1
  replace X1 := own_num (c' := 0) (n' := 0) X1 l1 (y1.trans rfl) (z1.trans rfl)
  obtain ⟨rfl, N1q, e1⟩ := hQ1
  have N1 := Fr.app N0 N1q
  refine own_tr st1 ?_
  show OwnGo p e below s _ _ _ (T1.setTop (mkF m 4 #[.val (.ref a), .val (.ref oS), .val (.ref oH), .val (.ref oT)] []))
  refine own_on (fun t_ k_ => XS.aloadN X1.here hx rfl (hb hby d11_4) rfl rfl k_) ?_
  show OwnGo p e below s _ _ _ (T1.setTop (mkF m 5 #[.val (.ref a), .val (.ref oS), .val (.ref oH), .val (.ref oT)] [(.ref a)]))
  refine own_on (fun t_ k_ => XS.aloadN X1.here hx rfl (hb hby d11_5) rfl rfl k_) ?_
  show OwnGo p e below s _ _ _ (T1.setTop (mkF m 6 #[.val (.ref a), .val (.ref oS), .val (.ref oH), .val (.ref oT)] [(.ref oS), (.ref a)]))
  obtain ⟨T2, h2, X2, e2, W2, st2⟩ := putF X1 hx hZ hown (host := "") (Or.inl (w70 hw)) Via.refl e1 P1 P0 (Or.inr ⟨(w71 hw), rfl, hnm⟩) (w59 hw) (ty := (.object "java/util/List")) (by decide) rfl rfl (g := (mkF m 6 #[.val (.ref a), .val (.ref oS), .val (.ref oH), .val (.ref oT)] [(.ref oS), (.ref a)])) rfl rfl (hb hby d11_6)
  have F2 := P1.same W2
  have N2 := Fr.snoc X2 N1 P4
  have Z2 : n0 ≤ h2.size := Nat.le_trans Z0 (Keep.of_wr W2).1
  have K2 : Keep h0 h2 [a] := K0.wr W2 (Or.inl (List.mem_of_getElem? (i := 0) rfl))
  refine own_on st2 ?_
  show OwnGo p e below s _ _ _ (T2.setTop (mkF m 9 #[.val (.ref a), .val (.ref oS), .val (.ref oH), .val (.ref oT)] []))
  refine own_on (fun t_ k_ => XS.aloadN X2.here hx rfl (hb hby d11_9) rfl rfl k_) ?_
  show OwnGo p e below s _ _ _ (T2.setTop (mkF m 10 #[.val (.ref a), .val (.ref oS), .val (.ref oH), .val (.ref oT)] [(.ref a)]))
  refine own_on (fun t_ k_ => XS.aloadN X2.here hx rfl (hb hby d11_10) rfl rfl k_) ?_
  show OwnGo p e below s _ _ _ (T2.setTop (mkF m 11 #[.val (.ref a), .val (.ref oS), .val (.ref oH), .val (.ref oT)] [(.ref oH), (.ref a)]))
  have f3 : Fld Z h2 a "com/example/fachwissen/fachwissen/mail/Message" "addressHeaders" "Ljava/util/List;" u' := P2.other W2 (Or.inr (slot_ne (Or.inr (w73 hw)) (Or.inr (w71 hw)) (by decide) (t := (.object "java/util/List")) (t' := (.object "java/util/List")) (by decide) (by decide)))
  have f4 : Exa Z h2 a "com/example/fachwissen/fachwissen/mail/Message" := P0.wr W2
  obtain ⟨T5, h5, X5, e5, W5, st5⟩ := putF X2 hx hZ hown (host := "") (Or.inl (w72 hw)) Via.refl e2 f3 f4 (Or.inr ⟨(w73 hw), rfl, hnm⟩) (w59 hw) (ty := (.object "java/util/List")) (by decide) rfl rfl (g := (mkF m 11 #[.val (.ref a), .val (.ref oS), .val (.ref oH), .val (.ref oT)] [(.ref oH), (.ref a)])) rfl rfl (hb hby d11_11)
  have F5 := f3.same W5
  have N5 := Fr.snoc X5 N2 P4
  have Z5 : n0 ≤ h5.size := Nat.le_trans Z2 (Keep.of_wr W5).1
  have K5 : Keep h0 h5 [a] := K2.wr W5 (Or.inl (List.mem_of_getElem? (i := 0) rfl))
  refine own_on st5 ?_
  show OwnGo p e below s _ _ _ (T5.setTop (mkF m 14 #[.val (.ref a), .val (.ref oS), .val (.ref oH), .val (.ref oT)] []))
  refine own_on (fun t_ k_ => XS.aloadN X5.here hx rfl (hb hby d11_14) rfl rfl k_) ?_
  show OwnGo p e below s _ _ _ (T5.setTop (mkF m 15 #[.val (.ref a), .val (.ref oS), .val (.ref oH), .val (.ref oT)] [(.ref a)]))
  refine own_on (fun t_ k_ => XS.aloadN X5.here hx rfl (hb hby d11_15) rfl rfl k_) ?_
  show OwnGo p e below s _ _ _ (T5.setTop (mkF m 16 #[.val (.ref a), .val (.ref oS), .val (.ref oH), .val (.ref oT)] [(.ref oT), (.ref a)]))
  have f6 : Fld Z h2 a "com/example/fachwissen/fachwissen/mail/Message" "textParts" "Ljava/util/List;" u'' := P3.other W2 (Or.inr (slot_ne (Or.inr (w75 hw)) (Or.inr (w71 hw)) (by decide) (t := (.object "java/util/List")) (t' := (.object "java/util/List")) (by decide) (by decide)))
  have f7 : Fld Z h5 a "com/example/fachwissen/fachwissen/mail/Message" "textParts" "Ljava/util/List;" u'' := f6.other W5 (Or.inr (slot_ne (Or.inr (w75 hw)) (Or.inr (w73 hw)) (by decide) (t := (.object "java/util/List")) (t' := (.object "java/util/List")) (by decide) (by decide)))
  have f8 : Exa Z h5 a "com/example/fachwissen/fachwissen/mail/Message" := f4.wr W5
  obtain ⟨T9, h9, X9, e9, W9, st9⟩ := putF X5 hx hZ hown (host := "") (Or.inl (w74 hw)) Via.refl e5 f7 f8 (Or.inr ⟨(w75 hw), rfl, hnm⟩) (w59 hw) (ty := (.object "java/util/List")) (by decide) rfl rfl (g := (mkF m 16 #[.val (.ref a), .val (.ref oS), .val (.ref oH), .val (.ref oT)] [(.ref oT), (.ref a)])) rfl rfl (hb hby d11_16)
  have F9 := f7.same W9
  have N9 := Fr.snoc X9 N5 P4
  have Z9 : n0 ≤ h9.size := Nat.le_trans Z5 (Keep.of_wr W9).1
  have K9 : Keep h0 h9 [a] := K5.wr W9 (Or.inl (List.mem_of_getElem? (i := 0) rfl))
  refine own_on st9 ?_
  show OwnGo p e below s _ _ _ (T9.setTop (mkF m 19 #[.val (.ref a), .val (.ref oS), .val (.ref oH), .val (.ref oT)] []))
  have f10 : Exa Z h9 a "com/example/fachwissen/fachwissen/mail/Message" := f8.wr W9
  have f11 : Fld Z h5 a "com/example/fachwissen/fachwissen/mail/Message" "subjects" "Ljava/util/List;" (.ref oS) := F2.other W5 (Or.inr (slot_ne (Or.inr (w71 hw)) (Or.inr (w73 hw)) (by decide) (t := (.object "java/util/List")) (t' := (.object "java/util/List")) (by decide) (by decide)))
  have f12 : Fld Z h9 a "com/example/fachwissen/fachwissen/mail/Message" "subjects" "Ljava/util/List;" (.ref oS) := f11.other W9 (Or.inr (slot_ne (Or.inr (w71 hw)) (Or.inr (w75 hw)) (by decide) (t := (.object "java/util/List")) (t' := (.object "java/util/List")) (by decide) (by decide)))
  have f13 : Fld Z h9 a "com/example/fachwissen/fachwissen/mail/Message" "addressHeaders" "Ljava/util/List;" (.ref oH) := F5.other W9 (Or.inr (slot_ne (Or.inr (w73 hw)) (Or.inr (w75 hw)) (by decide) (t := (.object "java/util/List")) (t' := (.object "java/util/List")) (by decide) (by decide)))
  exact own_retV X9 hx hlk Bd.returns (hb hby d11_19) e9 ⟨rfl, N9, K9, f10, f12, f13, F9⟩ (by decide) (by decide)
theorem ef_13 (m : MethodId) (a : Addr)  : entryFrame m #[(.ref a)] 2 = mkF m 0 #[.val (.ref a), .unset] [] := by first | (simp [entryFrame, mkF, argsToLocals, Value.category]; done) | rfl
def Q13 (Z : State) (a : Addr) (oS : Addr) (eaS : Addr) (cpS : Nat) (lS : List Addr) (oT : Addr) (eaT : Addr) (cpT : Nat) (lT : List Addr) (dc : Addr) (em : Addr) (mr : Addr) (ml : Addr) (h0 : Heap) (n0 : Nat) (v_ : Option Value) (h_ : Heap) (L_ : List Loc) : Prop := ∃ r : Addr, ∃ ea2 : Addr, ∃ cp2 : Nat, v_ = some (.ref r) ∧ Fr n0 L_ ∧ Keep h0 h_ [] ∧ (Exa Z h_ r "java/util/ArrayList") ∧ (Fld Z h_ r "java/util/ArrayList" "elementData" "[Ljava/lang/Object;" (.ref ea2)) ∧ (Fld Z h_ r "java/util/ArrayList" "size" "I" (.int (own_n (lS ++ lT)))) ∧ (OwnA Z h_ ea2 cp2 (lS ++ lT)) ∧ (OwnE Z h_ (lS ++ lT)) ∧ (Old Z n0 h_)
set_option maxRecDepth 65536 in
set_option maxHeartbeats 40000000 in
theorem rm13 (l : Launch) (Z : State) (a0 : Array Value) (hw : ∀ d ∈ tables_1, d.before a0 Z = true) (ws : List Jvm.Cond) (a : Addr) (oS : Addr) (eaS : Addr) (cpS : Nat) (lS : List Addr) (oT : Addr) (eaT : Addr) (cpT : Nat) (lT : List Addr) (dc : Addr) (em : Addr) (mr : Addr) (ml : Addr) (h0 : Heap) (n0 : Nat) (Z0 : n0 ≤ h0.size) (P0 : Fld Z h0 a "com/example/fachwissen/fachwissen/mail/Message" "subjects" "Ljava/util/List;" (.ref oS)) (P1 : Fld Z h0 a "com/example/fachwissen/fachwissen/mail/Message" "textParts" "Ljava/util/List;" (.ref oT)) (P2 : Exa Z h0 oS "java/util/ArrayList") (P3 : Fld Z h0 oS "java/util/ArrayList" "elementData" "[Ljava/lang/Object;" (.ref eaS)) (P4 : Fld Z h0 oS "java/util/ArrayList" "size" "I" (.int (own_n lS))) (P5 : OwnA Z h0 eaS cpS lS) (P6 : OwnE Z h0 lS) (P7 : Exa Z h0 oT "java/util/ArrayList") (P8 : Fld Z h0 oT "java/util/ArrayList" "elementData" "[Ljava/lang/Object;" (.ref eaT)) (P9 : Fld Z h0 oT "java/util/ArrayList" "size" "I" (.int (own_n lT))) (P10 : OwnA Z h0 eaT cpT lT) (P11 : OwnE Z h0 lT) (P12 : Old Z n0 h0) (P13 : Sta Z Z.heap "java/util/ArrayList" "DEFAULTCAPACITY_EMPTY_ELEMENTDATA" "[Ljava/lang/Object;" (.ref dc)) (P14 : Sta Z Z.heap "java/util/ArrayList" "EMPTY_ELEMENTDATA" "[Ljava/lang/Object;" (.ref em)) (P15 : OwnA Z Z.heap em 0 own_nil) (P16 : OwnM Z "[Ljava/lang/Object;" mr) (P17 : OwnM Z "java/util/ArrayList" ml) (P18 : lS.length ≤ 2) (P19 : lT.length ≤ 2) :
    MetFree l (⟨"com/example/fachwissen/fachwissen/mail/Message", "wordTexts", "()Ljava/util/List;"⟩ : MethodName) (head1 (Jvm.Cond.code (⟨"com/example/fachwissen/fachwissen/mail/Message", "wordTexts", "()Ljava/util/List;"⟩ : MethodName) prog_12_method_3_code 2 (some (.object "java/util/List")) :: ws) ({ frames := 5, cells := 4, slots := 33, locals := 79 } : Room)) (fun A_ U => A_ = #[(.ref a)] ∧ Z.Warmed39 U.vm ∧ U.heap = h0) (fun _ _ _ _ _ => True) (fun _ U_ o_ U'_ => ∃ v_ L_, o_ = .returned v_ ∧ Q13 Z a oS eaS cpS lS oT eaT cpT lT dc em mr ml h0 n0 v_ U'_.heap L_ ∧ FrameEnd U_ o_ U'_ L_ ({ frames := 5, cells := 4, slots := 33, locals := 79 } : Room).cells ({ frames := 5, cells := 4, slots := 33, locals := 79 } : Room).slots) := by
  refine MetFree.of_bodySF (plainFor_of_name pn_10) hisR ?_
  intro p e s m args below meth c s₁ Bd hml0 hP hK
  obtain ⟨rfl, hZ, hh⟩ := hP
  have hx := Bd.exec
  have hby := Bd.bytes
  have hml : c.maxLocals = 2 := hml0
  have hown : s.vm.findClass "com/example/fachwissen/fachwissen/mail/Message" = some m.cls := findClass_of_methodNamed Bd.named
  have hnm := (name_of_methodNamed Bd.named Bd.method).1
  have hlk : meth.locks = false := Bd.notSynchronized
  have X0 : Stand p l e ({ frames := 5, cells := 4, slots := 33, locals := 79 } : Room) s m #[(.ref a)] below meth c s₁ [] 0 0 := Stand.of_body Bd
  have e0 : s₁.heap = h0 := by rw [← hh, Bd.state]; rfl
  have N0 := Fr.nil n0
  have K0 : Keep h0 h0 [] := Keep.refl _ _
  refine own_cast (ef_13 m a) ?_
  show OwnGo p e below s (Q13 Z a oS eaS cpS lS oT eaT cpT lT dc em mr ml h0 n0) ({ frames := 5, cells := 4, slots := 33, locals := 79 } : Room).cells ({ frames := 5, cells := 4, slots := 33, locals := 79 } : Room).slots (s₁.setTop (mkF m 0 #[.val (.ref a), .unset] []))
  obtain ⟨T1, h1, X1, e1, E1, A1, D1, u1, st1⟩ := newO X0 hx hZ hown (w81 hw) (w35 hw) (w36 hw) e0 (g := (mkF m 0 #[.val (.ref a), .unset] [])) rfl (hb hby d13_0) (by decide) (by decide)
  obtain ⟨b1, g1⟩ : ∃ z, z = h0.size := ⟨_, rfl⟩
  rw [← g1] at A1 D1 st1
  have ne2' : a < b1 := Nat.lt_of_lt_of_le P0.lt (Nat.le_of_eq g1.symm)
  have ne2 : a ≠ b1 := Nat.ne_of_lt ne2'
  have ne3' : oS < b1 := Nat.lt_of_lt_of_le P2.lt (Nat.le_of_eq g1.symm)
  have ne3 : oS ≠ b1 := Nat.ne_of_lt ne3'
  have ne4' : eaS < b1 := Nat.lt_of_lt_of_le P5.lt (Nat.le_of_eq g1.symm)
  have ne4 : eaS ≠ b1 := Nat.ne_of_lt ne4'
  have ne5' : oT < b1 := Nat.lt_of_lt_of_le P7.lt (Nat.le_of_eq g1.symm)
  have ne5 : oT ≠ b1 := Nat.ne_of_lt ne5'
  have ne6' : eaT < b1 := Nat.lt_of_lt_of_le P10.lt (Nat.le_of_eq g1.symm)
  have ne6 : eaT ≠ b1 := Nat.ne_of_lt ne6'
  have g7 : n0 ≤ b1 := Nat.le_trans Z0 (Nat.le_of_eq g1.symm)
  have z8 : h0.size ≤ b1 := Nat.le_trans K0.1 (Nat.le_of_eq g1.symm)
  have Z1 : n0 ≤ h1.size := Nat.le_trans Z0 E1.1
  have K1 : Keep h0 h1 [] := K0.ext E1
  have F1_modCount : Fld Z h1 b1 "java/util/AbstractList" "modCount" "I" (.int (0 : Int32)) := D1 (Or.inl (w54 hw)) (ty := .int) (by decide)
  have F1_elementData : Fld Z h1 b1 "java/util/ArrayList" "elementData" "[Ljava/lang/Object;" .null := D1 (Or.inl (w57 hw)) (ty := (.array (.object "java/lang/Object"))) (by decide)
  have F1_size : Fld Z h1 b1 "java/util/ArrayList" "size" "I" (.int (0 : Int32)) := D1 (Or.inl (w95 hw)) (ty := .int) (by decide)
  refine own_on st1 ?_
  show OwnGo p e below s _ _ _ (T1.setTop (mkF m 3 #[.val (.ref a), .unset] [(.ref b1)]))
  refine own_on (fun t_ k_ => XS.dup X1.here hx rfl (hb hby d13_3) rfl rfl k_) ?_
  show OwnGo p e below s _ _ _ (T1.setTop (mkF m 4 #[.val (.ref a), .unset] [(.ref b1), (.ref b1)]))
  refine own_on (fun t_ k_ => XS.aloadN X1.here hx rfl (hb hby d13_4) rfl rfl k_) ?_
  show OwnGo p e below s _ _ _ (T1.setTop (mkF m 5 #[.val (.ref a), .unset] [(.ref a), (.ref b1), (.ref b1)]))
  have f9 : Fld Z h1 a "com/example/fachwissen/fachwissen/mail/Message" "subjects" "Ljava/util/List;" (.ref oS) := P0.ext E1
  obtain ⟨T10, X10, e10, st10⟩ := getF X1 hx hZ hown (host := "") (Or.inl (w70 hw)) Via.refl e1 f9 (g := (mkF m 5 #[.val (.ref a), .unset] [(.ref a), (.ref b1), (.ref b1)])) rfl rfl (hb hby d13_5)
  refine own_on st10 ?_
  show OwnGo p e below s _ _ _ (T10.setTop (mkF m 8 #[.val (.ref a), .unset] [(.ref oS), (.ref b1), (.ref b1)]))
  have f11 : Old Z n0 h1 := P12.ext E1
  have f12 : Exa Z h1 oS "java/util/ArrayList" := P2.ext E1
  have f13 : Fld Z h1 oS "java/util/ArrayList" "elementData" "[Ljava/lang/Object;" (.ref eaS) := P3.ext E1
  have f14 : Fld Z h1 oS "java/util/ArrayList" "size" "I" (.int (own_n lS)) := P4.ext E1
  have f15 : OwnA Z h1 eaS cpS lS := P5.ext E1
  have f16 : OwnE Z h1 lS := P6.ext E1
  obtain ⟨_, _, ⟨T17, L17, k17, n17⟩, -, X17, ⟨Lc17, hQ17, l17, y17, z17⟩, st17⟩ := X10.specialBack hx (y := (⟨"java/util/ArrayList", "<init>", "(Ljava/util/Collection;)V"⟩ : MethodName)) rfl hown (mvT hZ (w82 hw)) (mvT hZ (w83 hw)) (mvT hZ (w84 hw)) (by decide) (backOf (W := 1) (rm14 l Z a0 hw [] b1 oS .null (.int (0 : Int32)) (.int (0 : Int32)) eaS cpS lS em mr ml h1 n0 Z1 A1 F1_elementData F1_size F1_modCount g7 f11 f12 f13 f14 f15 f16 P14 P15 P16 P17 ne3) hZ (w84 hw) (w36 hw) (by decide) (by decide)) (g := (mkF m 8 #[.val (.ref a), .unset] [(.ref oS), (.ref b1), (.ref b1)])) rfl (by rw [hml]; rfl) (Steps.refl _) (a := b1) (argsL := [(.ref oS)]) (rest := [(.ref b1)]) (lenOf pd_11 rfl) rfl (by show 2 * 0 + _ ≤ _; exact Nat.le_of_eq rfl) (hb hby d13_8) (fun _ hWx => ⟨rfl, e10, (by decide : 1 + 1 ≤ _), (by decide : 3 + 10 ≤ _)⟩)
  have f18 : Exa Z h1 oT "java/util/ArrayList" := P7.ext E1
  have f19 : OwnA Z h1 eaT cpT lT := P10.ext E1
  dsimp only [Pt.U, Pt.locs, Pt.cells, Pt.slots] at X17 l17 y17 z17 st17 hQ17
  replace X17 := own_num (c' := 2) (n' := 13) X17 l17 (y17.trans rfl) (z17.trans rfl)
  obtain ⟨ea2_17, cp2_17, wa2_17, rfl, N17q, K17q, c17_0, c17_1, c17_2, c17_3, c17_4, c17_5, c17_6, c17_7, c17_8, c17_9⟩ := hQ17
  have N17 := Fr.app N0 N17q
  have Z17 : n0 ≤ T17.heap.size := Nat.le_trans Z1 K17q.1
  have K17 : Keep h0 T17.heap [] := K1.trans K17q (allS (P := fun x => x ∈ [] ∨ h0.size ≤ x) (Or.inr z8) all0)
  have ne20 : a ≠ wa2_17 := Nat.ne_of_lt (Nat.lt_of_lt_of_le f9.lt c17_7)
  have ne21 : oS ≠ wa2_17 := Nat.ne_of_lt (Nat.lt_of_lt_of_le f12.lt c17_7)
  have ne22 : eaS ≠ wa2_17 := Nat.ne_of_lt (Nat.lt_of_lt_of_le f15.lt c17_7)
  have ne23 : oT ≠ wa2_17 := Nat.ne_of_lt (Nat.lt_of_lt_of_le f18.lt c17_7)
  have ne24 : eaT ≠ wa2_17 := Nat.ne_of_lt (Nat.lt_of_lt_of_le f19.lt c17_7)
  have ne25 : b1 ≠ wa2_17 := Nat.ne_of_lt (Nat.lt_of_lt_of_le A1.lt c17_7)
  have z26 : h0.size ≤ wa2_17 := Nat.le_trans K1.1 c17_7
  refine own_tr st17 ?_
  show OwnGo p e below s _ _ _ (T17.setTop (mkF m 11 #[.val (.ref a), .unset] [(.ref b1)]))
  refine own_on (fun t_ k_ => XS.astoreN X17.here hx rfl (hb hby d13_11) rfl rfl (l' := #[.val (.ref a), .val (.ref b1)]) rfl k_) ?_
  show OwnGo p e below s _ _ _ (T17.setTop (mkF m 12 #[.val (.ref a), .val (.ref b1)] []))
  refine own_on (fun t_ k_ => XS.aloadN X17.here hx rfl (hb hby d13_12) rfl rfl k_) ?_
  show OwnGo p e below s _ _ _ (T17.setTop (mkF m 13 #[.val (.ref a), .val (.ref b1)] [(.ref b1)]))
  refine own_on (fun t_ k_ => XS.aloadN X17.here hx rfl (hb hby d13_13) rfl rfl k_) ?_
  show OwnGo p e below s _ _ _ (T17.setTop (mkF m 14 #[.val (.ref a), .val (.ref b1)] [(.ref a), (.ref b1)]))
  have f27 : Fld Z h1 a "com/example/fachwissen/fachwissen/mail/Message" "textParts" "Ljava/util/List;" (.ref oT) := P1.ext E1
  have f28 : Fld Z T17.heap a "com/example/fachwissen/fachwissen/mail/Message" "textParts" "Ljava/util/List;" (.ref oT) := f27.keep K17q (ninS ne2 nin0)
  obtain ⟨T29, X29, e29, st29⟩ := getF X17 hx hZ hown (host := "") (Or.inl (w74 hw)) Via.refl rfl f28 (g := (mkF m 14 #[.val (.ref a), .val (.ref b1)] [(.ref a), (.ref b1)])) rfl rfl (hb hby d13_14)
  refine own_on st29 ?_
  show OwnGo p e below s _ _ _ (T29.setTop (mkF m 17 #[.val (.ref a), .val (.ref b1)] [(.ref oT), (.ref b1)]))
  have f30 : h0.size ≤ T17.heap.size := K17.1
  have f31 : Exa Z T17.heap oT "java/util/ArrayList" := f18.keep K17q
  have f32 : Fld Z h1 oT "java/util/ArrayList" "elementData" "[Ljava/lang/Object;" (.ref eaT) := P8.ext E1
  have f33 : Fld Z T17.heap oT "java/util/ArrayList" "elementData" "[Ljava/lang/Object;" (.ref eaT) := f32.keep K17q (ninS ne5 nin0)
  have f34 : Fld Z h1 oT "java/util/ArrayList" "size" "I" (.int (own_n lT)) := P9.ext E1
  have f35 : Fld Z T17.heap oT "java/util/ArrayList" "size" "I" (.int (own_n lT)) := f34.keep K17q (ninS ne5 nin0)
  have f36 : OwnA Z T17.heap eaT cpT lT := f19.keep K17q (ninS ne6 nin0)
  have f37 : OwnE Z h1 lT := P11.ext E1
  have f38 : OwnE Z T17.heap lT := f37.keep K17q 
  obtain ⟨cq39, kq39, q39a, q39b, q39c⟩ := isOf hZ e29 c17_0
  obtain ⟨_, _, ⟨T39, L39, k39, n39⟩, -, X39, ⟨Lc39, hQ39, l39, y39, z39⟩, st39⟩ := X29.virtualBack hx (y := (⟨"java/util/ArrayList", "addAll", "(Ljava/util/Collection;)Z"⟩ : MethodName)) (z := (⟨"java/util/ArrayList", "addAll", "(Ljava/util/Collection;)Z"⟩ : MethodName)) hown (mvT hZ (w121 hw)) (mvT hZ (w122 hw)) (notFace_of_selects (args := #[]) (mvT hZ (w124 hw))) (mvT hZ (w124 hw)) (mvT hZ (w123 hw)) (by decide) (backOf (W := 0) (rm19 l Z a0 hw [] b1 oT ea2_17 cp2_17 lS (0 : Int32) wa2_17 h0.size dc mr eaT cpT lT T17.heap n0 Z17 c17_0 c17_1 c17_2 c17_3 c17_4 c17_9 c17_5 c17_6 z26 f30 c17_8 P13 P16 g7 f31 f33 f35 f36 f38 (by (first | omega | exact Nat.le_of_ble_eq_true rfl | (simp only [List.length_append]; omega)) : lS.length + lT.length ≤ 6)) hZ (w125 hw) (w36 hw) (by decide) (by decide)) q39a q39c (g := (mkF m 17 #[.val (.ref a), .val (.ref b1)] [(.ref oT), (.ref b1)])) rfl (by rw [hml]; rfl) (Steps.refl _) (argsL := [(.ref oT)]) (rest := []) (lenOf pd_12 rfl) rfl (by show 2 * 0 + _ ≤ _; exact Nat.le_of_eq rfl) (hb hby d13_17) (fun _ hWx => ⟨rfl, e29, (by decide : 2 + 2 ≤ _), (by decide : 13 + 20 ≤ _)⟩)
  dsimp only [Pt.U, Pt.locs, Pt.cells, Pt.slots] at X39 l39 y39 z39 st39 hQ39
  replace X39 := own_num (c' := 4) (n' := 33) X39 l39 (y39.trans rfl) (z39.trans rfl)
  obtain ⟨ea2_39, cp2_39, wa2_39, rr_39, rfl, N39q, K39q, c39_0, c39_1, c39_2, c39_3, c39_4, c39_5, c39_6, c39_7, c39_8, c39_9⟩ := hQ39
  have N39 := Fr.app N17 N39q
  have Z39 : n0 ≤ T39.heap.size := Nat.le_trans Z17 K39q.1
  have K39 : Keep h0 T39.heap [] := K17.trans K39q (allS (P := fun x => x ∈ [] ∨ h0.size ≤ x) (Or.inr z8) (allS (P := fun x => x ∈ [] ∨ h0.size ≤ x) (Or.inr z26) all0))
  refine own_tr st39 ?_
  show OwnGo p e below s _ _ _ (T39.setTop (mkF m 20 #[.val (.ref a), .val (.ref b1)] [(.int rr_39)]))
  refine own_on (fun t_ k_ => XS.pop X39.here hx rfl (hb hby d13_20) rfl rfl k_) ?_
  show OwnGo p e below s _ _ _ (T39.setTop (mkF m 21 #[.val (.ref a), .val (.ref b1)] []))
  refine own_on (fun t_ k_ => XS.aloadN X39.here hx rfl (hb hby d13_21) rfl rfl k_) ?_
  show OwnGo p e below s _ _ _ (T39.setTop (mkF m 22 #[.val (.ref a), .val (.ref b1)] [(.ref b1)]))
  exact own_retA X39 hx hlk Bd.returns rfl rfl (hb hby d13_22) rfl ⟨b1, ea2_39, cp2_39, rfl, N39, K39, c39_0, c39_1, c39_2, c39_4, c39_9, c39_8⟩ (by decide) (by decide)
theorem ef_0 (m : MethodId) (xa : Int32) (xb : Int32) (xc : Int32) (xd : Int32)  : entryFrame m #[(.int xa), (.int xb), (.int xc), (.int xd)] maxLocals = mkF m 0 #[.val (.int xa), .val (.int xb), .val (.int xc), .val (.int xd), .unset, .unset, .unset, .unset, .unset, .unset, .unset, .unset, .unset, .unset, .unset, .unset, .unset, .unset] [] := by first | (simp [entryFrame, mkF, argsToLocals, Value.category, maxLocals]; done) | rfl
def Q0 (Z : State) (xa : Int32) (xb : Int32) (xc : Int32) (xd : Int32) (cs : Int32) (dc : Addr) (em : Addr) (mr : Addr) (ml : Addr) (h0 : Heap) (n0 : Nat) (v_ : Option Value) (h_ : Heap) (L_ : List Loc) : Prop := v_ = some (.int (1 : Int32)) ∧ Fr n0 L_ ∧ Keep h0 h_ []
set_option maxRecDepth 65536 in
set_option maxHeartbeats 40000000 in
theorem rm0 (l : Launch) (Z : State) (a0 : Array Value) (hw : ∀ d ∈ tables_1, d.before a0 Z = true) (ws : List Jvm.Cond) (xa : Int32) (xb : Int32) (xc : Int32) (xd : Int32) (cs : Int32) (dc : Addr) (em : Addr) (mr : Addr) (ml : Addr) (h0 : Heap) (n0 : Nat) (Z0 : n0 ≤ h0.size) (P0 : Old Z n0 h0) (P1 : Sta Z Z.heap "java/lang/String" "COMPACT_STRINGS" "Z" (.int cs)) (P2 : ¬ (cs = (0 : Int32))) (P3 : Sta Z Z.heap "java/util/ArrayList" "DEFAULTCAPACITY_EMPTY_ELEMENTDATA" "[Ljava/lang/Object;" (.ref dc)) (P4 : OwnA Z Z.heap dc 0 own_nil) (P5 : Sta Z Z.heap "java/util/ArrayList" "EMPTY_ELEMENTDATA" "[Ljava/lang/Object;" (.ref em)) (P6 : OwnA Z Z.heap em 0 own_nil) (P7 : OwnM Z "[Ljava/lang/Object;" mr) (P8 : OwnM Z "java/util/ArrayList" ml) :
    MetFree l x (head1 (Jvm.Cond.code x code maxLocals ret :: ws) room_1) (fun A_ U => A_ = #[(.int xa), (.int xb), (.int xc), (.int xd)] ∧ Z.Warmed39 U.vm ∧ U.heap = h0) (fun _ _ _ _ _ => True) (fun _ U_ o_ U'_ => ∃ v_ L_, o_ = .returned v_ ∧ Q0 Z xa xb xc xd cs dc em mr ml h0 n0 v_ U'_.heap L_ ∧ FrameEnd U_ o_ U'_ L_ room_1.cells room_1.slots) := by
  refine MetFree.of_bodySF (plainFor_of_name pn_8) hisR ?_
  intro p e s m args below meth c s₁ Bd hml0 hP hK
  obtain ⟨rfl, hZ, hh⟩ := hP
  have hx := Bd.exec
  have hby := Bd.bytes
  have hml : c.maxLocals = 18 := hml0
  have hown : s.vm.findClass "com/example/fachwissen/fachwissen/mail/MessageWordTextsPinLaw" = some m.cls := findClass_of_methodNamed Bd.named
  have hnm := (name_of_methodNamed Bd.named Bd.method).1
  have hlk : meth.locks = false := Bd.notSynchronized
  have X0 : Stand p l e room_1 s m #[(.int xa), (.int xb), (.int xc), (.int xd)] below meth c s₁ [] 0 0 := Stand.of_body Bd
  have e0 : s₁.heap = h0 := by rw [← hh, Bd.state]; rfl
  have N0 := Fr.nil n0
  have K0 : Keep h0 h0 [] := Keep.refl _ _
  refine own_cast (ef_0 m xa xb xc xd) ?_
  show OwnGo p e below s (Q0 Z xa xb xc xd cs dc em mr ml h0 n0) room_1.cells room_1.slots (s₁.setTop (mkF m 0 #[.val (.int xa), .val (.int xb), .val (.int xc), .val (.int xd), .unset, .unset, .unset, .unset, .unset, .unset, .unset, .unset, .unset, .unset, .unset, .unset, .unset, .unset] []))
  have J181 : ∀ (Tq : State) (hq : Heap) (lq : List Loc) (Xq : Stand p l e room_1 s m #[(.int xa), (.int xb), (.int xc), (.int xd)] below meth c Tq lq 28 122) (eq : Tq.heap = hq) (Nq : Fr n0 lq) (Zq : n0 ≤ hq.size) (Kq : Keep h0 hq []) (vS : Int32) (vH : Int32) (vT : Int32) (wA : Addr) (wB : Addr) (wC : Addr) (wD : Addr) (wE : Addr) (wF : Addr) (oS : Addr) (eaS : Addr) (cpS : Nat) (lS : List Addr) (oH : Addr) (eaH : Addr) (cpH : Nat) (lH : List Addr) (oT : Addr) (eaT : Addr) (cpT : Nat) (lT : List Addr) (fq0 : Exa Z hq oS "java/util/ArrayList") (fq1 : Fld Z hq oS "java/util/ArrayList" "elementData" "[Ljava/lang/Object;" (.ref eaS)) (fq2 : Fld Z hq oS "java/util/ArrayList" "size" "I" (.int (own_n lS))) (fq3 : OwnA Z hq eaS cpS lS) (fq4 : OwnE Z hq lS) (fq5 : Exa Z hq oH "java/util/ArrayList") (fq6 : Fld Z hq oH "java/util/ArrayList" "elementData" "[Ljava/lang/Object;" (.ref eaH)) (fq7 : Fld Z hq oH "java/util/ArrayList" "size" "I" (.int (own_n lH))) (fq8 : OwnA Z hq eaH cpH lH) (fq9 : OwnE Z hq lH) (fq10 : Exa Z hq oT "java/util/ArrayList") (fq11 : Fld Z hq oT "java/util/ArrayList" "elementData" "[Ljava/lang/Object;" (.ref eaT)) (fq12 : Fld Z hq oT "java/util/ArrayList" "size" "I" (.int (own_n lT))) (fq13 : OwnA Z hq eaT cpT lT) (fq14 : OwnE Z hq lT) (fq15 : Old Z n0 hq) (fq16 : Exa Z hq wA "java/lang/String") (fq17 : Exa Z hq wB "java/lang/String") (fq18 : Exa Z hq wC "java/lang/String") (fq19 : Exa Z hq wD "java/lang/String") (fq20 : Exa Z hq wE "java/lang/String") (fq21 : Exa Z hq wF "java/lang/String") (fq22 : own_case vS lS wA wB) (fq23 : own_case vH lH wC wD) (fq24 : own_case vT lT wE wF), OwnGo p e below s (Q0 Z xa xb xc xd cs dc em mr ml h0 n0) room_1.cells room_1.slots (Tq.setTop (mkF m 181 #[.val (.int xa), .val (.int xb), .val (.int xc), .val (.int xd), .val (.int vS), .val (.int vH), .val (.int vT), .val (.ref wA), .val (.ref wB), .val (.ref wC), .val (.ref wD), .val (.ref wE), .val (.ref wF), .val (.ref oS), .val (.ref oH), .val (.ref oT), .unset, .unset] [])) := by
    intro Tq hq lq Xq eq Nq Zq Kq vS vH vT wA wB wC wD wE wF oS eaS cpS lS oH eaH cpH lH oT eaT cpT lT fq0 fq1 fq2 fq3 fq4 fq5 fq6 fq7 fq8 fq9 fq10 fq11 fq12 fq13 fq14 fq15 fq16 fq17 fq18 fq19 fq20 fq21 fq22 fq23 fq24
    have hnS := fq22.len
    have hcaseS := fq22
    obtain rfl := fq22.val
    have hnH := fq23.len
    have hcaseH := fq23
    obtain rfl := fq23.val
    have hnT := fq24.len
    have hcaseT := fq24
    obtain rfl := fq24.val
    show OwnGo p e below s _ _ _ (Tq.setTop (mkF m 181 #[.val (.int xa), .val (.int xb), .val (.int xc), .val (.int xd), .val (.int (own_n lS)), .val (.int (own_n lH)), .val (.int (own_n lT)), .val (.ref wA), .val (.ref wB), .val (.ref wC), .val (.ref wD), .val (.ref wE), .val (.ref wF), .val (.ref oS), .val (.ref oH), .val (.ref oT), .unset, .unset] []))
    obtain ⟨T1, h1, X1, e1, E1, A1, D1, u1, st1⟩ := newO Xq hx hZ hown (w58 hw) (w59 hw) (w60 hw) eq (g := (mkF m 181 #[.val (.int xa), .val (.int xb), .val (.int xc), .val (.int xd), .val (.int (own_n lS)), .val (.int (own_n lH)), .val (.int (own_n lT)), .val (.ref wA), .val (.ref wB), .val (.ref wC), .val (.ref wD), .val (.ref wE), .val (.ref wF), .val (.ref oS), .val (.ref oH), .val (.ref oT), .unset, .unset] [])) rfl (hb hby at_181) (by decide) (by decide)
    obtain ⟨b1, g1⟩ : ∃ z, z = hq.size := ⟨_, rfl⟩
    rw [← g1] at A1 D1 st1
    have ne2' : oS < b1 := Nat.lt_of_lt_of_le fq0.lt (Nat.le_of_eq g1.symm)
    have ne2 : oS ≠ b1 := Nat.ne_of_lt ne2'
    have ne3' : eaS < b1 := Nat.lt_of_lt_of_le fq3.lt (Nat.le_of_eq g1.symm)
    have ne3 : eaS ≠ b1 := Nat.ne_of_lt ne3'
    have ne4' : oH < b1 := Nat.lt_of_lt_of_le fq5.lt (Nat.le_of_eq g1.symm)
    have ne4 : oH ≠ b1 := Nat.ne_of_lt ne4'
    have ne5' : eaH < b1 := Nat.lt_of_lt_of_le fq8.lt (Nat.le_of_eq g1.symm)
    have ne5 : eaH ≠ b1 := Nat.ne_of_lt ne5'
    have ne6' : oT < b1 := Nat.lt_of_lt_of_le fq10.lt (Nat.le_of_eq g1.symm)
    have ne6 : oT ≠ b1 := Nat.ne_of_lt ne6'
    have ne7' : eaT < b1 := Nat.lt_of_lt_of_le fq13.lt (Nat.le_of_eq g1.symm)
    have ne7 : eaT ≠ b1 := Nat.ne_of_lt ne7'
    have ne8' : wA < b1 := Nat.lt_of_lt_of_le fq16.lt (Nat.le_of_eq g1.symm)
    have ne8 : wA ≠ b1 := Nat.ne_of_lt ne8'
    have ne9' : wB < b1 := Nat.lt_of_lt_of_le fq17.lt (Nat.le_of_eq g1.symm)
    have ne9 : wB ≠ b1 := Nat.ne_of_lt ne9'
    have ne10' : wC < b1 := Nat.lt_of_lt_of_le fq18.lt (Nat.le_of_eq g1.symm)
    have ne10 : wC ≠ b1 := Nat.ne_of_lt ne10'
    have ne11' : wD < b1 := Nat.lt_of_lt_of_le fq19.lt (Nat.le_of_eq g1.symm)
    have ne11 : wD ≠ b1 := Nat.ne_of_lt ne11'
    have ne12' : wE < b1 := Nat.lt_of_lt_of_le fq20.lt (Nat.le_of_eq g1.symm)
    have ne12 : wE ≠ b1 := Nat.ne_of_lt ne12'
    have ne13' : wF < b1 := Nat.lt_of_lt_of_le fq21.lt (Nat.le_of_eq g1.symm)
    have ne13 : wF ≠ b1 := Nat.ne_of_lt ne13'
    have g14 : n0 ≤ b1 := Nat.le_trans Zq (Nat.le_of_eq g1.symm)
    have z15 : h0.size ≤ b1 := Nat.le_trans Kq.1 (Nat.le_of_eq g1.symm)
    have Z1 : n0 ≤ h1.size := Nat.le_trans Zq E1.1
    have K1 : Keep h0 h1 [] := Kq.ext E1
    have F1_subjects : Fld Z h1 b1 "com/example/fachwissen/fachwissen/mail/Message" "subjects" "Ljava/util/List;" .null := D1 (Or.inr (w71 hw)) (ty := (.object "java/util/List")) (by decide)
    have F1_addressHeaders : Fld Z h1 b1 "com/example/fachwissen/fachwissen/mail/Message" "addressHeaders" "Ljava/util/List;" .null := D1 (Or.inr (w73 hw)) (ty := (.object "java/util/List")) (by decide)
    have F1_textParts : Fld Z h1 b1 "com/example/fachwissen/fachwissen/mail/Message" "textParts" "Ljava/util/List;" .null := D1 (Or.inr (w75 hw)) (ty := (.object "java/util/List")) (by decide)
    refine own_on st1 ?_
    show OwnGo p e below s _ _ _ (T1.setTop (mkF m 184 #[.val (.int xa), .val (.int xb), .val (.int xc), .val (.int xd), .val (.int (own_n lS)), .val (.int (own_n lH)), .val (.int (own_n lT)), .val (.ref wA), .val (.ref wB), .val (.ref wC), .val (.ref wD), .val (.ref wE), .val (.ref wF), .val (.ref oS), .val (.ref oH), .val (.ref oT), .unset, .unset] [(.ref b1)]))
    refine own_on (fun t_ k_ => XS.dup X1.here hx rfl (hb hby at_184) rfl rfl k_) ?_
    show OwnGo p e below s _ _ _ (T1.setTop (mkF m 185 #[.val (.int xa), .val (.int xb), .val (.int xc), .val (.int xd), .val (.int (own_n lS)), .val (.int (own_n lH)), .val (.int (own_n lT)), .val (.ref wA), .val (.ref wB), .val (.ref wC), .val (.ref wD), .val (.ref wE), .val (.ref wF), .val (.ref oS), .val (.ref oH), .val (.ref oT), .unset, .unset] [(.ref b1), (.ref b1)]))
    refine own_on (fun t_ k_ => XS.aload X1.here hx rfl (hb hby at_185) rfl rfl k_) ?_
    refine own_on (fun t_ k_ => XS.aload X1.here hx rfl (hb hby at_187) rfl rfl k_) ?_
    refine own_on (fun t_ k_ => XS.aload X1.here hx rfl (hb hby at_189) rfl rfl k_) ?_
    obtain ⟨_, _, ⟨T16, L16, k16, n16⟩, -, X16, ⟨Lc16, hQ16, l16, y16, z16⟩, st16⟩ := X1.specialBack hx (y := (⟨"com/example/fachwissen/fachwissen/mail/Message", "<init>", "(Ljava/util/List;Ljava/util/List;Ljava/util/List;)V"⟩ : MethodName)) rfl hown (mvT hZ (w61 hw)) (mvT hZ (w62 hw)) (mvT hZ (w63 hw)) (by decide) (backOf (W := 1) (rm11 l Z a0 hw [] b1 oS oH oT .null .null .null h1 n0 Z1 A1 F1_subjects F1_addressHeaders F1_textParts g14) hZ (w63 hw) (w60 hw) (by decide) (by decide)) (g := (mkF m 191 #[.val (.int xa), .val (.int xb), .val (.int xc), .val (.int xd), .val (.int (own_n lS)), .val (.int (own_n lH)), .val (.int (own_n lT)), .val (.ref wA), .val (.ref wB), .val (.ref wC), .val (.ref wD), .val (.ref wE), .val (.ref wF), .val (.ref oS), .val (.ref oH), .val (.ref oT), .unset, .unset] [(.ref oT), (.ref oH), (.ref oS), (.ref b1), (.ref b1)])) rfl (by rw [hml]; rfl) (Steps.refl _) (a := b1) (argsL := [(.ref oS), (.ref oH), (.ref oT)]) (rest := [(.ref b1)]) (lenOf pd_13 rfl) rfl (by show 2 * 0 + _ ≤ _; exact Nat.le_of_eq rfl) (hb hby at_191) (fun _ hWx => ⟨rfl, e1, (by decide : 29 + 0 ≤ _), (by decide : 125 + 0 ≤ _)⟩)
    dsimp only [Pt.U, Pt.locs, Pt.cells, Pt.slots] at X16 l16 y16 z16 st16 hQ16
    replace X16 := own_num (c' := 29) (n' := 125) X16 l16 (y16.trans rfl) (z16.trans rfl)
    obtain ⟨rfl, N16q, K16q, c16_0, c16_1, c16_2, c16_3⟩ := hQ16
    have N16 := Fr.app Nq N16q
    have Z16 : n0 ≤ T16.heap.size := Nat.le_trans Z1 K16q.1
    have K16 : Keep h0 T16.heap [] := K1.trans K16q (allS (P := fun x => x ∈ [] ∨ h0.size ≤ x) (Or.inr z15) all0)
    refine own_tr st16 ?_
    show OwnGo p e below s _ _ _ (T16.setTop (mkF m 194 #[.val (.int xa), .val (.int xb), .val (.int xc), .val (.int xd), .val (.int (own_n lS)), .val (.int (own_n lH)), .val (.int (own_n lT)), .val (.ref wA), .val (.ref wB), .val (.ref wC), .val (.ref wD), .val (.ref wE), .val (.ref wF), .val (.ref oS), .val (.ref oH), .val (.ref oT), .unset, .unset] [(.ref b1)]))
    refine own_on (fun t_ k_ => XS.astore X16.here hx rfl (hb hby at_194) rfl rfl (l' := #[.val (.int xa), .val (.int xb), .val (.int xc), .val (.int xd), .val (.int (own_n lS)), .val (.int (own_n lH)), .val (.int (own_n lT)), .val (.ref wA), .val (.ref wB), .val (.ref wC), .val (.ref wD), .val (.ref wE), .val (.ref wF), .val (.ref oS), .val (.ref oH), .val (.ref oT), .val (.ref b1), .unset]) rfl k_) ?_
    show OwnGo p e below s _ _ _ (T16.setTop (mkF m 196 #[.val (.int xa), .val (.int xb), .val (.int xc), .val (.int xd), .val (.int (own_n lS)), .val (.int (own_n lH)), .val (.int (own_n lT)), .val (.ref wA), .val (.ref wB), .val (.ref wC), .val (.ref wD), .val (.ref wE), .val (.ref wF), .val (.ref oS), .val (.ref oH), .val (.ref oT), .val (.ref b1), .unset] []))
    refine own_on (fun t_ k_ => XS.aload X16.here hx rfl (hb hby at_196) rfl rfl k_) ?_
    have f17 : Exa Z h1 oS "java/util/ArrayList" := fq0.ext E1
    have f18 : Exa Z T16.heap oS "java/util/ArrayList" := f17.keep K16q
    have f19 : Fld Z h1 oS "java/util/ArrayList" "elementData" "[Ljava/lang/Object;" (.ref eaS) := fq1.ext E1
    have f20 : Fld Z T16.heap oS "java/util/ArrayList" "elementData" "[Ljava/lang/Object;" (.ref eaS) := f19.keep K16q (ninS ne2 nin0)
    have f21 : Fld Z h1 oS "java/util/ArrayList" "size" "I" (.int (own_n lS)) := fq2.ext E1
    have f22 : Fld Z T16.heap oS "java/util/ArrayList" "size" "I" (.int (own_n lS)) := f21.keep K16q (ninS ne2 nin0)
    have f23 : OwnA Z h1 eaS cpS lS := fq3.ext E1
    have f24 : OwnA Z T16.heap eaS cpS lS := f23.keep K16q (ninS ne3 nin0)
    have f25 : OwnE Z h1 lS := fq4.ext E1
    have f26 : OwnE Z T16.heap lS := f25.keep K16q 
    have f27 : Exa Z h1 oT "java/util/ArrayList" := fq10.ext E1
    have f28 : Exa Z T16.heap oT "java/util/ArrayList" := f27.keep K16q
    have f29 : Fld Z h1 oT "java/util/ArrayList" "elementData" "[Ljava/lang/Object;" (.ref eaT) := fq11.ext E1
    have f30 : Fld Z T16.heap oT "java/util/ArrayList" "elementData" "[Ljava/lang/Object;" (.ref eaT) := f29.keep K16q (ninS ne6 nin0)
    have f31 : Fld Z h1 oT "java/util/ArrayList" "size" "I" (.int (own_n lT)) := fq12.ext E1
    have f32 : Fld Z T16.heap oT "java/util/ArrayList" "size" "I" (.int (own_n lT)) := f31.keep K16q (ninS ne6 nin0)
    have f33 : OwnA Z h1 eaT cpT lT := fq13.ext E1
    have f34 : OwnA Z T16.heap eaT cpT lT := f33.keep K16q (ninS ne7 nin0)
    have f35 : OwnE Z h1 lT := fq14.ext E1
    have f36 : OwnE Z T16.heap lT := f35.keep K16q 
    have f37 : Old Z n0 h1 := fq15.ext E1
    have f38 : Old Z n0 T16.heap := f37.keep K16q (allS g14 all0)
    obtain ⟨cq39, kq39, q39a, q39b, q39c⟩ := isOf hZ rfl c16_0
    obtain ⟨_, _, ⟨T39, L39, k39, n39⟩, -, X39, ⟨Lc39, hQ39, l39, y39, z39⟩, st39⟩ := X16.virtualBack hx (y := (⟨"com/example/fachwissen/fachwissen/mail/Message", "wordTexts", "()Ljava/util/List;"⟩ : MethodName)) (z := (⟨"com/example/fachwissen/fachwissen/mail/Message", "wordTexts", "()Ljava/util/List;"⟩ : MethodName)) hown (mvT hZ (w76 hw)) (mvT hZ (w77 hw)) (notFace_of_selects (args := #[]) (mvT hZ (w79 hw))) (mvT hZ (w79 hw)) (mvT hZ (w78 hw)) (by decide) (backOf (W := 0) (rm13 l Z a0 hw [] b1 oS eaS cpS lS oT eaT cpT lT dc em mr ml T16.heap n0 Z16 c16_1 c16_3 f18 f20 f22 f24 f26 f28 f30 f32 f34 f36 f38 P3 P5 P6 P7 P8 hnS hnT) hZ (w80 hw) (w60 hw) (by decide) (by decide)) q39a q39c (g := (mkF m 198 #[.val (.int xa), .val (.int xb), .val (.int xc), .val (.int xd), .val (.int (own_n lS)), .val (.int (own_n lH)), .val (.int (own_n lT)), .val (.ref wA), .val (.ref wB), .val (.ref wC), .val (.ref wD), .val (.ref wE), .val (.ref wF), .val (.ref oS), .val (.ref oH), .val (.ref oT), .val (.ref b1), .unset] [(.ref b1)])) rfl (by rw [hml]; rfl) (Steps.refl _) (argsL := []) (rest := []) (lenOf pd_14 rfl) rfl (by show 2 * 0 + _ ≤ _; exact Nat.le_of_eq rfl) (hb hby at_198) (fun _ hWx => ⟨rfl, rfl, (by decide : 29 + 4 ≤ _), (by decide : 125 + 33 ≤ _)⟩)
    dsimp only [Pt.U, Pt.locs, Pt.cells, Pt.slots] at X39 l39 y39 z39 st39 hQ39
    replace X39 := own_num (c' := 33) (n' := 158) X39 l39 (y39.trans rfl) (z39.trans rfl)
    obtain ⟨r_39, ea2_39, cp2_39, rfl, N39q, K39q, c39_0, c39_1, c39_2, c39_3, c39_4, c39_5⟩ := hQ39
    have N39 := Fr.app N16 N39q
    have Z39 : n0 ≤ T39.heap.size := Nat.le_trans Z16 K39q.1
    have K39 : Keep h0 T39.heap [] := K16.trans K39q all0
    refine own_tr st39 ?_
    show OwnGo p e below s _ _ _ (T39.setTop (mkF m 201 #[.val (.int xa), .val (.int xb), .val (.int xc), .val (.int xd), .val (.int (own_n lS)), .val (.int (own_n lH)), .val (.int (own_n lT)), .val (.ref wA), .val (.ref wB), .val (.ref wC), .val (.ref wD), .val (.ref wE), .val (.ref wF), .val (.ref oS), .val (.ref oH), .val (.ref oT), .val (.ref b1), .unset] [(.ref r_39)]))
    refine own_on (fun t_ k_ => XS.astore X39.here hx rfl (hb hby at_201) rfl rfl (l' := #[.val (.int xa), .val (.int xb), .val (.int xc), .val (.int xd), .val (.int (own_n lS)), .val (.int (own_n lH)), .val (.int (own_n lT)), .val (.ref wA), .val (.ref wB), .val (.ref wC), .val (.ref wD), .val (.ref wE), .val (.ref wF), .val (.ref oS), .val (.ref oH), .val (.ref oT), .val (.ref b1), .val (.ref r_39)]) rfl k_) ?_
    show OwnGo p e below s _ _ _ (T39.setTop (mkF m 203 #[.val (.int xa), .val (.int xb), .val (.int xc), .val (.int xd), .val (.int (own_n lS)), .val (.int (own_n lH)), .val (.int (own_n lT)), .val (.ref wA), .val (.ref wB), .val (.ref wC), .val (.ref wD), .val (.ref wE), .val (.ref wF), .val (.ref oS), .val (.ref oH), .val (.ref oT), .val (.ref b1), .val (.ref r_39)] []))
    refine own_on (fun t_ k_ => XS.aload X39.here hx rfl (hb hby at_203) rfl rfl k_) ?_
    obtain ⟨cq40, kq40, q40a, q40b, q40c⟩ := isOf hZ rfl c39_0
    obtain ⟨_, _, ⟨T40, L40, k40, n40⟩, -, X40, ⟨Lc40, hQ40, l40, y40, z40⟩, st40⟩ := X39.interfaceBack hx (xi := (⟨"java/util/List", "size", "()I"⟩ : MethodName)) (y := (⟨"java/util/ArrayList", "size", "()I"⟩ : MethodName)) hown (mvT hZ (w128 hw)) (mvT hZ (w129 hw)) (mvT hZ (w130 hw)) (mvT hZ (w131 hw)) (mvT hZ (w132 hw)) (mvT hZ (w133 hw)) (mvT hZ (w134 hw)) (mvT hZ (w135 hw)) (by decide) (backOf (W := 0) (rm20 l Z a0 hw [] r_39 (lS ++ lT) T39.heap n0 Z39 c39_2) hZ (w136 hw) (w36 hw) (by decide) (by decide)) q40a q40b q40c (g := (mkF m 205 #[.val (.int xa), .val (.int xb), .val (.int xc), .val (.int xd), .val (.int (own_n lS)), .val (.int (own_n lH)), .val (.int (own_n lT)), .val (.ref wA), .val (.ref wB), .val (.ref wC), .val (.ref wD), .val (.ref wE), .val (.ref wF), .val (.ref oS), .val (.ref oH), .val (.ref oT), .val (.ref b1), .val (.ref r_39)] [(.ref r_39)])) rfl (by rw [hml]; rfl) (Steps.refl _) (argsL := []) (rest := []) (lenOf pd_15 rfl) rfl (by show 2 * 0 + _ ≤ _; exact Nat.le_of_eq rfl) (hb hby at_205) (fun _ hWx => ⟨rfl, rfl, (by decide : 33 + 0 ≤ _), (by decide : 158 + 0 ≤ _)⟩)
    dsimp only [Pt.U, Pt.locs, Pt.cells, Pt.slots] at X40 l40 y40 z40 st40 hQ40
    replace X40 := own_num (c' := 33) (n' := 158) X40 l40 (y40.trans rfl) (z40.trans rfl)
    obtain ⟨rfl, N40q, e40⟩ := hQ40
    have N40 := Fr.app N39 N40q
    refine own_tr st40 ?_
    show OwnGo p e below s _ _ _ (T40.setTop (mkF m 210 #[.val (.int xa), .val (.int xb), .val (.int xc), .val (.int xd), .val (.int (own_n lS)), .val (.int (own_n lH)), .val (.int (own_n lT)), .val (.ref wA), .val (.ref wB), .val (.ref wC), .val (.ref wD), .val (.ref wE), .val (.ref wF), .val (.ref oS), .val (.ref oH), .val (.ref oT), .val (.ref b1), .val (.ref r_39)] [(.int (own_n (lS ++ lT)))]))
    refine own_on (fun t_ k_ => XS.iload X40.here hx rfl (hb hby at_210) rfl k_) ?_
    refine own_on (fun t_ k_ => XS.iload X40.here hx rfl (hb hby at_212) rfl k_) ?_
    refine own_on (fun t_ k_ => XS.iadd X40.here hx rfl (hb hby at_214) rfl k_) ?_
    show OwnGo p e below s _ _ _ (T40.setTop (mkF m 215 #[.val (.int xa), .val (.int xb), .val (.int xc), .val (.int xd), .val (.int (own_n lS)), .val (.int (own_n lH)), .val (.int (own_n lT)), .val (.ref wA), .val (.ref wB), .val (.ref wC), .val (.ref wD), .val (.ref wE), .val (.ref wF), .val (.ref oS), .val (.ref oH), .val (.ref oT), .val (.ref b1), .val (.ref r_39)] [(.int ((own_n lS) + (own_n lT))), (.int (own_n (lS ++ lT)))]))
    rw [show ((own_n lS) + (own_n lT)) = (own_n (lS ++ lT)) from own_napp lS lT]
    show OwnGo p e below s _ _ _ (T40.setTop (mkF m 215 #[.val (.int xa), .val (.int xb), .val (.int xc), .val (.int xd), .val (.int (own_n lS)), .val (.int (own_n lH)), .val (.int (own_n lT)), .val (.ref wA), .val (.ref wB), .val (.ref wC), .val (.ref wD), .val (.ref wE), .val (.ref wF), .val (.ref oS), .val (.ref oH), .val (.ref oT), .val (.ref b1), .val (.ref r_39)] [(.int (own_n (lS ++ lT))), (.int (own_n (lS ++ lT)))]))
    refine own_on (fun t_ k_ => XS.icmpYes X40.here hx rfl (pc0 := 215) (pc' := 220) rfl (hb hby at_215) rfl (teq rfl).1 (by decide) (by decide) k_) ?_
    show OwnGo p e below s _ _ _ (T40.setTop (mkF m 220 #[.val (.int xa), .val (.int xb), .val (.int xc), .val (.int xd), .val (.int (own_n lS)), .val (.int (own_n lH)), .val (.int (own_n lT)), .val (.ref wA), .val (.ref wB), .val (.ref wC), .val (.ref wD), .val (.ref wE), .val (.ref wF), .val (.ref oS), .val (.ref oH), .val (.ref oT), .val (.ref b1), .val (.ref r_39)] []))
    rcases hcaseS with ⟨hvS, hlS⟩ | ⟨hvS, hlS⟩ | ⟨hvS, hlS⟩
    · rcases hcaseT with ⟨hvT, hlT⟩ | ⟨hvT, hlT⟩ | ⟨hvT, hlT⟩
      · rw [show (own_n lS) = (0 : Int32) from hvS]
        show OwnGo p e below s _ _ _ (T40.setTop (mkF m 220 #[.val (.int xa), .val (.int xb), .val (.int xc), .val (.int xd), .val (.int (0 : Int32)), .val (.int (own_n lH)), .val (.int (own_n lT)), .val (.ref wA), .val (.ref wB), .val (.ref wC), .val (.ref wD), .val (.ref wE), .val (.ref wF), .val (.ref oS), .val (.ref oH), .val (.ref oT), .val (.ref b1), .val (.ref r_39)] []))
        rw [show (own_n lT) = (0 : Int32) from hvT]
        show OwnGo p e below s _ _ _ (T40.setTop (mkF m 220 #[.val (.int xa), .val (.int xb), .val (.int xc), .val (.int xd), .val (.int (0 : Int32)), .val (.int (own_n lH)), .val (.int (0 : Int32)), .val (.ref wA), .val (.ref wB), .val (.ref wC), .val (.ref wD), .val (.ref wE), .val (.ref wF), .val (.ref oS), .val (.ref oH), .val (.ref oT), .val (.ref b1), .val (.ref r_39)] []))
        refine own_on (fun t_ k_ => XS.iload X40.here hx rfl (hb hby at_220) rfl k_) ?_
        refine own_on (fun t_ k_ => XS.iconst X40.here hx rfl (hb hby at_222) k_) ?_
        refine own_on (fun t_ k_ => XS.icmpYes X40.here hx rfl (pc0 := 223) (pc' := 247) rfl (hb hby at_223) rfl (tlt (by decide : (0 : Int32) < (1 : Int32))).1 (by decide) (by decide) k_) ?_
        show OwnGo p e below s _ _ _ (T40.setTop (mkF m 247 #[.val (.int xa), .val (.int xb), .val (.int xc), .val (.int xd), .val (.int (0 : Int32)), .val (.int (own_n lH)), .val (.int (0 : Int32)), .val (.ref wA), .val (.ref wB), .val (.ref wC), .val (.ref wD), .val (.ref wE), .val (.ref wF), .val (.ref oS), .val (.ref oH), .val (.ref oT), .val (.ref b1), .val (.ref r_39)] []))
        refine own_on (fun t_ k_ => XS.iload X40.here hx rfl (hb hby at_247) rfl k_) ?_
        refine own_on (fun t_ k_ => XS.iconst X40.here hx rfl (hb hby at_249) k_) ?_
        refine own_on (fun t_ k_ => XS.icmpYes X40.here hx rfl (pc0 := 250) (pc' := 274) rfl (hb hby at_250) rfl (tlt (by decide : (0 : Int32) < (2 : Int32))).1 (by decide) (by decide) k_) ?_
        show OwnGo p e below s _ _ _ (T40.setTop (mkF m 274 #[.val (.int xa), .val (.int xb), .val (.int xc), .val (.int xd), .val (.int (0 : Int32)), .val (.int (own_n lH)), .val (.int (0 : Int32)), .val (.ref wA), .val (.ref wB), .val (.ref wC), .val (.ref wD), .val (.ref wE), .val (.ref wF), .val (.ref oS), .val (.ref oH), .val (.ref oT), .val (.ref b1), .val (.ref r_39)] []))
        refine own_on (fun t_ k_ => XS.iload X40.here hx rfl (hb hby at_274) rfl k_) ?_
        refine own_on (fun t_ k_ => XS.iconst X40.here hx rfl (hb hby at_276) k_) ?_
        refine own_on (fun t_ k_ => XS.icmpYes X40.here hx rfl (pc0 := 277) (pc' := 302) rfl (hb hby at_277) rfl (tlt (by decide : (0 : Int32) < (1 : Int32))).1 (by decide) (by decide) k_) ?_
        show OwnGo p e below s _ _ _ (T40.setTop (mkF m 302 #[.val (.int xa), .val (.int xb), .val (.int xc), .val (.int xd), .val (.int (0 : Int32)), .val (.int (own_n lH)), .val (.int (0 : Int32)), .val (.ref wA), .val (.ref wB), .val (.ref wC), .val (.ref wD), .val (.ref wE), .val (.ref wF), .val (.ref oS), .val (.ref oH), .val (.ref oT), .val (.ref b1), .val (.ref r_39)] []))
        refine own_on (fun t_ k_ => XS.iload X40.here hx rfl (hb hby at_302) rfl k_) ?_
        refine own_on (fun t_ k_ => XS.iconst X40.here hx rfl (hb hby at_304) k_) ?_
        refine own_on (fun t_ k_ => XS.icmpYes X40.here hx rfl (pc0 := 305) (pc' := 332) rfl (hb hby at_305) rfl (tlt (by decide : (0 : Int32) < (2 : Int32))).1 (by decide) (by decide) k_) ?_
        show OwnGo p e below s _ _ _ (T40.setTop (mkF m 332 #[.val (.int xa), .val (.int xb), .val (.int xc), .val (.int xd), .val (.int (0 : Int32)), .val (.int (own_n lH)), .val (.int (0 : Int32)), .val (.ref wA), .val (.ref wB), .val (.ref wC), .val (.ref wD), .val (.ref wE), .val (.ref wF), .val (.ref oS), .val (.ref oH), .val (.ref oT), .val (.ref b1), .val (.ref r_39)] []))
        refine own_on (fun t_ k_ => XS.aload X40.here hx rfl (hb hby at_332) rfl rfl k_) ?_
        have f41 : Fld Z T39.heap oS "java/util/ArrayList" "size" "I" (.int (own_n lS)) := f22.keep K39q nin0
        have f42 : Exa Z T39.heap oS "java/util/ArrayList" := f18.keep K39q
        obtain ⟨cq43, kq43, q43a, q43b, q43c⟩ := isOf hZ e40 f42
        obtain ⟨_, _, ⟨T43, L43, k43, n43⟩, -, X43, ⟨Lc43, hQ43, l43, y43, z43⟩, st43⟩ := X40.virtualBack hx (y := (⟨"java/util/ArrayList", "size", "()I"⟩ : MethodName)) (z := (⟨"java/util/ArrayList", "size", "()I"⟩ : MethodName)) hown (mvT hZ (w137 hw)) (mvT hZ (w138 hw)) (notFace_of_selects (args := #[]) (mvT hZ (w139 hw))) (mvT hZ (w139 hw)) (mvT hZ (w132 hw)) (by decide) (backOf (W := 0) (rm20 l Z a0 hw [] oS lS T39.heap n0 Z39 f41) hZ (w136 hw) (w36 hw) (by decide) (by decide)) q43a q43c (g := (mkF m 334 #[.val (.int xa), .val (.int xb), .val (.int xc), .val (.int xd), .val (.int (0 : Int32)), .val (.int (own_n lH)), .val (.int (0 : Int32)), .val (.ref wA), .val (.ref wB), .val (.ref wC), .val (.ref wD), .val (.ref wE), .val (.ref wF), .val (.ref oS), .val (.ref oH), .val (.ref oT), .val (.ref b1), .val (.ref r_39)] [(.ref oS)])) rfl (by rw [hml]; rfl) (Steps.refl _) (argsL := []) (rest := []) (lenOf pd_15 rfl) rfl (by show 2 * 0 + _ ≤ _; exact Nat.le_of_eq rfl) (hb hby at_334) (fun _ hWx => ⟨rfl, e40, (by decide : 33 + 0 ≤ _), (by decide : 158 + 0 ≤ _)⟩)
        dsimp only [Pt.U, Pt.locs, Pt.cells, Pt.slots] at X43 l43 y43 z43 st43 hQ43
        replace X43 := own_num (c' := 33) (n' := 158) X43 l43 (y43.trans rfl) (z43.trans rfl)
        obtain ⟨rfl, N43q, e43⟩ := hQ43
        have N43 := Fr.app N40 N43q
        refine own_tr st43 ?_
        show OwnGo p e below s _ _ _ (T43.setTop (mkF m 337 #[.val (.int xa), .val (.int xb), .val (.int xc), .val (.int xd), .val (.int (0 : Int32)), .val (.int (own_n lH)), .val (.int (0 : Int32)), .val (.ref wA), .val (.ref wB), .val (.ref wC), .val (.ref wD), .val (.ref wE), .val (.ref wF), .val (.ref oS), .val (.ref oH), .val (.ref oT), .val (.ref b1), .val (.ref r_39)] [(.int (own_n lS))]))
        rw [show (own_n lS) = (0 : Int32) from hvS]
        show OwnGo p e below s _ _ _ (T43.setTop (mkF m 337 #[.val (.int xa), .val (.int xb), .val (.int xc), .val (.int xd), .val (.int (0 : Int32)), .val (.int (own_n lH)), .val (.int (0 : Int32)), .val (.ref wA), .val (.ref wB), .val (.ref wC), .val (.ref wD), .val (.ref wE), .val (.ref wF), .val (.ref oS), .val (.ref oH), .val (.ref oT), .val (.ref b1), .val (.ref r_39)] [(.int (0 : Int32))]))
        refine own_on (fun t_ k_ => XS.iload X43.here hx rfl (hb hby at_337) rfl k_) ?_
        refine own_on (fun t_ k_ => XS.icmpYes X43.here hx rfl (pc0 := 339) (pc' := 344) rfl (hb hby at_339) rfl (teq (by decide : (0 : Int32) = (0 : Int32))).1 (by decide) (by decide) k_) ?_
        show OwnGo p e below s _ _ _ (T43.setTop (mkF m 344 #[.val (.int xa), .val (.int xb), .val (.int xc), .val (.int xd), .val (.int (0 : Int32)), .val (.int (own_n lH)), .val (.int (0 : Int32)), .val (.ref wA), .val (.ref wB), .val (.ref wC), .val (.ref wD), .val (.ref wE), .val (.ref wF), .val (.ref oS), .val (.ref oH), .val (.ref oT), .val (.ref b1), .val (.ref r_39)] []))
        refine own_on (fun t_ k_ => XS.aload X43.here hx rfl (hb hby at_344) rfl rfl k_) ?_
        have f44 : Fld Z h1 oH "java/util/ArrayList" "size" "I" (.int (own_n lH)) := fq7.ext E1
        have f45 : Fld Z T16.heap oH "java/util/ArrayList" "size" "I" (.int (own_n lH)) := f44.keep K16q (ninS ne4 nin0)
        have f46 : Fld Z T39.heap oH "java/util/ArrayList" "size" "I" (.int (own_n lH)) := f45.keep K39q nin0
        have f47 : Exa Z h1 oH "java/util/ArrayList" := fq5.ext E1
        have f48 : Exa Z T16.heap oH "java/util/ArrayList" := f47.keep K16q
        have f49 : Exa Z T39.heap oH "java/util/ArrayList" := f48.keep K39q
        obtain ⟨cq50, kq50, q50a, q50b, q50c⟩ := isOf hZ e43 f49
        obtain ⟨_, _, ⟨T50, L50, k50, n50⟩, -, X50, ⟨Lc50, hQ50, l50, y50, z50⟩, st50⟩ := X43.virtualBack hx (y := (⟨"java/util/ArrayList", "size", "()I"⟩ : MethodName)) (z := (⟨"java/util/ArrayList", "size", "()I"⟩ : MethodName)) hown (mvT hZ (w137 hw)) (mvT hZ (w138 hw)) (notFace_of_selects (args := #[]) (mvT hZ (w139 hw))) (mvT hZ (w139 hw)) (mvT hZ (w132 hw)) (by decide) (backOf (W := 0) (rm20 l Z a0 hw [] oH lH T39.heap n0 Z39 f46) hZ (w136 hw) (w36 hw) (by decide) (by decide)) q50a q50c (g := (mkF m 346 #[.val (.int xa), .val (.int xb), .val (.int xc), .val (.int xd), .val (.int (0 : Int32)), .val (.int (own_n lH)), .val (.int (0 : Int32)), .val (.ref wA), .val (.ref wB), .val (.ref wC), .val (.ref wD), .val (.ref wE), .val (.ref wF), .val (.ref oS), .val (.ref oH), .val (.ref oT), .val (.ref b1), .val (.ref r_39)] [(.ref oH)])) rfl (by rw [hml]; rfl) (Steps.refl _) (argsL := []) (rest := []) (lenOf pd_15 rfl) rfl (by show 2 * 0 + _ ≤ _; exact Nat.le_of_eq rfl) (hb hby at_346) (fun _ hWx => ⟨rfl, e43, (by decide : 33 + 0 ≤ _), (by decide : 158 + 0 ≤ _)⟩)
        dsimp only [Pt.U, Pt.locs, Pt.cells, Pt.slots] at X50 l50 y50 z50 st50 hQ50
        replace X50 := own_num (c' := 33) (n' := 158) X50 l50 (y50.trans rfl) (z50.trans rfl)
        obtain ⟨rfl, N50q, e50⟩ := hQ50
        have N50 := Fr.app N43 N50q
        refine own_tr st50 ?_
        show OwnGo p e below s _ _ _ (T50.setTop (mkF m 349 #[.val (.int xa), .val (.int xb), .val (.int xc), .val (.int xd), .val (.int (0 : Int32)), .val (.int (own_n lH)), .val (.int (0 : Int32)), .val (.ref wA), .val (.ref wB), .val (.ref wC), .val (.ref wD), .val (.ref wE), .val (.ref wF), .val (.ref oS), .val (.ref oH), .val (.ref oT), .val (.ref b1), .val (.ref r_39)] [(.int (own_n lH))]))
        refine own_on (fun t_ k_ => XS.iload X50.here hx rfl (hb hby at_349) rfl k_) ?_
        refine own_on (fun t_ k_ => XS.icmpYes X50.here hx rfl (pc0 := 351) (pc' := 356) rfl (hb hby at_351) rfl (teq rfl).1 (by decide) (by decide) k_) ?_
        show OwnGo p e below s _ _ _ (T50.setTop (mkF m 356 #[.val (.int xa), .val (.int xb), .val (.int xc), .val (.int xd), .val (.int (0 : Int32)), .val (.int (own_n lH)), .val (.int (0 : Int32)), .val (.ref wA), .val (.ref wB), .val (.ref wC), .val (.ref wD), .val (.ref wE), .val (.ref wF), .val (.ref oS), .val (.ref oH), .val (.ref oT), .val (.ref b1), .val (.ref r_39)] []))
        refine own_on (fun t_ k_ => XS.aload X50.here hx rfl (hb hby at_356) rfl rfl k_) ?_
        have f51 : Fld Z T39.heap oT "java/util/ArrayList" "size" "I" (.int (own_n lT)) := f32.keep K39q nin0
        have f52 : Exa Z T39.heap oT "java/util/ArrayList" := f28.keep K39q
        obtain ⟨cq53, kq53, q53a, q53b, q53c⟩ := isOf hZ e50 f52
        obtain ⟨_, _, ⟨T53, L53, k53, n53⟩, -, X53, ⟨Lc53, hQ53, l53, y53, z53⟩, st53⟩ := X50.virtualBack hx (y := (⟨"java/util/ArrayList", "size", "()I"⟩ : MethodName)) (z := (⟨"java/util/ArrayList", "size", "()I"⟩ : MethodName)) hown (mvT hZ (w137 hw)) (mvT hZ (w138 hw)) (notFace_of_selects (args := #[]) (mvT hZ (w139 hw))) (mvT hZ (w139 hw)) (mvT hZ (w132 hw)) (by decide) (backOf (W := 0) (rm20 l Z a0 hw [] oT lT T39.heap n0 Z39 f51) hZ (w136 hw) (w36 hw) (by decide) (by decide)) q53a q53c (g := (mkF m 358 #[.val (.int xa), .val (.int xb), .val (.int xc), .val (.int xd), .val (.int (0 : Int32)), .val (.int (own_n lH)), .val (.int (0 : Int32)), .val (.ref wA), .val (.ref wB), .val (.ref wC), .val (.ref wD), .val (.ref wE), .val (.ref wF), .val (.ref oS), .val (.ref oH), .val (.ref oT), .val (.ref b1), .val (.ref r_39)] [(.ref oT)])) rfl (by rw [hml]; rfl) (Steps.refl _) (argsL := []) (rest := []) (lenOf pd_15 rfl) rfl (by show 2 * 0 + _ ≤ _; exact Nat.le_of_eq rfl) (hb hby at_358) (fun _ hWx => ⟨rfl, e50, (by decide : 33 + 0 ≤ _), (by decide : 158 + 0 ≤ _)⟩)
        dsimp only [Pt.U, Pt.locs, Pt.cells, Pt.slots] at X53 l53 y53 z53 st53 hQ53
        replace X53 := own_num (c' := 33) (n' := 158) X53 l53 (y53.trans rfl) (z53.trans rfl)
        obtain ⟨rfl, N53q, e53⟩ := hQ53
        have N53 := Fr.app N50 N53q
        refine own_tr st53 ?_
        show OwnGo p e below s _ _ _ (T53.setTop (mkF m 361 #[.val (.int xa), .val (.int xb), .val (.int xc), .val (.int xd), .val (.int (0 : Int32)), .val (.int (own_n lH)), .val (.int (0 : Int32)), .val (.ref wA), .val (.ref wB), .val (.ref wC), .val (.ref wD), .val (.ref wE), .val (.ref wF), .val (.ref oS), .val (.ref oH), .val (.ref oT), .val (.ref b1), .val (.ref r_39)] [(.int (own_n lT))]))
        rw [show (own_n lT) = (0 : Int32) from hvT]
        show OwnGo p e below s _ _ _ (T53.setTop (mkF m 361 #[.val (.int xa), .val (.int xb), .val (.int xc), .val (.int xd), .val (.int (0 : Int32)), .val (.int (own_n lH)), .val (.int (0 : Int32)), .val (.ref wA), .val (.ref wB), .val (.ref wC), .val (.ref wD), .val (.ref wE), .val (.ref wF), .val (.ref oS), .val (.ref oH), .val (.ref oT), .val (.ref b1), .val (.ref r_39)] [(.int (0 : Int32))]))
        refine own_on (fun t_ k_ => XS.iload X53.here hx rfl (hb hby at_361) rfl k_) ?_
        refine own_on (fun t_ k_ => XS.icmpYes X53.here hx rfl (pc0 := 363) (pc' := 368) rfl (hb hby at_363) rfl (teq (by decide : (0 : Int32) = (0 : Int32))).1 (by decide) (by decide) k_) ?_
        show OwnGo p e below s _ _ _ (T53.setTop (mkF m 368 #[.val (.int xa), .val (.int xb), .val (.int xc), .val (.int xd), .val (.int (0 : Int32)), .val (.int (own_n lH)), .val (.int (0 : Int32)), .val (.ref wA), .val (.ref wB), .val (.ref wC), .val (.ref wD), .val (.ref wE), .val (.ref wF), .val (.ref oS), .val (.ref oH), .val (.ref oT), .val (.ref b1), .val (.ref r_39)] []))
        refine own_on (fun t_ k_ => XS.iconst X53.here hx rfl (hb hby at_368) k_) ?_
        exact own_retN X53 hx hlk (t := .boolean) Bd.returns (by simp) (hb hby at_369) e53 ⟨rfl, N53, K39⟩ (by decide) (by decide)
      · rw [show (own_n lS) = (0 : Int32) from hvS]
        show OwnGo p e below s _ _ _ (T40.setTop (mkF m 220 #[.val (.int xa), .val (.int xb), .val (.int xc), .val (.int xd), .val (.int (0 : Int32)), .val (.int (own_n lH)), .val (.int (own_n lT)), .val (.ref wA), .val (.ref wB), .val (.ref wC), .val (.ref wD), .val (.ref wE), .val (.ref wF), .val (.ref oS), .val (.ref oH), .val (.ref oT), .val (.ref b1), .val (.ref r_39)] []))
        rw [show (own_n lT) = (1 : Int32) from hvT]
        show OwnGo p e below s _ _ _ (T40.setTop (mkF m 220 #[.val (.int xa), .val (.int xb), .val (.int xc), .val (.int xd), .val (.int (0 : Int32)), .val (.int (own_n lH)), .val (.int (1 : Int32)), .val (.ref wA), .val (.ref wB), .val (.ref wC), .val (.ref wD), .val (.ref wE), .val (.ref wF), .val (.ref oS), .val (.ref oH), .val (.ref oT), .val (.ref b1), .val (.ref r_39)] []))
        refine own_on (fun t_ k_ => XS.iload X40.here hx rfl (hb hby at_220) rfl k_) ?_
        refine own_on (fun t_ k_ => XS.iconst X40.here hx rfl (hb hby at_222) k_) ?_
        refine own_on (fun t_ k_ => XS.icmpYes X40.here hx rfl (pc0 := 223) (pc' := 247) rfl (hb hby at_223) rfl (tlt (by decide : (0 : Int32) < (1 : Int32))).1 (by decide) (by decide) k_) ?_
        show OwnGo p e below s _ _ _ (T40.setTop (mkF m 247 #[.val (.int xa), .val (.int xb), .val (.int xc), .val (.int xd), .val (.int (0 : Int32)), .val (.int (own_n lH)), .val (.int (1 : Int32)), .val (.ref wA), .val (.ref wB), .val (.ref wC), .val (.ref wD), .val (.ref wE), .val (.ref wF), .val (.ref oS), .val (.ref oH), .val (.ref oT), .val (.ref b1), .val (.ref r_39)] []))
        refine own_on (fun t_ k_ => XS.iload X40.here hx rfl (hb hby at_247) rfl k_) ?_
        refine own_on (fun t_ k_ => XS.iconst X40.here hx rfl (hb hby at_249) k_) ?_
        refine own_on (fun t_ k_ => XS.icmpYes X40.here hx rfl (pc0 := 250) (pc' := 274) rfl (hb hby at_250) rfl (tlt (by decide : (0 : Int32) < (2 : Int32))).1 (by decide) (by decide) k_) ?_
        show OwnGo p e below s _ _ _ (T40.setTop (mkF m 274 #[.val (.int xa), .val (.int xb), .val (.int xc), .val (.int xd), .val (.int (0 : Int32)), .val (.int (own_n lH)), .val (.int (1 : Int32)), .val (.ref wA), .val (.ref wB), .val (.ref wC), .val (.ref wD), .val (.ref wE), .val (.ref wF), .val (.ref oS), .val (.ref oH), .val (.ref oT), .val (.ref b1), .val (.ref r_39)] []))
        refine own_on (fun t_ k_ => XS.iload X40.here hx rfl (hb hby at_274) rfl k_) ?_
        refine own_on (fun t_ k_ => XS.iconst X40.here hx rfl (hb hby at_276) k_) ?_
        refine own_on (fun t_ k_ => XS.icmpNo X40.here hx rfl (hb hby at_277) rfl (flt (by decide : ¬ ((1 : Int32) < (1 : Int32)))).1 k_) ?_
        show OwnGo p e below s _ _ _ (T40.setTop (mkF m 280 #[.val (.int xa), .val (.int xb), .val (.int xc), .val (.int xd), .val (.int (0 : Int32)), .val (.int (own_n lH)), .val (.int (1 : Int32)), .val (.ref wA), .val (.ref wB), .val (.ref wC), .val (.ref wD), .val (.ref wE), .val (.ref wF), .val (.ref oS), .val (.ref oH), .val (.ref oT), .val (.ref b1), .val (.ref r_39)] []))
        refine own_on (fun t_ k_ => XS.aload X40.here hx rfl (hb hby at_280) rfl rfl k_) ?_
        refine own_on (fun t_ k_ => XS.iload X40.here hx rfl (hb hby at_282) rfl k_) ?_
        have hr54 : (0 : Int32) < (own_n (lS ++ lT)) := ((own_lt' (x := 0) (y := (lS ++ lT).length) (by decide) (by rw [List.length_append]; omega)).mpr (by rw [hlS, hlT]; exact Nat.le_of_ble_eq_true rfl))
        have hr55 : ((lS ++ lT).map Value.ref).getD ((0 : Int32)).toNatClampNeg .null = .ref wE := by rw [hlS, hlT]; rfl
        have hr56 : (0 : Int32) < Int32.ofNat cp2_39 := by obtain ⟨_, _, _, q⟩ := own_at c39_3 (by decide) hr54; exact q
        obtain ⟨cq57, kq57, q57a, q57b, q57c⟩ := isOf hZ e40 c39_0
        obtain ⟨_, _, ⟨T57, L57, k57, n57⟩, -, X57, ⟨Lc57, hQ57, l57, y57, z57⟩, st57⟩ := X40.interfaceBack hx (xi := (⟨"java/util/List", "get", "(I)Ljava/lang/Object;"⟩ : MethodName)) (y := (⟨"java/util/ArrayList", "get", "(I)Ljava/lang/Object;"⟩ : MethodName)) hown (mvT hZ (w172 hw)) (mvT hZ (w173 hw)) (mvT hZ (w174 hw)) (mvT hZ (w175 hw)) (mvT hZ (w176 hw)) (mvT hZ (w177 hw)) (mvT hZ (w178 hw)) (mvT hZ (w135 hw)) (by decide) (backOf (W := 0) (rm26 l Z a0 hw [] r_39 (0 : Int32) ea2_39 cp2_39 (lS ++ lT) wE T39.heap n0 Z39 c39_0 c39_1 c39_2 c39_3 (by decide : ¬ (0 : Int32) < 0) hr54 hr55 hr56) hZ (w179 hw) (w36 hw) (by decide) (by decide)) q57a q57b q57c (g := (mkF m 284 #[.val (.int xa), .val (.int xb), .val (.int xc), .val (.int xd), .val (.int (0 : Int32)), .val (.int (own_n lH)), .val (.int (1 : Int32)), .val (.ref wA), .val (.ref wB), .val (.ref wC), .val (.ref wD), .val (.ref wE), .val (.ref wF), .val (.ref oS), .val (.ref oH), .val (.ref oT), .val (.ref b1), .val (.ref r_39)] [(.int (0 : Int32)), (.ref r_39)])) rfl (by rw [hml]; rfl) (Steps.refl _) (argsL := [(.int (0 : Int32))]) (rest := []) (lenOf pd_9 rfl) rfl (by show 2 * 0 + _ ≤ _; exact Nat.le_of_eq rfl) (hb hby at_284) (fun _ hWx => ⟨rfl, e40, (by decide : 33 + 0 ≤ _), (by decide : 158 + 0 ≤ _)⟩)
        dsimp only [Pt.U, Pt.locs, Pt.cells, Pt.slots] at X57 l57 y57 z57 st57 hQ57
        replace X57 := own_num (c' := 33) (n' := 158) X57 l57 (y57.trans rfl) (z57.trans rfl)
        obtain ⟨rfl, N57q, e57⟩ := hQ57
        have N57 := Fr.app N40 N57q
        refine own_tr st57 ?_
        show OwnGo p e below s _ _ _ (T57.setTop (mkF m 289 #[.val (.int xa), .val (.int xb), .val (.int xc), .val (.int xd), .val (.int (0 : Int32)), .val (.int (own_n lH)), .val (.int (1 : Int32)), .val (.ref wA), .val (.ref wB), .val (.ref wC), .val (.ref wD), .val (.ref wE), .val (.ref wF), .val (.ref oS), .val (.ref oH), .val (.ref oT), .val (.ref b1), .val (.ref r_39)] [(.ref wE)]))
        have f58 : Exa Z h1 wE "java/lang/String" := fq20.ext E1
        have f59 : Exa Z T16.heap wE "java/lang/String" := f58.keep K16q
        have f60 : Exa Z T39.heap wE "java/lang/String" := f59.keep K39q
        obtain ⟨T61, X61, e61, st61⟩ := castY X57 hx hZ hown (w5 hw) e57 (Ins.self f60) (g := (mkF m 289 #[.val (.int xa), .val (.int xb), .val (.int xc), .val (.int xd), .val (.int (0 : Int32)), .val (.int (own_n lH)), .val (.int (1 : Int32)), .val (.ref wA), .val (.ref wB), .val (.ref wC), .val (.ref wD), .val (.ref wE), .val (.ref wF), .val (.ref oS), .val (.ref oH), .val (.ref oT), .val (.ref b1), .val (.ref r_39)] [(.ref wE)])) rfl rfl (hb hby at_289)
        refine own_on st61 ?_
        show OwnGo p e below s _ _ _ (T61.setTop (mkF m 292 #[.val (.int xa), .val (.int xb), .val (.int xc), .val (.int xd), .val (.int (0 : Int32)), .val (.int (own_n lH)), .val (.int (1 : Int32)), .val (.ref wA), .val (.ref wB), .val (.ref wC), .val (.ref wD), .val (.ref wE), .val (.ref wF), .val (.ref oS), .val (.ref oH), .val (.ref oT), .val (.ref b1), .val (.ref r_39)] [(.ref wE)]))
        refine own_on (fun t_ k_ => XS.aload X61.here hx rfl (hb hby at_292) rfl rfl k_) ?_
        obtain ⟨cq62, kq62, q62a, q62b, q62c⟩ := isOf hZ e61 f60
        obtain ⟨_, _, ⟨T62, L62, k62, n62⟩, -, X62, ⟨Lc62, hQ62, l62, y62, z62⟩, st62⟩ := X61.virtualBack hx (y := (⟨"java/lang/String", "equals", "(Ljava/lang/Object;)Z"⟩ : MethodName)) (z := (⟨"java/lang/String", "equals", "(Ljava/lang/Object;)Z"⟩ : MethodName)) hown (mvT hZ (w193 hw)) (mvT hZ (w194 hw)) (notFace_of_selects (args := #[]) (mvT hZ (w196 hw))) (mvT hZ (w196 hw)) (mvT hZ (w195 hw)) (by decide) (backOf (W := 0) (rm30 l Z a0 hw [] wE T39.heap n0 Z39 ) hZ (w197 hw) (w7 hw) (by decide) (by decide)) q62a q62c (g := (mkF m 294 #[.val (.int xa), .val (.int xb), .val (.int xc), .val (.int xd), .val (.int (0 : Int32)), .val (.int (own_n lH)), .val (.int (1 : Int32)), .val (.ref wA), .val (.ref wB), .val (.ref wC), .val (.ref wD), .val (.ref wE), .val (.ref wF), .val (.ref oS), .val (.ref oH), .val (.ref oT), .val (.ref b1), .val (.ref r_39)] [(.ref wE), (.ref wE)])) rfl (by rw [hml]; rfl) (Steps.refl _) (argsL := [(.ref wE)]) (rest := []) (lenOf pd_16 rfl) rfl (by show 2 * 0 + _ ≤ _; exact Nat.le_of_eq rfl) (hb hby at_294) (fun _ hWx => ⟨rfl, e61, (by decide : 33 + 0 ≤ _), (by decide : 158 + 0 ≤ _)⟩)
        dsimp only [Pt.U, Pt.locs, Pt.cells, Pt.slots] at X62 l62 y62 z62 st62 hQ62
        replace X62 := own_num (c' := 33) (n' := 158) X62 l62 (y62.trans rfl) (z62.trans rfl)
        obtain ⟨rfl, N62q, e62⟩ := hQ62
        have N62 := Fr.app N57 N62q
        refine own_tr st62 ?_
        show OwnGo p e below s _ _ _ (T62.setTop (mkF m 297 #[.val (.int xa), .val (.int xb), .val (.int xc), .val (.int xd), .val (.int (0 : Int32)), .val (.int (own_n lH)), .val (.int (1 : Int32)), .val (.ref wA), .val (.ref wB), .val (.ref wC), .val (.ref wD), .val (.ref wE), .val (.ref wF), .val (.ref oS), .val (.ref oH), .val (.ref oT), .val (.ref b1), .val (.ref r_39)] [(.int (1 : Int32))]))
        refine own_on (fun t_ k_ => XS.ifYes X62.here hx rfl (pc0 := 297) (pc' := 302) rfl (hb hby at_297) rfl ((if0 _ _).trans (feq (by decide : ¬ ((1 : Int32) = (0 : Int32)))).2) (by decide) (by decide) k_) ?_
        show OwnGo p e below s _ _ _ (T62.setTop (mkF m 302 #[.val (.int xa), .val (.int xb), .val (.int xc), .val (.int xd), .val (.int (0 : Int32)), .val (.int (own_n lH)), .val (.int (1 : Int32)), .val (.ref wA), .val (.ref wB), .val (.ref wC), .val (.ref wD), .val (.ref wE), .val (.ref wF), .val (.ref oS), .val (.ref oH), .val (.ref oT), .val (.ref b1), .val (.ref r_39)] []))
        refine own_on (fun t_ k_ => XS.iload X62.here hx rfl (hb hby at_302) rfl k_) ?_
        refine own_on (fun t_ k_ => XS.iconst X62.here hx rfl (hb hby at_304) k_) ?_
        refine own_on (fun t_ k_ => XS.icmpYes X62.here hx rfl (pc0 := 305) (pc' := 332) rfl (hb hby at_305) rfl (tlt (by decide : (1 : Int32) < (2 : Int32))).1 (by decide) (by decide) k_) ?_
        show OwnGo p e below s _ _ _ (T62.setTop (mkF m 332 #[.val (.int xa), .val (.int xb), .val (.int xc), .val (.int xd), .val (.int (0 : Int32)), .val (.int (own_n lH)), .val (.int (1 : Int32)), .val (.ref wA), .val (.ref wB), .val (.ref wC), .val (.ref wD), .val (.ref wE), .val (.ref wF), .val (.ref oS), .val (.ref oH), .val (.ref oT), .val (.ref b1), .val (.ref r_39)] []))
        refine own_on (fun t_ k_ => XS.aload X62.here hx rfl (hb hby at_332) rfl rfl k_) ?_
        have f63 : Fld Z T39.heap oS "java/util/ArrayList" "size" "I" (.int (own_n lS)) := f22.keep K39q nin0
        have f64 : Exa Z T39.heap oS "java/util/ArrayList" := f18.keep K39q
        obtain ⟨cq65, kq65, q65a, q65b, q65c⟩ := isOf hZ e62 f64
        obtain ⟨_, _, ⟨T65, L65, k65, n65⟩, -, X65, ⟨Lc65, hQ65, l65, y65, z65⟩, st65⟩ := X62.virtualBack hx (y := (⟨"java/util/ArrayList", "size", "()I"⟩ : MethodName)) (z := (⟨"java/util/ArrayList", "size", "()I"⟩ : MethodName)) hown (mvT hZ (w137 hw)) (mvT hZ (w138 hw)) (notFace_of_selects (args := #[]) (mvT hZ (w139 hw))) (mvT hZ (w139 hw)) (mvT hZ (w132 hw)) (by decide) (backOf (W := 0) (rm20 l Z a0 hw [] oS lS T39.heap n0 Z39 f63) hZ (w136 hw) (w36 hw) (by decide) (by decide)) q65a q65c (g := (mkF m 334 #[.val (.int xa), .val (.int xb), .val (.int xc), .val (.int xd), .val (.int (0 : Int32)), .val (.int (own_n lH)), .val (.int (1 : Int32)), .val (.ref wA), .val (.ref wB), .val (.ref wC), .val (.ref wD), .val (.ref wE), .val (.ref wF), .val (.ref oS), .val (.ref oH), .val (.ref oT), .val (.ref b1), .val (.ref r_39)] [(.ref oS)])) rfl (by rw [hml]; rfl) (Steps.refl _) (argsL := []) (rest := []) (lenOf pd_15 rfl) rfl (by show 2 * 0 + _ ≤ _; exact Nat.le_of_eq rfl) (hb hby at_334) (fun _ hWx => ⟨rfl, e62, (by decide : 33 + 0 ≤ _), (by decide : 158 + 0 ≤ _)⟩)
        dsimp only [Pt.U, Pt.locs, Pt.cells, Pt.slots] at X65 l65 y65 z65 st65 hQ65
        replace X65 := own_num (c' := 33) (n' := 158) X65 l65 (y65.trans rfl) (z65.trans rfl)
        obtain ⟨rfl, N65q, e65⟩ := hQ65
        have N65 := Fr.app N62 N65q
        refine own_tr st65 ?_
        show OwnGo p e below s _ _ _ (T65.setTop (mkF m 337 #[.val (.int xa), .val (.int xb), .val (.int xc), .val (.int xd), .val (.int (0 : Int32)), .val (.int (own_n lH)), .val (.int (1 : Int32)), .val (.ref wA), .val (.ref wB), .val (.ref wC), .val (.ref wD), .val (.ref wE), .val (.ref wF), .val (.ref oS), .val (.ref oH), .val (.ref oT), .val (.ref b1), .val (.ref r_39)] [(.int (own_n lS))]))
        rw [show (own_n lS) = (0 : Int32) from hvS]
        show OwnGo p e below s _ _ _ (T65.setTop (mkF m 337 #[.val (.int xa), .val (.int xb), .val (.int xc), .val (.int xd), .val (.int (0 : Int32)), .val (.int (own_n lH)), .val (.int (1 : Int32)), .val (.ref wA), .val (.ref wB), .val (.ref wC), .val (.ref wD), .val (.ref wE), .val (.ref wF), .val (.ref oS), .val (.ref oH), .val (.ref oT), .val (.ref b1), .val (.ref r_39)] [(.int (0 : Int32))]))
        refine own_on (fun t_ k_ => XS.iload X65.here hx rfl (hb hby at_337) rfl k_) ?_
        refine own_on (fun t_ k_ => XS.icmpYes X65.here hx rfl (pc0 := 339) (pc' := 344) rfl (hb hby at_339) rfl (teq (by decide : (0 : Int32) = (0 : Int32))).1 (by decide) (by decide) k_) ?_
        show OwnGo p e below s _ _ _ (T65.setTop (mkF m 344 #[.val (.int xa), .val (.int xb), .val (.int xc), .val (.int xd), .val (.int (0 : Int32)), .val (.int (own_n lH)), .val (.int (1 : Int32)), .val (.ref wA), .val (.ref wB), .val (.ref wC), .val (.ref wD), .val (.ref wE), .val (.ref wF), .val (.ref oS), .val (.ref oH), .val (.ref oT), .val (.ref b1), .val (.ref r_39)] []))
        refine own_on (fun t_ k_ => XS.aload X65.here hx rfl (hb hby at_344) rfl rfl k_) ?_
        have f66 : Fld Z h1 oH "java/util/ArrayList" "size" "I" (.int (own_n lH)) := fq7.ext E1
        have f67 : Fld Z T16.heap oH "java/util/ArrayList" "size" "I" (.int (own_n lH)) := f66.keep K16q (ninS ne4 nin0)
        have f68 : Fld Z T39.heap oH "java/util/ArrayList" "size" "I" (.int (own_n lH)) := f67.keep K39q nin0
        have f69 : Exa Z h1 oH "java/util/ArrayList" := fq5.ext E1
        have f70 : Exa Z T16.heap oH "java/util/ArrayList" := f69.keep K16q
        have f71 : Exa Z T39.heap oH "java/util/ArrayList" := f70.keep K39q
        obtain ⟨cq72, kq72, q72a, q72b, q72c⟩ := isOf hZ e65 f71
        obtain ⟨_, _, ⟨T72, L72, k72, n72⟩, -, X72, ⟨Lc72, hQ72, l72, y72, z72⟩, st72⟩ := X65.virtualBack hx (y := (⟨"java/util/ArrayList", "size", "()I"⟩ : MethodName)) (z := (⟨"java/util/ArrayList", "size", "()I"⟩ : MethodName)) hown (mvT hZ (w137 hw)) (mvT hZ (w138 hw)) (notFace_of_selects (args := #[]) (mvT hZ (w139 hw))) (mvT hZ (w139 hw)) (mvT hZ (w132 hw)) (by decide) (backOf (W := 0) (rm20 l Z a0 hw [] oH lH T39.heap n0 Z39 f68) hZ (w136 hw) (w36 hw) (by decide) (by decide)) q72a q72c (g := (mkF m 346 #[.val (.int xa), .val (.int xb), .val (.int xc), .val (.int xd), .val (.int (0 : Int32)), .val (.int (own_n lH)), .val (.int (1 : Int32)), .val (.ref wA), .val (.ref wB), .val (.ref wC), .val (.ref wD), .val (.ref wE), .val (.ref wF), .val (.ref oS), .val (.ref oH), .val (.ref oT), .val (.ref b1), .val (.ref r_39)] [(.ref oH)])) rfl (by rw [hml]; rfl) (Steps.refl _) (argsL := []) (rest := []) (lenOf pd_15 rfl) rfl (by show 2 * 0 + _ ≤ _; exact Nat.le_of_eq rfl) (hb hby at_346) (fun _ hWx => ⟨rfl, e65, (by decide : 33 + 0 ≤ _), (by decide : 158 + 0 ≤ _)⟩)
        dsimp only [Pt.U, Pt.locs, Pt.cells, Pt.slots] at X72 l72 y72 z72 st72 hQ72
        replace X72 := own_num (c' := 33) (n' := 158) X72 l72 (y72.trans rfl) (z72.trans rfl)
        obtain ⟨rfl, N72q, e72⟩ := hQ72
        have N72 := Fr.app N65 N72q
        refine own_tr st72 ?_
        show OwnGo p e below s _ _ _ (T72.setTop (mkF m 349 #[.val (.int xa), .val (.int xb), .val (.int xc), .val (.int xd), .val (.int (0 : Int32)), .val (.int (own_n lH)), .val (.int (1 : Int32)), .val (.ref wA), .val (.ref wB), .val (.ref wC), .val (.ref wD), .val (.ref wE), .val (.ref wF), .val (.ref oS), .val (.ref oH), .val (.ref oT), .val (.ref b1), .val (.ref r_39)] [(.int (own_n lH))]))
        refine own_on (fun t_ k_ => XS.iload X72.here hx rfl (hb hby at_349) rfl k_) ?_
        refine own_on (fun t_ k_ => XS.icmpYes X72.here hx rfl (pc0 := 351) (pc' := 356) rfl (hb hby at_351) rfl (teq rfl).1 (by decide) (by decide) k_) ?_
        show OwnGo p e below s _ _ _ (T72.setTop (mkF m 356 #[.val (.int xa), .val (.int xb), .val (.int xc), .val (.int xd), .val (.int (0 : Int32)), .val (.int (own_n lH)), .val (.int (1 : Int32)), .val (.ref wA), .val (.ref wB), .val (.ref wC), .val (.ref wD), .val (.ref wE), .val (.ref wF), .val (.ref oS), .val (.ref oH), .val (.ref oT), .val (.ref b1), .val (.ref r_39)] []))
        refine own_on (fun t_ k_ => XS.aload X72.here hx rfl (hb hby at_356) rfl rfl k_) ?_
        have f73 : Fld Z T39.heap oT "java/util/ArrayList" "size" "I" (.int (own_n lT)) := f32.keep K39q nin0
        have f74 : Exa Z T39.heap oT "java/util/ArrayList" := f28.keep K39q
        obtain ⟨cq75, kq75, q75a, q75b, q75c⟩ := isOf hZ e72 f74
        obtain ⟨_, _, ⟨T75, L75, k75, n75⟩, -, X75, ⟨Lc75, hQ75, l75, y75, z75⟩, st75⟩ := X72.virtualBack hx (y := (⟨"java/util/ArrayList", "size", "()I"⟩ : MethodName)) (z := (⟨"java/util/ArrayList", "size", "()I"⟩ : MethodName)) hown (mvT hZ (w137 hw)) (mvT hZ (w138 hw)) (notFace_of_selects (args := #[]) (mvT hZ (w139 hw))) (mvT hZ (w139 hw)) (mvT hZ (w132 hw)) (by decide) (backOf (W := 0) (rm20 l Z a0 hw [] oT lT T39.heap n0 Z39 f73) hZ (w136 hw) (w36 hw) (by decide) (by decide)) q75a q75c (g := (mkF m 358 #[.val (.int xa), .val (.int xb), .val (.int xc), .val (.int xd), .val (.int (0 : Int32)), .val (.int (own_n lH)), .val (.int (1 : Int32)), .val (.ref wA), .val (.ref wB), .val (.ref wC), .val (.ref wD), .val (.ref wE), .val (.ref wF), .val (.ref oS), .val (.ref oH), .val (.ref oT), .val (.ref b1), .val (.ref r_39)] [(.ref oT)])) rfl (by rw [hml]; rfl) (Steps.refl _) (argsL := []) (rest := []) (lenOf pd_15 rfl) rfl (by show 2 * 0 + _ ≤ _; exact Nat.le_of_eq rfl) (hb hby at_358) (fun _ hWx => ⟨rfl, e72, (by decide : 33 + 0 ≤ _), (by decide : 158 + 0 ≤ _)⟩)
        dsimp only [Pt.U, Pt.locs, Pt.cells, Pt.slots] at X75 l75 y75 z75 st75 hQ75
        replace X75 := own_num (c' := 33) (n' := 158) X75 l75 (y75.trans rfl) (z75.trans rfl)
        obtain ⟨rfl, N75q, e75⟩ := hQ75
        have N75 := Fr.app N72 N75q
        refine own_tr st75 ?_
        show OwnGo p e below s _ _ _ (T75.setTop (mkF m 361 #[.val (.int xa), .val (.int xb), .val (.int xc), .val (.int xd), .val (.int (0 : Int32)), .val (.int (own_n lH)), .val (.int (1 : Int32)), .val (.ref wA), .val (.ref wB), .val (.ref wC), .val (.ref wD), .val (.ref wE), .val (.ref wF), .val (.ref oS), .val (.ref oH), .val (.ref oT), .val (.ref b1), .val (.ref r_39)] [(.int (own_n lT))]))
        rw [show (own_n lT) = (1 : Int32) from hvT]
        show OwnGo p e below s _ _ _ (T75.setTop (mkF m 361 #[.val (.int xa), .val (.int xb), .val (.int xc), .val (.int xd), .val (.int (0 : Int32)), .val (.int (own_n lH)), .val (.int (1 : Int32)), .val (.ref wA), .val (.ref wB), .val (.ref wC), .val (.ref wD), .val (.ref wE), .val (.ref wF), .val (.ref oS), .val (.ref oH), .val (.ref oT), .val (.ref b1), .val (.ref r_39)] [(.int (1 : Int32))]))
        refine own_on (fun t_ k_ => XS.iload X75.here hx rfl (hb hby at_361) rfl k_) ?_
        refine own_on (fun t_ k_ => XS.icmpYes X75.here hx rfl (pc0 := 363) (pc' := 368) rfl (hb hby at_363) rfl (teq (by decide : (1 : Int32) = (1 : Int32))).1 (by decide) (by decide) k_) ?_
        show OwnGo p e below s _ _ _ (T75.setTop (mkF m 368 #[.val (.int xa), .val (.int xb), .val (.int xc), .val (.int xd), .val (.int (0 : Int32)), .val (.int (own_n lH)), .val (.int (1 : Int32)), .val (.ref wA), .val (.ref wB), .val (.ref wC), .val (.ref wD), .val (.ref wE), .val (.ref wF), .val (.ref oS), .val (.ref oH), .val (.ref oT), .val (.ref b1), .val (.ref r_39)] []))
        refine own_on (fun t_ k_ => XS.iconst X75.here hx rfl (hb hby at_368) k_) ?_
        exact own_retN X75 hx hlk (t := .boolean) Bd.returns (by simp) (hb hby at_369) e75 ⟨rfl, N75, K39⟩ (by decide) (by decide)
      · rw [show (own_n lS) = (0 : Int32) from hvS]
        show OwnGo p e below s _ _ _ (T40.setTop (mkF m 220 #[.val (.int xa), .val (.int xb), .val (.int xc), .val (.int xd), .val (.int (0 : Int32)), .val (.int (own_n lH)), .val (.int (own_n lT)), .val (.ref wA), .val (.ref wB), .val (.ref wC), .val (.ref wD), .val (.ref wE), .val (.ref wF), .val (.ref oS), .val (.ref oH), .val (.ref oT), .val (.ref b1), .val (.ref r_39)] []))
        rw [show (own_n lT) = (2 : Int32) from hvT]
        show OwnGo p e below s _ _ _ (T40.setTop (mkF m 220 #[.val (.int xa), .val (.int xb), .val (.int xc), .val (.int xd), .val (.int (0 : Int32)), .val (.int (own_n lH)), .val (.int (2 : Int32)), .val (.ref wA), .val (.ref wB), .val (.ref wC), .val (.ref wD), .val (.ref wE), .val (.ref wF), .val (.ref oS), .val (.ref oH), .val (.ref oT), .val (.ref b1), .val (.ref r_39)] []))
        refine own_on (fun t_ k_ => XS.iload X40.here hx rfl (hb hby at_220) rfl k_) ?_
        refine own_on (fun t_ k_ => XS.iconst X40.here hx rfl (hb hby at_222) k_) ?_
        refine own_on (fun t_ k_ => XS.icmpYes X40.here hx rfl (pc0 := 223) (pc' := 247) rfl (hb hby at_223) rfl (tlt (by decide : (0 : Int32) < (1 : Int32))).1 (by decide) (by decide) k_) ?_
        show OwnGo p e below s _ _ _ (T40.setTop (mkF m 247 #[.val (.int xa), .val (.int xb), .val (.int xc), .val (.int xd), .val (.int (0 : Int32)), .val (.int (own_n lH)), .val (.int (2 : Int32)), .val (.ref wA), .val (.ref wB), .val (.ref wC), .val (.ref wD), .val (.ref wE), .val (.ref wF), .val (.ref oS), .val (.ref oH), .val (.ref oT), .val (.ref b1), .val (.ref r_39)] []))
        refine own_on (fun t_ k_ => XS.iload X40.here hx rfl (hb hby at_247) rfl k_) ?_
        refine own_on (fun t_ k_ => XS.iconst X40.here hx rfl (hb hby at_249) k_) ?_
        refine own_on (fun t_ k_ => XS.icmpYes X40.here hx rfl (pc0 := 250) (pc' := 274) rfl (hb hby at_250) rfl (tlt (by decide : (0 : Int32) < (2 : Int32))).1 (by decide) (by decide) k_) ?_
        show OwnGo p e below s _ _ _ (T40.setTop (mkF m 274 #[.val (.int xa), .val (.int xb), .val (.int xc), .val (.int xd), .val (.int (0 : Int32)), .val (.int (own_n lH)), .val (.int (2 : Int32)), .val (.ref wA), .val (.ref wB), .val (.ref wC), .val (.ref wD), .val (.ref wE), .val (.ref wF), .val (.ref oS), .val (.ref oH), .val (.ref oT), .val (.ref b1), .val (.ref r_39)] []))
        refine own_on (fun t_ k_ => XS.iload X40.here hx rfl (hb hby at_274) rfl k_) ?_
        refine own_on (fun t_ k_ => XS.iconst X40.here hx rfl (hb hby at_276) k_) ?_
        refine own_on (fun t_ k_ => XS.icmpNo X40.here hx rfl (hb hby at_277) rfl (flt (by decide : ¬ ((2 : Int32) < (1 : Int32)))).1 k_) ?_
        show OwnGo p e below s _ _ _ (T40.setTop (mkF m 280 #[.val (.int xa), .val (.int xb), .val (.int xc), .val (.int xd), .val (.int (0 : Int32)), .val (.int (own_n lH)), .val (.int (2 : Int32)), .val (.ref wA), .val (.ref wB), .val (.ref wC), .val (.ref wD), .val (.ref wE), .val (.ref wF), .val (.ref oS), .val (.ref oH), .val (.ref oT), .val (.ref b1), .val (.ref r_39)] []))
        refine own_on (fun t_ k_ => XS.aload X40.here hx rfl (hb hby at_280) rfl rfl k_) ?_
        refine own_on (fun t_ k_ => XS.iload X40.here hx rfl (hb hby at_282) rfl k_) ?_
        have hr76 : (0 : Int32) < (own_n (lS ++ lT)) := ((own_lt' (x := 0) (y := (lS ++ lT).length) (by decide) (by rw [List.length_append]; omega)).mpr (by rw [hlS, hlT]; exact Nat.le_of_ble_eq_true rfl))
        have hr77 : ((lS ++ lT).map Value.ref).getD ((0 : Int32)).toNatClampNeg .null = .ref wE := by rw [hlS, hlT]; rfl
        have hr78 : (0 : Int32) < Int32.ofNat cp2_39 := by obtain ⟨_, _, _, q⟩ := own_at c39_3 (by decide) hr76; exact q
        obtain ⟨cq79, kq79, q79a, q79b, q79c⟩ := isOf hZ e40 c39_0
        obtain ⟨_, _, ⟨T79, L79, k79, n79⟩, -, X79, ⟨Lc79, hQ79, l79, y79, z79⟩, st79⟩ := X40.interfaceBack hx (xi := (⟨"java/util/List", "get", "(I)Ljava/lang/Object;"⟩ : MethodName)) (y := (⟨"java/util/ArrayList", "get", "(I)Ljava/lang/Object;"⟩ : MethodName)) hown (mvT hZ (w172 hw)) (mvT hZ (w173 hw)) (mvT hZ (w174 hw)) (mvT hZ (w175 hw)) (mvT hZ (w176 hw)) (mvT hZ (w177 hw)) (mvT hZ (w178 hw)) (mvT hZ (w135 hw)) (by decide) (backOf (W := 0) (rm26 l Z a0 hw [] r_39 (0 : Int32) ea2_39 cp2_39 (lS ++ lT) wE T39.heap n0 Z39 c39_0 c39_1 c39_2 c39_3 (by decide : ¬ (0 : Int32) < 0) hr76 hr77 hr78) hZ (w179 hw) (w36 hw) (by decide) (by decide)) q79a q79b q79c (g := (mkF m 284 #[.val (.int xa), .val (.int xb), .val (.int xc), .val (.int xd), .val (.int (0 : Int32)), .val (.int (own_n lH)), .val (.int (2 : Int32)), .val (.ref wA), .val (.ref wB), .val (.ref wC), .val (.ref wD), .val (.ref wE), .val (.ref wF), .val (.ref oS), .val (.ref oH), .val (.ref oT), .val (.ref b1), .val (.ref r_39)] [(.int (0 : Int32)), (.ref r_39)])) rfl (by rw [hml]; rfl) (Steps.refl _) (argsL := [(.int (0 : Int32))]) (rest := []) (lenOf pd_9 rfl) rfl (by show 2 * 0 + _ ≤ _; exact Nat.le_of_eq rfl) (hb hby at_284) (fun _ hWx => ⟨rfl, e40, (by decide : 33 + 0 ≤ _), (by decide : 158 + 0 ≤ _)⟩)
        dsimp only [Pt.U, Pt.locs, Pt.cells, Pt.slots] at X79 l79 y79 z79 st79 hQ79
        replace X79 := own_num (c' := 33) (n' := 158) X79 l79 (y79.trans rfl) (z79.trans rfl)
        obtain ⟨rfl, N79q, e79⟩ := hQ79
        have N79 := Fr.app N40 N79q
        refine own_tr st79 ?_
        show OwnGo p e below s _ _ _ (T79.setTop (mkF m 289 #[.val (.int xa), .val (.int xb), .val (.int xc), .val (.int xd), .val (.int (0 : Int32)), .val (.int (own_n lH)), .val (.int (2 : Int32)), .val (.ref wA), .val (.ref wB), .val (.ref wC), .val (.ref wD), .val (.ref wE), .val (.ref wF), .val (.ref oS), .val (.ref oH), .val (.ref oT), .val (.ref b1), .val (.ref r_39)] [(.ref wE)]))
        have f80 : Exa Z h1 wE "java/lang/String" := fq20.ext E1
        have f81 : Exa Z T16.heap wE "java/lang/String" := f80.keep K16q
        have f82 : Exa Z T39.heap wE "java/lang/String" := f81.keep K39q
        obtain ⟨T83, X83, e83, st83⟩ := castY X79 hx hZ hown (w5 hw) e79 (Ins.self f82) (g := (mkF m 289 #[.val (.int xa), .val (.int xb), .val (.int xc), .val (.int xd), .val (.int (0 : Int32)), .val (.int (own_n lH)), .val (.int (2 : Int32)), .val (.ref wA), .val (.ref wB), .val (.ref wC), .val (.ref wD), .val (.ref wE), .val (.ref wF), .val (.ref oS), .val (.ref oH), .val (.ref oT), .val (.ref b1), .val (.ref r_39)] [(.ref wE)])) rfl rfl (hb hby at_289)
        refine own_on st83 ?_
        show OwnGo p e below s _ _ _ (T83.setTop (mkF m 292 #[.val (.int xa), .val (.int xb), .val (.int xc), .val (.int xd), .val (.int (0 : Int32)), .val (.int (own_n lH)), .val (.int (2 : Int32)), .val (.ref wA), .val (.ref wB), .val (.ref wC), .val (.ref wD), .val (.ref wE), .val (.ref wF), .val (.ref oS), .val (.ref oH), .val (.ref oT), .val (.ref b1), .val (.ref r_39)] [(.ref wE)]))
        refine own_on (fun t_ k_ => XS.aload X83.here hx rfl (hb hby at_292) rfl rfl k_) ?_
        obtain ⟨cq84, kq84, q84a, q84b, q84c⟩ := isOf hZ e83 f82
        obtain ⟨_, _, ⟨T84, L84, k84, n84⟩, -, X84, ⟨Lc84, hQ84, l84, y84, z84⟩, st84⟩ := X83.virtualBack hx (y := (⟨"java/lang/String", "equals", "(Ljava/lang/Object;)Z"⟩ : MethodName)) (z := (⟨"java/lang/String", "equals", "(Ljava/lang/Object;)Z"⟩ : MethodName)) hown (mvT hZ (w193 hw)) (mvT hZ (w194 hw)) (notFace_of_selects (args := #[]) (mvT hZ (w196 hw))) (mvT hZ (w196 hw)) (mvT hZ (w195 hw)) (by decide) (backOf (W := 0) (rm30 l Z a0 hw [] wE T39.heap n0 Z39 ) hZ (w197 hw) (w7 hw) (by decide) (by decide)) q84a q84c (g := (mkF m 294 #[.val (.int xa), .val (.int xb), .val (.int xc), .val (.int xd), .val (.int (0 : Int32)), .val (.int (own_n lH)), .val (.int (2 : Int32)), .val (.ref wA), .val (.ref wB), .val (.ref wC), .val (.ref wD), .val (.ref wE), .val (.ref wF), .val (.ref oS), .val (.ref oH), .val (.ref oT), .val (.ref b1), .val (.ref r_39)] [(.ref wE), (.ref wE)])) rfl (by rw [hml]; rfl) (Steps.refl _) (argsL := [(.ref wE)]) (rest := []) (lenOf pd_16 rfl) rfl (by show 2 * 0 + _ ≤ _; exact Nat.le_of_eq rfl) (hb hby at_294) (fun _ hWx => ⟨rfl, e83, (by decide : 33 + 0 ≤ _), (by decide : 158 + 0 ≤ _)⟩)
        dsimp only [Pt.U, Pt.locs, Pt.cells, Pt.slots] at X84 l84 y84 z84 st84 hQ84
        replace X84 := own_num (c' := 33) (n' := 158) X84 l84 (y84.trans rfl) (z84.trans rfl)
        obtain ⟨rfl, N84q, e84⟩ := hQ84
        have N84 := Fr.app N79 N84q
        refine own_tr st84 ?_
        show OwnGo p e below s _ _ _ (T84.setTop (mkF m 297 #[.val (.int xa), .val (.int xb), .val (.int xc), .val (.int xd), .val (.int (0 : Int32)), .val (.int (own_n lH)), .val (.int (2 : Int32)), .val (.ref wA), .val (.ref wB), .val (.ref wC), .val (.ref wD), .val (.ref wE), .val (.ref wF), .val (.ref oS), .val (.ref oH), .val (.ref oT), .val (.ref b1), .val (.ref r_39)] [(.int (1 : Int32))]))
        refine own_on (fun t_ k_ => XS.ifYes X84.here hx rfl (pc0 := 297) (pc' := 302) rfl (hb hby at_297) rfl ((if0 _ _).trans (feq (by decide : ¬ ((1 : Int32) = (0 : Int32)))).2) (by decide) (by decide) k_) ?_
        show OwnGo p e below s _ _ _ (T84.setTop (mkF m 302 #[.val (.int xa), .val (.int xb), .val (.int xc), .val (.int xd), .val (.int (0 : Int32)), .val (.int (own_n lH)), .val (.int (2 : Int32)), .val (.ref wA), .val (.ref wB), .val (.ref wC), .val (.ref wD), .val (.ref wE), .val (.ref wF), .val (.ref oS), .val (.ref oH), .val (.ref oT), .val (.ref b1), .val (.ref r_39)] []))
        refine own_on (fun t_ k_ => XS.iload X84.here hx rfl (hb hby at_302) rfl k_) ?_
        refine own_on (fun t_ k_ => XS.iconst X84.here hx rfl (hb hby at_304) k_) ?_
        refine own_on (fun t_ k_ => XS.icmpNo X84.here hx rfl (hb hby at_305) rfl (flt (by decide : ¬ ((2 : Int32) < (2 : Int32)))).1 k_) ?_
        show OwnGo p e below s _ _ _ (T84.setTop (mkF m 308 #[.val (.int xa), .val (.int xb), .val (.int xc), .val (.int xd), .val (.int (0 : Int32)), .val (.int (own_n lH)), .val (.int (2 : Int32)), .val (.ref wA), .val (.ref wB), .val (.ref wC), .val (.ref wD), .val (.ref wE), .val (.ref wF), .val (.ref oS), .val (.ref oH), .val (.ref oT), .val (.ref b1), .val (.ref r_39)] []))
        refine own_on (fun t_ k_ => XS.aload X84.here hx rfl (hb hby at_308) rfl rfl k_) ?_
        refine own_on (fun t_ k_ => XS.iload X84.here hx rfl (hb hby at_310) rfl k_) ?_
        refine own_on (fun t_ k_ => XS.iconst X84.here hx rfl (hb hby at_312) k_) ?_
        refine own_on (fun t_ k_ => XS.iadd X84.here hx rfl (hb hby at_313) rfl k_) ?_
        show OwnGo p e below s _ _ _ (T84.setTop (mkF m 314 #[.val (.int xa), .val (.int xb), .val (.int xc), .val (.int xd), .val (.int (0 : Int32)), .val (.int (own_n lH)), .val (.int (2 : Int32)), .val (.ref wA), .val (.ref wB), .val (.ref wC), .val (.ref wD), .val (.ref wE), .val (.ref wF), .val (.ref oS), .val (.ref oH), .val (.ref oT), .val (.ref b1), .val (.ref r_39)] [(.int (1 : Int32)), (.ref r_39)]))
        have hr85 : (1 : Int32) < (own_n (lS ++ lT)) := ((own_lt' (x := 1) (y := (lS ++ lT).length) (by decide) (by rw [List.length_append]; omega)).mpr (by rw [hlS, hlT]; exact Nat.le_of_ble_eq_true rfl))
        have hr86 : ((lS ++ lT).map Value.ref).getD ((1 : Int32)).toNatClampNeg .null = .ref wF := by rw [hlS, hlT]; rfl
        have hr87 : (1 : Int32) < Int32.ofNat cp2_39 := by obtain ⟨_, _, _, q⟩ := own_at c39_3 (by decide) hr85; exact q
        obtain ⟨cq88, kq88, q88a, q88b, q88c⟩ := isOf hZ e84 c39_0
        obtain ⟨_, _, ⟨T88, L88, k88, n88⟩, -, X88, ⟨Lc88, hQ88, l88, y88, z88⟩, st88⟩ := X84.interfaceBack hx (xi := (⟨"java/util/List", "get", "(I)Ljava/lang/Object;"⟩ : MethodName)) (y := (⟨"java/util/ArrayList", "get", "(I)Ljava/lang/Object;"⟩ : MethodName)) hown (mvT hZ (w172 hw)) (mvT hZ (w173 hw)) (mvT hZ (w174 hw)) (mvT hZ (w175 hw)) (mvT hZ (w176 hw)) (mvT hZ (w177 hw)) (mvT hZ (w178 hw)) (mvT hZ (w135 hw)) (by decide) (backOf (W := 0) (rm26 l Z a0 hw [] r_39 (1 : Int32) ea2_39 cp2_39 (lS ++ lT) wF T39.heap n0 Z39 c39_0 c39_1 c39_2 c39_3 (by decide : ¬ (1 : Int32) < 0) hr85 hr86 hr87) hZ (w179 hw) (w36 hw) (by decide) (by decide)) q88a q88b q88c (g := (mkF m 314 #[.val (.int xa), .val (.int xb), .val (.int xc), .val (.int xd), .val (.int (0 : Int32)), .val (.int (own_n lH)), .val (.int (2 : Int32)), .val (.ref wA), .val (.ref wB), .val (.ref wC), .val (.ref wD), .val (.ref wE), .val (.ref wF), .val (.ref oS), .val (.ref oH), .val (.ref oT), .val (.ref b1), .val (.ref r_39)] [(.int (1 : Int32)), (.ref r_39)])) rfl (by rw [hml]; rfl) (Steps.refl _) (argsL := [(.int (1 : Int32))]) (rest := []) (lenOf pd_9 rfl) rfl (by show 2 * 0 + _ ≤ _; exact Nat.le_of_eq rfl) (hb hby at_314) (fun _ hWx => ⟨rfl, e84, (by decide : 33 + 0 ≤ _), (by decide : 158 + 0 ≤ _)⟩)
        dsimp only [Pt.U, Pt.locs, Pt.cells, Pt.slots] at X88 l88 y88 z88 st88 hQ88
        replace X88 := own_num (c' := 33) (n' := 158) X88 l88 (y88.trans rfl) (z88.trans rfl)
        obtain ⟨rfl, N88q, e88⟩ := hQ88
        have N88 := Fr.app N84 N88q
        refine own_tr st88 ?_
        show OwnGo p e below s _ _ _ (T88.setTop (mkF m 319 #[.val (.int xa), .val (.int xb), .val (.int xc), .val (.int xd), .val (.int (0 : Int32)), .val (.int (own_n lH)), .val (.int (2 : Int32)), .val (.ref wA), .val (.ref wB), .val (.ref wC), .val (.ref wD), .val (.ref wE), .val (.ref wF), .val (.ref oS), .val (.ref oH), .val (.ref oT), .val (.ref b1), .val (.ref r_39)] [(.ref wF)]))
        have f89 : Exa Z h1 wF "java/lang/String" := fq21.ext E1
        have f90 : Exa Z T16.heap wF "java/lang/String" := f89.keep K16q
        have f91 : Exa Z T39.heap wF "java/lang/String" := f90.keep K39q
        obtain ⟨T92, X92, e92, st92⟩ := castY X88 hx hZ hown (w5 hw) e88 (Ins.self f91) (g := (mkF m 319 #[.val (.int xa), .val (.int xb), .val (.int xc), .val (.int xd), .val (.int (0 : Int32)), .val (.int (own_n lH)), .val (.int (2 : Int32)), .val (.ref wA), .val (.ref wB), .val (.ref wC), .val (.ref wD), .val (.ref wE), .val (.ref wF), .val (.ref oS), .val (.ref oH), .val (.ref oT), .val (.ref b1), .val (.ref r_39)] [(.ref wF)])) rfl rfl (hb hby at_319)
        refine own_on st92 ?_
        show OwnGo p e below s _ _ _ (T92.setTop (mkF m 322 #[.val (.int xa), .val (.int xb), .val (.int xc), .val (.int xd), .val (.int (0 : Int32)), .val (.int (own_n lH)), .val (.int (2 : Int32)), .val (.ref wA), .val (.ref wB), .val (.ref wC), .val (.ref wD), .val (.ref wE), .val (.ref wF), .val (.ref oS), .val (.ref oH), .val (.ref oT), .val (.ref b1), .val (.ref r_39)] [(.ref wF)]))
        refine own_on (fun t_ k_ => XS.aload X92.here hx rfl (hb hby at_322) rfl rfl k_) ?_
        obtain ⟨cq93, kq93, q93a, q93b, q93c⟩ := isOf hZ e92 f91
        obtain ⟨_, _, ⟨T93, L93, k93, n93⟩, -, X93, ⟨Lc93, hQ93, l93, y93, z93⟩, st93⟩ := X92.virtualBack hx (y := (⟨"java/lang/String", "equals", "(Ljava/lang/Object;)Z"⟩ : MethodName)) (z := (⟨"java/lang/String", "equals", "(Ljava/lang/Object;)Z"⟩ : MethodName)) hown (mvT hZ (w193 hw)) (mvT hZ (w194 hw)) (notFace_of_selects (args := #[]) (mvT hZ (w196 hw))) (mvT hZ (w196 hw)) (mvT hZ (w195 hw)) (by decide) (backOf (W := 0) (rm30 l Z a0 hw [] wF T39.heap n0 Z39 ) hZ (w197 hw) (w7 hw) (by decide) (by decide)) q93a q93c (g := (mkF m 324 #[.val (.int xa), .val (.int xb), .val (.int xc), .val (.int xd), .val (.int (0 : Int32)), .val (.int (own_n lH)), .val (.int (2 : Int32)), .val (.ref wA), .val (.ref wB), .val (.ref wC), .val (.ref wD), .val (.ref wE), .val (.ref wF), .val (.ref oS), .val (.ref oH), .val (.ref oT), .val (.ref b1), .val (.ref r_39)] [(.ref wF), (.ref wF)])) rfl (by rw [hml]; rfl) (Steps.refl _) (argsL := [(.ref wF)]) (rest := []) (lenOf pd_16 rfl) rfl (by show 2 * 0 + _ ≤ _; exact Nat.le_of_eq rfl) (hb hby at_324) (fun _ hWx => ⟨rfl, e92, (by decide : 33 + 0 ≤ _), (by decide : 158 + 0 ≤ _)⟩)
        dsimp only [Pt.U, Pt.locs, Pt.cells, Pt.slots] at X93 l93 y93 z93 st93 hQ93
        replace X93 := own_num (c' := 33) (n' := 158) X93 l93 (y93.trans rfl) (z93.trans rfl)
        obtain ⟨rfl, N93q, e93⟩ := hQ93
        have N93 := Fr.app N88 N93q
        refine own_tr st93 ?_
        show OwnGo p e below s _ _ _ (T93.setTop (mkF m 327 #[.val (.int xa), .val (.int xb), .val (.int xc), .val (.int xd), .val (.int (0 : Int32)), .val (.int (own_n lH)), .val (.int (2 : Int32)), .val (.ref wA), .val (.ref wB), .val (.ref wC), .val (.ref wD), .val (.ref wE), .val (.ref wF), .val (.ref oS), .val (.ref oH), .val (.ref oT), .val (.ref b1), .val (.ref r_39)] [(.int (1 : Int32))]))
        refine own_on (fun t_ k_ => XS.ifYes X93.here hx rfl (pc0 := 327) (pc' := 332) rfl (hb hby at_327) rfl ((if0 _ _).trans (feq (by decide : ¬ ((1 : Int32) = (0 : Int32)))).2) (by decide) (by decide) k_) ?_
        show OwnGo p e below s _ _ _ (T93.setTop (mkF m 332 #[.val (.int xa), .val (.int xb), .val (.int xc), .val (.int xd), .val (.int (0 : Int32)), .val (.int (own_n lH)), .val (.int (2 : Int32)), .val (.ref wA), .val (.ref wB), .val (.ref wC), .val (.ref wD), .val (.ref wE), .val (.ref wF), .val (.ref oS), .val (.ref oH), .val (.ref oT), .val (.ref b1), .val (.ref r_39)] []))
        refine own_on (fun t_ k_ => XS.aload X93.here hx rfl (hb hby at_332) rfl rfl k_) ?_
        have f94 : Fld Z T39.heap oS "java/util/ArrayList" "size" "I" (.int (own_n lS)) := f22.keep K39q nin0
        have f95 : Exa Z T39.heap oS "java/util/ArrayList" := f18.keep K39q
        obtain ⟨cq96, kq96, q96a, q96b, q96c⟩ := isOf hZ e93 f95
        obtain ⟨_, _, ⟨T96, L96, k96, n96⟩, -, X96, ⟨Lc96, hQ96, l96, y96, z96⟩, st96⟩ := X93.virtualBack hx (y := (⟨"java/util/ArrayList", "size", "()I"⟩ : MethodName)) (z := (⟨"java/util/ArrayList", "size", "()I"⟩ : MethodName)) hown (mvT hZ (w137 hw)) (mvT hZ (w138 hw)) (notFace_of_selects (args := #[]) (mvT hZ (w139 hw))) (mvT hZ (w139 hw)) (mvT hZ (w132 hw)) (by decide) (backOf (W := 0) (rm20 l Z a0 hw [] oS lS T39.heap n0 Z39 f94) hZ (w136 hw) (w36 hw) (by decide) (by decide)) q96a q96c (g := (mkF m 334 #[.val (.int xa), .val (.int xb), .val (.int xc), .val (.int xd), .val (.int (0 : Int32)), .val (.int (own_n lH)), .val (.int (2 : Int32)), .val (.ref wA), .val (.ref wB), .val (.ref wC), .val (.ref wD), .val (.ref wE), .val (.ref wF), .val (.ref oS), .val (.ref oH), .val (.ref oT), .val (.ref b1), .val (.ref r_39)] [(.ref oS)])) rfl (by rw [hml]; rfl) (Steps.refl _) (argsL := []) (rest := []) (lenOf pd_15 rfl) rfl (by show 2 * 0 + _ ≤ _; exact Nat.le_of_eq rfl) (hb hby at_334) (fun _ hWx => ⟨rfl, e93, (by decide : 33 + 0 ≤ _), (by decide : 158 + 0 ≤ _)⟩)
        dsimp only [Pt.U, Pt.locs, Pt.cells, Pt.slots] at X96 l96 y96 z96 st96 hQ96
        replace X96 := own_num (c' := 33) (n' := 158) X96 l96 (y96.trans rfl) (z96.trans rfl)
        obtain ⟨rfl, N96q, e96⟩ := hQ96
        have N96 := Fr.app N93 N96q
        refine own_tr st96 ?_
        show OwnGo p e below s _ _ _ (T96.setTop (mkF m 337 #[.val (.int xa), .val (.int xb), .val (.int xc), .val (.int xd), .val (.int (0 : Int32)), .val (.int (own_n lH)), .val (.int (2 : Int32)), .val (.ref wA), .val (.ref wB), .val (.ref wC), .val (.ref wD), .val (.ref wE), .val (.ref wF), .val (.ref oS), .val (.ref oH), .val (.ref oT), .val (.ref b1), .val (.ref r_39)] [(.int (own_n lS))]))
        rw [show (own_n lS) = (0 : Int32) from hvS]
        show OwnGo p e below s _ _ _ (T96.setTop (mkF m 337 #[.val (.int xa), .val (.int xb), .val (.int xc), .val (.int xd), .val (.int (0 : Int32)), .val (.int (own_n lH)), .val (.int (2 : Int32)), .val (.ref wA), .val (.ref wB), .val (.ref wC), .val (.ref wD), .val (.ref wE), .val (.ref wF), .val (.ref oS), .val (.ref oH), .val (.ref oT), .val (.ref b1), .val (.ref r_39)] [(.int (0 : Int32))]))
        refine own_on (fun t_ k_ => XS.iload X96.here hx rfl (hb hby at_337) rfl k_) ?_
        refine own_on (fun t_ k_ => XS.icmpYes X96.here hx rfl (pc0 := 339) (pc' := 344) rfl (hb hby at_339) rfl (teq (by decide : (0 : Int32) = (0 : Int32))).1 (by decide) (by decide) k_) ?_
        show OwnGo p e below s _ _ _ (T96.setTop (mkF m 344 #[.val (.int xa), .val (.int xb), .val (.int xc), .val (.int xd), .val (.int (0 : Int32)), .val (.int (own_n lH)), .val (.int (2 : Int32)), .val (.ref wA), .val (.ref wB), .val (.ref wC), .val (.ref wD), .val (.ref wE), .val (.ref wF), .val (.ref oS), .val (.ref oH), .val (.ref oT), .val (.ref b1), .val (.ref r_39)] []))
        refine own_on (fun t_ k_ => XS.aload X96.here hx rfl (hb hby at_344) rfl rfl k_) ?_
        have f97 : Fld Z h1 oH "java/util/ArrayList" "size" "I" (.int (own_n lH)) := fq7.ext E1
        have f98 : Fld Z T16.heap oH "java/util/ArrayList" "size" "I" (.int (own_n lH)) := f97.keep K16q (ninS ne4 nin0)
        have f99 : Fld Z T39.heap oH "java/util/ArrayList" "size" "I" (.int (own_n lH)) := f98.keep K39q nin0
        have f100 : Exa Z h1 oH "java/util/ArrayList" := fq5.ext E1
        have f101 : Exa Z T16.heap oH "java/util/ArrayList" := f100.keep K16q
        have f102 : Exa Z T39.heap oH "java/util/ArrayList" := f101.keep K39q
        obtain ⟨cq103, kq103, q103a, q103b, q103c⟩ := isOf hZ e96 f102
        obtain ⟨_, _, ⟨T103, L103, k103, n103⟩, -, X103, ⟨Lc103, hQ103, l103, y103, z103⟩, st103⟩ := X96.virtualBack hx (y := (⟨"java/util/ArrayList", "size", "()I"⟩ : MethodName)) (z := (⟨"java/util/ArrayList", "size", "()I"⟩ : MethodName)) hown (mvT hZ (w137 hw)) (mvT hZ (w138 hw)) (notFace_of_selects (args := #[]) (mvT hZ (w139 hw))) (mvT hZ (w139 hw)) (mvT hZ (w132 hw)) (by decide) (backOf (W := 0) (rm20 l Z a0 hw [] oH lH T39.heap n0 Z39 f99) hZ (w136 hw) (w36 hw) (by decide) (by decide)) q103a q103c (g := (mkF m 346 #[.val (.int xa), .val (.int xb), .val (.int xc), .val (.int xd), .val (.int (0 : Int32)), .val (.int (own_n lH)), .val (.int (2 : Int32)), .val (.ref wA), .val (.ref wB), .val (.ref wC), .val (.ref wD), .val (.ref wE), .val (.ref wF), .val (.ref oS), .val (.ref oH), .val (.ref oT), .val (.ref b1), .val (.ref r_39)] [(.ref oH)])) rfl (by rw [hml]; rfl) (Steps.refl _) (argsL := []) (rest := []) (lenOf pd_15 rfl) rfl (by show 2 * 0 + _ ≤ _; exact Nat.le_of_eq rfl) (hb hby at_346) (fun _ hWx => ⟨rfl, e96, (by decide : 33 + 0 ≤ _), (by decide : 158 + 0 ≤ _)⟩)
        dsimp only [Pt.U, Pt.locs, Pt.cells, Pt.slots] at X103 l103 y103 z103 st103 hQ103
        replace X103 := own_num (c' := 33) (n' := 158) X103 l103 (y103.trans rfl) (z103.trans rfl)
        obtain ⟨rfl, N103q, e103⟩ := hQ103
        have N103 := Fr.app N96 N103q
        refine own_tr st103 ?_
        show OwnGo p e below s _ _ _ (T103.setTop (mkF m 349 #[.val (.int xa), .val (.int xb), .val (.int xc), .val (.int xd), .val (.int (0 : Int32)), .val (.int (own_n lH)), .val (.int (2 : Int32)), .val (.ref wA), .val (.ref wB), .val (.ref wC), .val (.ref wD), .val (.ref wE), .val (.ref wF), .val (.ref oS), .val (.ref oH), .val (.ref oT), .val (.ref b1), .val (.ref r_39)] [(.int (own_n lH))]))
        refine own_on (fun t_ k_ => XS.iload X103.here hx rfl (hb hby at_349) rfl k_) ?_
        refine own_on (fun t_ k_ => XS.icmpYes X103.here hx rfl (pc0 := 351) (pc' := 356) rfl (hb hby at_351) rfl (teq rfl).1 (by decide) (by decide) k_) ?_
        show OwnGo p e below s _ _ _ (T103.setTop (mkF m 356 #[.val (.int xa), .val (.int xb), .val (.int xc), .val (.int xd), .val (.int (0 : Int32)), .val (.int (own_n lH)), .val (.int (2 : Int32)), .val (.ref wA), .val (.ref wB), .val (.ref wC), .val (.ref wD), .val (.ref wE), .val (.ref wF), .val (.ref oS), .val (.ref oH), .val (.ref oT), .val (.ref b1), .val (.ref r_39)] []))
        refine own_on (fun t_ k_ => XS.aload X103.here hx rfl (hb hby at_356) rfl rfl k_) ?_
        have f104 : Fld Z T39.heap oT "java/util/ArrayList" "size" "I" (.int (own_n lT)) := f32.keep K39q nin0
        have f105 : Exa Z T39.heap oT "java/util/ArrayList" := f28.keep K39q
        obtain ⟨cq106, kq106, q106a, q106b, q106c⟩ := isOf hZ e103 f105
        obtain ⟨_, _, ⟨T106, L106, k106, n106⟩, -, X106, ⟨Lc106, hQ106, l106, y106, z106⟩, st106⟩ := X103.virtualBack hx (y := (⟨"java/util/ArrayList", "size", "()I"⟩ : MethodName)) (z := (⟨"java/util/ArrayList", "size", "()I"⟩ : MethodName)) hown (mvT hZ (w137 hw)) (mvT hZ (w138 hw)) (notFace_of_selects (args := #[]) (mvT hZ (w139 hw))) (mvT hZ (w139 hw)) (mvT hZ (w132 hw)) (by decide) (backOf (W := 0) (rm20 l Z a0 hw [] oT lT T39.heap n0 Z39 f104) hZ (w136 hw) (w36 hw) (by decide) (by decide)) q106a q106c (g := (mkF m 358 #[.val (.int xa), .val (.int xb), .val (.int xc), .val (.int xd), .val (.int (0 : Int32)), .val (.int (own_n lH)), .val (.int (2 : Int32)), .val (.ref wA), .val (.ref wB), .val (.ref wC), .val (.ref wD), .val (.ref wE), .val (.ref wF), .val (.ref oS), .val (.ref oH), .val (.ref oT), .val (.ref b1), .val (.ref r_39)] [(.ref oT)])) rfl (by rw [hml]; rfl) (Steps.refl _) (argsL := []) (rest := []) (lenOf pd_15 rfl) rfl (by show 2 * 0 + _ ≤ _; exact Nat.le_of_eq rfl) (hb hby at_358) (fun _ hWx => ⟨rfl, e103, (by decide : 33 + 0 ≤ _), (by decide : 158 + 0 ≤ _)⟩)
        dsimp only [Pt.U, Pt.locs, Pt.cells, Pt.slots] at X106 l106 y106 z106 st106 hQ106
        replace X106 := own_num (c' := 33) (n' := 158) X106 l106 (y106.trans rfl) (z106.trans rfl)
        obtain ⟨rfl, N106q, e106⟩ := hQ106
        have N106 := Fr.app N103 N106q
        refine own_tr st106 ?_
        show OwnGo p e below s _ _ _ (T106.setTop (mkF m 361 #[.val (.int xa), .val (.int xb), .val (.int xc), .val (.int xd), .val (.int (0 : Int32)), .val (.int (own_n lH)), .val (.int (2 : Int32)), .val (.ref wA), .val (.ref wB), .val (.ref wC), .val (.ref wD), .val (.ref wE), .val (.ref wF), .val (.ref oS), .val (.ref oH), .val (.ref oT), .val (.ref b1), .val (.ref r_39)] [(.int (own_n lT))]))
        rw [show (own_n lT) = (2 : Int32) from hvT]
        show OwnGo p e below s _ _ _ (T106.setTop (mkF m 361 #[.val (.int xa), .val (.int xb), .val (.int xc), .val (.int xd), .val (.int (0 : Int32)), .val (.int (own_n lH)), .val (.int (2 : Int32)), .val (.ref wA), .val (.ref wB), .val (.ref wC), .val (.ref wD), .val (.ref wE), .val (.ref wF), .val (.ref oS), .val (.ref oH), .val (.ref oT), .val (.ref b1), .val (.ref r_39)] [(.int (2 : Int32))]))
        refine own_on (fun t_ k_ => XS.iload X106.here hx rfl (hb hby at_361) rfl k_) ?_
        refine own_on (fun t_ k_ => XS.icmpYes X106.here hx rfl (pc0 := 363) (pc' := 368) rfl (hb hby at_363) rfl (teq (by decide : (2 : Int32) = (2 : Int32))).1 (by decide) (by decide) k_) ?_
        show OwnGo p e below s _ _ _ (T106.setTop (mkF m 368 #[.val (.int xa), .val (.int xb), .val (.int xc), .val (.int xd), .val (.int (0 : Int32)), .val (.int (own_n lH)), .val (.int (2 : Int32)), .val (.ref wA), .val (.ref wB), .val (.ref wC), .val (.ref wD), .val (.ref wE), .val (.ref wF), .val (.ref oS), .val (.ref oH), .val (.ref oT), .val (.ref b1), .val (.ref r_39)] []))
        refine own_on (fun t_ k_ => XS.iconst X106.here hx rfl (hb hby at_368) k_) ?_
        exact own_retN X106 hx hlk (t := .boolean) Bd.returns (by simp) (hb hby at_369) e106 ⟨rfl, N106, K39⟩ (by decide) (by decide)
    · rcases hcaseT with ⟨hvT, hlT⟩ | ⟨hvT, hlT⟩ | ⟨hvT, hlT⟩
      · rw [show (own_n lS) = (1 : Int32) from hvS]
        show OwnGo p e below s _ _ _ (T40.setTop (mkF m 220 #[.val (.int xa), .val (.int xb), .val (.int xc), .val (.int xd), .val (.int (1 : Int32)), .val (.int (own_n lH)), .val (.int (own_n lT)), .val (.ref wA), .val (.ref wB), .val (.ref wC), .val (.ref wD), .val (.ref wE), .val (.ref wF), .val (.ref oS), .val (.ref oH), .val (.ref oT), .val (.ref b1), .val (.ref r_39)] []))
        rw [show (own_n lT) = (0 : Int32) from hvT]
        show OwnGo p e below s _ _ _ (T40.setTop (mkF m 220 #[.val (.int xa), .val (.int xb), .val (.int xc), .val (.int xd), .val (.int (1 : Int32)), .val (.int (own_n lH)), .val (.int (0 : Int32)), .val (.ref wA), .val (.ref wB), .val (.ref wC), .val (.ref wD), .val (.ref wE), .val (.ref wF), .val (.ref oS), .val (.ref oH), .val (.ref oT), .val (.ref b1), .val (.ref r_39)] []))
        refine own_on (fun t_ k_ => XS.iload X40.here hx rfl (hb hby at_220) rfl k_) ?_
        refine own_on (fun t_ k_ => XS.iconst X40.here hx rfl (hb hby at_222) k_) ?_
        refine own_on (fun t_ k_ => XS.icmpNo X40.here hx rfl (hb hby at_223) rfl (flt (by decide : ¬ ((1 : Int32) < (1 : Int32)))).1 k_) ?_
        show OwnGo p e below s _ _ _ (T40.setTop (mkF m 226 #[.val (.int xa), .val (.int xb), .val (.int xc), .val (.int xd), .val (.int (1 : Int32)), .val (.int (own_n lH)), .val (.int (0 : Int32)), .val (.ref wA), .val (.ref wB), .val (.ref wC), .val (.ref wD), .val (.ref wE), .val (.ref wF), .val (.ref oS), .val (.ref oH), .val (.ref oT), .val (.ref b1), .val (.ref r_39)] []))
        refine own_on (fun t_ k_ => XS.aload X40.here hx rfl (hb hby at_226) rfl rfl k_) ?_
        refine own_on (fun t_ k_ => XS.iconst X40.here hx rfl (hb hby at_228) k_) ?_
        have hr107 : (0 : Int32) < (own_n (lS ++ lT)) := ((own_lt' (x := 0) (y := (lS ++ lT).length) (by decide) (by rw [List.length_append]; omega)).mpr (by rw [hlS, hlT]; exact Nat.le_of_ble_eq_true rfl))
        have hr108 : ((lS ++ lT).map Value.ref).getD ((0 : Int32)).toNatClampNeg .null = .ref wA := by rw [hlS, hlT]; rfl
        have hr109 : (0 : Int32) < Int32.ofNat cp2_39 := by obtain ⟨_, _, _, q⟩ := own_at c39_3 (by decide) hr107; exact q
        obtain ⟨cq110, kq110, q110a, q110b, q110c⟩ := isOf hZ e40 c39_0
        obtain ⟨_, _, ⟨T110, L110, k110, n110⟩, -, X110, ⟨Lc110, hQ110, l110, y110, z110⟩, st110⟩ := X40.interfaceBack hx (xi := (⟨"java/util/List", "get", "(I)Ljava/lang/Object;"⟩ : MethodName)) (y := (⟨"java/util/ArrayList", "get", "(I)Ljava/lang/Object;"⟩ : MethodName)) hown (mvT hZ (w172 hw)) (mvT hZ (w173 hw)) (mvT hZ (w174 hw)) (mvT hZ (w175 hw)) (mvT hZ (w176 hw)) (mvT hZ (w177 hw)) (mvT hZ (w178 hw)) (mvT hZ (w135 hw)) (by decide) (backOf (W := 0) (rm26 l Z a0 hw [] r_39 (0 : Int32) ea2_39 cp2_39 (lS ++ lT) wA T39.heap n0 Z39 c39_0 c39_1 c39_2 c39_3 (by decide : ¬ (0 : Int32) < 0) hr107 hr108 hr109) hZ (w179 hw) (w36 hw) (by decide) (by decide)) q110a q110b q110c (g := (mkF m 229 #[.val (.int xa), .val (.int xb), .val (.int xc), .val (.int xd), .val (.int (1 : Int32)), .val (.int (own_n lH)), .val (.int (0 : Int32)), .val (.ref wA), .val (.ref wB), .val (.ref wC), .val (.ref wD), .val (.ref wE), .val (.ref wF), .val (.ref oS), .val (.ref oH), .val (.ref oT), .val (.ref b1), .val (.ref r_39)] [(.int (0 : Int32)), (.ref r_39)])) rfl (by rw [hml]; rfl) (Steps.refl _) (argsL := [(.int (0 : Int32))]) (rest := []) (lenOf pd_9 rfl) rfl (by show 2 * 0 + _ ≤ _; exact Nat.le_of_eq rfl) (hb hby at_229) (fun _ hWx => ⟨rfl, e40, (by decide : 33 + 0 ≤ _), (by decide : 158 + 0 ≤ _)⟩)
        dsimp only [Pt.U, Pt.locs, Pt.cells, Pt.slots] at X110 l110 y110 z110 st110 hQ110
        replace X110 := own_num (c' := 33) (n' := 158) X110 l110 (y110.trans rfl) (z110.trans rfl)
        obtain ⟨rfl, N110q, e110⟩ := hQ110
        have N110 := Fr.app N40 N110q
        refine own_tr st110 ?_
        show OwnGo p e below s _ _ _ (T110.setTop (mkF m 234 #[.val (.int xa), .val (.int xb), .val (.int xc), .val (.int xd), .val (.int (1 : Int32)), .val (.int (own_n lH)), .val (.int (0 : Int32)), .val (.ref wA), .val (.ref wB), .val (.ref wC), .val (.ref wD), .val (.ref wE), .val (.ref wF), .val (.ref oS), .val (.ref oH), .val (.ref oT), .val (.ref b1), .val (.ref r_39)] [(.ref wA)]))
        have f111 : Exa Z h1 wA "java/lang/String" := fq16.ext E1
        have f112 : Exa Z T16.heap wA "java/lang/String" := f111.keep K16q
        have f113 : Exa Z T39.heap wA "java/lang/String" := f112.keep K39q
        obtain ⟨T114, X114, e114, st114⟩ := castY X110 hx hZ hown (w5 hw) e110 (Ins.self f113) (g := (mkF m 234 #[.val (.int xa), .val (.int xb), .val (.int xc), .val (.int xd), .val (.int (1 : Int32)), .val (.int (own_n lH)), .val (.int (0 : Int32)), .val (.ref wA), .val (.ref wB), .val (.ref wC), .val (.ref wD), .val (.ref wE), .val (.ref wF), .val (.ref oS), .val (.ref oH), .val (.ref oT), .val (.ref b1), .val (.ref r_39)] [(.ref wA)])) rfl rfl (hb hby at_234)
        refine own_on st114 ?_
        show OwnGo p e below s _ _ _ (T114.setTop (mkF m 237 #[.val (.int xa), .val (.int xb), .val (.int xc), .val (.int xd), .val (.int (1 : Int32)), .val (.int (own_n lH)), .val (.int (0 : Int32)), .val (.ref wA), .val (.ref wB), .val (.ref wC), .val (.ref wD), .val (.ref wE), .val (.ref wF), .val (.ref oS), .val (.ref oH), .val (.ref oT), .val (.ref b1), .val (.ref r_39)] [(.ref wA)]))
        refine own_on (fun t_ k_ => XS.aload X114.here hx rfl (hb hby at_237) rfl rfl k_) ?_
        obtain ⟨cq115, kq115, q115a, q115b, q115c⟩ := isOf hZ e114 f113
        obtain ⟨_, _, ⟨T115, L115, k115, n115⟩, -, X115, ⟨Lc115, hQ115, l115, y115, z115⟩, st115⟩ := X114.virtualBack hx (y := (⟨"java/lang/String", "equals", "(Ljava/lang/Object;)Z"⟩ : MethodName)) (z := (⟨"java/lang/String", "equals", "(Ljava/lang/Object;)Z"⟩ : MethodName)) hown (mvT hZ (w193 hw)) (mvT hZ (w194 hw)) (notFace_of_selects (args := #[]) (mvT hZ (w196 hw))) (mvT hZ (w196 hw)) (mvT hZ (w195 hw)) (by decide) (backOf (W := 0) (rm30 l Z a0 hw [] wA T39.heap n0 Z39 ) hZ (w197 hw) (w7 hw) (by decide) (by decide)) q115a q115c (g := (mkF m 239 #[.val (.int xa), .val (.int xb), .val (.int xc), .val (.int xd), .val (.int (1 : Int32)), .val (.int (own_n lH)), .val (.int (0 : Int32)), .val (.ref wA), .val (.ref wB), .val (.ref wC), .val (.ref wD), .val (.ref wE), .val (.ref wF), .val (.ref oS), .val (.ref oH), .val (.ref oT), .val (.ref b1), .val (.ref r_39)] [(.ref wA), (.ref wA)])) rfl (by rw [hml]; rfl) (Steps.refl _) (argsL := [(.ref wA)]) (rest := []) (lenOf pd_16 rfl) rfl (by show 2 * 0 + _ ≤ _; exact Nat.le_of_eq rfl) (hb hby at_239) (fun _ hWx => ⟨rfl, e114, (by decide : 33 + 0 ≤ _), (by decide : 158 + 0 ≤ _)⟩)
        dsimp only [Pt.U, Pt.locs, Pt.cells, Pt.slots] at X115 l115 y115 z115 st115 hQ115
        replace X115 := own_num (c' := 33) (n' := 158) X115 l115 (y115.trans rfl) (z115.trans rfl)
        obtain ⟨rfl, N115q, e115⟩ := hQ115
        have N115 := Fr.app N110 N115q
        refine own_tr st115 ?_
        show OwnGo p e below s _ _ _ (T115.setTop (mkF m 242 #[.val (.int xa), .val (.int xb), .val (.int xc), .val (.int xd), .val (.int (1 : Int32)), .val (.int (own_n lH)), .val (.int (0 : Int32)), .val (.ref wA), .val (.ref wB), .val (.ref wC), .val (.ref wD), .val (.ref wE), .val (.ref wF), .val (.ref oS), .val (.ref oH), .val (.ref oT), .val (.ref b1), .val (.ref r_39)] [(.int (1 : Int32))]))
        refine own_on (fun t_ k_ => XS.ifYes X115.here hx rfl (pc0 := 242) (pc' := 247) rfl (hb hby at_242) rfl ((if0 _ _).trans (feq (by decide : ¬ ((1 : Int32) = (0 : Int32)))).2) (by decide) (by decide) k_) ?_
        show OwnGo p e below s _ _ _ (T115.setTop (mkF m 247 #[.val (.int xa), .val (.int xb), .val (.int xc), .val (.int xd), .val (.int (1 : Int32)), .val (.int (own_n lH)), .val (.int (0 : Int32)), .val (.ref wA), .val (.ref wB), .val (.ref wC), .val (.ref wD), .val (.ref wE), .val (.ref wF), .val (.ref oS), .val (.ref oH), .val (.ref oT), .val (.ref b1), .val (.ref r_39)] []))
        refine own_on (fun t_ k_ => XS.iload X115.here hx rfl (hb hby at_247) rfl k_) ?_
        refine own_on (fun t_ k_ => XS.iconst X115.here hx rfl (hb hby at_249) k_) ?_
        refine own_on (fun t_ k_ => XS.icmpYes X115.here hx rfl (pc0 := 250) (pc' := 274) rfl (hb hby at_250) rfl (tlt (by decide : (1 : Int32) < (2 : Int32))).1 (by decide) (by decide) k_) ?_
        show OwnGo p e below s _ _ _ (T115.setTop (mkF m 274 #[.val (.int xa), .val (.int xb), .val (.int xc), .val (.int xd), .val (.int (1 : Int32)), .val (.int (own_n lH)), .val (.int (0 : Int32)), .val (.ref wA), .val (.ref wB), .val (.ref wC), .val (.ref wD), .val (.ref wE), .val (.ref wF), .val (.ref oS), .val (.ref oH), .val (.ref oT), .val (.ref b1), .val (.ref r_39)] []))
        refine own_on (fun t_ k_ => XS.iload X115.here hx rfl (hb hby at_274) rfl k_) ?_
        refine own_on (fun t_ k_ => XS.iconst X115.here hx rfl (hb hby at_276) k_) ?_
        refine own_on (fun t_ k_ => XS.icmpYes X115.here hx rfl (pc0 := 277) (pc' := 302) rfl (hb hby at_277) rfl (tlt (by decide : (0 : Int32) < (1 : Int32))).1 (by decide) (by decide) k_) ?_
        show OwnGo p e below s _ _ _ (T115.setTop (mkF m 302 #[.val (.int xa), .val (.int xb), .val (.int xc), .val (.int xd), .val (.int (1 : Int32)), .val (.int (own_n lH)), .val (.int (0 : Int32)), .val (.ref wA), .val (.ref wB), .val (.ref wC), .val (.ref wD), .val (.ref wE), .val (.ref wF), .val (.ref oS), .val (.ref oH), .val (.ref oT), .val (.ref b1), .val (.ref r_39)] []))
        refine own_on (fun t_ k_ => XS.iload X115.here hx rfl (hb hby at_302) rfl k_) ?_
        refine own_on (fun t_ k_ => XS.iconst X115.here hx rfl (hb hby at_304) k_) ?_
        refine own_on (fun t_ k_ => XS.icmpYes X115.here hx rfl (pc0 := 305) (pc' := 332) rfl (hb hby at_305) rfl (tlt (by decide : (0 : Int32) < (2 : Int32))).1 (by decide) (by decide) k_) ?_
        show OwnGo p e below s _ _ _ (T115.setTop (mkF m 332 #[.val (.int xa), .val (.int xb), .val (.int xc), .val (.int xd), .val (.int (1 : Int32)), .val (.int (own_n lH)), .val (.int (0 : Int32)), .val (.ref wA), .val (.ref wB), .val (.ref wC), .val (.ref wD), .val (.ref wE), .val (.ref wF), .val (.ref oS), .val (.ref oH), .val (.ref oT), .val (.ref b1), .val (.ref r_39)] []))
        refine own_on (fun t_ k_ => XS.aload X115.here hx rfl (hb hby at_332) rfl rfl k_) ?_
        have f116 : Fld Z T39.heap oS "java/util/ArrayList" "size" "I" (.int (own_n lS)) := f22.keep K39q nin0
        have f117 : Exa Z T39.heap oS "java/util/ArrayList" := f18.keep K39q
        obtain ⟨cq118, kq118, q118a, q118b, q118c⟩ := isOf hZ e115 f117
        obtain ⟨_, _, ⟨T118, L118, k118, n118⟩, -, X118, ⟨Lc118, hQ118, l118, y118, z118⟩, st118⟩ := X115.virtualBack hx (y := (⟨"java/util/ArrayList", "size", "()I"⟩ : MethodName)) (z := (⟨"java/util/ArrayList", "size", "()I"⟩ : MethodName)) hown (mvT hZ (w137 hw)) (mvT hZ (w138 hw)) (notFace_of_selects (args := #[]) (mvT hZ (w139 hw))) (mvT hZ (w139 hw)) (mvT hZ (w132 hw)) (by decide) (backOf (W := 0) (rm20 l Z a0 hw [] oS lS T39.heap n0 Z39 f116) hZ (w136 hw) (w36 hw) (by decide) (by decide)) q118a q118c (g := (mkF m 334 #[.val (.int xa), .val (.int xb), .val (.int xc), .val (.int xd), .val (.int (1 : Int32)), .val (.int (own_n lH)), .val (.int (0 : Int32)), .val (.ref wA), .val (.ref wB), .val (.ref wC), .val (.ref wD), .val (.ref wE), .val (.ref wF), .val (.ref oS), .val (.ref oH), .val (.ref oT), .val (.ref b1), .val (.ref r_39)] [(.ref oS)])) rfl (by rw [hml]; rfl) (Steps.refl _) (argsL := []) (rest := []) (lenOf pd_15 rfl) rfl (by show 2 * 0 + _ ≤ _; exact Nat.le_of_eq rfl) (hb hby at_334) (fun _ hWx => ⟨rfl, e115, (by decide : 33 + 0 ≤ _), (by decide : 158 + 0 ≤ _)⟩)
        dsimp only [Pt.U, Pt.locs, Pt.cells, Pt.slots] at X118 l118 y118 z118 st118 hQ118
        replace X118 := own_num (c' := 33) (n' := 158) X118 l118 (y118.trans rfl) (z118.trans rfl)
        obtain ⟨rfl, N118q, e118⟩ := hQ118
        have N118 := Fr.app N115 N118q
        refine own_tr st118 ?_
        show OwnGo p e below s _ _ _ (T118.setTop (mkF m 337 #[.val (.int xa), .val (.int xb), .val (.int xc), .val (.int xd), .val (.int (1 : Int32)), .val (.int (own_n lH)), .val (.int (0 : Int32)), .val (.ref wA), .val (.ref wB), .val (.ref wC), .val (.ref wD), .val (.ref wE), .val (.ref wF), .val (.ref oS), .val (.ref oH), .val (.ref oT), .val (.ref b1), .val (.ref r_39)] [(.int (own_n lS))]))
        rw [show (own_n lS) = (1 : Int32) from hvS]
        show OwnGo p e below s _ _ _ (T118.setTop (mkF m 337 #[.val (.int xa), .val (.int xb), .val (.int xc), .val (.int xd), .val (.int (1 : Int32)), .val (.int (own_n lH)), .val (.int (0 : Int32)), .val (.ref wA), .val (.ref wB), .val (.ref wC), .val (.ref wD), .val (.ref wE), .val (.ref wF), .val (.ref oS), .val (.ref oH), .val (.ref oT), .val (.ref b1), .val (.ref r_39)] [(.int (1 : Int32))]))
        refine own_on (fun t_ k_ => XS.iload X118.here hx rfl (hb hby at_337) rfl k_) ?_
        refine own_on (fun t_ k_ => XS.icmpYes X118.here hx rfl (pc0 := 339) (pc' := 344) rfl (hb hby at_339) rfl (teq (by decide : (1 : Int32) = (1 : Int32))).1 (by decide) (by decide) k_) ?_
        show OwnGo p e below s _ _ _ (T118.setTop (mkF m 344 #[.val (.int xa), .val (.int xb), .val (.int xc), .val (.int xd), .val (.int (1 : Int32)), .val (.int (own_n lH)), .val (.int (0 : Int32)), .val (.ref wA), .val (.ref wB), .val (.ref wC), .val (.ref wD), .val (.ref wE), .val (.ref wF), .val (.ref oS), .val (.ref oH), .val (.ref oT), .val (.ref b1), .val (.ref r_39)] []))
        refine own_on (fun t_ k_ => XS.aload X118.here hx rfl (hb hby at_344) rfl rfl k_) ?_
        have f119 : Fld Z h1 oH "java/util/ArrayList" "size" "I" (.int (own_n lH)) := fq7.ext E1
        have f120 : Fld Z T16.heap oH "java/util/ArrayList" "size" "I" (.int (own_n lH)) := f119.keep K16q (ninS ne4 nin0)
        have f121 : Fld Z T39.heap oH "java/util/ArrayList" "size" "I" (.int (own_n lH)) := f120.keep K39q nin0
        have f122 : Exa Z h1 oH "java/util/ArrayList" := fq5.ext E1
        have f123 : Exa Z T16.heap oH "java/util/ArrayList" := f122.keep K16q
        have f124 : Exa Z T39.heap oH "java/util/ArrayList" := f123.keep K39q
        obtain ⟨cq125, kq125, q125a, q125b, q125c⟩ := isOf hZ e118 f124
        obtain ⟨_, _, ⟨T125, L125, k125, n125⟩, -, X125, ⟨Lc125, hQ125, l125, y125, z125⟩, st125⟩ := X118.virtualBack hx (y := (⟨"java/util/ArrayList", "size", "()I"⟩ : MethodName)) (z := (⟨"java/util/ArrayList", "size", "()I"⟩ : MethodName)) hown (mvT hZ (w137 hw)) (mvT hZ (w138 hw)) (notFace_of_selects (args := #[]) (mvT hZ (w139 hw))) (mvT hZ (w139 hw)) (mvT hZ (w132 hw)) (by decide) (backOf (W := 0) (rm20 l Z a0 hw [] oH lH T39.heap n0 Z39 f121) hZ (w136 hw) (w36 hw) (by decide) (by decide)) q125a q125c (g := (mkF m 346 #[.val (.int xa), .val (.int xb), .val (.int xc), .val (.int xd), .val (.int (1 : Int32)), .val (.int (own_n lH)), .val (.int (0 : Int32)), .val (.ref wA), .val (.ref wB), .val (.ref wC), .val (.ref wD), .val (.ref wE), .val (.ref wF), .val (.ref oS), .val (.ref oH), .val (.ref oT), .val (.ref b1), .val (.ref r_39)] [(.ref oH)])) rfl (by rw [hml]; rfl) (Steps.refl _) (argsL := []) (rest := []) (lenOf pd_15 rfl) rfl (by show 2 * 0 + _ ≤ _; exact Nat.le_of_eq rfl) (hb hby at_346) (fun _ hWx => ⟨rfl, e118, (by decide : 33 + 0 ≤ _), (by decide : 158 + 0 ≤ _)⟩)
        dsimp only [Pt.U, Pt.locs, Pt.cells, Pt.slots] at X125 l125 y125 z125 st125 hQ125
        replace X125 := own_num (c' := 33) (n' := 158) X125 l125 (y125.trans rfl) (z125.trans rfl)
        obtain ⟨rfl, N125q, e125⟩ := hQ125
        have N125 := Fr.app N118 N125q
        refine own_tr st125 ?_
        show OwnGo p e below s _ _ _ (T125.setTop (mkF m 349 #[.val (.int xa), .val (.int xb), .val (.int xc), .val (.int xd), .val (.int (1 : Int32)), .val (.int (own_n lH)), .val (.int (0 : Int32)), .val (.ref wA), .val (.ref wB), .val (.ref wC), .val (.ref wD), .val (.ref wE), .val (.ref wF), .val (.ref oS), .val (.ref oH), .val (.ref oT), .val (.ref b1), .val (.ref r_39)] [(.int (own_n lH))]))
        refine own_on (fun t_ k_ => XS.iload X125.here hx rfl (hb hby at_349) rfl k_) ?_
        refine own_on (fun t_ k_ => XS.icmpYes X125.here hx rfl (pc0 := 351) (pc' := 356) rfl (hb hby at_351) rfl (teq rfl).1 (by decide) (by decide) k_) ?_
        show OwnGo p e below s _ _ _ (T125.setTop (mkF m 356 #[.val (.int xa), .val (.int xb), .val (.int xc), .val (.int xd), .val (.int (1 : Int32)), .val (.int (own_n lH)), .val (.int (0 : Int32)), .val (.ref wA), .val (.ref wB), .val (.ref wC), .val (.ref wD), .val (.ref wE), .val (.ref wF), .val (.ref oS), .val (.ref oH), .val (.ref oT), .val (.ref b1), .val (.ref r_39)] []))
        refine own_on (fun t_ k_ => XS.aload X125.here hx rfl (hb hby at_356) rfl rfl k_) ?_
        have f126 : Fld Z T39.heap oT "java/util/ArrayList" "size" "I" (.int (own_n lT)) := f32.keep K39q nin0
        have f127 : Exa Z T39.heap oT "java/util/ArrayList" := f28.keep K39q
        obtain ⟨cq128, kq128, q128a, q128b, q128c⟩ := isOf hZ e125 f127
        obtain ⟨_, _, ⟨T128, L128, k128, n128⟩, -, X128, ⟨Lc128, hQ128, l128, y128, z128⟩, st128⟩ := X125.virtualBack hx (y := (⟨"java/util/ArrayList", "size", "()I"⟩ : MethodName)) (z := (⟨"java/util/ArrayList", "size", "()I"⟩ : MethodName)) hown (mvT hZ (w137 hw)) (mvT hZ (w138 hw)) (notFace_of_selects (args := #[]) (mvT hZ (w139 hw))) (mvT hZ (w139 hw)) (mvT hZ (w132 hw)) (by decide) (backOf (W := 0) (rm20 l Z a0 hw [] oT lT T39.heap n0 Z39 f126) hZ (w136 hw) (w36 hw) (by decide) (by decide)) q128a q128c (g := (mkF m 358 #[.val (.int xa), .val (.int xb), .val (.int xc), .val (.int xd), .val (.int (1 : Int32)), .val (.int (own_n lH)), .val (.int (0 : Int32)), .val (.ref wA), .val (.ref wB), .val (.ref wC), .val (.ref wD), .val (.ref wE), .val (.ref wF), .val (.ref oS), .val (.ref oH), .val (.ref oT), .val (.ref b1), .val (.ref r_39)] [(.ref oT)])) rfl (by rw [hml]; rfl) (Steps.refl _) (argsL := []) (rest := []) (lenOf pd_15 rfl) rfl (by show 2 * 0 + _ ≤ _; exact Nat.le_of_eq rfl) (hb hby at_358) (fun _ hWx => ⟨rfl, e125, (by decide : 33 + 0 ≤ _), (by decide : 158 + 0 ≤ _)⟩)
        dsimp only [Pt.U, Pt.locs, Pt.cells, Pt.slots] at X128 l128 y128 z128 st128 hQ128
        replace X128 := own_num (c' := 33) (n' := 158) X128 l128 (y128.trans rfl) (z128.trans rfl)
        obtain ⟨rfl, N128q, e128⟩ := hQ128
        have N128 := Fr.app N125 N128q
        refine own_tr st128 ?_
        show OwnGo p e below s _ _ _ (T128.setTop (mkF m 361 #[.val (.int xa), .val (.int xb), .val (.int xc), .val (.int xd), .val (.int (1 : Int32)), .val (.int (own_n lH)), .val (.int (0 : Int32)), .val (.ref wA), .val (.ref wB), .val (.ref wC), .val (.ref wD), .val (.ref wE), .val (.ref wF), .val (.ref oS), .val (.ref oH), .val (.ref oT), .val (.ref b1), .val (.ref r_39)] [(.int (own_n lT))]))
        rw [show (own_n lT) = (0 : Int32) from hvT]
        show OwnGo p e below s _ _ _ (T128.setTop (mkF m 361 #[.val (.int xa), .val (.int xb), .val (.int xc), .val (.int xd), .val (.int (1 : Int32)), .val (.int (own_n lH)), .val (.int (0 : Int32)), .val (.ref wA), .val (.ref wB), .val (.ref wC), .val (.ref wD), .val (.ref wE), .val (.ref wF), .val (.ref oS), .val (.ref oH), .val (.ref oT), .val (.ref b1), .val (.ref r_39)] [(.int (0 : Int32))]))
        refine own_on (fun t_ k_ => XS.iload X128.here hx rfl (hb hby at_361) rfl k_) ?_
        refine own_on (fun t_ k_ => XS.icmpYes X128.here hx rfl (pc0 := 363) (pc' := 368) rfl (hb hby at_363) rfl (teq (by decide : (0 : Int32) = (0 : Int32))).1 (by decide) (by decide) k_) ?_
        show OwnGo p e below s _ _ _ (T128.setTop (mkF m 368 #[.val (.int xa), .val (.int xb), .val (.int xc), .val (.int xd), .val (.int (1 : Int32)), .val (.int (own_n lH)), .val (.int (0 : Int32)), .val (.ref wA), .val (.ref wB), .val (.ref wC), .val (.ref wD), .val (.ref wE), .val (.ref wF), .val (.ref oS), .val (.ref oH), .val (.ref oT), .val (.ref b1), .val (.ref r_39)] []))
        refine own_on (fun t_ k_ => XS.iconst X128.here hx rfl (hb hby at_368) k_) ?_
        exact own_retN X128 hx hlk (t := .boolean) Bd.returns (by simp) (hb hby at_369) e128 ⟨rfl, N128, K39⟩ (by decide) (by decide)
      · rw [show (own_n lS) = (1 : Int32) from hvS]
        show OwnGo p e below s _ _ _ (T40.setTop (mkF m 220 #[.val (.int xa), .val (.int xb), .val (.int xc), .val (.int xd), .val (.int (1 : Int32)), .val (.int (own_n lH)), .val (.int (own_n lT)), .val (.ref wA), .val (.ref wB), .val (.ref wC), .val (.ref wD), .val (.ref wE), .val (.ref wF), .val (.ref oS), .val (.ref oH), .val (.ref oT), .val (.ref b1), .val (.ref r_39)] []))
        rw [show (own_n lT) = (1 : Int32) from hvT]
        show OwnGo p e below s _ _ _ (T40.setTop (mkF m 220 #[.val (.int xa), .val (.int xb), .val (.int xc), .val (.int xd), .val (.int (1 : Int32)), .val (.int (own_n lH)), .val (.int (1 : Int32)), .val (.ref wA), .val (.ref wB), .val (.ref wC), .val (.ref wD), .val (.ref wE), .val (.ref wF), .val (.ref oS), .val (.ref oH), .val (.ref oT), .val (.ref b1), .val (.ref r_39)] []))
        refine own_on (fun t_ k_ => XS.iload X40.here hx rfl (hb hby at_220) rfl k_) ?_
        refine own_on (fun t_ k_ => XS.iconst X40.here hx rfl (hb hby at_222) k_) ?_
        refine own_on (fun t_ k_ => XS.icmpNo X40.here hx rfl (hb hby at_223) rfl (flt (by decide : ¬ ((1 : Int32) < (1 : Int32)))).1 k_) ?_
        show OwnGo p e below s _ _ _ (T40.setTop (mkF m 226 #[.val (.int xa), .val (.int xb), .val (.int xc), .val (.int xd), .val (.int (1 : Int32)), .val (.int (own_n lH)), .val (.int (1 : Int32)), .val (.ref wA), .val (.ref wB), .val (.ref wC), .val (.ref wD), .val (.ref wE), .val (.ref wF), .val (.ref oS), .val (.ref oH), .val (.ref oT), .val (.ref b1), .val (.ref r_39)] []))
        refine own_on (fun t_ k_ => XS.aload X40.here hx rfl (hb hby at_226) rfl rfl k_) ?_
        refine own_on (fun t_ k_ => XS.iconst X40.here hx rfl (hb hby at_228) k_) ?_
        have hr129 : (0 : Int32) < (own_n (lS ++ lT)) := ((own_lt' (x := 0) (y := (lS ++ lT).length) (by decide) (by rw [List.length_append]; omega)).mpr (by rw [hlS, hlT]; exact Nat.le_of_ble_eq_true rfl))
        have hr130 : ((lS ++ lT).map Value.ref).getD ((0 : Int32)).toNatClampNeg .null = .ref wA := by rw [hlS, hlT]; rfl
        have hr131 : (0 : Int32) < Int32.ofNat cp2_39 := by obtain ⟨_, _, _, q⟩ := own_at c39_3 (by decide) hr129; exact q
        obtain ⟨cq132, kq132, q132a, q132b, q132c⟩ := isOf hZ e40 c39_0
        obtain ⟨_, _, ⟨T132, L132, k132, n132⟩, -, X132, ⟨Lc132, hQ132, l132, y132, z132⟩, st132⟩ := X40.interfaceBack hx (xi := (⟨"java/util/List", "get", "(I)Ljava/lang/Object;"⟩ : MethodName)) (y := (⟨"java/util/ArrayList", "get", "(I)Ljava/lang/Object;"⟩ : MethodName)) hown (mvT hZ (w172 hw)) (mvT hZ (w173 hw)) (mvT hZ (w174 hw)) (mvT hZ (w175 hw)) (mvT hZ (w176 hw)) (mvT hZ (w177 hw)) (mvT hZ (w178 hw)) (mvT hZ (w135 hw)) (by decide) (backOf (W := 0) (rm26 l Z a0 hw [] r_39 (0 : Int32) ea2_39 cp2_39 (lS ++ lT) wA T39.heap n0 Z39 c39_0 c39_1 c39_2 c39_3 (by decide : ¬ (0 : Int32) < 0) hr129 hr130 hr131) hZ (w179 hw) (w36 hw) (by decide) (by decide)) q132a q132b q132c (g := (mkF m 229 #[.val (.int xa), .val (.int xb), .val (.int xc), .val (.int xd), .val (.int (1 : Int32)), .val (.int (own_n lH)), .val (.int (1 : Int32)), .val (.ref wA), .val (.ref wB), .val (.ref wC), .val (.ref wD), .val (.ref wE), .val (.ref wF), .val (.ref oS), .val (.ref oH), .val (.ref oT), .val (.ref b1), .val (.ref r_39)] [(.int (0 : Int32)), (.ref r_39)])) rfl (by rw [hml]; rfl) (Steps.refl _) (argsL := [(.int (0 : Int32))]) (rest := []) (lenOf pd_9 rfl) rfl (by show 2 * 0 + _ ≤ _; exact Nat.le_of_eq rfl) (hb hby at_229) (fun _ hWx => ⟨rfl, e40, (by decide : 33 + 0 ≤ _), (by decide : 158 + 0 ≤ _)⟩)
        dsimp only [Pt.U, Pt.locs, Pt.cells, Pt.slots] at X132 l132 y132 z132 st132 hQ132
        replace X132 := own_num (c' := 33) (n' := 158) X132 l132 (y132.trans rfl) (z132.trans rfl)
        obtain ⟨rfl, N132q, e132⟩ := hQ132
        have N132 := Fr.app N40 N132q
        refine own_tr st132 ?_
        show OwnGo p e below s _ _ _ (T132.setTop (mkF m 234 #[.val (.int xa), .val (.int xb), .val (.int xc), .val (.int xd), .val (.int (1 : Int32)), .val (.int (own_n lH)), .val (.int (1 : Int32)), .val (.ref wA), .val (.ref wB), .val (.ref wC), .val (.ref wD), .val (.ref wE), .val (.ref wF), .val (.ref oS), .val (.ref oH), .val (.ref oT), .val (.ref b1), .val (.ref r_39)] [(.ref wA)]))
        have f133 : Exa Z h1 wA "java/lang/String" := fq16.ext E1
        have f134 : Exa Z T16.heap wA "java/lang/String" := f133.keep K16q
        have f135 : Exa Z T39.heap wA "java/lang/String" := f134.keep K39q
        obtain ⟨T136, X136, e136, st136⟩ := castY X132 hx hZ hown (w5 hw) e132 (Ins.self f135) (g := (mkF m 234 #[.val (.int xa), .val (.int xb), .val (.int xc), .val (.int xd), .val (.int (1 : Int32)), .val (.int (own_n lH)), .val (.int (1 : Int32)), .val (.ref wA), .val (.ref wB), .val (.ref wC), .val (.ref wD), .val (.ref wE), .val (.ref wF), .val (.ref oS), .val (.ref oH), .val (.ref oT), .val (.ref b1), .val (.ref r_39)] [(.ref wA)])) rfl rfl (hb hby at_234)
        refine own_on st136 ?_
        show OwnGo p e below s _ _ _ (T136.setTop (mkF m 237 #[.val (.int xa), .val (.int xb), .val (.int xc), .val (.int xd), .val (.int (1 : Int32)), .val (.int (own_n lH)), .val (.int (1 : Int32)), .val (.ref wA), .val (.ref wB), .val (.ref wC), .val (.ref wD), .val (.ref wE), .val (.ref wF), .val (.ref oS), .val (.ref oH), .val (.ref oT), .val (.ref b1), .val (.ref r_39)] [(.ref wA)]))
        refine own_on (fun t_ k_ => XS.aload X136.here hx rfl (hb hby at_237) rfl rfl k_) ?_
        obtain ⟨cq137, kq137, q137a, q137b, q137c⟩ := isOf hZ e136 f135
        obtain ⟨_, _, ⟨T137, L137, k137, n137⟩, -, X137, ⟨Lc137, hQ137, l137, y137, z137⟩, st137⟩ := X136.virtualBack hx (y := (⟨"java/lang/String", "equals", "(Ljava/lang/Object;)Z"⟩ : MethodName)) (z := (⟨"java/lang/String", "equals", "(Ljava/lang/Object;)Z"⟩ : MethodName)) hown (mvT hZ (w193 hw)) (mvT hZ (w194 hw)) (notFace_of_selects (args := #[]) (mvT hZ (w196 hw))) (mvT hZ (w196 hw)) (mvT hZ (w195 hw)) (by decide) (backOf (W := 0) (rm30 l Z a0 hw [] wA T39.heap n0 Z39 ) hZ (w197 hw) (w7 hw) (by decide) (by decide)) q137a q137c (g := (mkF m 239 #[.val (.int xa), .val (.int xb), .val (.int xc), .val (.int xd), .val (.int (1 : Int32)), .val (.int (own_n lH)), .val (.int (1 : Int32)), .val (.ref wA), .val (.ref wB), .val (.ref wC), .val (.ref wD), .val (.ref wE), .val (.ref wF), .val (.ref oS), .val (.ref oH), .val (.ref oT), .val (.ref b1), .val (.ref r_39)] [(.ref wA), (.ref wA)])) rfl (by rw [hml]; rfl) (Steps.refl _) (argsL := [(.ref wA)]) (rest := []) (lenOf pd_16 rfl) rfl (by show 2 * 0 + _ ≤ _; exact Nat.le_of_eq rfl) (hb hby at_239) (fun _ hWx => ⟨rfl, e136, (by decide : 33 + 0 ≤ _), (by decide : 158 + 0 ≤ _)⟩)
        dsimp only [Pt.U, Pt.locs, Pt.cells, Pt.slots] at X137 l137 y137 z137 st137 hQ137
        replace X137 := own_num (c' := 33) (n' := 158) X137 l137 (y137.trans rfl) (z137.trans rfl)
        obtain ⟨rfl, N137q, e137⟩ := hQ137
        have N137 := Fr.app N132 N137q
        refine own_tr st137 ?_
        show OwnGo p e below s _ _ _ (T137.setTop (mkF m 242 #[.val (.int xa), .val (.int xb), .val (.int xc), .val (.int xd), .val (.int (1 : Int32)), .val (.int (own_n lH)), .val (.int (1 : Int32)), .val (.ref wA), .val (.ref wB), .val (.ref wC), .val (.ref wD), .val (.ref wE), .val (.ref wF), .val (.ref oS), .val (.ref oH), .val (.ref oT), .val (.ref b1), .val (.ref r_39)] [(.int (1 : Int32))]))
        refine own_on (fun t_ k_ => XS.ifYes X137.here hx rfl (pc0 := 242) (pc' := 247) rfl (hb hby at_242) rfl ((if0 _ _).trans (feq (by decide : ¬ ((1 : Int32) = (0 : Int32)))).2) (by decide) (by decide) k_) ?_
        show OwnGo p e below s _ _ _ (T137.setTop (mkF m 247 #[.val (.int xa), .val (.int xb), .val (.int xc), .val (.int xd), .val (.int (1 : Int32)), .val (.int (own_n lH)), .val (.int (1 : Int32)), .val (.ref wA), .val (.ref wB), .val (.ref wC), .val (.ref wD), .val (.ref wE), .val (.ref wF), .val (.ref oS), .val (.ref oH), .val (.ref oT), .val (.ref b1), .val (.ref r_39)] []))
        refine own_on (fun t_ k_ => XS.iload X137.here hx rfl (hb hby at_247) rfl k_) ?_
        refine own_on (fun t_ k_ => XS.iconst X137.here hx rfl (hb hby at_249) k_) ?_
        refine own_on (fun t_ k_ => XS.icmpYes X137.here hx rfl (pc0 := 250) (pc' := 274) rfl (hb hby at_250) rfl (tlt (by decide : (1 : Int32) < (2 : Int32))).1 (by decide) (by decide) k_) ?_
        show OwnGo p e below s _ _ _ (T137.setTop (mkF m 274 #[.val (.int xa), .val (.int xb), .val (.int xc), .val (.int xd), .val (.int (1 : Int32)), .val (.int (own_n lH)), .val (.int (1 : Int32)), .val (.ref wA), .val (.ref wB), .val (.ref wC), .val (.ref wD), .val (.ref wE), .val (.ref wF), .val (.ref oS), .val (.ref oH), .val (.ref oT), .val (.ref b1), .val (.ref r_39)] []))
        refine own_on (fun t_ k_ => XS.iload X137.here hx rfl (hb hby at_274) rfl k_) ?_
        refine own_on (fun t_ k_ => XS.iconst X137.here hx rfl (hb hby at_276) k_) ?_
        refine own_on (fun t_ k_ => XS.icmpNo X137.here hx rfl (hb hby at_277) rfl (flt (by decide : ¬ ((1 : Int32) < (1 : Int32)))).1 k_) ?_
        show OwnGo p e below s _ _ _ (T137.setTop (mkF m 280 #[.val (.int xa), .val (.int xb), .val (.int xc), .val (.int xd), .val (.int (1 : Int32)), .val (.int (own_n lH)), .val (.int (1 : Int32)), .val (.ref wA), .val (.ref wB), .val (.ref wC), .val (.ref wD), .val (.ref wE), .val (.ref wF), .val (.ref oS), .val (.ref oH), .val (.ref oT), .val (.ref b1), .val (.ref r_39)] []))
        refine own_on (fun t_ k_ => XS.aload X137.here hx rfl (hb hby at_280) rfl rfl k_) ?_
        refine own_on (fun t_ k_ => XS.iload X137.here hx rfl (hb hby at_282) rfl k_) ?_
        have hr138 : (1 : Int32) < (own_n (lS ++ lT)) := ((own_lt' (x := 1) (y := (lS ++ lT).length) (by decide) (by rw [List.length_append]; omega)).mpr (by rw [hlS, hlT]; exact Nat.le_of_ble_eq_true rfl))
        have hr139 : ((lS ++ lT).map Value.ref).getD ((1 : Int32)).toNatClampNeg .null = .ref wE := by rw [hlS, hlT]; rfl
        have hr140 : (1 : Int32) < Int32.ofNat cp2_39 := by obtain ⟨_, _, _, q⟩ := own_at c39_3 (by decide) hr138; exact q
        obtain ⟨cq141, kq141, q141a, q141b, q141c⟩ := isOf hZ e137 c39_0
        obtain ⟨_, _, ⟨T141, L141, k141, n141⟩, -, X141, ⟨Lc141, hQ141, l141, y141, z141⟩, st141⟩ := X137.interfaceBack hx (xi := (⟨"java/util/List", "get", "(I)Ljava/lang/Object;"⟩ : MethodName)) (y := (⟨"java/util/ArrayList", "get", "(I)Ljava/lang/Object;"⟩ : MethodName)) hown (mvT hZ (w172 hw)) (mvT hZ (w173 hw)) (mvT hZ (w174 hw)) (mvT hZ (w175 hw)) (mvT hZ (w176 hw)) (mvT hZ (w177 hw)) (mvT hZ (w178 hw)) (mvT hZ (w135 hw)) (by decide) (backOf (W := 0) (rm26 l Z a0 hw [] r_39 (1 : Int32) ea2_39 cp2_39 (lS ++ lT) wE T39.heap n0 Z39 c39_0 c39_1 c39_2 c39_3 (by decide : ¬ (1 : Int32) < 0) hr138 hr139 hr140) hZ (w179 hw) (w36 hw) (by decide) (by decide)) q141a q141b q141c (g := (mkF m 284 #[.val (.int xa), .val (.int xb), .val (.int xc), .val (.int xd), .val (.int (1 : Int32)), .val (.int (own_n lH)), .val (.int (1 : Int32)), .val (.ref wA), .val (.ref wB), .val (.ref wC), .val (.ref wD), .val (.ref wE), .val (.ref wF), .val (.ref oS), .val (.ref oH), .val (.ref oT), .val (.ref b1), .val (.ref r_39)] [(.int (1 : Int32)), (.ref r_39)])) rfl (by rw [hml]; rfl) (Steps.refl _) (argsL := [(.int (1 : Int32))]) (rest := []) (lenOf pd_9 rfl) rfl (by show 2 * 0 + _ ≤ _; exact Nat.le_of_eq rfl) (hb hby at_284) (fun _ hWx => ⟨rfl, e137, (by decide : 33 + 0 ≤ _), (by decide : 158 + 0 ≤ _)⟩)
        dsimp only [Pt.U, Pt.locs, Pt.cells, Pt.slots] at X141 l141 y141 z141 st141 hQ141
        replace X141 := own_num (c' := 33) (n' := 158) X141 l141 (y141.trans rfl) (z141.trans rfl)
        obtain ⟨rfl, N141q, e141⟩ := hQ141
        have N141 := Fr.app N137 N141q
        refine own_tr st141 ?_
        show OwnGo p e below s _ _ _ (T141.setTop (mkF m 289 #[.val (.int xa), .val (.int xb), .val (.int xc), .val (.int xd), .val (.int (1 : Int32)), .val (.int (own_n lH)), .val (.int (1 : Int32)), .val (.ref wA), .val (.ref wB), .val (.ref wC), .val (.ref wD), .val (.ref wE), .val (.ref wF), .val (.ref oS), .val (.ref oH), .val (.ref oT), .val (.ref b1), .val (.ref r_39)] [(.ref wE)]))
        have f142 : Exa Z h1 wE "java/lang/String" := fq20.ext E1
        have f143 : Exa Z T16.heap wE "java/lang/String" := f142.keep K16q
        have f144 : Exa Z T39.heap wE "java/lang/String" := f143.keep K39q
        obtain ⟨T145, X145, e145, st145⟩ := castY X141 hx hZ hown (w5 hw) e141 (Ins.self f144) (g := (mkF m 289 #[.val (.int xa), .val (.int xb), .val (.int xc), .val (.int xd), .val (.int (1 : Int32)), .val (.int (own_n lH)), .val (.int (1 : Int32)), .val (.ref wA), .val (.ref wB), .val (.ref wC), .val (.ref wD), .val (.ref wE), .val (.ref wF), .val (.ref oS), .val (.ref oH), .val (.ref oT), .val (.ref b1), .val (.ref r_39)] [(.ref wE)])) rfl rfl (hb hby at_289)
        refine own_on st145 ?_
        show OwnGo p e below s _ _ _ (T145.setTop (mkF m 292 #[.val (.int xa), .val (.int xb), .val (.int xc), .val (.int xd), .val (.int (1 : Int32)), .val (.int (own_n lH)), .val (.int (1 : Int32)), .val (.ref wA), .val (.ref wB), .val (.ref wC), .val (.ref wD), .val (.ref wE), .val (.ref wF), .val (.ref oS), .val (.ref oH), .val (.ref oT), .val (.ref b1), .val (.ref r_39)] [(.ref wE)]))
        refine own_on (fun t_ k_ => XS.aload X145.here hx rfl (hb hby at_292) rfl rfl k_) ?_
        obtain ⟨cq146, kq146, q146a, q146b, q146c⟩ := isOf hZ e145 f144
        obtain ⟨_, _, ⟨T146, L146, k146, n146⟩, -, X146, ⟨Lc146, hQ146, l146, y146, z146⟩, st146⟩ := X145.virtualBack hx (y := (⟨"java/lang/String", "equals", "(Ljava/lang/Object;)Z"⟩ : MethodName)) (z := (⟨"java/lang/String", "equals", "(Ljava/lang/Object;)Z"⟩ : MethodName)) hown (mvT hZ (w193 hw)) (mvT hZ (w194 hw)) (notFace_of_selects (args := #[]) (mvT hZ (w196 hw))) (mvT hZ (w196 hw)) (mvT hZ (w195 hw)) (by decide) (backOf (W := 0) (rm30 l Z a0 hw [] wE T39.heap n0 Z39 ) hZ (w197 hw) (w7 hw) (by decide) (by decide)) q146a q146c (g := (mkF m 294 #[.val (.int xa), .val (.int xb), .val (.int xc), .val (.int xd), .val (.int (1 : Int32)), .val (.int (own_n lH)), .val (.int (1 : Int32)), .val (.ref wA), .val (.ref wB), .val (.ref wC), .val (.ref wD), .val (.ref wE), .val (.ref wF), .val (.ref oS), .val (.ref oH), .val (.ref oT), .val (.ref b1), .val (.ref r_39)] [(.ref wE), (.ref wE)])) rfl (by rw [hml]; rfl) (Steps.refl _) (argsL := [(.ref wE)]) (rest := []) (lenOf pd_16 rfl) rfl (by show 2 * 0 + _ ≤ _; exact Nat.le_of_eq rfl) (hb hby at_294) (fun _ hWx => ⟨rfl, e145, (by decide : 33 + 0 ≤ _), (by decide : 158 + 0 ≤ _)⟩)
        dsimp only [Pt.U, Pt.locs, Pt.cells, Pt.slots] at X146 l146 y146 z146 st146 hQ146
        replace X146 := own_num (c' := 33) (n' := 158) X146 l146 (y146.trans rfl) (z146.trans rfl)
        obtain ⟨rfl, N146q, e146⟩ := hQ146
        have N146 := Fr.app N141 N146q
        refine own_tr st146 ?_
        show OwnGo p e below s _ _ _ (T146.setTop (mkF m 297 #[.val (.int xa), .val (.int xb), .val (.int xc), .val (.int xd), .val (.int (1 : Int32)), .val (.int (own_n lH)), .val (.int (1 : Int32)), .val (.ref wA), .val (.ref wB), .val (.ref wC), .val (.ref wD), .val (.ref wE), .val (.ref wF), .val (.ref oS), .val (.ref oH), .val (.ref oT), .val (.ref b1), .val (.ref r_39)] [(.int (1 : Int32))]))
        refine own_on (fun t_ k_ => XS.ifYes X146.here hx rfl (pc0 := 297) (pc' := 302) rfl (hb hby at_297) rfl ((if0 _ _).trans (feq (by decide : ¬ ((1 : Int32) = (0 : Int32)))).2) (by decide) (by decide) k_) ?_
        show OwnGo p e below s _ _ _ (T146.setTop (mkF m 302 #[.val (.int xa), .val (.int xb), .val (.int xc), .val (.int xd), .val (.int (1 : Int32)), .val (.int (own_n lH)), .val (.int (1 : Int32)), .val (.ref wA), .val (.ref wB), .val (.ref wC), .val (.ref wD), .val (.ref wE), .val (.ref wF), .val (.ref oS), .val (.ref oH), .val (.ref oT), .val (.ref b1), .val (.ref r_39)] []))
        refine own_on (fun t_ k_ => XS.iload X146.here hx rfl (hb hby at_302) rfl k_) ?_
        refine own_on (fun t_ k_ => XS.iconst X146.here hx rfl (hb hby at_304) k_) ?_
        refine own_on (fun t_ k_ => XS.icmpYes X146.here hx rfl (pc0 := 305) (pc' := 332) rfl (hb hby at_305) rfl (tlt (by decide : (1 : Int32) < (2 : Int32))).1 (by decide) (by decide) k_) ?_
        show OwnGo p e below s _ _ _ (T146.setTop (mkF m 332 #[.val (.int xa), .val (.int xb), .val (.int xc), .val (.int xd), .val (.int (1 : Int32)), .val (.int (own_n lH)), .val (.int (1 : Int32)), .val (.ref wA), .val (.ref wB), .val (.ref wC), .val (.ref wD), .val (.ref wE), .val (.ref wF), .val (.ref oS), .val (.ref oH), .val (.ref oT), .val (.ref b1), .val (.ref r_39)] []))
        refine own_on (fun t_ k_ => XS.aload X146.here hx rfl (hb hby at_332) rfl rfl k_) ?_
        have f147 : Fld Z T39.heap oS "java/util/ArrayList" "size" "I" (.int (own_n lS)) := f22.keep K39q nin0
        have f148 : Exa Z T39.heap oS "java/util/ArrayList" := f18.keep K39q
        obtain ⟨cq149, kq149, q149a, q149b, q149c⟩ := isOf hZ e146 f148
        obtain ⟨_, _, ⟨T149, L149, k149, n149⟩, -, X149, ⟨Lc149, hQ149, l149, y149, z149⟩, st149⟩ := X146.virtualBack hx (y := (⟨"java/util/ArrayList", "size", "()I"⟩ : MethodName)) (z := (⟨"java/util/ArrayList", "size", "()I"⟩ : MethodName)) hown (mvT hZ (w137 hw)) (mvT hZ (w138 hw)) (notFace_of_selects (args := #[]) (mvT hZ (w139 hw))) (mvT hZ (w139 hw)) (mvT hZ (w132 hw)) (by decide) (backOf (W := 0) (rm20 l Z a0 hw [] oS lS T39.heap n0 Z39 f147) hZ (w136 hw) (w36 hw) (by decide) (by decide)) q149a q149c (g := (mkF m 334 #[.val (.int xa), .val (.int xb), .val (.int xc), .val (.int xd), .val (.int (1 : Int32)), .val (.int (own_n lH)), .val (.int (1 : Int32)), .val (.ref wA), .val (.ref wB), .val (.ref wC), .val (.ref wD), .val (.ref wE), .val (.ref wF), .val (.ref oS), .val (.ref oH), .val (.ref oT), .val (.ref b1), .val (.ref r_39)] [(.ref oS)])) rfl (by rw [hml]; rfl) (Steps.refl _) (argsL := []) (rest := []) (lenOf pd_15 rfl) rfl (by show 2 * 0 + _ ≤ _; exact Nat.le_of_eq rfl) (hb hby at_334) (fun _ hWx => ⟨rfl, e146, (by decide : 33 + 0 ≤ _), (by decide : 158 + 0 ≤ _)⟩)
        dsimp only [Pt.U, Pt.locs, Pt.cells, Pt.slots] at X149 l149 y149 z149 st149 hQ149
        replace X149 := own_num (c' := 33) (n' := 158) X149 l149 (y149.trans rfl) (z149.trans rfl)
        obtain ⟨rfl, N149q, e149⟩ := hQ149
        have N149 := Fr.app N146 N149q
        refine own_tr st149 ?_
        show OwnGo p e below s _ _ _ (T149.setTop (mkF m 337 #[.val (.int xa), .val (.int xb), .val (.int xc), .val (.int xd), .val (.int (1 : Int32)), .val (.int (own_n lH)), .val (.int (1 : Int32)), .val (.ref wA), .val (.ref wB), .val (.ref wC), .val (.ref wD), .val (.ref wE), .val (.ref wF), .val (.ref oS), .val (.ref oH), .val (.ref oT), .val (.ref b1), .val (.ref r_39)] [(.int (own_n lS))]))
        rw [show (own_n lS) = (1 : Int32) from hvS]
        show OwnGo p e below s _ _ _ (T149.setTop (mkF m 337 #[.val (.int xa), .val (.int xb), .val (.int xc), .val (.int xd), .val (.int (1 : Int32)), .val (.int (own_n lH)), .val (.int (1 : Int32)), .val (.ref wA), .val (.ref wB), .val (.ref wC), .val (.ref wD), .val (.ref wE), .val (.ref wF), .val (.ref oS), .val (.ref oH), .val (.ref oT), .val (.ref b1), .val (.ref r_39)] [(.int (1 : Int32))]))
        refine own_on (fun t_ k_ => XS.iload X149.here hx rfl (hb hby at_337) rfl k_) ?_
        refine own_on (fun t_ k_ => XS.icmpYes X149.here hx rfl (pc0 := 339) (pc' := 344) rfl (hb hby at_339) rfl (teq (by decide : (1 : Int32) = (1 : Int32))).1 (by decide) (by decide) k_) ?_
        show OwnGo p e below s _ _ _ (T149.setTop (mkF m 344 #[.val (.int xa), .val (.int xb), .val (.int xc), .val (.int xd), .val (.int (1 : Int32)), .val (.int (own_n lH)), .val (.int (1 : Int32)), .val (.ref wA), .val (.ref wB), .val (.ref wC), .val (.ref wD), .val (.ref wE), .val (.ref wF), .val (.ref oS), .val (.ref oH), .val (.ref oT), .val (.ref b1), .val (.ref r_39)] []))
        refine own_on (fun t_ k_ => XS.aload X149.here hx rfl (hb hby at_344) rfl rfl k_) ?_
        have f150 : Fld Z h1 oH "java/util/ArrayList" "size" "I" (.int (own_n lH)) := fq7.ext E1
        have f151 : Fld Z T16.heap oH "java/util/ArrayList" "size" "I" (.int (own_n lH)) := f150.keep K16q (ninS ne4 nin0)
        have f152 : Fld Z T39.heap oH "java/util/ArrayList" "size" "I" (.int (own_n lH)) := f151.keep K39q nin0
        have f153 : Exa Z h1 oH "java/util/ArrayList" := fq5.ext E1
        have f154 : Exa Z T16.heap oH "java/util/ArrayList" := f153.keep K16q
        have f155 : Exa Z T39.heap oH "java/util/ArrayList" := f154.keep K39q
        obtain ⟨cq156, kq156, q156a, q156b, q156c⟩ := isOf hZ e149 f155
        obtain ⟨_, _, ⟨T156, L156, k156, n156⟩, -, X156, ⟨Lc156, hQ156, l156, y156, z156⟩, st156⟩ := X149.virtualBack hx (y := (⟨"java/util/ArrayList", "size", "()I"⟩ : MethodName)) (z := (⟨"java/util/ArrayList", "size", "()I"⟩ : MethodName)) hown (mvT hZ (w137 hw)) (mvT hZ (w138 hw)) (notFace_of_selects (args := #[]) (mvT hZ (w139 hw))) (mvT hZ (w139 hw)) (mvT hZ (w132 hw)) (by decide) (backOf (W := 0) (rm20 l Z a0 hw [] oH lH T39.heap n0 Z39 f152) hZ (w136 hw) (w36 hw) (by decide) (by decide)) q156a q156c (g := (mkF m 346 #[.val (.int xa), .val (.int xb), .val (.int xc), .val (.int xd), .val (.int (1 : Int32)), .val (.int (own_n lH)), .val (.int (1 : Int32)), .val (.ref wA), .val (.ref wB), .val (.ref wC), .val (.ref wD), .val (.ref wE), .val (.ref wF), .val (.ref oS), .val (.ref oH), .val (.ref oT), .val (.ref b1), .val (.ref r_39)] [(.ref oH)])) rfl (by rw [hml]; rfl) (Steps.refl _) (argsL := []) (rest := []) (lenOf pd_15 rfl) rfl (by show 2 * 0 + _ ≤ _; exact Nat.le_of_eq rfl) (hb hby at_346) (fun _ hWx => ⟨rfl, e149, (by decide : 33 + 0 ≤ _), (by decide : 158 + 0 ≤ _)⟩)
        dsimp only [Pt.U, Pt.locs, Pt.cells, Pt.slots] at X156 l156 y156 z156 st156 hQ156
        replace X156 := own_num (c' := 33) (n' := 158) X156 l156 (y156.trans rfl) (z156.trans rfl)
        obtain ⟨rfl, N156q, e156⟩ := hQ156
        have N156 := Fr.app N149 N156q
        refine own_tr st156 ?_
        show OwnGo p e below s _ _ _ (T156.setTop (mkF m 349 #[.val (.int xa), .val (.int xb), .val (.int xc), .val (.int xd), .val (.int (1 : Int32)), .val (.int (own_n lH)), .val (.int (1 : Int32)), .val (.ref wA), .val (.ref wB), .val (.ref wC), .val (.ref wD), .val (.ref wE), .val (.ref wF), .val (.ref oS), .val (.ref oH), .val (.ref oT), .val (.ref b1), .val (.ref r_39)] [(.int (own_n lH))]))
        refine own_on (fun t_ k_ => XS.iload X156.here hx rfl (hb hby at_349) rfl k_) ?_
        refine own_on (fun t_ k_ => XS.icmpYes X156.here hx rfl (pc0 := 351) (pc' := 356) rfl (hb hby at_351) rfl (teq rfl).1 (by decide) (by decide) k_) ?_
        show OwnGo p e below s _ _ _ (T156.setTop (mkF m 356 #[.val (.int xa), .val (.int xb), .val (.int xc), .val (.int xd), .val (.int (1 : Int32)), .val (.int (own_n lH)), .val (.int (1 : Int32)), .val (.ref wA), .val (.ref wB), .val (.ref wC), .val (.ref wD), .val (.ref wE), .val (.ref wF), .val (.ref oS), .val (.ref oH), .val (.ref oT), .val (.ref b1), .val (.ref r_39)] []))
        refine own_on (fun t_ k_ => XS.aload X156.here hx rfl (hb hby at_356) rfl rfl k_) ?_
        have f157 : Fld Z T39.heap oT "java/util/ArrayList" "size" "I" (.int (own_n lT)) := f32.keep K39q nin0
        have f158 : Exa Z T39.heap oT "java/util/ArrayList" := f28.keep K39q
        obtain ⟨cq159, kq159, q159a, q159b, q159c⟩ := isOf hZ e156 f158
        obtain ⟨_, _, ⟨T159, L159, k159, n159⟩, -, X159, ⟨Lc159, hQ159, l159, y159, z159⟩, st159⟩ := X156.virtualBack hx (y := (⟨"java/util/ArrayList", "size", "()I"⟩ : MethodName)) (z := (⟨"java/util/ArrayList", "size", "()I"⟩ : MethodName)) hown (mvT hZ (w137 hw)) (mvT hZ (w138 hw)) (notFace_of_selects (args := #[]) (mvT hZ (w139 hw))) (mvT hZ (w139 hw)) (mvT hZ (w132 hw)) (by decide) (backOf (W := 0) (rm20 l Z a0 hw [] oT lT T39.heap n0 Z39 f157) hZ (w136 hw) (w36 hw) (by decide) (by decide)) q159a q159c (g := (mkF m 358 #[.val (.int xa), .val (.int xb), .val (.int xc), .val (.int xd), .val (.int (1 : Int32)), .val (.int (own_n lH)), .val (.int (1 : Int32)), .val (.ref wA), .val (.ref wB), .val (.ref wC), .val (.ref wD), .val (.ref wE), .val (.ref wF), .val (.ref oS), .val (.ref oH), .val (.ref oT), .val (.ref b1), .val (.ref r_39)] [(.ref oT)])) rfl (by rw [hml]; rfl) (Steps.refl _) (argsL := []) (rest := []) (lenOf pd_15 rfl) rfl (by show 2 * 0 + _ ≤ _; exact Nat.le_of_eq rfl) (hb hby at_358) (fun _ hWx => ⟨rfl, e156, (by decide : 33 + 0 ≤ _), (by decide : 158 + 0 ≤ _)⟩)
        dsimp only [Pt.U, Pt.locs, Pt.cells, Pt.slots] at X159 l159 y159 z159 st159 hQ159
        replace X159 := own_num (c' := 33) (n' := 158) X159 l159 (y159.trans rfl) (z159.trans rfl)
        obtain ⟨rfl, N159q, e159⟩ := hQ159
        have N159 := Fr.app N156 N159q
        refine own_tr st159 ?_
        show OwnGo p e below s _ _ _ (T159.setTop (mkF m 361 #[.val (.int xa), .val (.int xb), .val (.int xc), .val (.int xd), .val (.int (1 : Int32)), .val (.int (own_n lH)), .val (.int (1 : Int32)), .val (.ref wA), .val (.ref wB), .val (.ref wC), .val (.ref wD), .val (.ref wE), .val (.ref wF), .val (.ref oS), .val (.ref oH), .val (.ref oT), .val (.ref b1), .val (.ref r_39)] [(.int (own_n lT))]))
        rw [show (own_n lT) = (1 : Int32) from hvT]
        show OwnGo p e below s _ _ _ (T159.setTop (mkF m 361 #[.val (.int xa), .val (.int xb), .val (.int xc), .val (.int xd), .val (.int (1 : Int32)), .val (.int (own_n lH)), .val (.int (1 : Int32)), .val (.ref wA), .val (.ref wB), .val (.ref wC), .val (.ref wD), .val (.ref wE), .val (.ref wF), .val (.ref oS), .val (.ref oH), .val (.ref oT), .val (.ref b1), .val (.ref r_39)] [(.int (1 : Int32))]))
        refine own_on (fun t_ k_ => XS.iload X159.here hx rfl (hb hby at_361) rfl k_) ?_
        refine own_on (fun t_ k_ => XS.icmpYes X159.here hx rfl (pc0 := 363) (pc' := 368) rfl (hb hby at_363) rfl (teq (by decide : (1 : Int32) = (1 : Int32))).1 (by decide) (by decide) k_) ?_
        show OwnGo p e below s _ _ _ (T159.setTop (mkF m 368 #[.val (.int xa), .val (.int xb), .val (.int xc), .val (.int xd), .val (.int (1 : Int32)), .val (.int (own_n lH)), .val (.int (1 : Int32)), .val (.ref wA), .val (.ref wB), .val (.ref wC), .val (.ref wD), .val (.ref wE), .val (.ref wF), .val (.ref oS), .val (.ref oH), .val (.ref oT), .val (.ref b1), .val (.ref r_39)] []))
        refine own_on (fun t_ k_ => XS.iconst X159.here hx rfl (hb hby at_368) k_) ?_
        exact own_retN X159 hx hlk (t := .boolean) Bd.returns (by simp) (hb hby at_369) e159 ⟨rfl, N159, K39⟩ (by decide) (by decide)
      · rw [show (own_n lS) = (1 : Int32) from hvS]
        show OwnGo p e below s _ _ _ (T40.setTop (mkF m 220 #[.val (.int xa), .val (.int xb), .val (.int xc), .val (.int xd), .val (.int (1 : Int32)), .val (.int (own_n lH)), .val (.int (own_n lT)), .val (.ref wA), .val (.ref wB), .val (.ref wC), .val (.ref wD), .val (.ref wE), .val (.ref wF), .val (.ref oS), .val (.ref oH), .val (.ref oT), .val (.ref b1), .val (.ref r_39)] []))
        rw [show (own_n lT) = (2 : Int32) from hvT]
        show OwnGo p e below s _ _ _ (T40.setTop (mkF m 220 #[.val (.int xa), .val (.int xb), .val (.int xc), .val (.int xd), .val (.int (1 : Int32)), .val (.int (own_n lH)), .val (.int (2 : Int32)), .val (.ref wA), .val (.ref wB), .val (.ref wC), .val (.ref wD), .val (.ref wE), .val (.ref wF), .val (.ref oS), .val (.ref oH), .val (.ref oT), .val (.ref b1), .val (.ref r_39)] []))
        refine own_on (fun t_ k_ => XS.iload X40.here hx rfl (hb hby at_220) rfl k_) ?_
        refine own_on (fun t_ k_ => XS.iconst X40.here hx rfl (hb hby at_222) k_) ?_
        refine own_on (fun t_ k_ => XS.icmpNo X40.here hx rfl (hb hby at_223) rfl (flt (by decide : ¬ ((1 : Int32) < (1 : Int32)))).1 k_) ?_
        show OwnGo p e below s _ _ _ (T40.setTop (mkF m 226 #[.val (.int xa), .val (.int xb), .val (.int xc), .val (.int xd), .val (.int (1 : Int32)), .val (.int (own_n lH)), .val (.int (2 : Int32)), .val (.ref wA), .val (.ref wB), .val (.ref wC), .val (.ref wD), .val (.ref wE), .val (.ref wF), .val (.ref oS), .val (.ref oH), .val (.ref oT), .val (.ref b1), .val (.ref r_39)] []))
        refine own_on (fun t_ k_ => XS.aload X40.here hx rfl (hb hby at_226) rfl rfl k_) ?_
        refine own_on (fun t_ k_ => XS.iconst X40.here hx rfl (hb hby at_228) k_) ?_
        have hr160 : (0 : Int32) < (own_n (lS ++ lT)) := ((own_lt' (x := 0) (y := (lS ++ lT).length) (by decide) (by rw [List.length_append]; omega)).mpr (by rw [hlS, hlT]; exact Nat.le_of_ble_eq_true rfl))
        have hr161 : ((lS ++ lT).map Value.ref).getD ((0 : Int32)).toNatClampNeg .null = .ref wA := by rw [hlS, hlT]; rfl
        have hr162 : (0 : Int32) < Int32.ofNat cp2_39 := by obtain ⟨_, _, _, q⟩ := own_at c39_3 (by decide) hr160; exact q
        obtain ⟨cq163, kq163, q163a, q163b, q163c⟩ := isOf hZ e40 c39_0
        obtain ⟨_, _, ⟨T163, L163, k163, n163⟩, -, X163, ⟨Lc163, hQ163, l163, y163, z163⟩, st163⟩ := X40.interfaceBack hx (xi := (⟨"java/util/List", "get", "(I)Ljava/lang/Object;"⟩ : MethodName)) (y := (⟨"java/util/ArrayList", "get", "(I)Ljava/lang/Object;"⟩ : MethodName)) hown (mvT hZ (w172 hw)) (mvT hZ (w173 hw)) (mvT hZ (w174 hw)) (mvT hZ (w175 hw)) (mvT hZ (w176 hw)) (mvT hZ (w177 hw)) (mvT hZ (w178 hw)) (mvT hZ (w135 hw)) (by decide) (backOf (W := 0) (rm26 l Z a0 hw [] r_39 (0 : Int32) ea2_39 cp2_39 (lS ++ lT) wA T39.heap n0 Z39 c39_0 c39_1 c39_2 c39_3 (by decide : ¬ (0 : Int32) < 0) hr160 hr161 hr162) hZ (w179 hw) (w36 hw) (by decide) (by decide)) q163a q163b q163c (g := (mkF m 229 #[.val (.int xa), .val (.int xb), .val (.int xc), .val (.int xd), .val (.int (1 : Int32)), .val (.int (own_n lH)), .val (.int (2 : Int32)), .val (.ref wA), .val (.ref wB), .val (.ref wC), .val (.ref wD), .val (.ref wE), .val (.ref wF), .val (.ref oS), .val (.ref oH), .val (.ref oT), .val (.ref b1), .val (.ref r_39)] [(.int (0 : Int32)), (.ref r_39)])) rfl (by rw [hml]; rfl) (Steps.refl _) (argsL := [(.int (0 : Int32))]) (rest := []) (lenOf pd_9 rfl) rfl (by show 2 * 0 + _ ≤ _; exact Nat.le_of_eq rfl) (hb hby at_229) (fun _ hWx => ⟨rfl, e40, (by decide : 33 + 0 ≤ _), (by decide : 158 + 0 ≤ _)⟩)
        dsimp only [Pt.U, Pt.locs, Pt.cells, Pt.slots] at X163 l163 y163 z163 st163 hQ163
        replace X163 := own_num (c' := 33) (n' := 158) X163 l163 (y163.trans rfl) (z163.trans rfl)
        obtain ⟨rfl, N163q, e163⟩ := hQ163
        have N163 := Fr.app N40 N163q
        refine own_tr st163 ?_
        show OwnGo p e below s _ _ _ (T163.setTop (mkF m 234 #[.val (.int xa), .val (.int xb), .val (.int xc), .val (.int xd), .val (.int (1 : Int32)), .val (.int (own_n lH)), .val (.int (2 : Int32)), .val (.ref wA), .val (.ref wB), .val (.ref wC), .val (.ref wD), .val (.ref wE), .val (.ref wF), .val (.ref oS), .val (.ref oH), .val (.ref oT), .val (.ref b1), .val (.ref r_39)] [(.ref wA)]))
        have f164 : Exa Z h1 wA "java/lang/String" := fq16.ext E1
        have f165 : Exa Z T16.heap wA "java/lang/String" := f164.keep K16q
        have f166 : Exa Z T39.heap wA "java/lang/String" := f165.keep K39q
        obtain ⟨T167, X167, e167, st167⟩ := castY X163 hx hZ hown (w5 hw) e163 (Ins.self f166) (g := (mkF m 234 #[.val (.int xa), .val (.int xb), .val (.int xc), .val (.int xd), .val (.int (1 : Int32)), .val (.int (own_n lH)), .val (.int (2 : Int32)), .val (.ref wA), .val (.ref wB), .val (.ref wC), .val (.ref wD), .val (.ref wE), .val (.ref wF), .val (.ref oS), .val (.ref oH), .val (.ref oT), .val (.ref b1), .val (.ref r_39)] [(.ref wA)])) rfl rfl (hb hby at_234)
        refine own_on st167 ?_
        show OwnGo p e below s _ _ _ (T167.setTop (mkF m 237 #[.val (.int xa), .val (.int xb), .val (.int xc), .val (.int xd), .val (.int (1 : Int32)), .val (.int (own_n lH)), .val (.int (2 : Int32)), .val (.ref wA), .val (.ref wB), .val (.ref wC), .val (.ref wD), .val (.ref wE), .val (.ref wF), .val (.ref oS), .val (.ref oH), .val (.ref oT), .val (.ref b1), .val (.ref r_39)] [(.ref wA)]))
        refine own_on (fun t_ k_ => XS.aload X167.here hx rfl (hb hby at_237) rfl rfl k_) ?_
        obtain ⟨cq168, kq168, q168a, q168b, q168c⟩ := isOf hZ e167 f166
        obtain ⟨_, _, ⟨T168, L168, k168, n168⟩, -, X168, ⟨Lc168, hQ168, l168, y168, z168⟩, st168⟩ := X167.virtualBack hx (y := (⟨"java/lang/String", "equals", "(Ljava/lang/Object;)Z"⟩ : MethodName)) (z := (⟨"java/lang/String", "equals", "(Ljava/lang/Object;)Z"⟩ : MethodName)) hown (mvT hZ (w193 hw)) (mvT hZ (w194 hw)) (notFace_of_selects (args := #[]) (mvT hZ (w196 hw))) (mvT hZ (w196 hw)) (mvT hZ (w195 hw)) (by decide) (backOf (W := 0) (rm30 l Z a0 hw [] wA T39.heap n0 Z39 ) hZ (w197 hw) (w7 hw) (by decide) (by decide)) q168a q168c (g := (mkF m 239 #[.val (.int xa), .val (.int xb), .val (.int xc), .val (.int xd), .val (.int (1 : Int32)), .val (.int (own_n lH)), .val (.int (2 : Int32)), .val (.ref wA), .val (.ref wB), .val (.ref wC), .val (.ref wD), .val (.ref wE), .val (.ref wF), .val (.ref oS), .val (.ref oH), .val (.ref oT), .val (.ref b1), .val (.ref r_39)] [(.ref wA), (.ref wA)])) rfl (by rw [hml]; rfl) (Steps.refl _) (argsL := [(.ref wA)]) (rest := []) (lenOf pd_16 rfl) rfl (by show 2 * 0 + _ ≤ _; exact Nat.le_of_eq rfl) (hb hby at_239) (fun _ hWx => ⟨rfl, e167, (by decide : 33 + 0 ≤ _), (by decide : 158 + 0 ≤ _)⟩)
        dsimp only [Pt.U, Pt.locs, Pt.cells, Pt.slots] at X168 l168 y168 z168 st168 hQ168
        replace X168 := own_num (c' := 33) (n' := 158) X168 l168 (y168.trans rfl) (z168.trans rfl)
        obtain ⟨rfl, N168q, e168⟩ := hQ168
        have N168 := Fr.app N163 N168q
        refine own_tr st168 ?_
        show OwnGo p e below s _ _ _ (T168.setTop (mkF m 242 #[.val (.int xa), .val (.int xb), .val (.int xc), .val (.int xd), .val (.int (1 : Int32)), .val (.int (own_n lH)), .val (.int (2 : Int32)), .val (.ref wA), .val (.ref wB), .val (.ref wC), .val (.ref wD), .val (.ref wE), .val (.ref wF), .val (.ref oS), .val (.ref oH), .val (.ref oT), .val (.ref b1), .val (.ref r_39)] [(.int (1 : Int32))]))
        refine own_on (fun t_ k_ => XS.ifYes X168.here hx rfl (pc0 := 242) (pc' := 247) rfl (hb hby at_242) rfl ((if0 _ _).trans (feq (by decide : ¬ ((1 : Int32) = (0 : Int32)))).2) (by decide) (by decide) k_) ?_
        show OwnGo p e below s _ _ _ (T168.setTop (mkF m 247 #[.val (.int xa), .val (.int xb), .val (.int xc), .val (.int xd), .val (.int (1 : Int32)), .val (.int (own_n lH)), .val (.int (2 : Int32)), .val (.ref wA), .val (.ref wB), .val (.ref wC), .val (.ref wD), .val (.ref wE), .val (.ref wF), .val (.ref oS), .val (.ref oH), .val (.ref oT), .val (.ref b1), .val (.ref r_39)] []))
        refine own_on (fun t_ k_ => XS.iload X168.here hx rfl (hb hby at_247) rfl k_) ?_
        refine own_on (fun t_ k_ => XS.iconst X168.here hx rfl (hb hby at_249) k_) ?_
        refine own_on (fun t_ k_ => XS.icmpYes X168.here hx rfl (pc0 := 250) (pc' := 274) rfl (hb hby at_250) rfl (tlt (by decide : (1 : Int32) < (2 : Int32))).1 (by decide) (by decide) k_) ?_
        show OwnGo p e below s _ _ _ (T168.setTop (mkF m 274 #[.val (.int xa), .val (.int xb), .val (.int xc), .val (.int xd), .val (.int (1 : Int32)), .val (.int (own_n lH)), .val (.int (2 : Int32)), .val (.ref wA), .val (.ref wB), .val (.ref wC), .val (.ref wD), .val (.ref wE), .val (.ref wF), .val (.ref oS), .val (.ref oH), .val (.ref oT), .val (.ref b1), .val (.ref r_39)] []))
        refine own_on (fun t_ k_ => XS.iload X168.here hx rfl (hb hby at_274) rfl k_) ?_
        refine own_on (fun t_ k_ => XS.iconst X168.here hx rfl (hb hby at_276) k_) ?_
        refine own_on (fun t_ k_ => XS.icmpNo X168.here hx rfl (hb hby at_277) rfl (flt (by decide : ¬ ((2 : Int32) < (1 : Int32)))).1 k_) ?_
        show OwnGo p e below s _ _ _ (T168.setTop (mkF m 280 #[.val (.int xa), .val (.int xb), .val (.int xc), .val (.int xd), .val (.int (1 : Int32)), .val (.int (own_n lH)), .val (.int (2 : Int32)), .val (.ref wA), .val (.ref wB), .val (.ref wC), .val (.ref wD), .val (.ref wE), .val (.ref wF), .val (.ref oS), .val (.ref oH), .val (.ref oT), .val (.ref b1), .val (.ref r_39)] []))
        refine own_on (fun t_ k_ => XS.aload X168.here hx rfl (hb hby at_280) rfl rfl k_) ?_
        refine own_on (fun t_ k_ => XS.iload X168.here hx rfl (hb hby at_282) rfl k_) ?_
        have hr169 : (1 : Int32) < (own_n (lS ++ lT)) := ((own_lt' (x := 1) (y := (lS ++ lT).length) (by decide) (by rw [List.length_append]; omega)).mpr (by rw [hlS, hlT]; exact Nat.le_of_ble_eq_true rfl))
        have hr170 : ((lS ++ lT).map Value.ref).getD ((1 : Int32)).toNatClampNeg .null = .ref wE := by rw [hlS, hlT]; rfl
        have hr171 : (1 : Int32) < Int32.ofNat cp2_39 := by obtain ⟨_, _, _, q⟩ := own_at c39_3 (by decide) hr169; exact q
        obtain ⟨cq172, kq172, q172a, q172b, q172c⟩ := isOf hZ e168 c39_0
        obtain ⟨_, _, ⟨T172, L172, k172, n172⟩, -, X172, ⟨Lc172, hQ172, l172, y172, z172⟩, st172⟩ := X168.interfaceBack hx (xi := (⟨"java/util/List", "get", "(I)Ljava/lang/Object;"⟩ : MethodName)) (y := (⟨"java/util/ArrayList", "get", "(I)Ljava/lang/Object;"⟩ : MethodName)) hown (mvT hZ (w172 hw)) (mvT hZ (w173 hw)) (mvT hZ (w174 hw)) (mvT hZ (w175 hw)) (mvT hZ (w176 hw)) (mvT hZ (w177 hw)) (mvT hZ (w178 hw)) (mvT hZ (w135 hw)) (by decide) (backOf (W := 0) (rm26 l Z a0 hw [] r_39 (1 : Int32) ea2_39 cp2_39 (lS ++ lT) wE T39.heap n0 Z39 c39_0 c39_1 c39_2 c39_3 (by decide : ¬ (1 : Int32) < 0) hr169 hr170 hr171) hZ (w179 hw) (w36 hw) (by decide) (by decide)) q172a q172b q172c (g := (mkF m 284 #[.val (.int xa), .val (.int xb), .val (.int xc), .val (.int xd), .val (.int (1 : Int32)), .val (.int (own_n lH)), .val (.int (2 : Int32)), .val (.ref wA), .val (.ref wB), .val (.ref wC), .val (.ref wD), .val (.ref wE), .val (.ref wF), .val (.ref oS), .val (.ref oH), .val (.ref oT), .val (.ref b1), .val (.ref r_39)] [(.int (1 : Int32)), (.ref r_39)])) rfl (by rw [hml]; rfl) (Steps.refl _) (argsL := [(.int (1 : Int32))]) (rest := []) (lenOf pd_9 rfl) rfl (by show 2 * 0 + _ ≤ _; exact Nat.le_of_eq rfl) (hb hby at_284) (fun _ hWx => ⟨rfl, e168, (by decide : 33 + 0 ≤ _), (by decide : 158 + 0 ≤ _)⟩)
        dsimp only [Pt.U, Pt.locs, Pt.cells, Pt.slots] at X172 l172 y172 z172 st172 hQ172
        replace X172 := own_num (c' := 33) (n' := 158) X172 l172 (y172.trans rfl) (z172.trans rfl)
        obtain ⟨rfl, N172q, e172⟩ := hQ172
        have N172 := Fr.app N168 N172q
        refine own_tr st172 ?_
        show OwnGo p e below s _ _ _ (T172.setTop (mkF m 289 #[.val (.int xa), .val (.int xb), .val (.int xc), .val (.int xd), .val (.int (1 : Int32)), .val (.int (own_n lH)), .val (.int (2 : Int32)), .val (.ref wA), .val (.ref wB), .val (.ref wC), .val (.ref wD), .val (.ref wE), .val (.ref wF), .val (.ref oS), .val (.ref oH), .val (.ref oT), .val (.ref b1), .val (.ref r_39)] [(.ref wE)]))
        have f173 : Exa Z h1 wE "java/lang/String" := fq20.ext E1
        have f174 : Exa Z T16.heap wE "java/lang/String" := f173.keep K16q
        have f175 : Exa Z T39.heap wE "java/lang/String" := f174.keep K39q
        obtain ⟨T176, X176, e176, st176⟩ := castY X172 hx hZ hown (w5 hw) e172 (Ins.self f175) (g := (mkF m 289 #[.val (.int xa), .val (.int xb), .val (.int xc), .val (.int xd), .val (.int (1 : Int32)), .val (.int (own_n lH)), .val (.int (2 : Int32)), .val (.ref wA), .val (.ref wB), .val (.ref wC), .val (.ref wD), .val (.ref wE), .val (.ref wF), .val (.ref oS), .val (.ref oH), .val (.ref oT), .val (.ref b1), .val (.ref r_39)] [(.ref wE)])) rfl rfl (hb hby at_289)
        refine own_on st176 ?_
        show OwnGo p e below s _ _ _ (T176.setTop (mkF m 292 #[.val (.int xa), .val (.int xb), .val (.int xc), .val (.int xd), .val (.int (1 : Int32)), .val (.int (own_n lH)), .val (.int (2 : Int32)), .val (.ref wA), .val (.ref wB), .val (.ref wC), .val (.ref wD), .val (.ref wE), .val (.ref wF), .val (.ref oS), .val (.ref oH), .val (.ref oT), .val (.ref b1), .val (.ref r_39)] [(.ref wE)]))
        refine own_on (fun t_ k_ => XS.aload X176.here hx rfl (hb hby at_292) rfl rfl k_) ?_
        obtain ⟨cq177, kq177, q177a, q177b, q177c⟩ := isOf hZ e176 f175
        obtain ⟨_, _, ⟨T177, L177, k177, n177⟩, -, X177, ⟨Lc177, hQ177, l177, y177, z177⟩, st177⟩ := X176.virtualBack hx (y := (⟨"java/lang/String", "equals", "(Ljava/lang/Object;)Z"⟩ : MethodName)) (z := (⟨"java/lang/String", "equals", "(Ljava/lang/Object;)Z"⟩ : MethodName)) hown (mvT hZ (w193 hw)) (mvT hZ (w194 hw)) (notFace_of_selects (args := #[]) (mvT hZ (w196 hw))) (mvT hZ (w196 hw)) (mvT hZ (w195 hw)) (by decide) (backOf (W := 0) (rm30 l Z a0 hw [] wE T39.heap n0 Z39 ) hZ (w197 hw) (w7 hw) (by decide) (by decide)) q177a q177c (g := (mkF m 294 #[.val (.int xa), .val (.int xb), .val (.int xc), .val (.int xd), .val (.int (1 : Int32)), .val (.int (own_n lH)), .val (.int (2 : Int32)), .val (.ref wA), .val (.ref wB), .val (.ref wC), .val (.ref wD), .val (.ref wE), .val (.ref wF), .val (.ref oS), .val (.ref oH), .val (.ref oT), .val (.ref b1), .val (.ref r_39)] [(.ref wE), (.ref wE)])) rfl (by rw [hml]; rfl) (Steps.refl _) (argsL := [(.ref wE)]) (rest := []) (lenOf pd_16 rfl) rfl (by show 2 * 0 + _ ≤ _; exact Nat.le_of_eq rfl) (hb hby at_294) (fun _ hWx => ⟨rfl, e176, (by decide : 33 + 0 ≤ _), (by decide : 158 + 0 ≤ _)⟩)
        dsimp only [Pt.U, Pt.locs, Pt.cells, Pt.slots] at X177 l177 y177 z177 st177 hQ177
        replace X177 := own_num (c' := 33) (n' := 158) X177 l177 (y177.trans rfl) (z177.trans rfl)
        obtain ⟨rfl, N177q, e177⟩ := hQ177
        have N177 := Fr.app N172 N177q
        refine own_tr st177 ?_
        show OwnGo p e below s _ _ _ (T177.setTop (mkF m 297 #[.val (.int xa), .val (.int xb), .val (.int xc), .val (.int xd), .val (.int (1 : Int32)), .val (.int (own_n lH)), .val (.int (2 : Int32)), .val (.ref wA), .val (.ref wB), .val (.ref wC), .val (.ref wD), .val (.ref wE), .val (.ref wF), .val (.ref oS), .val (.ref oH), .val (.ref oT), .val (.ref b1), .val (.ref r_39)] [(.int (1 : Int32))]))
        refine own_on (fun t_ k_ => XS.ifYes X177.here hx rfl (pc0 := 297) (pc' := 302) rfl (hb hby at_297) rfl ((if0 _ _).trans (feq (by decide : ¬ ((1 : Int32) = (0 : Int32)))).2) (by decide) (by decide) k_) ?_
        show OwnGo p e below s _ _ _ (T177.setTop (mkF m 302 #[.val (.int xa), .val (.int xb), .val (.int xc), .val (.int xd), .val (.int (1 : Int32)), .val (.int (own_n lH)), .val (.int (2 : Int32)), .val (.ref wA), .val (.ref wB), .val (.ref wC), .val (.ref wD), .val (.ref wE), .val (.ref wF), .val (.ref oS), .val (.ref oH), .val (.ref oT), .val (.ref b1), .val (.ref r_39)] []))
        refine own_on (fun t_ k_ => XS.iload X177.here hx rfl (hb hby at_302) rfl k_) ?_
        refine own_on (fun t_ k_ => XS.iconst X177.here hx rfl (hb hby at_304) k_) ?_
        refine own_on (fun t_ k_ => XS.icmpNo X177.here hx rfl (hb hby at_305) rfl (flt (by decide : ¬ ((2 : Int32) < (2 : Int32)))).1 k_) ?_
        show OwnGo p e below s _ _ _ (T177.setTop (mkF m 308 #[.val (.int xa), .val (.int xb), .val (.int xc), .val (.int xd), .val (.int (1 : Int32)), .val (.int (own_n lH)), .val (.int (2 : Int32)), .val (.ref wA), .val (.ref wB), .val (.ref wC), .val (.ref wD), .val (.ref wE), .val (.ref wF), .val (.ref oS), .val (.ref oH), .val (.ref oT), .val (.ref b1), .val (.ref r_39)] []))
        refine own_on (fun t_ k_ => XS.aload X177.here hx rfl (hb hby at_308) rfl rfl k_) ?_
        refine own_on (fun t_ k_ => XS.iload X177.here hx rfl (hb hby at_310) rfl k_) ?_
        refine own_on (fun t_ k_ => XS.iconst X177.here hx rfl (hb hby at_312) k_) ?_
        refine own_on (fun t_ k_ => XS.iadd X177.here hx rfl (hb hby at_313) rfl k_) ?_
        show OwnGo p e below s _ _ _ (T177.setTop (mkF m 314 #[.val (.int xa), .val (.int xb), .val (.int xc), .val (.int xd), .val (.int (1 : Int32)), .val (.int (own_n lH)), .val (.int (2 : Int32)), .val (.ref wA), .val (.ref wB), .val (.ref wC), .val (.ref wD), .val (.ref wE), .val (.ref wF), .val (.ref oS), .val (.ref oH), .val (.ref oT), .val (.ref b1), .val (.ref r_39)] [(.int (2 : Int32)), (.ref r_39)]))
        have hr178 : (2 : Int32) < (own_n (lS ++ lT)) := ((own_lt' (x := 2) (y := (lS ++ lT).length) (by decide) (by rw [List.length_append]; omega)).mpr (by rw [hlS, hlT]; exact Nat.le_of_ble_eq_true rfl))
        have hr179 : ((lS ++ lT).map Value.ref).getD ((2 : Int32)).toNatClampNeg .null = .ref wF := by rw [hlS, hlT]; rfl
        have hr180 : (2 : Int32) < Int32.ofNat cp2_39 := by obtain ⟨_, _, _, q⟩ := own_at c39_3 (by decide) hr178; exact q
        obtain ⟨cq181, kq181, q181a, q181b, q181c⟩ := isOf hZ e177 c39_0
        obtain ⟨_, _, ⟨T181, L181, k181, n181⟩, -, X181, ⟨Lc181, hQ181, l181, y181, z181⟩, st181⟩ := X177.interfaceBack hx (xi := (⟨"java/util/List", "get", "(I)Ljava/lang/Object;"⟩ : MethodName)) (y := (⟨"java/util/ArrayList", "get", "(I)Ljava/lang/Object;"⟩ : MethodName)) hown (mvT hZ (w172 hw)) (mvT hZ (w173 hw)) (mvT hZ (w174 hw)) (mvT hZ (w175 hw)) (mvT hZ (w176 hw)) (mvT hZ (w177 hw)) (mvT hZ (w178 hw)) (mvT hZ (w135 hw)) (by decide) (backOf (W := 0) (rm26 l Z a0 hw [] r_39 (2 : Int32) ea2_39 cp2_39 (lS ++ lT) wF T39.heap n0 Z39 c39_0 c39_1 c39_2 c39_3 (by decide : ¬ (2 : Int32) < 0) hr178 hr179 hr180) hZ (w179 hw) (w36 hw) (by decide) (by decide)) q181a q181b q181c (g := (mkF m 314 #[.val (.int xa), .val (.int xb), .val (.int xc), .val (.int xd), .val (.int (1 : Int32)), .val (.int (own_n lH)), .val (.int (2 : Int32)), .val (.ref wA), .val (.ref wB), .val (.ref wC), .val (.ref wD), .val (.ref wE), .val (.ref wF), .val (.ref oS), .val (.ref oH), .val (.ref oT), .val (.ref b1), .val (.ref r_39)] [(.int (2 : Int32)), (.ref r_39)])) rfl (by rw [hml]; rfl) (Steps.refl _) (argsL := [(.int (2 : Int32))]) (rest := []) (lenOf pd_9 rfl) rfl (by show 2 * 0 + _ ≤ _; exact Nat.le_of_eq rfl) (hb hby at_314) (fun _ hWx => ⟨rfl, e177, (by decide : 33 + 0 ≤ _), (by decide : 158 + 0 ≤ _)⟩)
        dsimp only [Pt.U, Pt.locs, Pt.cells, Pt.slots] at X181 l181 y181 z181 st181 hQ181
        replace X181 := own_num (c' := 33) (n' := 158) X181 l181 (y181.trans rfl) (z181.trans rfl)
        obtain ⟨rfl, N181q, e181⟩ := hQ181
        have N181 := Fr.app N177 N181q
        refine own_tr st181 ?_
        show OwnGo p e below s _ _ _ (T181.setTop (mkF m 319 #[.val (.int xa), .val (.int xb), .val (.int xc), .val (.int xd), .val (.int (1 : Int32)), .val (.int (own_n lH)), .val (.int (2 : Int32)), .val (.ref wA), .val (.ref wB), .val (.ref wC), .val (.ref wD), .val (.ref wE), .val (.ref wF), .val (.ref oS), .val (.ref oH), .val (.ref oT), .val (.ref b1), .val (.ref r_39)] [(.ref wF)]))
        have f182 : Exa Z h1 wF "java/lang/String" := fq21.ext E1
        have f183 : Exa Z T16.heap wF "java/lang/String" := f182.keep K16q
        have f184 : Exa Z T39.heap wF "java/lang/String" := f183.keep K39q
        obtain ⟨T185, X185, e185, st185⟩ := castY X181 hx hZ hown (w5 hw) e181 (Ins.self f184) (g := (mkF m 319 #[.val (.int xa), .val (.int xb), .val (.int xc), .val (.int xd), .val (.int (1 : Int32)), .val (.int (own_n lH)), .val (.int (2 : Int32)), .val (.ref wA), .val (.ref wB), .val (.ref wC), .val (.ref wD), .val (.ref wE), .val (.ref wF), .val (.ref oS), .val (.ref oH), .val (.ref oT), .val (.ref b1), .val (.ref r_39)] [(.ref wF)])) rfl rfl (hb hby at_319)
        refine own_on st185 ?_
        show OwnGo p e below s _ _ _ (T185.setTop (mkF m 322 #[.val (.int xa), .val (.int xb), .val (.int xc), .val (.int xd), .val (.int (1 : Int32)), .val (.int (own_n lH)), .val (.int (2 : Int32)), .val (.ref wA), .val (.ref wB), .val (.ref wC), .val (.ref wD), .val (.ref wE), .val (.ref wF), .val (.ref oS), .val (.ref oH), .val (.ref oT), .val (.ref b1), .val (.ref r_39)] [(.ref wF)]))
        refine own_on (fun t_ k_ => XS.aload X185.here hx rfl (hb hby at_322) rfl rfl k_) ?_
        obtain ⟨cq186, kq186, q186a, q186b, q186c⟩ := isOf hZ e185 f184
        obtain ⟨_, _, ⟨T186, L186, k186, n186⟩, -, X186, ⟨Lc186, hQ186, l186, y186, z186⟩, st186⟩ := X185.virtualBack hx (y := (⟨"java/lang/String", "equals", "(Ljava/lang/Object;)Z"⟩ : MethodName)) (z := (⟨"java/lang/String", "equals", "(Ljava/lang/Object;)Z"⟩ : MethodName)) hown (mvT hZ (w193 hw)) (mvT hZ (w194 hw)) (notFace_of_selects (args := #[]) (mvT hZ (w196 hw))) (mvT hZ (w196 hw)) (mvT hZ (w195 hw)) (by decide) (backOf (W := 0) (rm30 l Z a0 hw [] wF T39.heap n0 Z39 ) hZ (w197 hw) (w7 hw) (by decide) (by decide)) q186a q186c (g := (mkF m 324 #[.val (.int xa), .val (.int xb), .val (.int xc), .val (.int xd), .val (.int (1 : Int32)), .val (.int (own_n lH)), .val (.int (2 : Int32)), .val (.ref wA), .val (.ref wB), .val (.ref wC), .val (.ref wD), .val (.ref wE), .val (.ref wF), .val (.ref oS), .val (.ref oH), .val (.ref oT), .val (.ref b1), .val (.ref r_39)] [(.ref wF), (.ref wF)])) rfl (by rw [hml]; rfl) (Steps.refl _) (argsL := [(.ref wF)]) (rest := []) (lenOf pd_16 rfl) rfl (by show 2 * 0 + _ ≤ _; exact Nat.le_of_eq rfl) (hb hby at_324) (fun _ hWx => ⟨rfl, e185, (by decide : 33 + 0 ≤ _), (by decide : 158 + 0 ≤ _)⟩)
        dsimp only [Pt.U, Pt.locs, Pt.cells, Pt.slots] at X186 l186 y186 z186 st186 hQ186
        replace X186 := own_num (c' := 33) (n' := 158) X186 l186 (y186.trans rfl) (z186.trans rfl)
        obtain ⟨rfl, N186q, e186⟩ := hQ186
        have N186 := Fr.app N181 N186q
        refine own_tr st186 ?_
        show OwnGo p e below s _ _ _ (T186.setTop (mkF m 327 #[.val (.int xa), .val (.int xb), .val (.int xc), .val (.int xd), .val (.int (1 : Int32)), .val (.int (own_n lH)), .val (.int (2 : Int32)), .val (.ref wA), .val (.ref wB), .val (.ref wC), .val (.ref wD), .val (.ref wE), .val (.ref wF), .val (.ref oS), .val (.ref oH), .val (.ref oT), .val (.ref b1), .val (.ref r_39)] [(.int (1 : Int32))]))
        refine own_on (fun t_ k_ => XS.ifYes X186.here hx rfl (pc0 := 327) (pc' := 332) rfl (hb hby at_327) rfl ((if0 _ _).trans (feq (by decide : ¬ ((1 : Int32) = (0 : Int32)))).2) (by decide) (by decide) k_) ?_
        show OwnGo p e below s _ _ _ (T186.setTop (mkF m 332 #[.val (.int xa), .val (.int xb), .val (.int xc), .val (.int xd), .val (.int (1 : Int32)), .val (.int (own_n lH)), .val (.int (2 : Int32)), .val (.ref wA), .val (.ref wB), .val (.ref wC), .val (.ref wD), .val (.ref wE), .val (.ref wF), .val (.ref oS), .val (.ref oH), .val (.ref oT), .val (.ref b1), .val (.ref r_39)] []))
        refine own_on (fun t_ k_ => XS.aload X186.here hx rfl (hb hby at_332) rfl rfl k_) ?_
        have f187 : Fld Z T39.heap oS "java/util/ArrayList" "size" "I" (.int (own_n lS)) := f22.keep K39q nin0
        have f188 : Exa Z T39.heap oS "java/util/ArrayList" := f18.keep K39q
        obtain ⟨cq189, kq189, q189a, q189b, q189c⟩ := isOf hZ e186 f188
        obtain ⟨_, _, ⟨T189, L189, k189, n189⟩, -, X189, ⟨Lc189, hQ189, l189, y189, z189⟩, st189⟩ := X186.virtualBack hx (y := (⟨"java/util/ArrayList", "size", "()I"⟩ : MethodName)) (z := (⟨"java/util/ArrayList", "size", "()I"⟩ : MethodName)) hown (mvT hZ (w137 hw)) (mvT hZ (w138 hw)) (notFace_of_selects (args := #[]) (mvT hZ (w139 hw))) (mvT hZ (w139 hw)) (mvT hZ (w132 hw)) (by decide) (backOf (W := 0) (rm20 l Z a0 hw [] oS lS T39.heap n0 Z39 f187) hZ (w136 hw) (w36 hw) (by decide) (by decide)) q189a q189c (g := (mkF m 334 #[.val (.int xa), .val (.int xb), .val (.int xc), .val (.int xd), .val (.int (1 : Int32)), .val (.int (own_n lH)), .val (.int (2 : Int32)), .val (.ref wA), .val (.ref wB), .val (.ref wC), .val (.ref wD), .val (.ref wE), .val (.ref wF), .val (.ref oS), .val (.ref oH), .val (.ref oT), .val (.ref b1), .val (.ref r_39)] [(.ref oS)])) rfl (by rw [hml]; rfl) (Steps.refl _) (argsL := []) (rest := []) (lenOf pd_15 rfl) rfl (by show 2 * 0 + _ ≤ _; exact Nat.le_of_eq rfl) (hb hby at_334) (fun _ hWx => ⟨rfl, e186, (by decide : 33 + 0 ≤ _), (by decide : 158 + 0 ≤ _)⟩)
        dsimp only [Pt.U, Pt.locs, Pt.cells, Pt.slots] at X189 l189 y189 z189 st189 hQ189
        replace X189 := own_num (c' := 33) (n' := 158) X189 l189 (y189.trans rfl) (z189.trans rfl)
        obtain ⟨rfl, N189q, e189⟩ := hQ189
        have N189 := Fr.app N186 N189q
        refine own_tr st189 ?_
        show OwnGo p e below s _ _ _ (T189.setTop (mkF m 337 #[.val (.int xa), .val (.int xb), .val (.int xc), .val (.int xd), .val (.int (1 : Int32)), .val (.int (own_n lH)), .val (.int (2 : Int32)), .val (.ref wA), .val (.ref wB), .val (.ref wC), .val (.ref wD), .val (.ref wE), .val (.ref wF), .val (.ref oS), .val (.ref oH), .val (.ref oT), .val (.ref b1), .val (.ref r_39)] [(.int (own_n lS))]))
        rw [show (own_n lS) = (1 : Int32) from hvS]
        show OwnGo p e below s _ _ _ (T189.setTop (mkF m 337 #[.val (.int xa), .val (.int xb), .val (.int xc), .val (.int xd), .val (.int (1 : Int32)), .val (.int (own_n lH)), .val (.int (2 : Int32)), .val (.ref wA), .val (.ref wB), .val (.ref wC), .val (.ref wD), .val (.ref wE), .val (.ref wF), .val (.ref oS), .val (.ref oH), .val (.ref oT), .val (.ref b1), .val (.ref r_39)] [(.int (1 : Int32))]))
        refine own_on (fun t_ k_ => XS.iload X189.here hx rfl (hb hby at_337) rfl k_) ?_
        refine own_on (fun t_ k_ => XS.icmpYes X189.here hx rfl (pc0 := 339) (pc' := 344) rfl (hb hby at_339) rfl (teq (by decide : (1 : Int32) = (1 : Int32))).1 (by decide) (by decide) k_) ?_
        show OwnGo p e below s _ _ _ (T189.setTop (mkF m 344 #[.val (.int xa), .val (.int xb), .val (.int xc), .val (.int xd), .val (.int (1 : Int32)), .val (.int (own_n lH)), .val (.int (2 : Int32)), .val (.ref wA), .val (.ref wB), .val (.ref wC), .val (.ref wD), .val (.ref wE), .val (.ref wF), .val (.ref oS), .val (.ref oH), .val (.ref oT), .val (.ref b1), .val (.ref r_39)] []))
        refine own_on (fun t_ k_ => XS.aload X189.here hx rfl (hb hby at_344) rfl rfl k_) ?_
        have f190 : Fld Z h1 oH "java/util/ArrayList" "size" "I" (.int (own_n lH)) := fq7.ext E1
        have f191 : Fld Z T16.heap oH "java/util/ArrayList" "size" "I" (.int (own_n lH)) := f190.keep K16q (ninS ne4 nin0)
        have f192 : Fld Z T39.heap oH "java/util/ArrayList" "size" "I" (.int (own_n lH)) := f191.keep K39q nin0
        have f193 : Exa Z h1 oH "java/util/ArrayList" := fq5.ext E1
        have f194 : Exa Z T16.heap oH "java/util/ArrayList" := f193.keep K16q
        have f195 : Exa Z T39.heap oH "java/util/ArrayList" := f194.keep K39q
        obtain ⟨cq196, kq196, q196a, q196b, q196c⟩ := isOf hZ e189 f195
        obtain ⟨_, _, ⟨T196, L196, k196, n196⟩, -, X196, ⟨Lc196, hQ196, l196, y196, z196⟩, st196⟩ := X189.virtualBack hx (y := (⟨"java/util/ArrayList", "size", "()I"⟩ : MethodName)) (z := (⟨"java/util/ArrayList", "size", "()I"⟩ : MethodName)) hown (mvT hZ (w137 hw)) (mvT hZ (w138 hw)) (notFace_of_selects (args := #[]) (mvT hZ (w139 hw))) (mvT hZ (w139 hw)) (mvT hZ (w132 hw)) (by decide) (backOf (W := 0) (rm20 l Z a0 hw [] oH lH T39.heap n0 Z39 f192) hZ (w136 hw) (w36 hw) (by decide) (by decide)) q196a q196c (g := (mkF m 346 #[.val (.int xa), .val (.int xb), .val (.int xc), .val (.int xd), .val (.int (1 : Int32)), .val (.int (own_n lH)), .val (.int (2 : Int32)), .val (.ref wA), .val (.ref wB), .val (.ref wC), .val (.ref wD), .val (.ref wE), .val (.ref wF), .val (.ref oS), .val (.ref oH), .val (.ref oT), .val (.ref b1), .val (.ref r_39)] [(.ref oH)])) rfl (by rw [hml]; rfl) (Steps.refl _) (argsL := []) (rest := []) (lenOf pd_15 rfl) rfl (by show 2 * 0 + _ ≤ _; exact Nat.le_of_eq rfl) (hb hby at_346) (fun _ hWx => ⟨rfl, e189, (by decide : 33 + 0 ≤ _), (by decide : 158 + 0 ≤ _)⟩)
        dsimp only [Pt.U, Pt.locs, Pt.cells, Pt.slots] at X196 l196 y196 z196 st196 hQ196
        replace X196 := own_num (c' := 33) (n' := 158) X196 l196 (y196.trans rfl) (z196.trans rfl)
        obtain ⟨rfl, N196q, e196⟩ := hQ196
        have N196 := Fr.app N189 N196q
        refine own_tr st196 ?_
        show OwnGo p e below s _ _ _ (T196.setTop (mkF m 349 #[.val (.int xa), .val (.int xb), .val (.int xc), .val (.int xd), .val (.int (1 : Int32)), .val (.int (own_n lH)), .val (.int (2 : Int32)), .val (.ref wA), .val (.ref wB), .val (.ref wC), .val (.ref wD), .val (.ref wE), .val (.ref wF), .val (.ref oS), .val (.ref oH), .val (.ref oT), .val (.ref b1), .val (.ref r_39)] [(.int (own_n lH))]))
        refine own_on (fun t_ k_ => XS.iload X196.here hx rfl (hb hby at_349) rfl k_) ?_
        refine own_on (fun t_ k_ => XS.icmpYes X196.here hx rfl (pc0 := 351) (pc' := 356) rfl (hb hby at_351) rfl (teq rfl).1 (by decide) (by decide) k_) ?_
        show OwnGo p e below s _ _ _ (T196.setTop (mkF m 356 #[.val (.int xa), .val (.int xb), .val (.int xc), .val (.int xd), .val (.int (1 : Int32)), .val (.int (own_n lH)), .val (.int (2 : Int32)), .val (.ref wA), .val (.ref wB), .val (.ref wC), .val (.ref wD), .val (.ref wE), .val (.ref wF), .val (.ref oS), .val (.ref oH), .val (.ref oT), .val (.ref b1), .val (.ref r_39)] []))
        refine own_on (fun t_ k_ => XS.aload X196.here hx rfl (hb hby at_356) rfl rfl k_) ?_
        have f197 : Fld Z T39.heap oT "java/util/ArrayList" "size" "I" (.int (own_n lT)) := f32.keep K39q nin0
        have f198 : Exa Z T39.heap oT "java/util/ArrayList" := f28.keep K39q
        obtain ⟨cq199, kq199, q199a, q199b, q199c⟩ := isOf hZ e196 f198
        obtain ⟨_, _, ⟨T199, L199, k199, n199⟩, -, X199, ⟨Lc199, hQ199, l199, y199, z199⟩, st199⟩ := X196.virtualBack hx (y := (⟨"java/util/ArrayList", "size", "()I"⟩ : MethodName)) (z := (⟨"java/util/ArrayList", "size", "()I"⟩ : MethodName)) hown (mvT hZ (w137 hw)) (mvT hZ (w138 hw)) (notFace_of_selects (args := #[]) (mvT hZ (w139 hw))) (mvT hZ (w139 hw)) (mvT hZ (w132 hw)) (by decide) (backOf (W := 0) (rm20 l Z a0 hw [] oT lT T39.heap n0 Z39 f197) hZ (w136 hw) (w36 hw) (by decide) (by decide)) q199a q199c (g := (mkF m 358 #[.val (.int xa), .val (.int xb), .val (.int xc), .val (.int xd), .val (.int (1 : Int32)), .val (.int (own_n lH)), .val (.int (2 : Int32)), .val (.ref wA), .val (.ref wB), .val (.ref wC), .val (.ref wD), .val (.ref wE), .val (.ref wF), .val (.ref oS), .val (.ref oH), .val (.ref oT), .val (.ref b1), .val (.ref r_39)] [(.ref oT)])) rfl (by rw [hml]; rfl) (Steps.refl _) (argsL := []) (rest := []) (lenOf pd_15 rfl) rfl (by show 2 * 0 + _ ≤ _; exact Nat.le_of_eq rfl) (hb hby at_358) (fun _ hWx => ⟨rfl, e196, (by decide : 33 + 0 ≤ _), (by decide : 158 + 0 ≤ _)⟩)
        dsimp only [Pt.U, Pt.locs, Pt.cells, Pt.slots] at X199 l199 y199 z199 st199 hQ199
        replace X199 := own_num (c' := 33) (n' := 158) X199 l199 (y199.trans rfl) (z199.trans rfl)
        obtain ⟨rfl, N199q, e199⟩ := hQ199
        have N199 := Fr.app N196 N199q
        refine own_tr st199 ?_
        show OwnGo p e below s _ _ _ (T199.setTop (mkF m 361 #[.val (.int xa), .val (.int xb), .val (.int xc), .val (.int xd), .val (.int (1 : Int32)), .val (.int (own_n lH)), .val (.int (2 : Int32)), .val (.ref wA), .val (.ref wB), .val (.ref wC), .val (.ref wD), .val (.ref wE), .val (.ref wF), .val (.ref oS), .val (.ref oH), .val (.ref oT), .val (.ref b1), .val (.ref r_39)] [(.int (own_n lT))]))
        rw [show (own_n lT) = (2 : Int32) from hvT]
        show OwnGo p e below s _ _ _ (T199.setTop (mkF m 361 #[.val (.int xa), .val (.int xb), .val (.int xc), .val (.int xd), .val (.int (1 : Int32)), .val (.int (own_n lH)), .val (.int (2 : Int32)), .val (.ref wA), .val (.ref wB), .val (.ref wC), .val (.ref wD), .val (.ref wE), .val (.ref wF), .val (.ref oS), .val (.ref oH), .val (.ref oT), .val (.ref b1), .val (.ref r_39)] [(.int (2 : Int32))]))
        refine own_on (fun t_ k_ => XS.iload X199.here hx rfl (hb hby at_361) rfl k_) ?_
        refine own_on (fun t_ k_ => XS.icmpYes X199.here hx rfl (pc0 := 363) (pc' := 368) rfl (hb hby at_363) rfl (teq (by decide : (2 : Int32) = (2 : Int32))).1 (by decide) (by decide) k_) ?_
        show OwnGo p e below s _ _ _ (T199.setTop (mkF m 368 #[.val (.int xa), .val (.int xb), .val (.int xc), .val (.int xd), .val (.int (1 : Int32)), .val (.int (own_n lH)), .val (.int (2 : Int32)), .val (.ref wA), .val (.ref wB), .val (.ref wC), .val (.ref wD), .val (.ref wE), .val (.ref wF), .val (.ref oS), .val (.ref oH), .val (.ref oT), .val (.ref b1), .val (.ref r_39)] []))
        refine own_on (fun t_ k_ => XS.iconst X199.here hx rfl (hb hby at_368) k_) ?_
        exact own_retN X199 hx hlk (t := .boolean) Bd.returns (by simp) (hb hby at_369) e199 ⟨rfl, N199, K39⟩ (by decide) (by decide)
    · rcases hcaseT with ⟨hvT, hlT⟩ | ⟨hvT, hlT⟩ | ⟨hvT, hlT⟩
      · rw [show (own_n lS) = (2 : Int32) from hvS]
        show OwnGo p e below s _ _ _ (T40.setTop (mkF m 220 #[.val (.int xa), .val (.int xb), .val (.int xc), .val (.int xd), .val (.int (2 : Int32)), .val (.int (own_n lH)), .val (.int (own_n lT)), .val (.ref wA), .val (.ref wB), .val (.ref wC), .val (.ref wD), .val (.ref wE), .val (.ref wF), .val (.ref oS), .val (.ref oH), .val (.ref oT), .val (.ref b1), .val (.ref r_39)] []))
        rw [show (own_n lT) = (0 : Int32) from hvT]
        show OwnGo p e below s _ _ _ (T40.setTop (mkF m 220 #[.val (.int xa), .val (.int xb), .val (.int xc), .val (.int xd), .val (.int (2 : Int32)), .val (.int (own_n lH)), .val (.int (0 : Int32)), .val (.ref wA), .val (.ref wB), .val (.ref wC), .val (.ref wD), .val (.ref wE), .val (.ref wF), .val (.ref oS), .val (.ref oH), .val (.ref oT), .val (.ref b1), .val (.ref r_39)] []))
        refine own_on (fun t_ k_ => XS.iload X40.here hx rfl (hb hby at_220) rfl k_) ?_
        refine own_on (fun t_ k_ => XS.iconst X40.here hx rfl (hb hby at_222) k_) ?_
        refine own_on (fun t_ k_ => XS.icmpNo X40.here hx rfl (hb hby at_223) rfl (flt (by decide : ¬ ((2 : Int32) < (1 : Int32)))).1 k_) ?_
        show OwnGo p e below s _ _ _ (T40.setTop (mkF m 226 #[.val (.int xa), .val (.int xb), .val (.int xc), .val (.int xd), .val (.int (2 : Int32)), .val (.int (own_n lH)), .val (.int (0 : Int32)), .val (.ref wA), .val (.ref wB), .val (.ref wC), .val (.ref wD), .val (.ref wE), .val (.ref wF), .val (.ref oS), .val (.ref oH), .val (.ref oT), .val (.ref b1), .val (.ref r_39)] []))
        refine own_on (fun t_ k_ => XS.aload X40.here hx rfl (hb hby at_226) rfl rfl k_) ?_
        refine own_on (fun t_ k_ => XS.iconst X40.here hx rfl (hb hby at_228) k_) ?_
        have hr200 : (0 : Int32) < (own_n (lS ++ lT)) := ((own_lt' (x := 0) (y := (lS ++ lT).length) (by decide) (by rw [List.length_append]; omega)).mpr (by rw [hlS, hlT]; exact Nat.le_of_ble_eq_true rfl))
        have hr201 : ((lS ++ lT).map Value.ref).getD ((0 : Int32)).toNatClampNeg .null = .ref wA := by rw [hlS, hlT]; rfl
        have hr202 : (0 : Int32) < Int32.ofNat cp2_39 := by obtain ⟨_, _, _, q⟩ := own_at c39_3 (by decide) hr200; exact q
        obtain ⟨cq203, kq203, q203a, q203b, q203c⟩ := isOf hZ e40 c39_0
        obtain ⟨_, _, ⟨T203, L203, k203, n203⟩, -, X203, ⟨Lc203, hQ203, l203, y203, z203⟩, st203⟩ := X40.interfaceBack hx (xi := (⟨"java/util/List", "get", "(I)Ljava/lang/Object;"⟩ : MethodName)) (y := (⟨"java/util/ArrayList", "get", "(I)Ljava/lang/Object;"⟩ : MethodName)) hown (mvT hZ (w172 hw)) (mvT hZ (w173 hw)) (mvT hZ (w174 hw)) (mvT hZ (w175 hw)) (mvT hZ (w176 hw)) (mvT hZ (w177 hw)) (mvT hZ (w178 hw)) (mvT hZ (w135 hw)) (by decide) (backOf (W := 0) (rm26 l Z a0 hw [] r_39 (0 : Int32) ea2_39 cp2_39 (lS ++ lT) wA T39.heap n0 Z39 c39_0 c39_1 c39_2 c39_3 (by decide : ¬ (0 : Int32) < 0) hr200 hr201 hr202) hZ (w179 hw) (w36 hw) (by decide) (by decide)) q203a q203b q203c (g := (mkF m 229 #[.val (.int xa), .val (.int xb), .val (.int xc), .val (.int xd), .val (.int (2 : Int32)), .val (.int (own_n lH)), .val (.int (0 : Int32)), .val (.ref wA), .val (.ref wB), .val (.ref wC), .val (.ref wD), .val (.ref wE), .val (.ref wF), .val (.ref oS), .val (.ref oH), .val (.ref oT), .val (.ref b1), .val (.ref r_39)] [(.int (0 : Int32)), (.ref r_39)])) rfl (by rw [hml]; rfl) (Steps.refl _) (argsL := [(.int (0 : Int32))]) (rest := []) (lenOf pd_9 rfl) rfl (by show 2 * 0 + _ ≤ _; exact Nat.le_of_eq rfl) (hb hby at_229) (fun _ hWx => ⟨rfl, e40, (by decide : 33 + 0 ≤ _), (by decide : 158 + 0 ≤ _)⟩)
        dsimp only [Pt.U, Pt.locs, Pt.cells, Pt.slots] at X203 l203 y203 z203 st203 hQ203
        replace X203 := own_num (c' := 33) (n' := 158) X203 l203 (y203.trans rfl) (z203.trans rfl)
        obtain ⟨rfl, N203q, e203⟩ := hQ203
        have N203 := Fr.app N40 N203q
        refine own_tr st203 ?_
        show OwnGo p e below s _ _ _ (T203.setTop (mkF m 234 #[.val (.int xa), .val (.int xb), .val (.int xc), .val (.int xd), .val (.int (2 : Int32)), .val (.int (own_n lH)), .val (.int (0 : Int32)), .val (.ref wA), .val (.ref wB), .val (.ref wC), .val (.ref wD), .val (.ref wE), .val (.ref wF), .val (.ref oS), .val (.ref oH), .val (.ref oT), .val (.ref b1), .val (.ref r_39)] [(.ref wA)]))
        have f204 : Exa Z h1 wA "java/lang/String" := fq16.ext E1
        have f205 : Exa Z T16.heap wA "java/lang/String" := f204.keep K16q
        have f206 : Exa Z T39.heap wA "java/lang/String" := f205.keep K39q
        obtain ⟨T207, X207, e207, st207⟩ := castY X203 hx hZ hown (w5 hw) e203 (Ins.self f206) (g := (mkF m 234 #[.val (.int xa), .val (.int xb), .val (.int xc), .val (.int xd), .val (.int (2 : Int32)), .val (.int (own_n lH)), .val (.int (0 : Int32)), .val (.ref wA), .val (.ref wB), .val (.ref wC), .val (.ref wD), .val (.ref wE), .val (.ref wF), .val (.ref oS), .val (.ref oH), .val (.ref oT), .val (.ref b1), .val (.ref r_39)] [(.ref wA)])) rfl rfl (hb hby at_234)
        refine own_on st207 ?_
        show OwnGo p e below s _ _ _ (T207.setTop (mkF m 237 #[.val (.int xa), .val (.int xb), .val (.int xc), .val (.int xd), .val (.int (2 : Int32)), .val (.int (own_n lH)), .val (.int (0 : Int32)), .val (.ref wA), .val (.ref wB), .val (.ref wC), .val (.ref wD), .val (.ref wE), .val (.ref wF), .val (.ref oS), .val (.ref oH), .val (.ref oT), .val (.ref b1), .val (.ref r_39)] [(.ref wA)]))
        refine own_on (fun t_ k_ => XS.aload X207.here hx rfl (hb hby at_237) rfl rfl k_) ?_
        obtain ⟨cq208, kq208, q208a, q208b, q208c⟩ := isOf hZ e207 f206
        obtain ⟨_, _, ⟨T208, L208, k208, n208⟩, -, X208, ⟨Lc208, hQ208, l208, y208, z208⟩, st208⟩ := X207.virtualBack hx (y := (⟨"java/lang/String", "equals", "(Ljava/lang/Object;)Z"⟩ : MethodName)) (z := (⟨"java/lang/String", "equals", "(Ljava/lang/Object;)Z"⟩ : MethodName)) hown (mvT hZ (w193 hw)) (mvT hZ (w194 hw)) (notFace_of_selects (args := #[]) (mvT hZ (w196 hw))) (mvT hZ (w196 hw)) (mvT hZ (w195 hw)) (by decide) (backOf (W := 0) (rm30 l Z a0 hw [] wA T39.heap n0 Z39 ) hZ (w197 hw) (w7 hw) (by decide) (by decide)) q208a q208c (g := (mkF m 239 #[.val (.int xa), .val (.int xb), .val (.int xc), .val (.int xd), .val (.int (2 : Int32)), .val (.int (own_n lH)), .val (.int (0 : Int32)), .val (.ref wA), .val (.ref wB), .val (.ref wC), .val (.ref wD), .val (.ref wE), .val (.ref wF), .val (.ref oS), .val (.ref oH), .val (.ref oT), .val (.ref b1), .val (.ref r_39)] [(.ref wA), (.ref wA)])) rfl (by rw [hml]; rfl) (Steps.refl _) (argsL := [(.ref wA)]) (rest := []) (lenOf pd_16 rfl) rfl (by show 2 * 0 + _ ≤ _; exact Nat.le_of_eq rfl) (hb hby at_239) (fun _ hWx => ⟨rfl, e207, (by decide : 33 + 0 ≤ _), (by decide : 158 + 0 ≤ _)⟩)
        dsimp only [Pt.U, Pt.locs, Pt.cells, Pt.slots] at X208 l208 y208 z208 st208 hQ208
        replace X208 := own_num (c' := 33) (n' := 158) X208 l208 (y208.trans rfl) (z208.trans rfl)
        obtain ⟨rfl, N208q, e208⟩ := hQ208
        have N208 := Fr.app N203 N208q
        refine own_tr st208 ?_
        show OwnGo p e below s _ _ _ (T208.setTop (mkF m 242 #[.val (.int xa), .val (.int xb), .val (.int xc), .val (.int xd), .val (.int (2 : Int32)), .val (.int (own_n lH)), .val (.int (0 : Int32)), .val (.ref wA), .val (.ref wB), .val (.ref wC), .val (.ref wD), .val (.ref wE), .val (.ref wF), .val (.ref oS), .val (.ref oH), .val (.ref oT), .val (.ref b1), .val (.ref r_39)] [(.int (1 : Int32))]))
        refine own_on (fun t_ k_ => XS.ifYes X208.here hx rfl (pc0 := 242) (pc' := 247) rfl (hb hby at_242) rfl ((if0 _ _).trans (feq (by decide : ¬ ((1 : Int32) = (0 : Int32)))).2) (by decide) (by decide) k_) ?_
        show OwnGo p e below s _ _ _ (T208.setTop (mkF m 247 #[.val (.int xa), .val (.int xb), .val (.int xc), .val (.int xd), .val (.int (2 : Int32)), .val (.int (own_n lH)), .val (.int (0 : Int32)), .val (.ref wA), .val (.ref wB), .val (.ref wC), .val (.ref wD), .val (.ref wE), .val (.ref wF), .val (.ref oS), .val (.ref oH), .val (.ref oT), .val (.ref b1), .val (.ref r_39)] []))
        refine own_on (fun t_ k_ => XS.iload X208.here hx rfl (hb hby at_247) rfl k_) ?_
        refine own_on (fun t_ k_ => XS.iconst X208.here hx rfl (hb hby at_249) k_) ?_
        refine own_on (fun t_ k_ => XS.icmpNo X208.here hx rfl (hb hby at_250) rfl (flt (by decide : ¬ ((2 : Int32) < (2 : Int32)))).1 k_) ?_
        show OwnGo p e below s _ _ _ (T208.setTop (mkF m 253 #[.val (.int xa), .val (.int xb), .val (.int xc), .val (.int xd), .val (.int (2 : Int32)), .val (.int (own_n lH)), .val (.int (0 : Int32)), .val (.ref wA), .val (.ref wB), .val (.ref wC), .val (.ref wD), .val (.ref wE), .val (.ref wF), .val (.ref oS), .val (.ref oH), .val (.ref oT), .val (.ref b1), .val (.ref r_39)] []))
        refine own_on (fun t_ k_ => XS.aload X208.here hx rfl (hb hby at_253) rfl rfl k_) ?_
        refine own_on (fun t_ k_ => XS.iconst X208.here hx rfl (hb hby at_255) k_) ?_
        have hr209 : (1 : Int32) < (own_n (lS ++ lT)) := ((own_lt' (x := 1) (y := (lS ++ lT).length) (by decide) (by rw [List.length_append]; omega)).mpr (by rw [hlS, hlT]; exact Nat.le_of_ble_eq_true rfl))
        have hr210 : ((lS ++ lT).map Value.ref).getD ((1 : Int32)).toNatClampNeg .null = .ref wB := by rw [hlS, hlT]; rfl
        have hr211 : (1 : Int32) < Int32.ofNat cp2_39 := by obtain ⟨_, _, _, q⟩ := own_at c39_3 (by decide) hr209; exact q
        obtain ⟨cq212, kq212, q212a, q212b, q212c⟩ := isOf hZ e208 c39_0
        obtain ⟨_, _, ⟨T212, L212, k212, n212⟩, -, X212, ⟨Lc212, hQ212, l212, y212, z212⟩, st212⟩ := X208.interfaceBack hx (xi := (⟨"java/util/List", "get", "(I)Ljava/lang/Object;"⟩ : MethodName)) (y := (⟨"java/util/ArrayList", "get", "(I)Ljava/lang/Object;"⟩ : MethodName)) hown (mvT hZ (w172 hw)) (mvT hZ (w173 hw)) (mvT hZ (w174 hw)) (mvT hZ (w175 hw)) (mvT hZ (w176 hw)) (mvT hZ (w177 hw)) (mvT hZ (w178 hw)) (mvT hZ (w135 hw)) (by decide) (backOf (W := 0) (rm26 l Z a0 hw [] r_39 (1 : Int32) ea2_39 cp2_39 (lS ++ lT) wB T39.heap n0 Z39 c39_0 c39_1 c39_2 c39_3 (by decide : ¬ (1 : Int32) < 0) hr209 hr210 hr211) hZ (w179 hw) (w36 hw) (by decide) (by decide)) q212a q212b q212c (g := (mkF m 256 #[.val (.int xa), .val (.int xb), .val (.int xc), .val (.int xd), .val (.int (2 : Int32)), .val (.int (own_n lH)), .val (.int (0 : Int32)), .val (.ref wA), .val (.ref wB), .val (.ref wC), .val (.ref wD), .val (.ref wE), .val (.ref wF), .val (.ref oS), .val (.ref oH), .val (.ref oT), .val (.ref b1), .val (.ref r_39)] [(.int (1 : Int32)), (.ref r_39)])) rfl (by rw [hml]; rfl) (Steps.refl _) (argsL := [(.int (1 : Int32))]) (rest := []) (lenOf pd_9 rfl) rfl (by show 2 * 0 + _ ≤ _; exact Nat.le_of_eq rfl) (hb hby at_256) (fun _ hWx => ⟨rfl, e208, (by decide : 33 + 0 ≤ _), (by decide : 158 + 0 ≤ _)⟩)
        dsimp only [Pt.U, Pt.locs, Pt.cells, Pt.slots] at X212 l212 y212 z212 st212 hQ212
        replace X212 := own_num (c' := 33) (n' := 158) X212 l212 (y212.trans rfl) (z212.trans rfl)
        obtain ⟨rfl, N212q, e212⟩ := hQ212
        have N212 := Fr.app N208 N212q
        refine own_tr st212 ?_
        show OwnGo p e below s _ _ _ (T212.setTop (mkF m 261 #[.val (.int xa), .val (.int xb), .val (.int xc), .val (.int xd), .val (.int (2 : Int32)), .val (.int (own_n lH)), .val (.int (0 : Int32)), .val (.ref wA), .val (.ref wB), .val (.ref wC), .val (.ref wD), .val (.ref wE), .val (.ref wF), .val (.ref oS), .val (.ref oH), .val (.ref oT), .val (.ref b1), .val (.ref r_39)] [(.ref wB)]))
        have f213 : Exa Z h1 wB "java/lang/String" := fq17.ext E1
        have f214 : Exa Z T16.heap wB "java/lang/String" := f213.keep K16q
        have f215 : Exa Z T39.heap wB "java/lang/String" := f214.keep K39q
        obtain ⟨T216, X216, e216, st216⟩ := castY X212 hx hZ hown (w5 hw) e212 (Ins.self f215) (g := (mkF m 261 #[.val (.int xa), .val (.int xb), .val (.int xc), .val (.int xd), .val (.int (2 : Int32)), .val (.int (own_n lH)), .val (.int (0 : Int32)), .val (.ref wA), .val (.ref wB), .val (.ref wC), .val (.ref wD), .val (.ref wE), .val (.ref wF), .val (.ref oS), .val (.ref oH), .val (.ref oT), .val (.ref b1), .val (.ref r_39)] [(.ref wB)])) rfl rfl (hb hby at_261)
        refine own_on st216 ?_
        show OwnGo p e below s _ _ _ (T216.setTop (mkF m 264 #[.val (.int xa), .val (.int xb), .val (.int xc), .val (.int xd), .val (.int (2 : Int32)), .val (.int (own_n lH)), .val (.int (0 : Int32)), .val (.ref wA), .val (.ref wB), .val (.ref wC), .val (.ref wD), .val (.ref wE), .val (.ref wF), .val (.ref oS), .val (.ref oH), .val (.ref oT), .val (.ref b1), .val (.ref r_39)] [(.ref wB)]))
        refine own_on (fun t_ k_ => XS.aload X216.here hx rfl (hb hby at_264) rfl rfl k_) ?_
        obtain ⟨cq217, kq217, q217a, q217b, q217c⟩ := isOf hZ e216 f215
        obtain ⟨_, _, ⟨T217, L217, k217, n217⟩, -, X217, ⟨Lc217, hQ217, l217, y217, z217⟩, st217⟩ := X216.virtualBack hx (y := (⟨"java/lang/String", "equals", "(Ljava/lang/Object;)Z"⟩ : MethodName)) (z := (⟨"java/lang/String", "equals", "(Ljava/lang/Object;)Z"⟩ : MethodName)) hown (mvT hZ (w193 hw)) (mvT hZ (w194 hw)) (notFace_of_selects (args := #[]) (mvT hZ (w196 hw))) (mvT hZ (w196 hw)) (mvT hZ (w195 hw)) (by decide) (backOf (W := 0) (rm30 l Z a0 hw [] wB T39.heap n0 Z39 ) hZ (w197 hw) (w7 hw) (by decide) (by decide)) q217a q217c (g := (mkF m 266 #[.val (.int xa), .val (.int xb), .val (.int xc), .val (.int xd), .val (.int (2 : Int32)), .val (.int (own_n lH)), .val (.int (0 : Int32)), .val (.ref wA), .val (.ref wB), .val (.ref wC), .val (.ref wD), .val (.ref wE), .val (.ref wF), .val (.ref oS), .val (.ref oH), .val (.ref oT), .val (.ref b1), .val (.ref r_39)] [(.ref wB), (.ref wB)])) rfl (by rw [hml]; rfl) (Steps.refl _) (argsL := [(.ref wB)]) (rest := []) (lenOf pd_16 rfl) rfl (by show 2 * 0 + _ ≤ _; exact Nat.le_of_eq rfl) (hb hby at_266) (fun _ hWx => ⟨rfl, e216, (by decide : 33 + 0 ≤ _), (by decide : 158 + 0 ≤ _)⟩)
        dsimp only [Pt.U, Pt.locs, Pt.cells, Pt.slots] at X217 l217 y217 z217 st217 hQ217
        replace X217 := own_num (c' := 33) (n' := 158) X217 l217 (y217.trans rfl) (z217.trans rfl)
        obtain ⟨rfl, N217q, e217⟩ := hQ217
        have N217 := Fr.app N212 N217q
        refine own_tr st217 ?_
        show OwnGo p e below s _ _ _ (T217.setTop (mkF m 269 #[.val (.int xa), .val (.int xb), .val (.int xc), .val (.int xd), .val (.int (2 : Int32)), .val (.int (own_n lH)), .val (.int (0 : Int32)), .val (.ref wA), .val (.ref wB), .val (.ref wC), .val (.ref wD), .val (.ref wE), .val (.ref wF), .val (.ref oS), .val (.ref oH), .val (.ref oT), .val (.ref b1), .val (.ref r_39)] [(.int (1 : Int32))]))
        refine own_on (fun t_ k_ => XS.ifYes X217.here hx rfl (pc0 := 269) (pc' := 274) rfl (hb hby at_269) rfl ((if0 _ _).trans (feq (by decide : ¬ ((1 : Int32) = (0 : Int32)))).2) (by decide) (by decide) k_) ?_
        show OwnGo p e below s _ _ _ (T217.setTop (mkF m 274 #[.val (.int xa), .val (.int xb), .val (.int xc), .val (.int xd), .val (.int (2 : Int32)), .val (.int (own_n lH)), .val (.int (0 : Int32)), .val (.ref wA), .val (.ref wB), .val (.ref wC), .val (.ref wD), .val (.ref wE), .val (.ref wF), .val (.ref oS), .val (.ref oH), .val (.ref oT), .val (.ref b1), .val (.ref r_39)] []))
        refine own_on (fun t_ k_ => XS.iload X217.here hx rfl (hb hby at_274) rfl k_) ?_
        refine own_on (fun t_ k_ => XS.iconst X217.here hx rfl (hb hby at_276) k_) ?_
        refine own_on (fun t_ k_ => XS.icmpYes X217.here hx rfl (pc0 := 277) (pc' := 302) rfl (hb hby at_277) rfl (tlt (by decide : (0 : Int32) < (1 : Int32))).1 (by decide) (by decide) k_) ?_
        show OwnGo p e below s _ _ _ (T217.setTop (mkF m 302 #[.val (.int xa), .val (.int xb), .val (.int xc), .val (.int xd), .val (.int (2 : Int32)), .val (.int (own_n lH)), .val (.int (0 : Int32)), .val (.ref wA), .val (.ref wB), .val (.ref wC), .val (.ref wD), .val (.ref wE), .val (.ref wF), .val (.ref oS), .val (.ref oH), .val (.ref oT), .val (.ref b1), .val (.ref r_39)] []))
        refine own_on (fun t_ k_ => XS.iload X217.here hx rfl (hb hby at_302) rfl k_) ?_
        refine own_on (fun t_ k_ => XS.iconst X217.here hx rfl (hb hby at_304) k_) ?_
        refine own_on (fun t_ k_ => XS.icmpYes X217.here hx rfl (pc0 := 305) (pc' := 332) rfl (hb hby at_305) rfl (tlt (by decide : (0 : Int32) < (2 : Int32))).1 (by decide) (by decide) k_) ?_
        show OwnGo p e below s _ _ _ (T217.setTop (mkF m 332 #[.val (.int xa), .val (.int xb), .val (.int xc), .val (.int xd), .val (.int (2 : Int32)), .val (.int (own_n lH)), .val (.int (0 : Int32)), .val (.ref wA), .val (.ref wB), .val (.ref wC), .val (.ref wD), .val (.ref wE), .val (.ref wF), .val (.ref oS), .val (.ref oH), .val (.ref oT), .val (.ref b1), .val (.ref r_39)] []))
        refine own_on (fun t_ k_ => XS.aload X217.here hx rfl (hb hby at_332) rfl rfl k_) ?_
        have f218 : Fld Z T39.heap oS "java/util/ArrayList" "size" "I" (.int (own_n lS)) := f22.keep K39q nin0
        have f219 : Exa Z T39.heap oS "java/util/ArrayList" := f18.keep K39q
        obtain ⟨cq220, kq220, q220a, q220b, q220c⟩ := isOf hZ e217 f219
        obtain ⟨_, _, ⟨T220, L220, k220, n220⟩, -, X220, ⟨Lc220, hQ220, l220, y220, z220⟩, st220⟩ := X217.virtualBack hx (y := (⟨"java/util/ArrayList", "size", "()I"⟩ : MethodName)) (z := (⟨"java/util/ArrayList", "size", "()I"⟩ : MethodName)) hown (mvT hZ (w137 hw)) (mvT hZ (w138 hw)) (notFace_of_selects (args := #[]) (mvT hZ (w139 hw))) (mvT hZ (w139 hw)) (mvT hZ (w132 hw)) (by decide) (backOf (W := 0) (rm20 l Z a0 hw [] oS lS T39.heap n0 Z39 f218) hZ (w136 hw) (w36 hw) (by decide) (by decide)) q220a q220c (g := (mkF m 334 #[.val (.int xa), .val (.int xb), .val (.int xc), .val (.int xd), .val (.int (2 : Int32)), .val (.int (own_n lH)), .val (.int (0 : Int32)), .val (.ref wA), .val (.ref wB), .val (.ref wC), .val (.ref wD), .val (.ref wE), .val (.ref wF), .val (.ref oS), .val (.ref oH), .val (.ref oT), .val (.ref b1), .val (.ref r_39)] [(.ref oS)])) rfl (by rw [hml]; rfl) (Steps.refl _) (argsL := []) (rest := []) (lenOf pd_15 rfl) rfl (by show 2 * 0 + _ ≤ _; exact Nat.le_of_eq rfl) (hb hby at_334) (fun _ hWx => ⟨rfl, e217, (by decide : 33 + 0 ≤ _), (by decide : 158 + 0 ≤ _)⟩)
        dsimp only [Pt.U, Pt.locs, Pt.cells, Pt.slots] at X220 l220 y220 z220 st220 hQ220
        replace X220 := own_num (c' := 33) (n' := 158) X220 l220 (y220.trans rfl) (z220.trans rfl)
        obtain ⟨rfl, N220q, e220⟩ := hQ220
        have N220 := Fr.app N217 N220q
        refine own_tr st220 ?_
        show OwnGo p e below s _ _ _ (T220.setTop (mkF m 337 #[.val (.int xa), .val (.int xb), .val (.int xc), .val (.int xd), .val (.int (2 : Int32)), .val (.int (own_n lH)), .val (.int (0 : Int32)), .val (.ref wA), .val (.ref wB), .val (.ref wC), .val (.ref wD), .val (.ref wE), .val (.ref wF), .val (.ref oS), .val (.ref oH), .val (.ref oT), .val (.ref b1), .val (.ref r_39)] [(.int (own_n lS))]))
        rw [show (own_n lS) = (2 : Int32) from hvS]
        show OwnGo p e below s _ _ _ (T220.setTop (mkF m 337 #[.val (.int xa), .val (.int xb), .val (.int xc), .val (.int xd), .val (.int (2 : Int32)), .val (.int (own_n lH)), .val (.int (0 : Int32)), .val (.ref wA), .val (.ref wB), .val (.ref wC), .val (.ref wD), .val (.ref wE), .val (.ref wF), .val (.ref oS), .val (.ref oH), .val (.ref oT), .val (.ref b1), .val (.ref r_39)] [(.int (2 : Int32))]))
        refine own_on (fun t_ k_ => XS.iload X220.here hx rfl (hb hby at_337) rfl k_) ?_
        refine own_on (fun t_ k_ => XS.icmpYes X220.here hx rfl (pc0 := 339) (pc' := 344) rfl (hb hby at_339) rfl (teq (by decide : (2 : Int32) = (2 : Int32))).1 (by decide) (by decide) k_) ?_
        show OwnGo p e below s _ _ _ (T220.setTop (mkF m 344 #[.val (.int xa), .val (.int xb), .val (.int xc), .val (.int xd), .val (.int (2 : Int32)), .val (.int (own_n lH)), .val (.int (0 : Int32)), .val (.ref wA), .val (.ref wB), .val (.ref wC), .val (.ref wD), .val (.ref wE), .val (.ref wF), .val (.ref oS), .val (.ref oH), .val (.ref oT), .val (.ref b1), .val (.ref r_39)] []))
        refine own_on (fun t_ k_ => XS.aload X220.here hx rfl (hb hby at_344) rfl rfl k_) ?_
        have f221 : Fld Z h1 oH "java/util/ArrayList" "size" "I" (.int (own_n lH)) := fq7.ext E1
        have f222 : Fld Z T16.heap oH "java/util/ArrayList" "size" "I" (.int (own_n lH)) := f221.keep K16q (ninS ne4 nin0)
        have f223 : Fld Z T39.heap oH "java/util/ArrayList" "size" "I" (.int (own_n lH)) := f222.keep K39q nin0
        have f224 : Exa Z h1 oH "java/util/ArrayList" := fq5.ext E1
        have f225 : Exa Z T16.heap oH "java/util/ArrayList" := f224.keep K16q
        have f226 : Exa Z T39.heap oH "java/util/ArrayList" := f225.keep K39q
        obtain ⟨cq227, kq227, q227a, q227b, q227c⟩ := isOf hZ e220 f226
        obtain ⟨_, _, ⟨T227, L227, k227, n227⟩, -, X227, ⟨Lc227, hQ227, l227, y227, z227⟩, st227⟩ := X220.virtualBack hx (y := (⟨"java/util/ArrayList", "size", "()I"⟩ : MethodName)) (z := (⟨"java/util/ArrayList", "size", "()I"⟩ : MethodName)) hown (mvT hZ (w137 hw)) (mvT hZ (w138 hw)) (notFace_of_selects (args := #[]) (mvT hZ (w139 hw))) (mvT hZ (w139 hw)) (mvT hZ (w132 hw)) (by decide) (backOf (W := 0) (rm20 l Z a0 hw [] oH lH T39.heap n0 Z39 f223) hZ (w136 hw) (w36 hw) (by decide) (by decide)) q227a q227c (g := (mkF m 346 #[.val (.int xa), .val (.int xb), .val (.int xc), .val (.int xd), .val (.int (2 : Int32)), .val (.int (own_n lH)), .val (.int (0 : Int32)), .val (.ref wA), .val (.ref wB), .val (.ref wC), .val (.ref wD), .val (.ref wE), .val (.ref wF), .val (.ref oS), .val (.ref oH), .val (.ref oT), .val (.ref b1), .val (.ref r_39)] [(.ref oH)])) rfl (by rw [hml]; rfl) (Steps.refl _) (argsL := []) (rest := []) (lenOf pd_15 rfl) rfl (by show 2 * 0 + _ ≤ _; exact Nat.le_of_eq rfl) (hb hby at_346) (fun _ hWx => ⟨rfl, e220, (by decide : 33 + 0 ≤ _), (by decide : 158 + 0 ≤ _)⟩)
        dsimp only [Pt.U, Pt.locs, Pt.cells, Pt.slots] at X227 l227 y227 z227 st227 hQ227
        replace X227 := own_num (c' := 33) (n' := 158) X227 l227 (y227.trans rfl) (z227.trans rfl)
        obtain ⟨rfl, N227q, e227⟩ := hQ227
        have N227 := Fr.app N220 N227q
        refine own_tr st227 ?_
        show OwnGo p e below s _ _ _ (T227.setTop (mkF m 349 #[.val (.int xa), .val (.int xb), .val (.int xc), .val (.int xd), .val (.int (2 : Int32)), .val (.int (own_n lH)), .val (.int (0 : Int32)), .val (.ref wA), .val (.ref wB), .val (.ref wC), .val (.ref wD), .val (.ref wE), .val (.ref wF), .val (.ref oS), .val (.ref oH), .val (.ref oT), .val (.ref b1), .val (.ref r_39)] [(.int (own_n lH))]))
        refine own_on (fun t_ k_ => XS.iload X227.here hx rfl (hb hby at_349) rfl k_) ?_
        refine own_on (fun t_ k_ => XS.icmpYes X227.here hx rfl (pc0 := 351) (pc' := 356) rfl (hb hby at_351) rfl (teq rfl).1 (by decide) (by decide) k_) ?_
        show OwnGo p e below s _ _ _ (T227.setTop (mkF m 356 #[.val (.int xa), .val (.int xb), .val (.int xc), .val (.int xd), .val (.int (2 : Int32)), .val (.int (own_n lH)), .val (.int (0 : Int32)), .val (.ref wA), .val (.ref wB), .val (.ref wC), .val (.ref wD), .val (.ref wE), .val (.ref wF), .val (.ref oS), .val (.ref oH), .val (.ref oT), .val (.ref b1), .val (.ref r_39)] []))
        refine own_on (fun t_ k_ => XS.aload X227.here hx rfl (hb hby at_356) rfl rfl k_) ?_
        have f228 : Fld Z T39.heap oT "java/util/ArrayList" "size" "I" (.int (own_n lT)) := f32.keep K39q nin0
        have f229 : Exa Z T39.heap oT "java/util/ArrayList" := f28.keep K39q
        obtain ⟨cq230, kq230, q230a, q230b, q230c⟩ := isOf hZ e227 f229
        obtain ⟨_, _, ⟨T230, L230, k230, n230⟩, -, X230, ⟨Lc230, hQ230, l230, y230, z230⟩, st230⟩ := X227.virtualBack hx (y := (⟨"java/util/ArrayList", "size", "()I"⟩ : MethodName)) (z := (⟨"java/util/ArrayList", "size", "()I"⟩ : MethodName)) hown (mvT hZ (w137 hw)) (mvT hZ (w138 hw)) (notFace_of_selects (args := #[]) (mvT hZ (w139 hw))) (mvT hZ (w139 hw)) (mvT hZ (w132 hw)) (by decide) (backOf (W := 0) (rm20 l Z a0 hw [] oT lT T39.heap n0 Z39 f228) hZ (w136 hw) (w36 hw) (by decide) (by decide)) q230a q230c (g := (mkF m 358 #[.val (.int xa), .val (.int xb), .val (.int xc), .val (.int xd), .val (.int (2 : Int32)), .val (.int (own_n lH)), .val (.int (0 : Int32)), .val (.ref wA), .val (.ref wB), .val (.ref wC), .val (.ref wD), .val (.ref wE), .val (.ref wF), .val (.ref oS), .val (.ref oH), .val (.ref oT), .val (.ref b1), .val (.ref r_39)] [(.ref oT)])) rfl (by rw [hml]; rfl) (Steps.refl _) (argsL := []) (rest := []) (lenOf pd_15 rfl) rfl (by show 2 * 0 + _ ≤ _; exact Nat.le_of_eq rfl) (hb hby at_358) (fun _ hWx => ⟨rfl, e227, (by decide : 33 + 0 ≤ _), (by decide : 158 + 0 ≤ _)⟩)
        dsimp only [Pt.U, Pt.locs, Pt.cells, Pt.slots] at X230 l230 y230 z230 st230 hQ230
        replace X230 := own_num (c' := 33) (n' := 158) X230 l230 (y230.trans rfl) (z230.trans rfl)
        obtain ⟨rfl, N230q, e230⟩ := hQ230
        have N230 := Fr.app N227 N230q
        refine own_tr st230 ?_
        show OwnGo p e below s _ _ _ (T230.setTop (mkF m 361 #[.val (.int xa), .val (.int xb), .val (.int xc), .val (.int xd), .val (.int (2 : Int32)), .val (.int (own_n lH)), .val (.int (0 : Int32)), .val (.ref wA), .val (.ref wB), .val (.ref wC), .val (.ref wD), .val (.ref wE), .val (.ref wF), .val (.ref oS), .val (.ref oH), .val (.ref oT), .val (.ref b1), .val (.ref r_39)] [(.int (own_n lT))]))
        rw [show (own_n lT) = (0 : Int32) from hvT]
        show OwnGo p e below s _ _ _ (T230.setTop (mkF m 361 #[.val (.int xa), .val (.int xb), .val (.int xc), .val (.int xd), .val (.int (2 : Int32)), .val (.int (own_n lH)), .val (.int (0 : Int32)), .val (.ref wA), .val (.ref wB), .val (.ref wC), .val (.ref wD), .val (.ref wE), .val (.ref wF), .val (.ref oS), .val (.ref oH), .val (.ref oT), .val (.ref b1), .val (.ref r_39)] [(.int (0 : Int32))]))
        refine own_on (fun t_ k_ => XS.iload X230.here hx rfl (hb hby at_361) rfl k_) ?_
        refine own_on (fun t_ k_ => XS.icmpYes X230.here hx rfl (pc0 := 363) (pc' := 368) rfl (hb hby at_363) rfl (teq (by decide : (0 : Int32) = (0 : Int32))).1 (by decide) (by decide) k_) ?_
        show OwnGo p e below s _ _ _ (T230.setTop (mkF m 368 #[.val (.int xa), .val (.int xb), .val (.int xc), .val (.int xd), .val (.int (2 : Int32)), .val (.int (own_n lH)), .val (.int (0 : Int32)), .val (.ref wA), .val (.ref wB), .val (.ref wC), .val (.ref wD), .val (.ref wE), .val (.ref wF), .val (.ref oS), .val (.ref oH), .val (.ref oT), .val (.ref b1), .val (.ref r_39)] []))
        refine own_on (fun t_ k_ => XS.iconst X230.here hx rfl (hb hby at_368) k_) ?_
        exact own_retN X230 hx hlk (t := .boolean) Bd.returns (by simp) (hb hby at_369) e230 ⟨rfl, N230, K39⟩ (by decide) (by decide)
      · rw [show (own_n lS) = (2 : Int32) from hvS]
        show OwnGo p e below s _ _ _ (T40.setTop (mkF m 220 #[.val (.int xa), .val (.int xb), .val (.int xc), .val (.int xd), .val (.int (2 : Int32)), .val (.int (own_n lH)), .val (.int (own_n lT)), .val (.ref wA), .val (.ref wB), .val (.ref wC), .val (.ref wD), .val (.ref wE), .val (.ref wF), .val (.ref oS), .val (.ref oH), .val (.ref oT), .val (.ref b1), .val (.ref r_39)] []))
        rw [show (own_n lT) = (1 : Int32) from hvT]
        show OwnGo p e below s _ _ _ (T40.setTop (mkF m 220 #[.val (.int xa), .val (.int xb), .val (.int xc), .val (.int xd), .val (.int (2 : Int32)), .val (.int (own_n lH)), .val (.int (1 : Int32)), .val (.ref wA), .val (.ref wB), .val (.ref wC), .val (.ref wD), .val (.ref wE), .val (.ref wF), .val (.ref oS), .val (.ref oH), .val (.ref oT), .val (.ref b1), .val (.ref r_39)] []))
        refine own_on (fun t_ k_ => XS.iload X40.here hx rfl (hb hby at_220) rfl k_) ?_
        refine own_on (fun t_ k_ => XS.iconst X40.here hx rfl (hb hby at_222) k_) ?_
        refine own_on (fun t_ k_ => XS.icmpNo X40.here hx rfl (hb hby at_223) rfl (flt (by decide : ¬ ((2 : Int32) < (1 : Int32)))).1 k_) ?_
        show OwnGo p e below s _ _ _ (T40.setTop (mkF m 226 #[.val (.int xa), .val (.int xb), .val (.int xc), .val (.int xd), .val (.int (2 : Int32)), .val (.int (own_n lH)), .val (.int (1 : Int32)), .val (.ref wA), .val (.ref wB), .val (.ref wC), .val (.ref wD), .val (.ref wE), .val (.ref wF), .val (.ref oS), .val (.ref oH), .val (.ref oT), .val (.ref b1), .val (.ref r_39)] []))
        refine own_on (fun t_ k_ => XS.aload X40.here hx rfl (hb hby at_226) rfl rfl k_) ?_
        refine own_on (fun t_ k_ => XS.iconst X40.here hx rfl (hb hby at_228) k_) ?_
        have hr231 : (0 : Int32) < (own_n (lS ++ lT)) := ((own_lt' (x := 0) (y := (lS ++ lT).length) (by decide) (by rw [List.length_append]; omega)).mpr (by rw [hlS, hlT]; exact Nat.le_of_ble_eq_true rfl))
        have hr232 : ((lS ++ lT).map Value.ref).getD ((0 : Int32)).toNatClampNeg .null = .ref wA := by rw [hlS, hlT]; rfl
        have hr233 : (0 : Int32) < Int32.ofNat cp2_39 := by obtain ⟨_, _, _, q⟩ := own_at c39_3 (by decide) hr231; exact q
        obtain ⟨cq234, kq234, q234a, q234b, q234c⟩ := isOf hZ e40 c39_0
        obtain ⟨_, _, ⟨T234, L234, k234, n234⟩, -, X234, ⟨Lc234, hQ234, l234, y234, z234⟩, st234⟩ := X40.interfaceBack hx (xi := (⟨"java/util/List", "get", "(I)Ljava/lang/Object;"⟩ : MethodName)) (y := (⟨"java/util/ArrayList", "get", "(I)Ljava/lang/Object;"⟩ : MethodName)) hown (mvT hZ (w172 hw)) (mvT hZ (w173 hw)) (mvT hZ (w174 hw)) (mvT hZ (w175 hw)) (mvT hZ (w176 hw)) (mvT hZ (w177 hw)) (mvT hZ (w178 hw)) (mvT hZ (w135 hw)) (by decide) (backOf (W := 0) (rm26 l Z a0 hw [] r_39 (0 : Int32) ea2_39 cp2_39 (lS ++ lT) wA T39.heap n0 Z39 c39_0 c39_1 c39_2 c39_3 (by decide : ¬ (0 : Int32) < 0) hr231 hr232 hr233) hZ (w179 hw) (w36 hw) (by decide) (by decide)) q234a q234b q234c (g := (mkF m 229 #[.val (.int xa), .val (.int xb), .val (.int xc), .val (.int xd), .val (.int (2 : Int32)), .val (.int (own_n lH)), .val (.int (1 : Int32)), .val (.ref wA), .val (.ref wB), .val (.ref wC), .val (.ref wD), .val (.ref wE), .val (.ref wF), .val (.ref oS), .val (.ref oH), .val (.ref oT), .val (.ref b1), .val (.ref r_39)] [(.int (0 : Int32)), (.ref r_39)])) rfl (by rw [hml]; rfl) (Steps.refl _) (argsL := [(.int (0 : Int32))]) (rest := []) (lenOf pd_9 rfl) rfl (by show 2 * 0 + _ ≤ _; exact Nat.le_of_eq rfl) (hb hby at_229) (fun _ hWx => ⟨rfl, e40, (by decide : 33 + 0 ≤ _), (by decide : 158 + 0 ≤ _)⟩)
        dsimp only [Pt.U, Pt.locs, Pt.cells, Pt.slots] at X234 l234 y234 z234 st234 hQ234
        replace X234 := own_num (c' := 33) (n' := 158) X234 l234 (y234.trans rfl) (z234.trans rfl)
        obtain ⟨rfl, N234q, e234⟩ := hQ234
        have N234 := Fr.app N40 N234q
        refine own_tr st234 ?_
        show OwnGo p e below s _ _ _ (T234.setTop (mkF m 234 #[.val (.int xa), .val (.int xb), .val (.int xc), .val (.int xd), .val (.int (2 : Int32)), .val (.int (own_n lH)), .val (.int (1 : Int32)), .val (.ref wA), .val (.ref wB), .val (.ref wC), .val (.ref wD), .val (.ref wE), .val (.ref wF), .val (.ref oS), .val (.ref oH), .val (.ref oT), .val (.ref b1), .val (.ref r_39)] [(.ref wA)]))
        have f235 : Exa Z h1 wA "java/lang/String" := fq16.ext E1
        have f236 : Exa Z T16.heap wA "java/lang/String" := f235.keep K16q
        have f237 : Exa Z T39.heap wA "java/lang/String" := f236.keep K39q
        obtain ⟨T238, X238, e238, st238⟩ := castY X234 hx hZ hown (w5 hw) e234 (Ins.self f237) (g := (mkF m 234 #[.val (.int xa), .val (.int xb), .val (.int xc), .val (.int xd), .val (.int (2 : Int32)), .val (.int (own_n lH)), .val (.int (1 : Int32)), .val (.ref wA), .val (.ref wB), .val (.ref wC), .val (.ref wD), .val (.ref wE), .val (.ref wF), .val (.ref oS), .val (.ref oH), .val (.ref oT), .val (.ref b1), .val (.ref r_39)] [(.ref wA)])) rfl rfl (hb hby at_234)
        refine own_on st238 ?_
        show OwnGo p e below s _ _ _ (T238.setTop (mkF m 237 #[.val (.int xa), .val (.int xb), .val (.int xc), .val (.int xd), .val (.int (2 : Int32)), .val (.int (own_n lH)), .val (.int (1 : Int32)), .val (.ref wA), .val (.ref wB), .val (.ref wC), .val (.ref wD), .val (.ref wE), .val (.ref wF), .val (.ref oS), .val (.ref oH), .val (.ref oT), .val (.ref b1), .val (.ref r_39)] [(.ref wA)]))
        refine own_on (fun t_ k_ => XS.aload X238.here hx rfl (hb hby at_237) rfl rfl k_) ?_
        obtain ⟨cq239, kq239, q239a, q239b, q239c⟩ := isOf hZ e238 f237
        obtain ⟨_, _, ⟨T239, L239, k239, n239⟩, -, X239, ⟨Lc239, hQ239, l239, y239, z239⟩, st239⟩ := X238.virtualBack hx (y := (⟨"java/lang/String", "equals", "(Ljava/lang/Object;)Z"⟩ : MethodName)) (z := (⟨"java/lang/String", "equals", "(Ljava/lang/Object;)Z"⟩ : MethodName)) hown (mvT hZ (w193 hw)) (mvT hZ (w194 hw)) (notFace_of_selects (args := #[]) (mvT hZ (w196 hw))) (mvT hZ (w196 hw)) (mvT hZ (w195 hw)) (by decide) (backOf (W := 0) (rm30 l Z a0 hw [] wA T39.heap n0 Z39 ) hZ (w197 hw) (w7 hw) (by decide) (by decide)) q239a q239c (g := (mkF m 239 #[.val (.int xa), .val (.int xb), .val (.int xc), .val (.int xd), .val (.int (2 : Int32)), .val (.int (own_n lH)), .val (.int (1 : Int32)), .val (.ref wA), .val (.ref wB), .val (.ref wC), .val (.ref wD), .val (.ref wE), .val (.ref wF), .val (.ref oS), .val (.ref oH), .val (.ref oT), .val (.ref b1), .val (.ref r_39)] [(.ref wA), (.ref wA)])) rfl (by rw [hml]; rfl) (Steps.refl _) (argsL := [(.ref wA)]) (rest := []) (lenOf pd_16 rfl) rfl (by show 2 * 0 + _ ≤ _; exact Nat.le_of_eq rfl) (hb hby at_239) (fun _ hWx => ⟨rfl, e238, (by decide : 33 + 0 ≤ _), (by decide : 158 + 0 ≤ _)⟩)
        dsimp only [Pt.U, Pt.locs, Pt.cells, Pt.slots] at X239 l239 y239 z239 st239 hQ239
        replace X239 := own_num (c' := 33) (n' := 158) X239 l239 (y239.trans rfl) (z239.trans rfl)
        obtain ⟨rfl, N239q, e239⟩ := hQ239
        have N239 := Fr.app N234 N239q
        refine own_tr st239 ?_
        show OwnGo p e below s _ _ _ (T239.setTop (mkF m 242 #[.val (.int xa), .val (.int xb), .val (.int xc), .val (.int xd), .val (.int (2 : Int32)), .val (.int (own_n lH)), .val (.int (1 : Int32)), .val (.ref wA), .val (.ref wB), .val (.ref wC), .val (.ref wD), .val (.ref wE), .val (.ref wF), .val (.ref oS), .val (.ref oH), .val (.ref oT), .val (.ref b1), .val (.ref r_39)] [(.int (1 : Int32))]))
        refine own_on (fun t_ k_ => XS.ifYes X239.here hx rfl (pc0 := 242) (pc' := 247) rfl (hb hby at_242) rfl ((if0 _ _).trans (feq (by decide : ¬ ((1 : Int32) = (0 : Int32)))).2) (by decide) (by decide) k_) ?_
        show OwnGo p e below s _ _ _ (T239.setTop (mkF m 247 #[.val (.int xa), .val (.int xb), .val (.int xc), .val (.int xd), .val (.int (2 : Int32)), .val (.int (own_n lH)), .val (.int (1 : Int32)), .val (.ref wA), .val (.ref wB), .val (.ref wC), .val (.ref wD), .val (.ref wE), .val (.ref wF), .val (.ref oS), .val (.ref oH), .val (.ref oT), .val (.ref b1), .val (.ref r_39)] []))
        refine own_on (fun t_ k_ => XS.iload X239.here hx rfl (hb hby at_247) rfl k_) ?_
        refine own_on (fun t_ k_ => XS.iconst X239.here hx rfl (hb hby at_249) k_) ?_
        refine own_on (fun t_ k_ => XS.icmpNo X239.here hx rfl (hb hby at_250) rfl (flt (by decide : ¬ ((2 : Int32) < (2 : Int32)))).1 k_) ?_
        show OwnGo p e below s _ _ _ (T239.setTop (mkF m 253 #[.val (.int xa), .val (.int xb), .val (.int xc), .val (.int xd), .val (.int (2 : Int32)), .val (.int (own_n lH)), .val (.int (1 : Int32)), .val (.ref wA), .val (.ref wB), .val (.ref wC), .val (.ref wD), .val (.ref wE), .val (.ref wF), .val (.ref oS), .val (.ref oH), .val (.ref oT), .val (.ref b1), .val (.ref r_39)] []))
        refine own_on (fun t_ k_ => XS.aload X239.here hx rfl (hb hby at_253) rfl rfl k_) ?_
        refine own_on (fun t_ k_ => XS.iconst X239.here hx rfl (hb hby at_255) k_) ?_
        have hr240 : (1 : Int32) < (own_n (lS ++ lT)) := ((own_lt' (x := 1) (y := (lS ++ lT).length) (by decide) (by rw [List.length_append]; omega)).mpr (by rw [hlS, hlT]; exact Nat.le_of_ble_eq_true rfl))
        have hr241 : ((lS ++ lT).map Value.ref).getD ((1 : Int32)).toNatClampNeg .null = .ref wB := by rw [hlS, hlT]; rfl
        have hr242 : (1 : Int32) < Int32.ofNat cp2_39 := by obtain ⟨_, _, _, q⟩ := own_at c39_3 (by decide) hr240; exact q
        obtain ⟨cq243, kq243, q243a, q243b, q243c⟩ := isOf hZ e239 c39_0
        obtain ⟨_, _, ⟨T243, L243, k243, n243⟩, -, X243, ⟨Lc243, hQ243, l243, y243, z243⟩, st243⟩ := X239.interfaceBack hx (xi := (⟨"java/util/List", "get", "(I)Ljava/lang/Object;"⟩ : MethodName)) (y := (⟨"java/util/ArrayList", "get", "(I)Ljava/lang/Object;"⟩ : MethodName)) hown (mvT hZ (w172 hw)) (mvT hZ (w173 hw)) (mvT hZ (w174 hw)) (mvT hZ (w175 hw)) (mvT hZ (w176 hw)) (mvT hZ (w177 hw)) (mvT hZ (w178 hw)) (mvT hZ (w135 hw)) (by decide) (backOf (W := 0) (rm26 l Z a0 hw [] r_39 (1 : Int32) ea2_39 cp2_39 (lS ++ lT) wB T39.heap n0 Z39 c39_0 c39_1 c39_2 c39_3 (by decide : ¬ (1 : Int32) < 0) hr240 hr241 hr242) hZ (w179 hw) (w36 hw) (by decide) (by decide)) q243a q243b q243c (g := (mkF m 256 #[.val (.int xa), .val (.int xb), .val (.int xc), .val (.int xd), .val (.int (2 : Int32)), .val (.int (own_n lH)), .val (.int (1 : Int32)), .val (.ref wA), .val (.ref wB), .val (.ref wC), .val (.ref wD), .val (.ref wE), .val (.ref wF), .val (.ref oS), .val (.ref oH), .val (.ref oT), .val (.ref b1), .val (.ref r_39)] [(.int (1 : Int32)), (.ref r_39)])) rfl (by rw [hml]; rfl) (Steps.refl _) (argsL := [(.int (1 : Int32))]) (rest := []) (lenOf pd_9 rfl) rfl (by show 2 * 0 + _ ≤ _; exact Nat.le_of_eq rfl) (hb hby at_256) (fun _ hWx => ⟨rfl, e239, (by decide : 33 + 0 ≤ _), (by decide : 158 + 0 ≤ _)⟩)
        dsimp only [Pt.U, Pt.locs, Pt.cells, Pt.slots] at X243 l243 y243 z243 st243 hQ243
        replace X243 := own_num (c' := 33) (n' := 158) X243 l243 (y243.trans rfl) (z243.trans rfl)
        obtain ⟨rfl, N243q, e243⟩ := hQ243
        have N243 := Fr.app N239 N243q
        refine own_tr st243 ?_
        show OwnGo p e below s _ _ _ (T243.setTop (mkF m 261 #[.val (.int xa), .val (.int xb), .val (.int xc), .val (.int xd), .val (.int (2 : Int32)), .val (.int (own_n lH)), .val (.int (1 : Int32)), .val (.ref wA), .val (.ref wB), .val (.ref wC), .val (.ref wD), .val (.ref wE), .val (.ref wF), .val (.ref oS), .val (.ref oH), .val (.ref oT), .val (.ref b1), .val (.ref r_39)] [(.ref wB)]))
        have f244 : Exa Z h1 wB "java/lang/String" := fq17.ext E1
        have f245 : Exa Z T16.heap wB "java/lang/String" := f244.keep K16q
        have f246 : Exa Z T39.heap wB "java/lang/String" := f245.keep K39q
        obtain ⟨T247, X247, e247, st247⟩ := castY X243 hx hZ hown (w5 hw) e243 (Ins.self f246) (g := (mkF m 261 #[.val (.int xa), .val (.int xb), .val (.int xc), .val (.int xd), .val (.int (2 : Int32)), .val (.int (own_n lH)), .val (.int (1 : Int32)), .val (.ref wA), .val (.ref wB), .val (.ref wC), .val (.ref wD), .val (.ref wE), .val (.ref wF), .val (.ref oS), .val (.ref oH), .val (.ref oT), .val (.ref b1), .val (.ref r_39)] [(.ref wB)])) rfl rfl (hb hby at_261)
        refine own_on st247 ?_
        show OwnGo p e below s _ _ _ (T247.setTop (mkF m 264 #[.val (.int xa), .val (.int xb), .val (.int xc), .val (.int xd), .val (.int (2 : Int32)), .val (.int (own_n lH)), .val (.int (1 : Int32)), .val (.ref wA), .val (.ref wB), .val (.ref wC), .val (.ref wD), .val (.ref wE), .val (.ref wF), .val (.ref oS), .val (.ref oH), .val (.ref oT), .val (.ref b1), .val (.ref r_39)] [(.ref wB)]))
        refine own_on (fun t_ k_ => XS.aload X247.here hx rfl (hb hby at_264) rfl rfl k_) ?_
        obtain ⟨cq248, kq248, q248a, q248b, q248c⟩ := isOf hZ e247 f246
        obtain ⟨_, _, ⟨T248, L248, k248, n248⟩, -, X248, ⟨Lc248, hQ248, l248, y248, z248⟩, st248⟩ := X247.virtualBack hx (y := (⟨"java/lang/String", "equals", "(Ljava/lang/Object;)Z"⟩ : MethodName)) (z := (⟨"java/lang/String", "equals", "(Ljava/lang/Object;)Z"⟩ : MethodName)) hown (mvT hZ (w193 hw)) (mvT hZ (w194 hw)) (notFace_of_selects (args := #[]) (mvT hZ (w196 hw))) (mvT hZ (w196 hw)) (mvT hZ (w195 hw)) (by decide) (backOf (W := 0) (rm30 l Z a0 hw [] wB T39.heap n0 Z39 ) hZ (w197 hw) (w7 hw) (by decide) (by decide)) q248a q248c (g := (mkF m 266 #[.val (.int xa), .val (.int xb), .val (.int xc), .val (.int xd), .val (.int (2 : Int32)), .val (.int (own_n lH)), .val (.int (1 : Int32)), .val (.ref wA), .val (.ref wB), .val (.ref wC), .val (.ref wD), .val (.ref wE), .val (.ref wF), .val (.ref oS), .val (.ref oH), .val (.ref oT), .val (.ref b1), .val (.ref r_39)] [(.ref wB), (.ref wB)])) rfl (by rw [hml]; rfl) (Steps.refl _) (argsL := [(.ref wB)]) (rest := []) (lenOf pd_16 rfl) rfl (by show 2 * 0 + _ ≤ _; exact Nat.le_of_eq rfl) (hb hby at_266) (fun _ hWx => ⟨rfl, e247, (by decide : 33 + 0 ≤ _), (by decide : 158 + 0 ≤ _)⟩)
        dsimp only [Pt.U, Pt.locs, Pt.cells, Pt.slots] at X248 l248 y248 z248 st248 hQ248
        replace X248 := own_num (c' := 33) (n' := 158) X248 l248 (y248.trans rfl) (z248.trans rfl)
        obtain ⟨rfl, N248q, e248⟩ := hQ248
        have N248 := Fr.app N243 N248q
        refine own_tr st248 ?_
        show OwnGo p e below s _ _ _ (T248.setTop (mkF m 269 #[.val (.int xa), .val (.int xb), .val (.int xc), .val (.int xd), .val (.int (2 : Int32)), .val (.int (own_n lH)), .val (.int (1 : Int32)), .val (.ref wA), .val (.ref wB), .val (.ref wC), .val (.ref wD), .val (.ref wE), .val (.ref wF), .val (.ref oS), .val (.ref oH), .val (.ref oT), .val (.ref b1), .val (.ref r_39)] [(.int (1 : Int32))]))
        refine own_on (fun t_ k_ => XS.ifYes X248.here hx rfl (pc0 := 269) (pc' := 274) rfl (hb hby at_269) rfl ((if0 _ _).trans (feq (by decide : ¬ ((1 : Int32) = (0 : Int32)))).2) (by decide) (by decide) k_) ?_
        show OwnGo p e below s _ _ _ (T248.setTop (mkF m 274 #[.val (.int xa), .val (.int xb), .val (.int xc), .val (.int xd), .val (.int (2 : Int32)), .val (.int (own_n lH)), .val (.int (1 : Int32)), .val (.ref wA), .val (.ref wB), .val (.ref wC), .val (.ref wD), .val (.ref wE), .val (.ref wF), .val (.ref oS), .val (.ref oH), .val (.ref oT), .val (.ref b1), .val (.ref r_39)] []))
        refine own_on (fun t_ k_ => XS.iload X248.here hx rfl (hb hby at_274) rfl k_) ?_
        refine own_on (fun t_ k_ => XS.iconst X248.here hx rfl (hb hby at_276) k_) ?_
        refine own_on (fun t_ k_ => XS.icmpNo X248.here hx rfl (hb hby at_277) rfl (flt (by decide : ¬ ((1 : Int32) < (1 : Int32)))).1 k_) ?_
        show OwnGo p e below s _ _ _ (T248.setTop (mkF m 280 #[.val (.int xa), .val (.int xb), .val (.int xc), .val (.int xd), .val (.int (2 : Int32)), .val (.int (own_n lH)), .val (.int (1 : Int32)), .val (.ref wA), .val (.ref wB), .val (.ref wC), .val (.ref wD), .val (.ref wE), .val (.ref wF), .val (.ref oS), .val (.ref oH), .val (.ref oT), .val (.ref b1), .val (.ref r_39)] []))
        refine own_on (fun t_ k_ => XS.aload X248.here hx rfl (hb hby at_280) rfl rfl k_) ?_
        refine own_on (fun t_ k_ => XS.iload X248.here hx rfl (hb hby at_282) rfl k_) ?_
        have hr249 : (2 : Int32) < (own_n (lS ++ lT)) := ((own_lt' (x := 2) (y := (lS ++ lT).length) (by decide) (by rw [List.length_append]; omega)).mpr (by rw [hlS, hlT]; exact Nat.le_of_ble_eq_true rfl))
        have hr250 : ((lS ++ lT).map Value.ref).getD ((2 : Int32)).toNatClampNeg .null = .ref wE := by rw [hlS, hlT]; rfl
        have hr251 : (2 : Int32) < Int32.ofNat cp2_39 := by obtain ⟨_, _, _, q⟩ := own_at c39_3 (by decide) hr249; exact q
        obtain ⟨cq252, kq252, q252a, q252b, q252c⟩ := isOf hZ e248 c39_0
        obtain ⟨_, _, ⟨T252, L252, k252, n252⟩, -, X252, ⟨Lc252, hQ252, l252, y252, z252⟩, st252⟩ := X248.interfaceBack hx (xi := (⟨"java/util/List", "get", "(I)Ljava/lang/Object;"⟩ : MethodName)) (y := (⟨"java/util/ArrayList", "get", "(I)Ljava/lang/Object;"⟩ : MethodName)) hown (mvT hZ (w172 hw)) (mvT hZ (w173 hw)) (mvT hZ (w174 hw)) (mvT hZ (w175 hw)) (mvT hZ (w176 hw)) (mvT hZ (w177 hw)) (mvT hZ (w178 hw)) (mvT hZ (w135 hw)) (by decide) (backOf (W := 0) (rm26 l Z a0 hw [] r_39 (2 : Int32) ea2_39 cp2_39 (lS ++ lT) wE T39.heap n0 Z39 c39_0 c39_1 c39_2 c39_3 (by decide : ¬ (2 : Int32) < 0) hr249 hr250 hr251) hZ (w179 hw) (w36 hw) (by decide) (by decide)) q252a q252b q252c (g := (mkF m 284 #[.val (.int xa), .val (.int xb), .val (.int xc), .val (.int xd), .val (.int (2 : Int32)), .val (.int (own_n lH)), .val (.int (1 : Int32)), .val (.ref wA), .val (.ref wB), .val (.ref wC), .val (.ref wD), .val (.ref wE), .val (.ref wF), .val (.ref oS), .val (.ref oH), .val (.ref oT), .val (.ref b1), .val (.ref r_39)] [(.int (2 : Int32)), (.ref r_39)])) rfl (by rw [hml]; rfl) (Steps.refl _) (argsL := [(.int (2 : Int32))]) (rest := []) (lenOf pd_9 rfl) rfl (by show 2 * 0 + _ ≤ _; exact Nat.le_of_eq rfl) (hb hby at_284) (fun _ hWx => ⟨rfl, e248, (by decide : 33 + 0 ≤ _), (by decide : 158 + 0 ≤ _)⟩)
        dsimp only [Pt.U, Pt.locs, Pt.cells, Pt.slots] at X252 l252 y252 z252 st252 hQ252
        replace X252 := own_num (c' := 33) (n' := 158) X252 l252 (y252.trans rfl) (z252.trans rfl)
        obtain ⟨rfl, N252q, e252⟩ := hQ252
        have N252 := Fr.app N248 N252q
        refine own_tr st252 ?_
        show OwnGo p e below s _ _ _ (T252.setTop (mkF m 289 #[.val (.int xa), .val (.int xb), .val (.int xc), .val (.int xd), .val (.int (2 : Int32)), .val (.int (own_n lH)), .val (.int (1 : Int32)), .val (.ref wA), .val (.ref wB), .val (.ref wC), .val (.ref wD), .val (.ref wE), .val (.ref wF), .val (.ref oS), .val (.ref oH), .val (.ref oT), .val (.ref b1), .val (.ref r_39)] [(.ref wE)]))
        have f253 : Exa Z h1 wE "java/lang/String" := fq20.ext E1
        have f254 : Exa Z T16.heap wE "java/lang/String" := f253.keep K16q
        have f255 : Exa Z T39.heap wE "java/lang/String" := f254.keep K39q
        obtain ⟨T256, X256, e256, st256⟩ := castY X252 hx hZ hown (w5 hw) e252 (Ins.self f255) (g := (mkF m 289 #[.val (.int xa), .val (.int xb), .val (.int xc), .val (.int xd), .val (.int (2 : Int32)), .val (.int (own_n lH)), .val (.int (1 : Int32)), .val (.ref wA), .val (.ref wB), .val (.ref wC), .val (.ref wD), .val (.ref wE), .val (.ref wF), .val (.ref oS), .val (.ref oH), .val (.ref oT), .val (.ref b1), .val (.ref r_39)] [(.ref wE)])) rfl rfl (hb hby at_289)
        refine own_on st256 ?_
        show OwnGo p e below s _ _ _ (T256.setTop (mkF m 292 #[.val (.int xa), .val (.int xb), .val (.int xc), .val (.int xd), .val (.int (2 : Int32)), .val (.int (own_n lH)), .val (.int (1 : Int32)), .val (.ref wA), .val (.ref wB), .val (.ref wC), .val (.ref wD), .val (.ref wE), .val (.ref wF), .val (.ref oS), .val (.ref oH), .val (.ref oT), .val (.ref b1), .val (.ref r_39)] [(.ref wE)]))
        refine own_on (fun t_ k_ => XS.aload X256.here hx rfl (hb hby at_292) rfl rfl k_) ?_
        obtain ⟨cq257, kq257, q257a, q257b, q257c⟩ := isOf hZ e256 f255
        obtain ⟨_, _, ⟨T257, L257, k257, n257⟩, -, X257, ⟨Lc257, hQ257, l257, y257, z257⟩, st257⟩ := X256.virtualBack hx (y := (⟨"java/lang/String", "equals", "(Ljava/lang/Object;)Z"⟩ : MethodName)) (z := (⟨"java/lang/String", "equals", "(Ljava/lang/Object;)Z"⟩ : MethodName)) hown (mvT hZ (w193 hw)) (mvT hZ (w194 hw)) (notFace_of_selects (args := #[]) (mvT hZ (w196 hw))) (mvT hZ (w196 hw)) (mvT hZ (w195 hw)) (by decide) (backOf (W := 0) (rm30 l Z a0 hw [] wE T39.heap n0 Z39 ) hZ (w197 hw) (w7 hw) (by decide) (by decide)) q257a q257c (g := (mkF m 294 #[.val (.int xa), .val (.int xb), .val (.int xc), .val (.int xd), .val (.int (2 : Int32)), .val (.int (own_n lH)), .val (.int (1 : Int32)), .val (.ref wA), .val (.ref wB), .val (.ref wC), .val (.ref wD), .val (.ref wE), .val (.ref wF), .val (.ref oS), .val (.ref oH), .val (.ref oT), .val (.ref b1), .val (.ref r_39)] [(.ref wE), (.ref wE)])) rfl (by rw [hml]; rfl) (Steps.refl _) (argsL := [(.ref wE)]) (rest := []) (lenOf pd_16 rfl) rfl (by show 2 * 0 + _ ≤ _; exact Nat.le_of_eq rfl) (hb hby at_294) (fun _ hWx => ⟨rfl, e256, (by decide : 33 + 0 ≤ _), (by decide : 158 + 0 ≤ _)⟩)
        dsimp only [Pt.U, Pt.locs, Pt.cells, Pt.slots] at X257 l257 y257 z257 st257 hQ257
        replace X257 := own_num (c' := 33) (n' := 158) X257 l257 (y257.trans rfl) (z257.trans rfl)
        obtain ⟨rfl, N257q, e257⟩ := hQ257
        have N257 := Fr.app N252 N257q
        refine own_tr st257 ?_
        show OwnGo p e below s _ _ _ (T257.setTop (mkF m 297 #[.val (.int xa), .val (.int xb), .val (.int xc), .val (.int xd), .val (.int (2 : Int32)), .val (.int (own_n lH)), .val (.int (1 : Int32)), .val (.ref wA), .val (.ref wB), .val (.ref wC), .val (.ref wD), .val (.ref wE), .val (.ref wF), .val (.ref oS), .val (.ref oH), .val (.ref oT), .val (.ref b1), .val (.ref r_39)] [(.int (1 : Int32))]))
        refine own_on (fun t_ k_ => XS.ifYes X257.here hx rfl (pc0 := 297) (pc' := 302) rfl (hb hby at_297) rfl ((if0 _ _).trans (feq (by decide : ¬ ((1 : Int32) = (0 : Int32)))).2) (by decide) (by decide) k_) ?_
        show OwnGo p e below s _ _ _ (T257.setTop (mkF m 302 #[.val (.int xa), .val (.int xb), .val (.int xc), .val (.int xd), .val (.int (2 : Int32)), .val (.int (own_n lH)), .val (.int (1 : Int32)), .val (.ref wA), .val (.ref wB), .val (.ref wC), .val (.ref wD), .val (.ref wE), .val (.ref wF), .val (.ref oS), .val (.ref oH), .val (.ref oT), .val (.ref b1), .val (.ref r_39)] []))
        refine own_on (fun t_ k_ => XS.iload X257.here hx rfl (hb hby at_302) rfl k_) ?_
        refine own_on (fun t_ k_ => XS.iconst X257.here hx rfl (hb hby at_304) k_) ?_
        refine own_on (fun t_ k_ => XS.icmpYes X257.here hx rfl (pc0 := 305) (pc' := 332) rfl (hb hby at_305) rfl (tlt (by decide : (1 : Int32) < (2 : Int32))).1 (by decide) (by decide) k_) ?_
        show OwnGo p e below s _ _ _ (T257.setTop (mkF m 332 #[.val (.int xa), .val (.int xb), .val (.int xc), .val (.int xd), .val (.int (2 : Int32)), .val (.int (own_n lH)), .val (.int (1 : Int32)), .val (.ref wA), .val (.ref wB), .val (.ref wC), .val (.ref wD), .val (.ref wE), .val (.ref wF), .val (.ref oS), .val (.ref oH), .val (.ref oT), .val (.ref b1), .val (.ref r_39)] []))
        refine own_on (fun t_ k_ => XS.aload X257.here hx rfl (hb hby at_332) rfl rfl k_) ?_
        have f258 : Fld Z T39.heap oS "java/util/ArrayList" "size" "I" (.int (own_n lS)) := f22.keep K39q nin0
        have f259 : Exa Z T39.heap oS "java/util/ArrayList" := f18.keep K39q
        obtain ⟨cq260, kq260, q260a, q260b, q260c⟩ := isOf hZ e257 f259
        obtain ⟨_, _, ⟨T260, L260, k260, n260⟩, -, X260, ⟨Lc260, hQ260, l260, y260, z260⟩, st260⟩ := X257.virtualBack hx (y := (⟨"java/util/ArrayList", "size", "()I"⟩ : MethodName)) (z := (⟨"java/util/ArrayList", "size", "()I"⟩ : MethodName)) hown (mvT hZ (w137 hw)) (mvT hZ (w138 hw)) (notFace_of_selects (args := #[]) (mvT hZ (w139 hw))) (mvT hZ (w139 hw)) (mvT hZ (w132 hw)) (by decide) (backOf (W := 0) (rm20 l Z a0 hw [] oS lS T39.heap n0 Z39 f258) hZ (w136 hw) (w36 hw) (by decide) (by decide)) q260a q260c (g := (mkF m 334 #[.val (.int xa), .val (.int xb), .val (.int xc), .val (.int xd), .val (.int (2 : Int32)), .val (.int (own_n lH)), .val (.int (1 : Int32)), .val (.ref wA), .val (.ref wB), .val (.ref wC), .val (.ref wD), .val (.ref wE), .val (.ref wF), .val (.ref oS), .val (.ref oH), .val (.ref oT), .val (.ref b1), .val (.ref r_39)] [(.ref oS)])) rfl (by rw [hml]; rfl) (Steps.refl _) (argsL := []) (rest := []) (lenOf pd_15 rfl) rfl (by show 2 * 0 + _ ≤ _; exact Nat.le_of_eq rfl) (hb hby at_334) (fun _ hWx => ⟨rfl, e257, (by decide : 33 + 0 ≤ _), (by decide : 158 + 0 ≤ _)⟩)
        dsimp only [Pt.U, Pt.locs, Pt.cells, Pt.slots] at X260 l260 y260 z260 st260 hQ260
        replace X260 := own_num (c' := 33) (n' := 158) X260 l260 (y260.trans rfl) (z260.trans rfl)
        obtain ⟨rfl, N260q, e260⟩ := hQ260
        have N260 := Fr.app N257 N260q
        refine own_tr st260 ?_
        show OwnGo p e below s _ _ _ (T260.setTop (mkF m 337 #[.val (.int xa), .val (.int xb), .val (.int xc), .val (.int xd), .val (.int (2 : Int32)), .val (.int (own_n lH)), .val (.int (1 : Int32)), .val (.ref wA), .val (.ref wB), .val (.ref wC), .val (.ref wD), .val (.ref wE), .val (.ref wF), .val (.ref oS), .val (.ref oH), .val (.ref oT), .val (.ref b1), .val (.ref r_39)] [(.int (own_n lS))]))
        rw [show (own_n lS) = (2 : Int32) from hvS]
        show OwnGo p e below s _ _ _ (T260.setTop (mkF m 337 #[.val (.int xa), .val (.int xb), .val (.int xc), .val (.int xd), .val (.int (2 : Int32)), .val (.int (own_n lH)), .val (.int (1 : Int32)), .val (.ref wA), .val (.ref wB), .val (.ref wC), .val (.ref wD), .val (.ref wE), .val (.ref wF), .val (.ref oS), .val (.ref oH), .val (.ref oT), .val (.ref b1), .val (.ref r_39)] [(.int (2 : Int32))]))
        refine own_on (fun t_ k_ => XS.iload X260.here hx rfl (hb hby at_337) rfl k_) ?_
        refine own_on (fun t_ k_ => XS.icmpYes X260.here hx rfl (pc0 := 339) (pc' := 344) rfl (hb hby at_339) rfl (teq (by decide : (2 : Int32) = (2 : Int32))).1 (by decide) (by decide) k_) ?_
        show OwnGo p e below s _ _ _ (T260.setTop (mkF m 344 #[.val (.int xa), .val (.int xb), .val (.int xc), .val (.int xd), .val (.int (2 : Int32)), .val (.int (own_n lH)), .val (.int (1 : Int32)), .val (.ref wA), .val (.ref wB), .val (.ref wC), .val (.ref wD), .val (.ref wE), .val (.ref wF), .val (.ref oS), .val (.ref oH), .val (.ref oT), .val (.ref b1), .val (.ref r_39)] []))
        refine own_on (fun t_ k_ => XS.aload X260.here hx rfl (hb hby at_344) rfl rfl k_) ?_
        have f261 : Fld Z h1 oH "java/util/ArrayList" "size" "I" (.int (own_n lH)) := fq7.ext E1
        have f262 : Fld Z T16.heap oH "java/util/ArrayList" "size" "I" (.int (own_n lH)) := f261.keep K16q (ninS ne4 nin0)
        have f263 : Fld Z T39.heap oH "java/util/ArrayList" "size" "I" (.int (own_n lH)) := f262.keep K39q nin0
        have f264 : Exa Z h1 oH "java/util/ArrayList" := fq5.ext E1
        have f265 : Exa Z T16.heap oH "java/util/ArrayList" := f264.keep K16q
        have f266 : Exa Z T39.heap oH "java/util/ArrayList" := f265.keep K39q
        obtain ⟨cq267, kq267, q267a, q267b, q267c⟩ := isOf hZ e260 f266
        obtain ⟨_, _, ⟨T267, L267, k267, n267⟩, -, X267, ⟨Lc267, hQ267, l267, y267, z267⟩, st267⟩ := X260.virtualBack hx (y := (⟨"java/util/ArrayList", "size", "()I"⟩ : MethodName)) (z := (⟨"java/util/ArrayList", "size", "()I"⟩ : MethodName)) hown (mvT hZ (w137 hw)) (mvT hZ (w138 hw)) (notFace_of_selects (args := #[]) (mvT hZ (w139 hw))) (mvT hZ (w139 hw)) (mvT hZ (w132 hw)) (by decide) (backOf (W := 0) (rm20 l Z a0 hw [] oH lH T39.heap n0 Z39 f263) hZ (w136 hw) (w36 hw) (by decide) (by decide)) q267a q267c (g := (mkF m 346 #[.val (.int xa), .val (.int xb), .val (.int xc), .val (.int xd), .val (.int (2 : Int32)), .val (.int (own_n lH)), .val (.int (1 : Int32)), .val (.ref wA), .val (.ref wB), .val (.ref wC), .val (.ref wD), .val (.ref wE), .val (.ref wF), .val (.ref oS), .val (.ref oH), .val (.ref oT), .val (.ref b1), .val (.ref r_39)] [(.ref oH)])) rfl (by rw [hml]; rfl) (Steps.refl _) (argsL := []) (rest := []) (lenOf pd_15 rfl) rfl (by show 2 * 0 + _ ≤ _; exact Nat.le_of_eq rfl) (hb hby at_346) (fun _ hWx => ⟨rfl, e260, (by decide : 33 + 0 ≤ _), (by decide : 158 + 0 ≤ _)⟩)
        dsimp only [Pt.U, Pt.locs, Pt.cells, Pt.slots] at X267 l267 y267 z267 st267 hQ267
        replace X267 := own_num (c' := 33) (n' := 158) X267 l267 (y267.trans rfl) (z267.trans rfl)
        obtain ⟨rfl, N267q, e267⟩ := hQ267
        have N267 := Fr.app N260 N267q
        refine own_tr st267 ?_
        show OwnGo p e below s _ _ _ (T267.setTop (mkF m 349 #[.val (.int xa), .val (.int xb), .val (.int xc), .val (.int xd), .val (.int (2 : Int32)), .val (.int (own_n lH)), .val (.int (1 : Int32)), .val (.ref wA), .val (.ref wB), .val (.ref wC), .val (.ref wD), .val (.ref wE), .val (.ref wF), .val (.ref oS), .val (.ref oH), .val (.ref oT), .val (.ref b1), .val (.ref r_39)] [(.int (own_n lH))]))
        refine own_on (fun t_ k_ => XS.iload X267.here hx rfl (hb hby at_349) rfl k_) ?_
        refine own_on (fun t_ k_ => XS.icmpYes X267.here hx rfl (pc0 := 351) (pc' := 356) rfl (hb hby at_351) rfl (teq rfl).1 (by decide) (by decide) k_) ?_
        show OwnGo p e below s _ _ _ (T267.setTop (mkF m 356 #[.val (.int xa), .val (.int xb), .val (.int xc), .val (.int xd), .val (.int (2 : Int32)), .val (.int (own_n lH)), .val (.int (1 : Int32)), .val (.ref wA), .val (.ref wB), .val (.ref wC), .val (.ref wD), .val (.ref wE), .val (.ref wF), .val (.ref oS), .val (.ref oH), .val (.ref oT), .val (.ref b1), .val (.ref r_39)] []))
        refine own_on (fun t_ k_ => XS.aload X267.here hx rfl (hb hby at_356) rfl rfl k_) ?_
        have f268 : Fld Z T39.heap oT "java/util/ArrayList" "size" "I" (.int (own_n lT)) := f32.keep K39q nin0
        have f269 : Exa Z T39.heap oT "java/util/ArrayList" := f28.keep K39q
        obtain ⟨cq270, kq270, q270a, q270b, q270c⟩ := isOf hZ e267 f269
        obtain ⟨_, _, ⟨T270, L270, k270, n270⟩, -, X270, ⟨Lc270, hQ270, l270, y270, z270⟩, st270⟩ := X267.virtualBack hx (y := (⟨"java/util/ArrayList", "size", "()I"⟩ : MethodName)) (z := (⟨"java/util/ArrayList", "size", "()I"⟩ : MethodName)) hown (mvT hZ (w137 hw)) (mvT hZ (w138 hw)) (notFace_of_selects (args := #[]) (mvT hZ (w139 hw))) (mvT hZ (w139 hw)) (mvT hZ (w132 hw)) (by decide) (backOf (W := 0) (rm20 l Z a0 hw [] oT lT T39.heap n0 Z39 f268) hZ (w136 hw) (w36 hw) (by decide) (by decide)) q270a q270c (g := (mkF m 358 #[.val (.int xa), .val (.int xb), .val (.int xc), .val (.int xd), .val (.int (2 : Int32)), .val (.int (own_n lH)), .val (.int (1 : Int32)), .val (.ref wA), .val (.ref wB), .val (.ref wC), .val (.ref wD), .val (.ref wE), .val (.ref wF), .val (.ref oS), .val (.ref oH), .val (.ref oT), .val (.ref b1), .val (.ref r_39)] [(.ref oT)])) rfl (by rw [hml]; rfl) (Steps.refl _) (argsL := []) (rest := []) (lenOf pd_15 rfl) rfl (by show 2 * 0 + _ ≤ _; exact Nat.le_of_eq rfl) (hb hby at_358) (fun _ hWx => ⟨rfl, e267, (by decide : 33 + 0 ≤ _), (by decide : 158 + 0 ≤ _)⟩)
        dsimp only [Pt.U, Pt.locs, Pt.cells, Pt.slots] at X270 l270 y270 z270 st270 hQ270
        replace X270 := own_num (c' := 33) (n' := 158) X270 l270 (y270.trans rfl) (z270.trans rfl)
        obtain ⟨rfl, N270q, e270⟩ := hQ270
        have N270 := Fr.app N267 N270q
        refine own_tr st270 ?_
        show OwnGo p e below s _ _ _ (T270.setTop (mkF m 361 #[.val (.int xa), .val (.int xb), .val (.int xc), .val (.int xd), .val (.int (2 : Int32)), .val (.int (own_n lH)), .val (.int (1 : Int32)), .val (.ref wA), .val (.ref wB), .val (.ref wC), .val (.ref wD), .val (.ref wE), .val (.ref wF), .val (.ref oS), .val (.ref oH), .val (.ref oT), .val (.ref b1), .val (.ref r_39)] [(.int (own_n lT))]))
        rw [show (own_n lT) = (1 : Int32) from hvT]
        show OwnGo p e below s _ _ _ (T270.setTop (mkF m 361 #[.val (.int xa), .val (.int xb), .val (.int xc), .val (.int xd), .val (.int (2 : Int32)), .val (.int (own_n lH)), .val (.int (1 : Int32)), .val (.ref wA), .val (.ref wB), .val (.ref wC), .val (.ref wD), .val (.ref wE), .val (.ref wF), .val (.ref oS), .val (.ref oH), .val (.ref oT), .val (.ref b1), .val (.ref r_39)] [(.int (1 : Int32))]))
        refine own_on (fun t_ k_ => XS.iload X270.here hx rfl (hb hby at_361) rfl k_) ?_
        refine own_on (fun t_ k_ => XS.icmpYes X270.here hx rfl (pc0 := 363) (pc' := 368) rfl (hb hby at_363) rfl (teq (by decide : (1 : Int32) = (1 : Int32))).1 (by decide) (by decide) k_) ?_
        show OwnGo p e below s _ _ _ (T270.setTop (mkF m 368 #[.val (.int xa), .val (.int xb), .val (.int xc), .val (.int xd), .val (.int (2 : Int32)), .val (.int (own_n lH)), .val (.int (1 : Int32)), .val (.ref wA), .val (.ref wB), .val (.ref wC), .val (.ref wD), .val (.ref wE), .val (.ref wF), .val (.ref oS), .val (.ref oH), .val (.ref oT), .val (.ref b1), .val (.ref r_39)] []))
        refine own_on (fun t_ k_ => XS.iconst X270.here hx rfl (hb hby at_368) k_) ?_
        exact own_retN X270 hx hlk (t := .boolean) Bd.returns (by simp) (hb hby at_369) e270 ⟨rfl, N270, K39⟩ (by decide) (by decide)
      · rw [show (own_n lS) = (2 : Int32) from hvS]
        show OwnGo p e below s _ _ _ (T40.setTop (mkF m 220 #[.val (.int xa), .val (.int xb), .val (.int xc), .val (.int xd), .val (.int (2 : Int32)), .val (.int (own_n lH)), .val (.int (own_n lT)), .val (.ref wA), .val (.ref wB), .val (.ref wC), .val (.ref wD), .val (.ref wE), .val (.ref wF), .val (.ref oS), .val (.ref oH), .val (.ref oT), .val (.ref b1), .val (.ref r_39)] []))
        rw [show (own_n lT) = (2 : Int32) from hvT]
        show OwnGo p e below s _ _ _ (T40.setTop (mkF m 220 #[.val (.int xa), .val (.int xb), .val (.int xc), .val (.int xd), .val (.int (2 : Int32)), .val (.int (own_n lH)), .val (.int (2 : Int32)), .val (.ref wA), .val (.ref wB), .val (.ref wC), .val (.ref wD), .val (.ref wE), .val (.ref wF), .val (.ref oS), .val (.ref oH), .val (.ref oT), .val (.ref b1), .val (.ref r_39)] []))
        refine own_on (fun t_ k_ => XS.iload X40.here hx rfl (hb hby at_220) rfl k_) ?_
        refine own_on (fun t_ k_ => XS.iconst X40.here hx rfl (hb hby at_222) k_) ?_
        refine own_on (fun t_ k_ => XS.icmpNo X40.here hx rfl (hb hby at_223) rfl (flt (by decide : ¬ ((2 : Int32) < (1 : Int32)))).1 k_) ?_
        show OwnGo p e below s _ _ _ (T40.setTop (mkF m 226 #[.val (.int xa), .val (.int xb), .val (.int xc), .val (.int xd), .val (.int (2 : Int32)), .val (.int (own_n lH)), .val (.int (2 : Int32)), .val (.ref wA), .val (.ref wB), .val (.ref wC), .val (.ref wD), .val (.ref wE), .val (.ref wF), .val (.ref oS), .val (.ref oH), .val (.ref oT), .val (.ref b1), .val (.ref r_39)] []))
        refine own_on (fun t_ k_ => XS.aload X40.here hx rfl (hb hby at_226) rfl rfl k_) ?_
        refine own_on (fun t_ k_ => XS.iconst X40.here hx rfl (hb hby at_228) k_) ?_
        have hr271 : (0 : Int32) < (own_n (lS ++ lT)) := ((own_lt' (x := 0) (y := (lS ++ lT).length) (by decide) (by rw [List.length_append]; omega)).mpr (by rw [hlS, hlT]; exact Nat.le_of_ble_eq_true rfl))
        have hr272 : ((lS ++ lT).map Value.ref).getD ((0 : Int32)).toNatClampNeg .null = .ref wA := by rw [hlS, hlT]; rfl
        have hr273 : (0 : Int32) < Int32.ofNat cp2_39 := by obtain ⟨_, _, _, q⟩ := own_at c39_3 (by decide) hr271; exact q
        obtain ⟨cq274, kq274, q274a, q274b, q274c⟩ := isOf hZ e40 c39_0
        obtain ⟨_, _, ⟨T274, L274, k274, n274⟩, -, X274, ⟨Lc274, hQ274, l274, y274, z274⟩, st274⟩ := X40.interfaceBack hx (xi := (⟨"java/util/List", "get", "(I)Ljava/lang/Object;"⟩ : MethodName)) (y := (⟨"java/util/ArrayList", "get", "(I)Ljava/lang/Object;"⟩ : MethodName)) hown (mvT hZ (w172 hw)) (mvT hZ (w173 hw)) (mvT hZ (w174 hw)) (mvT hZ (w175 hw)) (mvT hZ (w176 hw)) (mvT hZ (w177 hw)) (mvT hZ (w178 hw)) (mvT hZ (w135 hw)) (by decide) (backOf (W := 0) (rm26 l Z a0 hw [] r_39 (0 : Int32) ea2_39 cp2_39 (lS ++ lT) wA T39.heap n0 Z39 c39_0 c39_1 c39_2 c39_3 (by decide : ¬ (0 : Int32) < 0) hr271 hr272 hr273) hZ (w179 hw) (w36 hw) (by decide) (by decide)) q274a q274b q274c (g := (mkF m 229 #[.val (.int xa), .val (.int xb), .val (.int xc), .val (.int xd), .val (.int (2 : Int32)), .val (.int (own_n lH)), .val (.int (2 : Int32)), .val (.ref wA), .val (.ref wB), .val (.ref wC), .val (.ref wD), .val (.ref wE), .val (.ref wF), .val (.ref oS), .val (.ref oH), .val (.ref oT), .val (.ref b1), .val (.ref r_39)] [(.int (0 : Int32)), (.ref r_39)])) rfl (by rw [hml]; rfl) (Steps.refl _) (argsL := [(.int (0 : Int32))]) (rest := []) (lenOf pd_9 rfl) rfl (by show 2 * 0 + _ ≤ _; exact Nat.le_of_eq rfl) (hb hby at_229) (fun _ hWx => ⟨rfl, e40, (by decide : 33 + 0 ≤ _), (by decide : 158 + 0 ≤ _)⟩)
        dsimp only [Pt.U, Pt.locs, Pt.cells, Pt.slots] at X274 l274 y274 z274 st274 hQ274
        replace X274 := own_num (c' := 33) (n' := 158) X274 l274 (y274.trans rfl) (z274.trans rfl)
        obtain ⟨rfl, N274q, e274⟩ := hQ274
        have N274 := Fr.app N40 N274q
        refine own_tr st274 ?_
        show OwnGo p e below s _ _ _ (T274.setTop (mkF m 234 #[.val (.int xa), .val (.int xb), .val (.int xc), .val (.int xd), .val (.int (2 : Int32)), .val (.int (own_n lH)), .val (.int (2 : Int32)), .val (.ref wA), .val (.ref wB), .val (.ref wC), .val (.ref wD), .val (.ref wE), .val (.ref wF), .val (.ref oS), .val (.ref oH), .val (.ref oT), .val (.ref b1), .val (.ref r_39)] [(.ref wA)]))
        have f275 : Exa Z h1 wA "java/lang/String" := fq16.ext E1
        have f276 : Exa Z T16.heap wA "java/lang/String" := f275.keep K16q
        have f277 : Exa Z T39.heap wA "java/lang/String" := f276.keep K39q
        obtain ⟨T278, X278, e278, st278⟩ := castY X274 hx hZ hown (w5 hw) e274 (Ins.self f277) (g := (mkF m 234 #[.val (.int xa), .val (.int xb), .val (.int xc), .val (.int xd), .val (.int (2 : Int32)), .val (.int (own_n lH)), .val (.int (2 : Int32)), .val (.ref wA), .val (.ref wB), .val (.ref wC), .val (.ref wD), .val (.ref wE), .val (.ref wF), .val (.ref oS), .val (.ref oH), .val (.ref oT), .val (.ref b1), .val (.ref r_39)] [(.ref wA)])) rfl rfl (hb hby at_234)
        refine own_on st278 ?_
        show OwnGo p e below s _ _ _ (T278.setTop (mkF m 237 #[.val (.int xa), .val (.int xb), .val (.int xc), .val (.int xd), .val (.int (2 : Int32)), .val (.int (own_n lH)), .val (.int (2 : Int32)), .val (.ref wA), .val (.ref wB), .val (.ref wC), .val (.ref wD), .val (.ref wE), .val (.ref wF), .val (.ref oS), .val (.ref oH), .val (.ref oT), .val (.ref b1), .val (.ref r_39)] [(.ref wA)]))
        refine own_on (fun t_ k_ => XS.aload X278.here hx rfl (hb hby at_237) rfl rfl k_) ?_
        obtain ⟨cq279, kq279, q279a, q279b, q279c⟩ := isOf hZ e278 f277
        obtain ⟨_, _, ⟨T279, L279, k279, n279⟩, -, X279, ⟨Lc279, hQ279, l279, y279, z279⟩, st279⟩ := X278.virtualBack hx (y := (⟨"java/lang/String", "equals", "(Ljava/lang/Object;)Z"⟩ : MethodName)) (z := (⟨"java/lang/String", "equals", "(Ljava/lang/Object;)Z"⟩ : MethodName)) hown (mvT hZ (w193 hw)) (mvT hZ (w194 hw)) (notFace_of_selects (args := #[]) (mvT hZ (w196 hw))) (mvT hZ (w196 hw)) (mvT hZ (w195 hw)) (by decide) (backOf (W := 0) (rm30 l Z a0 hw [] wA T39.heap n0 Z39 ) hZ (w197 hw) (w7 hw) (by decide) (by decide)) q279a q279c (g := (mkF m 239 #[.val (.int xa), .val (.int xb), .val (.int xc), .val (.int xd), .val (.int (2 : Int32)), .val (.int (own_n lH)), .val (.int (2 : Int32)), .val (.ref wA), .val (.ref wB), .val (.ref wC), .val (.ref wD), .val (.ref wE), .val (.ref wF), .val (.ref oS), .val (.ref oH), .val (.ref oT), .val (.ref b1), .val (.ref r_39)] [(.ref wA), (.ref wA)])) rfl (by rw [hml]; rfl) (Steps.refl _) (argsL := [(.ref wA)]) (rest := []) (lenOf pd_16 rfl) rfl (by show 2 * 0 + _ ≤ _; exact Nat.le_of_eq rfl) (hb hby at_239) (fun _ hWx => ⟨rfl, e278, (by decide : 33 + 0 ≤ _), (by decide : 158 + 0 ≤ _)⟩)
        dsimp only [Pt.U, Pt.locs, Pt.cells, Pt.slots] at X279 l279 y279 z279 st279 hQ279
        replace X279 := own_num (c' := 33) (n' := 158) X279 l279 (y279.trans rfl) (z279.trans rfl)
        obtain ⟨rfl, N279q, e279⟩ := hQ279
        have N279 := Fr.app N274 N279q
        refine own_tr st279 ?_
        show OwnGo p e below s _ _ _ (T279.setTop (mkF m 242 #[.val (.int xa), .val (.int xb), .val (.int xc), .val (.int xd), .val (.int (2 : Int32)), .val (.int (own_n lH)), .val (.int (2 : Int32)), .val (.ref wA), .val (.ref wB), .val (.ref wC), .val (.ref wD), .val (.ref wE), .val (.ref wF), .val (.ref oS), .val (.ref oH), .val (.ref oT), .val (.ref b1), .val (.ref r_39)] [(.int (1 : Int32))]))
        refine own_on (fun t_ k_ => XS.ifYes X279.here hx rfl (pc0 := 242) (pc' := 247) rfl (hb hby at_242) rfl ((if0 _ _).trans (feq (by decide : ¬ ((1 : Int32) = (0 : Int32)))).2) (by decide) (by decide) k_) ?_
        show OwnGo p e below s _ _ _ (T279.setTop (mkF m 247 #[.val (.int xa), .val (.int xb), .val (.int xc), .val (.int xd), .val (.int (2 : Int32)), .val (.int (own_n lH)), .val (.int (2 : Int32)), .val (.ref wA), .val (.ref wB), .val (.ref wC), .val (.ref wD), .val (.ref wE), .val (.ref wF), .val (.ref oS), .val (.ref oH), .val (.ref oT), .val (.ref b1), .val (.ref r_39)] []))
        refine own_on (fun t_ k_ => XS.iload X279.here hx rfl (hb hby at_247) rfl k_) ?_
        refine own_on (fun t_ k_ => XS.iconst X279.here hx rfl (hb hby at_249) k_) ?_
        refine own_on (fun t_ k_ => XS.icmpNo X279.here hx rfl (hb hby at_250) rfl (flt (by decide : ¬ ((2 : Int32) < (2 : Int32)))).1 k_) ?_
        show OwnGo p e below s _ _ _ (T279.setTop (mkF m 253 #[.val (.int xa), .val (.int xb), .val (.int xc), .val (.int xd), .val (.int (2 : Int32)), .val (.int (own_n lH)), .val (.int (2 : Int32)), .val (.ref wA), .val (.ref wB), .val (.ref wC), .val (.ref wD), .val (.ref wE), .val (.ref wF), .val (.ref oS), .val (.ref oH), .val (.ref oT), .val (.ref b1), .val (.ref r_39)] []))
        refine own_on (fun t_ k_ => XS.aload X279.here hx rfl (hb hby at_253) rfl rfl k_) ?_
        refine own_on (fun t_ k_ => XS.iconst X279.here hx rfl (hb hby at_255) k_) ?_
        have hr280 : (1 : Int32) < (own_n (lS ++ lT)) := ((own_lt' (x := 1) (y := (lS ++ lT).length) (by decide) (by rw [List.length_append]; omega)).mpr (by rw [hlS, hlT]; exact Nat.le_of_ble_eq_true rfl))
        have hr281 : ((lS ++ lT).map Value.ref).getD ((1 : Int32)).toNatClampNeg .null = .ref wB := by rw [hlS, hlT]; rfl
        have hr282 : (1 : Int32) < Int32.ofNat cp2_39 := by obtain ⟨_, _, _, q⟩ := own_at c39_3 (by decide) hr280; exact q
        obtain ⟨cq283, kq283, q283a, q283b, q283c⟩ := isOf hZ e279 c39_0
        obtain ⟨_, _, ⟨T283, L283, k283, n283⟩, -, X283, ⟨Lc283, hQ283, l283, y283, z283⟩, st283⟩ := X279.interfaceBack hx (xi := (⟨"java/util/List", "get", "(I)Ljava/lang/Object;"⟩ : MethodName)) (y := (⟨"java/util/ArrayList", "get", "(I)Ljava/lang/Object;"⟩ : MethodName)) hown (mvT hZ (w172 hw)) (mvT hZ (w173 hw)) (mvT hZ (w174 hw)) (mvT hZ (w175 hw)) (mvT hZ (w176 hw)) (mvT hZ (w177 hw)) (mvT hZ (w178 hw)) (mvT hZ (w135 hw)) (by decide) (backOf (W := 0) (rm26 l Z a0 hw [] r_39 (1 : Int32) ea2_39 cp2_39 (lS ++ lT) wB T39.heap n0 Z39 c39_0 c39_1 c39_2 c39_3 (by decide : ¬ (1 : Int32) < 0) hr280 hr281 hr282) hZ (w179 hw) (w36 hw) (by decide) (by decide)) q283a q283b q283c (g := (mkF m 256 #[.val (.int xa), .val (.int xb), .val (.int xc), .val (.int xd), .val (.int (2 : Int32)), .val (.int (own_n lH)), .val (.int (2 : Int32)), .val (.ref wA), .val (.ref wB), .val (.ref wC), .val (.ref wD), .val (.ref wE), .val (.ref wF), .val (.ref oS), .val (.ref oH), .val (.ref oT), .val (.ref b1), .val (.ref r_39)] [(.int (1 : Int32)), (.ref r_39)])) rfl (by rw [hml]; rfl) (Steps.refl _) (argsL := [(.int (1 : Int32))]) (rest := []) (lenOf pd_9 rfl) rfl (by show 2 * 0 + _ ≤ _; exact Nat.le_of_eq rfl) (hb hby at_256) (fun _ hWx => ⟨rfl, e279, (by decide : 33 + 0 ≤ _), (by decide : 158 + 0 ≤ _)⟩)
        dsimp only [Pt.U, Pt.locs, Pt.cells, Pt.slots] at X283 l283 y283 z283 st283 hQ283
        replace X283 := own_num (c' := 33) (n' := 158) X283 l283 (y283.trans rfl) (z283.trans rfl)
        obtain ⟨rfl, N283q, e283⟩ := hQ283
        have N283 := Fr.app N279 N283q
        refine own_tr st283 ?_
        show OwnGo p e below s _ _ _ (T283.setTop (mkF m 261 #[.val (.int xa), .val (.int xb), .val (.int xc), .val (.int xd), .val (.int (2 : Int32)), .val (.int (own_n lH)), .val (.int (2 : Int32)), .val (.ref wA), .val (.ref wB), .val (.ref wC), .val (.ref wD), .val (.ref wE), .val (.ref wF), .val (.ref oS), .val (.ref oH), .val (.ref oT), .val (.ref b1), .val (.ref r_39)] [(.ref wB)]))
        have f284 : Exa Z h1 wB "java/lang/String" := fq17.ext E1
        have f285 : Exa Z T16.heap wB "java/lang/String" := f284.keep K16q
        have f286 : Exa Z T39.heap wB "java/lang/String" := f285.keep K39q
        obtain ⟨T287, X287, e287, st287⟩ := castY X283 hx hZ hown (w5 hw) e283 (Ins.self f286) (g := (mkF m 261 #[.val (.int xa), .val (.int xb), .val (.int xc), .val (.int xd), .val (.int (2 : Int32)), .val (.int (own_n lH)), .val (.int (2 : Int32)), .val (.ref wA), .val (.ref wB), .val (.ref wC), .val (.ref wD), .val (.ref wE), .val (.ref wF), .val (.ref oS), .val (.ref oH), .val (.ref oT), .val (.ref b1), .val (.ref r_39)] [(.ref wB)])) rfl rfl (hb hby at_261)
        refine own_on st287 ?_
        show OwnGo p e below s _ _ _ (T287.setTop (mkF m 264 #[.val (.int xa), .val (.int xb), .val (.int xc), .val (.int xd), .val (.int (2 : Int32)), .val (.int (own_n lH)), .val (.int (2 : Int32)), .val (.ref wA), .val (.ref wB), .val (.ref wC), .val (.ref wD), .val (.ref wE), .val (.ref wF), .val (.ref oS), .val (.ref oH), .val (.ref oT), .val (.ref b1), .val (.ref r_39)] [(.ref wB)]))
        refine own_on (fun t_ k_ => XS.aload X287.here hx rfl (hb hby at_264) rfl rfl k_) ?_
        obtain ⟨cq288, kq288, q288a, q288b, q288c⟩ := isOf hZ e287 f286
        obtain ⟨_, _, ⟨T288, L288, k288, n288⟩, -, X288, ⟨Lc288, hQ288, l288, y288, z288⟩, st288⟩ := X287.virtualBack hx (y := (⟨"java/lang/String", "equals", "(Ljava/lang/Object;)Z"⟩ : MethodName)) (z := (⟨"java/lang/String", "equals", "(Ljava/lang/Object;)Z"⟩ : MethodName)) hown (mvT hZ (w193 hw)) (mvT hZ (w194 hw)) (notFace_of_selects (args := #[]) (mvT hZ (w196 hw))) (mvT hZ (w196 hw)) (mvT hZ (w195 hw)) (by decide) (backOf (W := 0) (rm30 l Z a0 hw [] wB T39.heap n0 Z39 ) hZ (w197 hw) (w7 hw) (by decide) (by decide)) q288a q288c (g := (mkF m 266 #[.val (.int xa), .val (.int xb), .val (.int xc), .val (.int xd), .val (.int (2 : Int32)), .val (.int (own_n lH)), .val (.int (2 : Int32)), .val (.ref wA), .val (.ref wB), .val (.ref wC), .val (.ref wD), .val (.ref wE), .val (.ref wF), .val (.ref oS), .val (.ref oH), .val (.ref oT), .val (.ref b1), .val (.ref r_39)] [(.ref wB), (.ref wB)])) rfl (by rw [hml]; rfl) (Steps.refl _) (argsL := [(.ref wB)]) (rest := []) (lenOf pd_16 rfl) rfl (by show 2 * 0 + _ ≤ _; exact Nat.le_of_eq rfl) (hb hby at_266) (fun _ hWx => ⟨rfl, e287, (by decide : 33 + 0 ≤ _), (by decide : 158 + 0 ≤ _)⟩)
        dsimp only [Pt.U, Pt.locs, Pt.cells, Pt.slots] at X288 l288 y288 z288 st288 hQ288
        replace X288 := own_num (c' := 33) (n' := 158) X288 l288 (y288.trans rfl) (z288.trans rfl)
        obtain ⟨rfl, N288q, e288⟩ := hQ288
        have N288 := Fr.app N283 N288q
        refine own_tr st288 ?_
        show OwnGo p e below s _ _ _ (T288.setTop (mkF m 269 #[.val (.int xa), .val (.int xb), .val (.int xc), .val (.int xd), .val (.int (2 : Int32)), .val (.int (own_n lH)), .val (.int (2 : Int32)), .val (.ref wA), .val (.ref wB), .val (.ref wC), .val (.ref wD), .val (.ref wE), .val (.ref wF), .val (.ref oS), .val (.ref oH), .val (.ref oT), .val (.ref b1), .val (.ref r_39)] [(.int (1 : Int32))]))
        refine own_on (fun t_ k_ => XS.ifYes X288.here hx rfl (pc0 := 269) (pc' := 274) rfl (hb hby at_269) rfl ((if0 _ _).trans (feq (by decide : ¬ ((1 : Int32) = (0 : Int32)))).2) (by decide) (by decide) k_) ?_
        show OwnGo p e below s _ _ _ (T288.setTop (mkF m 274 #[.val (.int xa), .val (.int xb), .val (.int xc), .val (.int xd), .val (.int (2 : Int32)), .val (.int (own_n lH)), .val (.int (2 : Int32)), .val (.ref wA), .val (.ref wB), .val (.ref wC), .val (.ref wD), .val (.ref wE), .val (.ref wF), .val (.ref oS), .val (.ref oH), .val (.ref oT), .val (.ref b1), .val (.ref r_39)] []))
        refine own_on (fun t_ k_ => XS.iload X288.here hx rfl (hb hby at_274) rfl k_) ?_
        refine own_on (fun t_ k_ => XS.iconst X288.here hx rfl (hb hby at_276) k_) ?_
        refine own_on (fun t_ k_ => XS.icmpNo X288.here hx rfl (hb hby at_277) rfl (flt (by decide : ¬ ((2 : Int32) < (1 : Int32)))).1 k_) ?_
        show OwnGo p e below s _ _ _ (T288.setTop (mkF m 280 #[.val (.int xa), .val (.int xb), .val (.int xc), .val (.int xd), .val (.int (2 : Int32)), .val (.int (own_n lH)), .val (.int (2 : Int32)), .val (.ref wA), .val (.ref wB), .val (.ref wC), .val (.ref wD), .val (.ref wE), .val (.ref wF), .val (.ref oS), .val (.ref oH), .val (.ref oT), .val (.ref b1), .val (.ref r_39)] []))
        refine own_on (fun t_ k_ => XS.aload X288.here hx rfl (hb hby at_280) rfl rfl k_) ?_
        refine own_on (fun t_ k_ => XS.iload X288.here hx rfl (hb hby at_282) rfl k_) ?_
        have hr289 : (2 : Int32) < (own_n (lS ++ lT)) := ((own_lt' (x := 2) (y := (lS ++ lT).length) (by decide) (by rw [List.length_append]; omega)).mpr (by rw [hlS, hlT]; exact Nat.le_of_ble_eq_true rfl))
        have hr290 : ((lS ++ lT).map Value.ref).getD ((2 : Int32)).toNatClampNeg .null = .ref wE := by rw [hlS, hlT]; rfl
        have hr291 : (2 : Int32) < Int32.ofNat cp2_39 := by obtain ⟨_, _, _, q⟩ := own_at c39_3 (by decide) hr289; exact q
        obtain ⟨cq292, kq292, q292a, q292b, q292c⟩ := isOf hZ e288 c39_0
        obtain ⟨_, _, ⟨T292, L292, k292, n292⟩, -, X292, ⟨Lc292, hQ292, l292, y292, z292⟩, st292⟩ := X288.interfaceBack hx (xi := (⟨"java/util/List", "get", "(I)Ljava/lang/Object;"⟩ : MethodName)) (y := (⟨"java/util/ArrayList", "get", "(I)Ljava/lang/Object;"⟩ : MethodName)) hown (mvT hZ (w172 hw)) (mvT hZ (w173 hw)) (mvT hZ (w174 hw)) (mvT hZ (w175 hw)) (mvT hZ (w176 hw)) (mvT hZ (w177 hw)) (mvT hZ (w178 hw)) (mvT hZ (w135 hw)) (by decide) (backOf (W := 0) (rm26 l Z a0 hw [] r_39 (2 : Int32) ea2_39 cp2_39 (lS ++ lT) wE T39.heap n0 Z39 c39_0 c39_1 c39_2 c39_3 (by decide : ¬ (2 : Int32) < 0) hr289 hr290 hr291) hZ (w179 hw) (w36 hw) (by decide) (by decide)) q292a q292b q292c (g := (mkF m 284 #[.val (.int xa), .val (.int xb), .val (.int xc), .val (.int xd), .val (.int (2 : Int32)), .val (.int (own_n lH)), .val (.int (2 : Int32)), .val (.ref wA), .val (.ref wB), .val (.ref wC), .val (.ref wD), .val (.ref wE), .val (.ref wF), .val (.ref oS), .val (.ref oH), .val (.ref oT), .val (.ref b1), .val (.ref r_39)] [(.int (2 : Int32)), (.ref r_39)])) rfl (by rw [hml]; rfl) (Steps.refl _) (argsL := [(.int (2 : Int32))]) (rest := []) (lenOf pd_9 rfl) rfl (by show 2 * 0 + _ ≤ _; exact Nat.le_of_eq rfl) (hb hby at_284) (fun _ hWx => ⟨rfl, e288, (by decide : 33 + 0 ≤ _), (by decide : 158 + 0 ≤ _)⟩)
        dsimp only [Pt.U, Pt.locs, Pt.cells, Pt.slots] at X292 l292 y292 z292 st292 hQ292
        replace X292 := own_num (c' := 33) (n' := 158) X292 l292 (y292.trans rfl) (z292.trans rfl)
        obtain ⟨rfl, N292q, e292⟩ := hQ292
        have N292 := Fr.app N288 N292q
        refine own_tr st292 ?_
        show OwnGo p e below s _ _ _ (T292.setTop (mkF m 289 #[.val (.int xa), .val (.int xb), .val (.int xc), .val (.int xd), .val (.int (2 : Int32)), .val (.int (own_n lH)), .val (.int (2 : Int32)), .val (.ref wA), .val (.ref wB), .val (.ref wC), .val (.ref wD), .val (.ref wE), .val (.ref wF), .val (.ref oS), .val (.ref oH), .val (.ref oT), .val (.ref b1), .val (.ref r_39)] [(.ref wE)]))
        have f293 : Exa Z h1 wE "java/lang/String" := fq20.ext E1
        have f294 : Exa Z T16.heap wE "java/lang/String" := f293.keep K16q
        have f295 : Exa Z T39.heap wE "java/lang/String" := f294.keep K39q
        obtain ⟨T296, X296, e296, st296⟩ := castY X292 hx hZ hown (w5 hw) e292 (Ins.self f295) (g := (mkF m 289 #[.val (.int xa), .val (.int xb), .val (.int xc), .val (.int xd), .val (.int (2 : Int32)), .val (.int (own_n lH)), .val (.int (2 : Int32)), .val (.ref wA), .val (.ref wB), .val (.ref wC), .val (.ref wD), .val (.ref wE), .val (.ref wF), .val (.ref oS), .val (.ref oH), .val (.ref oT), .val (.ref b1), .val (.ref r_39)] [(.ref wE)])) rfl rfl (hb hby at_289)
        refine own_on st296 ?_
        show OwnGo p e below s _ _ _ (T296.setTop (mkF m 292 #[.val (.int xa), .val (.int xb), .val (.int xc), .val (.int xd), .val (.int (2 : Int32)), .val (.int (own_n lH)), .val (.int (2 : Int32)), .val (.ref wA), .val (.ref wB), .val (.ref wC), .val (.ref wD), .val (.ref wE), .val (.ref wF), .val (.ref oS), .val (.ref oH), .val (.ref oT), .val (.ref b1), .val (.ref r_39)] [(.ref wE)]))
        refine own_on (fun t_ k_ => XS.aload X296.here hx rfl (hb hby at_292) rfl rfl k_) ?_
        obtain ⟨cq297, kq297, q297a, q297b, q297c⟩ := isOf hZ e296 f295
        obtain ⟨_, _, ⟨T297, L297, k297, n297⟩, -, X297, ⟨Lc297, hQ297, l297, y297, z297⟩, st297⟩ := X296.virtualBack hx (y := (⟨"java/lang/String", "equals", "(Ljava/lang/Object;)Z"⟩ : MethodName)) (z := (⟨"java/lang/String", "equals", "(Ljava/lang/Object;)Z"⟩ : MethodName)) hown (mvT hZ (w193 hw)) (mvT hZ (w194 hw)) (notFace_of_selects (args := #[]) (mvT hZ (w196 hw))) (mvT hZ (w196 hw)) (mvT hZ (w195 hw)) (by decide) (backOf (W := 0) (rm30 l Z a0 hw [] wE T39.heap n0 Z39 ) hZ (w197 hw) (w7 hw) (by decide) (by decide)) q297a q297c (g := (mkF m 294 #[.val (.int xa), .val (.int xb), .val (.int xc), .val (.int xd), .val (.int (2 : Int32)), .val (.int (own_n lH)), .val (.int (2 : Int32)), .val (.ref wA), .val (.ref wB), .val (.ref wC), .val (.ref wD), .val (.ref wE), .val (.ref wF), .val (.ref oS), .val (.ref oH), .val (.ref oT), .val (.ref b1), .val (.ref r_39)] [(.ref wE), (.ref wE)])) rfl (by rw [hml]; rfl) (Steps.refl _) (argsL := [(.ref wE)]) (rest := []) (lenOf pd_16 rfl) rfl (by show 2 * 0 + _ ≤ _; exact Nat.le_of_eq rfl) (hb hby at_294) (fun _ hWx => ⟨rfl, e296, (by decide : 33 + 0 ≤ _), (by decide : 158 + 0 ≤ _)⟩)
        dsimp only [Pt.U, Pt.locs, Pt.cells, Pt.slots] at X297 l297 y297 z297 st297 hQ297
        replace X297 := own_num (c' := 33) (n' := 158) X297 l297 (y297.trans rfl) (z297.trans rfl)
        obtain ⟨rfl, N297q, e297⟩ := hQ297
        have N297 := Fr.app N292 N297q
        refine own_tr st297 ?_
        show OwnGo p e below s _ _ _ (T297.setTop (mkF m 297 #[.val (.int xa), .val (.int xb), .val (.int xc), .val (.int xd), .val (.int (2 : Int32)), .val (.int (own_n lH)), .val (.int (2 : Int32)), .val (.ref wA), .val (.ref wB), .val (.ref wC), .val (.ref wD), .val (.ref wE), .val (.ref wF), .val (.ref oS), .val (.ref oH), .val (.ref oT), .val (.ref b1), .val (.ref r_39)] [(.int (1 : Int32))]))
        refine own_on (fun t_ k_ => XS.ifYes X297.here hx rfl (pc0 := 297) (pc' := 302) rfl (hb hby at_297) rfl ((if0 _ _).trans (feq (by decide : ¬ ((1 : Int32) = (0 : Int32)))).2) (by decide) (by decide) k_) ?_
        show OwnGo p e below s _ _ _ (T297.setTop (mkF m 302 #[.val (.int xa), .val (.int xb), .val (.int xc), .val (.int xd), .val (.int (2 : Int32)), .val (.int (own_n lH)), .val (.int (2 : Int32)), .val (.ref wA), .val (.ref wB), .val (.ref wC), .val (.ref wD), .val (.ref wE), .val (.ref wF), .val (.ref oS), .val (.ref oH), .val (.ref oT), .val (.ref b1), .val (.ref r_39)] []))
        refine own_on (fun t_ k_ => XS.iload X297.here hx rfl (hb hby at_302) rfl k_) ?_
        refine own_on (fun t_ k_ => XS.iconst X297.here hx rfl (hb hby at_304) k_) ?_
        refine own_on (fun t_ k_ => XS.icmpNo X297.here hx rfl (hb hby at_305) rfl (flt (by decide : ¬ ((2 : Int32) < (2 : Int32)))).1 k_) ?_
        show OwnGo p e below s _ _ _ (T297.setTop (mkF m 308 #[.val (.int xa), .val (.int xb), .val (.int xc), .val (.int xd), .val (.int (2 : Int32)), .val (.int (own_n lH)), .val (.int (2 : Int32)), .val (.ref wA), .val (.ref wB), .val (.ref wC), .val (.ref wD), .val (.ref wE), .val (.ref wF), .val (.ref oS), .val (.ref oH), .val (.ref oT), .val (.ref b1), .val (.ref r_39)] []))
        refine own_on (fun t_ k_ => XS.aload X297.here hx rfl (hb hby at_308) rfl rfl k_) ?_
        refine own_on (fun t_ k_ => XS.iload X297.here hx rfl (hb hby at_310) rfl k_) ?_
        refine own_on (fun t_ k_ => XS.iconst X297.here hx rfl (hb hby at_312) k_) ?_
        refine own_on (fun t_ k_ => XS.iadd X297.here hx rfl (hb hby at_313) rfl k_) ?_
        show OwnGo p e below s _ _ _ (T297.setTop (mkF m 314 #[.val (.int xa), .val (.int xb), .val (.int xc), .val (.int xd), .val (.int (2 : Int32)), .val (.int (own_n lH)), .val (.int (2 : Int32)), .val (.ref wA), .val (.ref wB), .val (.ref wC), .val (.ref wD), .val (.ref wE), .val (.ref wF), .val (.ref oS), .val (.ref oH), .val (.ref oT), .val (.ref b1), .val (.ref r_39)] [(.int (3 : Int32)), (.ref r_39)]))
        have hr298 : (3 : Int32) < (own_n (lS ++ lT)) := ((own_lt' (x := 3) (y := (lS ++ lT).length) (by decide) (by rw [List.length_append]; omega)).mpr (by rw [hlS, hlT]; exact Nat.le_of_ble_eq_true rfl))
        have hr299 : ((lS ++ lT).map Value.ref).getD ((3 : Int32)).toNatClampNeg .null = .ref wF := by rw [hlS, hlT]; rfl
        have hr300 : (3 : Int32) < Int32.ofNat cp2_39 := by obtain ⟨_, _, _, q⟩ := own_at c39_3 (by decide) hr298; exact q
        obtain ⟨cq301, kq301, q301a, q301b, q301c⟩ := isOf hZ e297 c39_0
        obtain ⟨_, _, ⟨T301, L301, k301, n301⟩, -, X301, ⟨Lc301, hQ301, l301, y301, z301⟩, st301⟩ := X297.interfaceBack hx (xi := (⟨"java/util/List", "get", "(I)Ljava/lang/Object;"⟩ : MethodName)) (y := (⟨"java/util/ArrayList", "get", "(I)Ljava/lang/Object;"⟩ : MethodName)) hown (mvT hZ (w172 hw)) (mvT hZ (w173 hw)) (mvT hZ (w174 hw)) (mvT hZ (w175 hw)) (mvT hZ (w176 hw)) (mvT hZ (w177 hw)) (mvT hZ (w178 hw)) (mvT hZ (w135 hw)) (by decide) (backOf (W := 0) (rm26 l Z a0 hw [] r_39 (3 : Int32) ea2_39 cp2_39 (lS ++ lT) wF T39.heap n0 Z39 c39_0 c39_1 c39_2 c39_3 (by decide : ¬ (3 : Int32) < 0) hr298 hr299 hr300) hZ (w179 hw) (w36 hw) (by decide) (by decide)) q301a q301b q301c (g := (mkF m 314 #[.val (.int xa), .val (.int xb), .val (.int xc), .val (.int xd), .val (.int (2 : Int32)), .val (.int (own_n lH)), .val (.int (2 : Int32)), .val (.ref wA), .val (.ref wB), .val (.ref wC), .val (.ref wD), .val (.ref wE), .val (.ref wF), .val (.ref oS), .val (.ref oH), .val (.ref oT), .val (.ref b1), .val (.ref r_39)] [(.int (3 : Int32)), (.ref r_39)])) rfl (by rw [hml]; rfl) (Steps.refl _) (argsL := [(.int (3 : Int32))]) (rest := []) (lenOf pd_9 rfl) rfl (by show 2 * 0 + _ ≤ _; exact Nat.le_of_eq rfl) (hb hby at_314) (fun _ hWx => ⟨rfl, e297, (by decide : 33 + 0 ≤ _), (by decide : 158 + 0 ≤ _)⟩)
        dsimp only [Pt.U, Pt.locs, Pt.cells, Pt.slots] at X301 l301 y301 z301 st301 hQ301
        replace X301 := own_num (c' := 33) (n' := 158) X301 l301 (y301.trans rfl) (z301.trans rfl)
        obtain ⟨rfl, N301q, e301⟩ := hQ301
        have N301 := Fr.app N297 N301q
        refine own_tr st301 ?_
        show OwnGo p e below s _ _ _ (T301.setTop (mkF m 319 #[.val (.int xa), .val (.int xb), .val (.int xc), .val (.int xd), .val (.int (2 : Int32)), .val (.int (own_n lH)), .val (.int (2 : Int32)), .val (.ref wA), .val (.ref wB), .val (.ref wC), .val (.ref wD), .val (.ref wE), .val (.ref wF), .val (.ref oS), .val (.ref oH), .val (.ref oT), .val (.ref b1), .val (.ref r_39)] [(.ref wF)]))
        have f302 : Exa Z h1 wF "java/lang/String" := fq21.ext E1
        have f303 : Exa Z T16.heap wF "java/lang/String" := f302.keep K16q
        have f304 : Exa Z T39.heap wF "java/lang/String" := f303.keep K39q
        obtain ⟨T305, X305, e305, st305⟩ := castY X301 hx hZ hown (w5 hw) e301 (Ins.self f304) (g := (mkF m 319 #[.val (.int xa), .val (.int xb), .val (.int xc), .val (.int xd), .val (.int (2 : Int32)), .val (.int (own_n lH)), .val (.int (2 : Int32)), .val (.ref wA), .val (.ref wB), .val (.ref wC), .val (.ref wD), .val (.ref wE), .val (.ref wF), .val (.ref oS), .val (.ref oH), .val (.ref oT), .val (.ref b1), .val (.ref r_39)] [(.ref wF)])) rfl rfl (hb hby at_319)
        refine own_on st305 ?_
        show OwnGo p e below s _ _ _ (T305.setTop (mkF m 322 #[.val (.int xa), .val (.int xb), .val (.int xc), .val (.int xd), .val (.int (2 : Int32)), .val (.int (own_n lH)), .val (.int (2 : Int32)), .val (.ref wA), .val (.ref wB), .val (.ref wC), .val (.ref wD), .val (.ref wE), .val (.ref wF), .val (.ref oS), .val (.ref oH), .val (.ref oT), .val (.ref b1), .val (.ref r_39)] [(.ref wF)]))
        refine own_on (fun t_ k_ => XS.aload X305.here hx rfl (hb hby at_322) rfl rfl k_) ?_
        obtain ⟨cq306, kq306, q306a, q306b, q306c⟩ := isOf hZ e305 f304
        obtain ⟨_, _, ⟨T306, L306, k306, n306⟩, -, X306, ⟨Lc306, hQ306, l306, y306, z306⟩, st306⟩ := X305.virtualBack hx (y := (⟨"java/lang/String", "equals", "(Ljava/lang/Object;)Z"⟩ : MethodName)) (z := (⟨"java/lang/String", "equals", "(Ljava/lang/Object;)Z"⟩ : MethodName)) hown (mvT hZ (w193 hw)) (mvT hZ (w194 hw)) (notFace_of_selects (args := #[]) (mvT hZ (w196 hw))) (mvT hZ (w196 hw)) (mvT hZ (w195 hw)) (by decide) (backOf (W := 0) (rm30 l Z a0 hw [] wF T39.heap n0 Z39 ) hZ (w197 hw) (w7 hw) (by decide) (by decide)) q306a q306c (g := (mkF m 324 #[.val (.int xa), .val (.int xb), .val (.int xc), .val (.int xd), .val (.int (2 : Int32)), .val (.int (own_n lH)), .val (.int (2 : Int32)), .val (.ref wA), .val (.ref wB), .val (.ref wC), .val (.ref wD), .val (.ref wE), .val (.ref wF), .val (.ref oS), .val (.ref oH), .val (.ref oT), .val (.ref b1), .val (.ref r_39)] [(.ref wF), (.ref wF)])) rfl (by rw [hml]; rfl) (Steps.refl _) (argsL := [(.ref wF)]) (rest := []) (lenOf pd_16 rfl) rfl (by show 2 * 0 + _ ≤ _; exact Nat.le_of_eq rfl) (hb hby at_324) (fun _ hWx => ⟨rfl, e305, (by decide : 33 + 0 ≤ _), (by decide : 158 + 0 ≤ _)⟩)
        dsimp only [Pt.U, Pt.locs, Pt.cells, Pt.slots] at X306 l306 y306 z306 st306 hQ306
        replace X306 := own_num (c' := 33) (n' := 158) X306 l306 (y306.trans rfl) (z306.trans rfl)
        obtain ⟨rfl, N306q, e306⟩ := hQ306
        have N306 := Fr.app N301 N306q
        refine own_tr st306 ?_
        show OwnGo p e below s _ _ _ (T306.setTop (mkF m 327 #[.val (.int xa), .val (.int xb), .val (.int xc), .val (.int xd), .val (.int (2 : Int32)), .val (.int (own_n lH)), .val (.int (2 : Int32)), .val (.ref wA), .val (.ref wB), .val (.ref wC), .val (.ref wD), .val (.ref wE), .val (.ref wF), .val (.ref oS), .val (.ref oH), .val (.ref oT), .val (.ref b1), .val (.ref r_39)] [(.int (1 : Int32))]))
        refine own_on (fun t_ k_ => XS.ifYes X306.here hx rfl (pc0 := 327) (pc' := 332) rfl (hb hby at_327) rfl ((if0 _ _).trans (feq (by decide : ¬ ((1 : Int32) = (0 : Int32)))).2) (by decide) (by decide) k_) ?_
        show OwnGo p e below s _ _ _ (T306.setTop (mkF m 332 #[.val (.int xa), .val (.int xb), .val (.int xc), .val (.int xd), .val (.int (2 : Int32)), .val (.int (own_n lH)), .val (.int (2 : Int32)), .val (.ref wA), .val (.ref wB), .val (.ref wC), .val (.ref wD), .val (.ref wE), .val (.ref wF), .val (.ref oS), .val (.ref oH), .val (.ref oT), .val (.ref b1), .val (.ref r_39)] []))
        refine own_on (fun t_ k_ => XS.aload X306.here hx rfl (hb hby at_332) rfl rfl k_) ?_
        have f307 : Fld Z T39.heap oS "java/util/ArrayList" "size" "I" (.int (own_n lS)) := f22.keep K39q nin0
        have f308 : Exa Z T39.heap oS "java/util/ArrayList" := f18.keep K39q
        obtain ⟨cq309, kq309, q309a, q309b, q309c⟩ := isOf hZ e306 f308
        obtain ⟨_, _, ⟨T309, L309, k309, n309⟩, -, X309, ⟨Lc309, hQ309, l309, y309, z309⟩, st309⟩ := X306.virtualBack hx (y := (⟨"java/util/ArrayList", "size", "()I"⟩ : MethodName)) (z := (⟨"java/util/ArrayList", "size", "()I"⟩ : MethodName)) hown (mvT hZ (w137 hw)) (mvT hZ (w138 hw)) (notFace_of_selects (args := #[]) (mvT hZ (w139 hw))) (mvT hZ (w139 hw)) (mvT hZ (w132 hw)) (by decide) (backOf (W := 0) (rm20 l Z a0 hw [] oS lS T39.heap n0 Z39 f307) hZ (w136 hw) (w36 hw) (by decide) (by decide)) q309a q309c (g := (mkF m 334 #[.val (.int xa), .val (.int xb), .val (.int xc), .val (.int xd), .val (.int (2 : Int32)), .val (.int (own_n lH)), .val (.int (2 : Int32)), .val (.ref wA), .val (.ref wB), .val (.ref wC), .val (.ref wD), .val (.ref wE), .val (.ref wF), .val (.ref oS), .val (.ref oH), .val (.ref oT), .val (.ref b1), .val (.ref r_39)] [(.ref oS)])) rfl (by rw [hml]; rfl) (Steps.refl _) (argsL := []) (rest := []) (lenOf pd_15 rfl) rfl (by show 2 * 0 + _ ≤ _; exact Nat.le_of_eq rfl) (hb hby at_334) (fun _ hWx => ⟨rfl, e306, (by decide : 33 + 0 ≤ _), (by decide : 158 + 0 ≤ _)⟩)
        dsimp only [Pt.U, Pt.locs, Pt.cells, Pt.slots] at X309 l309 y309 z309 st309 hQ309
        replace X309 := own_num (c' := 33) (n' := 158) X309 l309 (y309.trans rfl) (z309.trans rfl)
        obtain ⟨rfl, N309q, e309⟩ := hQ309
        have N309 := Fr.app N306 N309q
        refine own_tr st309 ?_
        show OwnGo p e below s _ _ _ (T309.setTop (mkF m 337 #[.val (.int xa), .val (.int xb), .val (.int xc), .val (.int xd), .val (.int (2 : Int32)), .val (.int (own_n lH)), .val (.int (2 : Int32)), .val (.ref wA), .val (.ref wB), .val (.ref wC), .val (.ref wD), .val (.ref wE), .val (.ref wF), .val (.ref oS), .val (.ref oH), .val (.ref oT), .val (.ref b1), .val (.ref r_39)] [(.int (own_n lS))]))
        rw [show (own_n lS) = (2 : Int32) from hvS]
        show OwnGo p e below s _ _ _ (T309.setTop (mkF m 337 #[.val (.int xa), .val (.int xb), .val (.int xc), .val (.int xd), .val (.int (2 : Int32)), .val (.int (own_n lH)), .val (.int (2 : Int32)), .val (.ref wA), .val (.ref wB), .val (.ref wC), .val (.ref wD), .val (.ref wE), .val (.ref wF), .val (.ref oS), .val (.ref oH), .val (.ref oT), .val (.ref b1), .val (.ref r_39)] [(.int (2 : Int32))]))
        refine own_on (fun t_ k_ => XS.iload X309.here hx rfl (hb hby at_337) rfl k_) ?_
        refine own_on (fun t_ k_ => XS.icmpYes X309.here hx rfl (pc0 := 339) (pc' := 344) rfl (hb hby at_339) rfl (teq (by decide : (2 : Int32) = (2 : Int32))).1 (by decide) (by decide) k_) ?_
        show OwnGo p e below s _ _ _ (T309.setTop (mkF m 344 #[.val (.int xa), .val (.int xb), .val (.int xc), .val (.int xd), .val (.int (2 : Int32)), .val (.int (own_n lH)), .val (.int (2 : Int32)), .val (.ref wA), .val (.ref wB), .val (.ref wC), .val (.ref wD), .val (.ref wE), .val (.ref wF), .val (.ref oS), .val (.ref oH), .val (.ref oT), .val (.ref b1), .val (.ref r_39)] []))
        refine own_on (fun t_ k_ => XS.aload X309.here hx rfl (hb hby at_344) rfl rfl k_) ?_
        have f310 : Fld Z h1 oH "java/util/ArrayList" "size" "I" (.int (own_n lH)) := fq7.ext E1
        have f311 : Fld Z T16.heap oH "java/util/ArrayList" "size" "I" (.int (own_n lH)) := f310.keep K16q (ninS ne4 nin0)
        have f312 : Fld Z T39.heap oH "java/util/ArrayList" "size" "I" (.int (own_n lH)) := f311.keep K39q nin0
        have f313 : Exa Z h1 oH "java/util/ArrayList" := fq5.ext E1
        have f314 : Exa Z T16.heap oH "java/util/ArrayList" := f313.keep K16q
        have f315 : Exa Z T39.heap oH "java/util/ArrayList" := f314.keep K39q
        obtain ⟨cq316, kq316, q316a, q316b, q316c⟩ := isOf hZ e309 f315
        obtain ⟨_, _, ⟨T316, L316, k316, n316⟩, -, X316, ⟨Lc316, hQ316, l316, y316, z316⟩, st316⟩ := X309.virtualBack hx (y := (⟨"java/util/ArrayList", "size", "()I"⟩ : MethodName)) (z := (⟨"java/util/ArrayList", "size", "()I"⟩ : MethodName)) hown (mvT hZ (w137 hw)) (mvT hZ (w138 hw)) (notFace_of_selects (args := #[]) (mvT hZ (w139 hw))) (mvT hZ (w139 hw)) (mvT hZ (w132 hw)) (by decide) (backOf (W := 0) (rm20 l Z a0 hw [] oH lH T39.heap n0 Z39 f312) hZ (w136 hw) (w36 hw) (by decide) (by decide)) q316a q316c (g := (mkF m 346 #[.val (.int xa), .val (.int xb), .val (.int xc), .val (.int xd), .val (.int (2 : Int32)), .val (.int (own_n lH)), .val (.int (2 : Int32)), .val (.ref wA), .val (.ref wB), .val (.ref wC), .val (.ref wD), .val (.ref wE), .val (.ref wF), .val (.ref oS), .val (.ref oH), .val (.ref oT), .val (.ref b1), .val (.ref r_39)] [(.ref oH)])) rfl (by rw [hml]; rfl) (Steps.refl _) (argsL := []) (rest := []) (lenOf pd_15 rfl) rfl (by show 2 * 0 + _ ≤ _; exact Nat.le_of_eq rfl) (hb hby at_346) (fun _ hWx => ⟨rfl, e309, (by decide : 33 + 0 ≤ _), (by decide : 158 + 0 ≤ _)⟩)
        dsimp only [Pt.U, Pt.locs, Pt.cells, Pt.slots] at X316 l316 y316 z316 st316 hQ316
        replace X316 := own_num (c' := 33) (n' := 158) X316 l316 (y316.trans rfl) (z316.trans rfl)
        obtain ⟨rfl, N316q, e316⟩ := hQ316
        have N316 := Fr.app N309 N316q
        refine own_tr st316 ?_
        show OwnGo p e below s _ _ _ (T316.setTop (mkF m 349 #[.val (.int xa), .val (.int xb), .val (.int xc), .val (.int xd), .val (.int (2 : Int32)), .val (.int (own_n lH)), .val (.int (2 : Int32)), .val (.ref wA), .val (.ref wB), .val (.ref wC), .val (.ref wD), .val (.ref wE), .val (.ref wF), .val (.ref oS), .val (.ref oH), .val (.ref oT), .val (.ref b1), .val (.ref r_39)] [(.int (own_n lH))]))
        refine own_on (fun t_ k_ => XS.iload X316.here hx rfl (hb hby at_349) rfl k_) ?_
        refine own_on (fun t_ k_ => XS.icmpYes X316.here hx rfl (pc0 := 351) (pc' := 356) rfl (hb hby at_351) rfl (teq rfl).1 (by decide) (by decide) k_) ?_
        show OwnGo p e below s _ _ _ (T316.setTop (mkF m 356 #[.val (.int xa), .val (.int xb), .val (.int xc), .val (.int xd), .val (.int (2 : Int32)), .val (.int (own_n lH)), .val (.int (2 : Int32)), .val (.ref wA), .val (.ref wB), .val (.ref wC), .val (.ref wD), .val (.ref wE), .val (.ref wF), .val (.ref oS), .val (.ref oH), .val (.ref oT), .val (.ref b1), .val (.ref r_39)] []))
        refine own_on (fun t_ k_ => XS.aload X316.here hx rfl (hb hby at_356) rfl rfl k_) ?_
        have f317 : Fld Z T39.heap oT "java/util/ArrayList" "size" "I" (.int (own_n lT)) := f32.keep K39q nin0
        have f318 : Exa Z T39.heap oT "java/util/ArrayList" := f28.keep K39q
        obtain ⟨cq319, kq319, q319a, q319b, q319c⟩ := isOf hZ e316 f318
        obtain ⟨_, _, ⟨T319, L319, k319, n319⟩, -, X319, ⟨Lc319, hQ319, l319, y319, z319⟩, st319⟩ := X316.virtualBack hx (y := (⟨"java/util/ArrayList", "size", "()I"⟩ : MethodName)) (z := (⟨"java/util/ArrayList", "size", "()I"⟩ : MethodName)) hown (mvT hZ (w137 hw)) (mvT hZ (w138 hw)) (notFace_of_selects (args := #[]) (mvT hZ (w139 hw))) (mvT hZ (w139 hw)) (mvT hZ (w132 hw)) (by decide) (backOf (W := 0) (rm20 l Z a0 hw [] oT lT T39.heap n0 Z39 f317) hZ (w136 hw) (w36 hw) (by decide) (by decide)) q319a q319c (g := (mkF m 358 #[.val (.int xa), .val (.int xb), .val (.int xc), .val (.int xd), .val (.int (2 : Int32)), .val (.int (own_n lH)), .val (.int (2 : Int32)), .val (.ref wA), .val (.ref wB), .val (.ref wC), .val (.ref wD), .val (.ref wE), .val (.ref wF), .val (.ref oS), .val (.ref oH), .val (.ref oT), .val (.ref b1), .val (.ref r_39)] [(.ref oT)])) rfl (by rw [hml]; rfl) (Steps.refl _) (argsL := []) (rest := []) (lenOf pd_15 rfl) rfl (by show 2 * 0 + _ ≤ _; exact Nat.le_of_eq rfl) (hb hby at_358) (fun _ hWx => ⟨rfl, e316, (by decide : 33 + 0 ≤ _), (by decide : 158 + 0 ≤ _)⟩)
        dsimp only [Pt.U, Pt.locs, Pt.cells, Pt.slots] at X319 l319 y319 z319 st319 hQ319
        replace X319 := own_num (c' := 33) (n' := 158) X319 l319 (y319.trans rfl) (z319.trans rfl)
        obtain ⟨rfl, N319q, e319⟩ := hQ319
        have N319 := Fr.app N316 N319q
        refine own_tr st319 ?_
        show OwnGo p e below s _ _ _ (T319.setTop (mkF m 361 #[.val (.int xa), .val (.int xb), .val (.int xc), .val (.int xd), .val (.int (2 : Int32)), .val (.int (own_n lH)), .val (.int (2 : Int32)), .val (.ref wA), .val (.ref wB), .val (.ref wC), .val (.ref wD), .val (.ref wE), .val (.ref wF), .val (.ref oS), .val (.ref oH), .val (.ref oT), .val (.ref b1), .val (.ref r_39)] [(.int (own_n lT))]))
        rw [show (own_n lT) = (2 : Int32) from hvT]
        show OwnGo p e below s _ _ _ (T319.setTop (mkF m 361 #[.val (.int xa), .val (.int xb), .val (.int xc), .val (.int xd), .val (.int (2 : Int32)), .val (.int (own_n lH)), .val (.int (2 : Int32)), .val (.ref wA), .val (.ref wB), .val (.ref wC), .val (.ref wD), .val (.ref wE), .val (.ref wF), .val (.ref oS), .val (.ref oH), .val (.ref oT), .val (.ref b1), .val (.ref r_39)] [(.int (2 : Int32))]))
        refine own_on (fun t_ k_ => XS.iload X319.here hx rfl (hb hby at_361) rfl k_) ?_
        refine own_on (fun t_ k_ => XS.icmpYes X319.here hx rfl (pc0 := 363) (pc' := 368) rfl (hb hby at_363) rfl (teq (by decide : (2 : Int32) = (2 : Int32))).1 (by decide) (by decide) k_) ?_
        show OwnGo p e below s _ _ _ (T319.setTop (mkF m 368 #[.val (.int xa), .val (.int xb), .val (.int xc), .val (.int xd), .val (.int (2 : Int32)), .val (.int (own_n lH)), .val (.int (2 : Int32)), .val (.ref wA), .val (.ref wB), .val (.ref wC), .val (.ref wD), .val (.ref wE), .val (.ref wF), .val (.ref oS), .val (.ref oH), .val (.ref oT), .val (.ref b1), .val (.ref r_39)] []))
        refine own_on (fun t_ k_ => XS.iconst X319.here hx rfl (hb hby at_368) k_) ?_
        exact own_retN X319 hx hlk (t := .boolean) Bd.returns (by simp) (hb hby at_369) e319 ⟨rfl, N319, K39⟩ (by decide) (by decide)
  have J144 : ∀ (Tq : State) (hq : Heap) (lq : List Loc) (Xq : Stand p l e room_1 s m #[(.int xa), (.int xb), (.int xc), (.int xd)] below meth c Tq lq 25 98) (eq : Tq.heap = hq) (Nq : Fr n0 lq) (Zq : n0 ≤ hq.size) (Kq : Keep h0 hq []) (vS : Int32) (vH : Int32) (vT : Int32) (wA : Addr) (wB : Addr) (wC : Addr) (wD : Addr) (wE : Addr) (wF : Addr) (oS : Addr) (eaS : Addr) (cpS : Nat) (lS : List Addr) (oH : Addr) (eaH : Addr) (cpH : Nat) (lH : List Addr) (fq0 : Exa Z hq oS "java/util/ArrayList") (fq1 : Fld Z hq oS "java/util/ArrayList" "elementData" "[Ljava/lang/Object;" (.ref eaS)) (fq2 : Fld Z hq oS "java/util/ArrayList" "size" "I" (.int (own_n lS))) (fq3 : OwnA Z hq eaS cpS lS) (fq4 : OwnE Z hq lS) (fq5 : Exa Z hq oH "java/util/ArrayList") (fq6 : Fld Z hq oH "java/util/ArrayList" "elementData" "[Ljava/lang/Object;" (.ref eaH)) (fq7 : Fld Z hq oH "java/util/ArrayList" "size" "I" (.int (own_n lH))) (fq8 : OwnA Z hq eaH cpH lH) (fq9 : OwnE Z hq lH) (fq10 : Old Z n0 hq) (fq11 : Exa Z hq wA "java/lang/String") (fq12 : Exa Z hq wB "java/lang/String") (fq13 : Exa Z hq wC "java/lang/String") (fq14 : Exa Z hq wD "java/lang/String") (fq15 : Exa Z hq wE "java/lang/String") (fq16 : Exa Z hq wF "java/lang/String") (fq17 : own_case vS lS wA wB) (fq18 : own_case vH lH wC wD) (fq19 : vT = 0 ∨ vT = 1 ∨ vT = 2), OwnGo p e below s (Q0 Z xa xb xc xd cs dc em mr ml h0 n0) room_1.cells room_1.slots (Tq.setTop (mkF m 144 #[.val (.int xa), .val (.int xb), .val (.int xc), .val (.int xd), .val (.int vS), .val (.int vH), .val (.int vT), .val (.ref wA), .val (.ref wB), .val (.ref wC), .val (.ref wD), .val (.ref wE), .val (.ref wF), .val (.ref oS), .val (.ref oH), .unset, .unset, .unset] [])) := by
    intro Tq hq lq Xq eq Nq Zq Kq vS vH vT wA wB wC wD wE wF oS eaS cpS lS oH eaH cpH lH fq0 fq1 fq2 fq3 fq4 fq5 fq6 fq7 fq8 fq9 fq10 fq11 fq12 fq13 fq14 fq15 fq16 fq17 fq18 fq19
    have f320 : OwnA Z hq dc 0 own_nil := P4.ext fq10.2
    obtain ⟨T321, h321, X321, e321, E321, A321, D321, u321, st321⟩ := newO Xq hx hZ hown (w34 hw) (w35 hw) (w36 hw) eq (g := (mkF m 144 #[.val (.int xa), .val (.int xb), .val (.int xc), .val (.int xd), .val (.int vS), .val (.int vH), .val (.int vT), .val (.ref wA), .val (.ref wB), .val (.ref wC), .val (.ref wD), .val (.ref wE), .val (.ref wF), .val (.ref oS), .val (.ref oH), .unset, .unset, .unset] [])) rfl (hb hby at_144) (by decide) (by decide)
    obtain ⟨b321, g321⟩ : ∃ z, z = hq.size := ⟨_, rfl⟩
    rw [← g321] at A321 D321 st321
    have ne322' : oS < b321 := Nat.lt_of_lt_of_le fq0.lt (Nat.le_of_eq g321.symm)
    have ne322 : oS ≠ b321 := Nat.ne_of_lt ne322'
    have ne323' : eaS < b321 := Nat.lt_of_lt_of_le fq3.lt (Nat.le_of_eq g321.symm)
    have ne323 : eaS ≠ b321 := Nat.ne_of_lt ne323'
    have ne324' : oH < b321 := Nat.lt_of_lt_of_le fq5.lt (Nat.le_of_eq g321.symm)
    have ne324 : oH ≠ b321 := Nat.ne_of_lt ne324'
    have ne325' : eaH < b321 := Nat.lt_of_lt_of_le fq8.lt (Nat.le_of_eq g321.symm)
    have ne325 : eaH ≠ b321 := Nat.ne_of_lt ne325'
    have ne326' : wA < b321 := Nat.lt_of_lt_of_le fq11.lt (Nat.le_of_eq g321.symm)
    have ne326 : wA ≠ b321 := Nat.ne_of_lt ne326'
    have ne327' : wB < b321 := Nat.lt_of_lt_of_le fq12.lt (Nat.le_of_eq g321.symm)
    have ne327 : wB ≠ b321 := Nat.ne_of_lt ne327'
    have ne328' : wC < b321 := Nat.lt_of_lt_of_le fq13.lt (Nat.le_of_eq g321.symm)
    have ne328 : wC ≠ b321 := Nat.ne_of_lt ne328'
    have ne329' : wD < b321 := Nat.lt_of_lt_of_le fq14.lt (Nat.le_of_eq g321.symm)
    have ne329 : wD ≠ b321 := Nat.ne_of_lt ne329'
    have ne330' : wE < b321 := Nat.lt_of_lt_of_le fq15.lt (Nat.le_of_eq g321.symm)
    have ne330 : wE ≠ b321 := Nat.ne_of_lt ne330'
    have ne331' : wF < b321 := Nat.lt_of_lt_of_le fq16.lt (Nat.le_of_eq g321.symm)
    have ne331 : wF ≠ b321 := Nat.ne_of_lt ne331'
    have ne332' : dc < b321 := Nat.lt_of_lt_of_le f320.lt (Nat.le_of_eq g321.symm)
    have ne332 : dc ≠ b321 := Nat.ne_of_lt ne332'
    have g333 : n0 ≤ b321 := Nat.le_trans Zq (Nat.le_of_eq g321.symm)
    have z334 : h0.size ≤ b321 := Nat.le_trans Kq.1 (Nat.le_of_eq g321.symm)
    have Z321 : n0 ≤ h321.size := Nat.le_trans Zq E321.1
    have K321 : Keep h0 h321 [] := Kq.ext E321
    have F321_modCount : Fld Z h321 b321 "java/util/AbstractList" "modCount" "I" (.int (0 : Int32)) := D321 (Or.inl (w54 hw)) (ty := .int) (by decide)
    have F321_elementData : Fld Z h321 b321 "java/util/ArrayList" "elementData" "[Ljava/lang/Object;" .null := D321 (Or.inl (w57 hw)) (ty := (.array (.object "java/lang/Object"))) (by decide)
    have F321_size : Fld Z h321 b321 "java/util/ArrayList" "size" "I" (.int (0 : Int32)) := D321 (Or.inl (w95 hw)) (ty := .int) (by decide)
    refine own_on st321 ?_
    show OwnGo p e below s _ _ _ (T321.setTop (mkF m 147 #[.val (.int xa), .val (.int xb), .val (.int xc), .val (.int xd), .val (.int vS), .val (.int vH), .val (.int vT), .val (.ref wA), .val (.ref wB), .val (.ref wC), .val (.ref wD), .val (.ref wE), .val (.ref wF), .val (.ref oS), .val (.ref oH), .unset, .unset, .unset] [(.ref b321)]))
    refine own_on (fun t_ k_ => XS.dup X321.here hx rfl (hb hby at_147) rfl rfl k_) ?_
    show OwnGo p e below s _ _ _ (T321.setTop (mkF m 148 #[.val (.int xa), .val (.int xb), .val (.int xc), .val (.int xd), .val (.int vS), .val (.int vH), .val (.int vT), .val (.ref wA), .val (.ref wB), .val (.ref wC), .val (.ref wD), .val (.ref wE), .val (.ref wF), .val (.ref oS), .val (.ref oH), .unset, .unset, .unset] [(.ref b321), (.ref b321)]))
    have f335 : Old Z n0 h321 := fq10.ext E321
    obtain ⟨_, _, ⟨T336, L336, k336, n336⟩, -, X336, ⟨Lc336, hQ336, l336, y336, z336⟩, st336⟩ := X321.specialBack hx (y := (⟨"java/util/ArrayList", "<init>", "()V"⟩ : MethodName)) rfl hown (mvT hZ (w37 hw)) (mvT hZ (w38 hw)) (mvT hZ (w39 hw)) (by decide) (backOf (W := 1) (rm8 l Z a0 hw [] b321 .null (.int (0 : Int32)) dc h321 n0 Z321 A321 F321_elementData F321_size F321_modCount g333 f335 P3 P4) hZ (w39 hw) (w36 hw) (by decide) (by decide)) (g := (mkF m 148 #[.val (.int xa), .val (.int xb), .val (.int xc), .val (.int xd), .val (.int vS), .val (.int vH), .val (.int vT), .val (.ref wA), .val (.ref wB), .val (.ref wC), .val (.ref wD), .val (.ref wE), .val (.ref wF), .val (.ref oS), .val (.ref oH), .unset, .unset, .unset] [(.ref b321), (.ref b321)])) rfl (by rw [hml]; rfl) (Steps.refl _) (a := b321) (argsL := []) (rest := [(.ref b321)]) (lenOf pd_0 rfl) rfl (by show 2 * 0 + _ ≤ _; exact Nat.le_of_eq rfl) (hb hby at_148) (fun _ hWx => ⟨rfl, e321, (by decide : 26 + 0 ≤ _), (by decide : 101 + 0 ≤ _)⟩)
    dsimp only [Pt.U, Pt.locs, Pt.cells, Pt.slots] at X336 l336 y336 z336 st336 hQ336
    replace X336 := own_num (c' := 26) (n' := 101) X336 l336 (y336.trans rfl) (z336.trans rfl)
    obtain ⟨rfl, N336q, K336q, c336_0, c336_1, c336_2, c336_3, c336_4, c336_5⟩ := hQ336
    have N336 := Fr.app Nq N336q
    have Z336 : n0 ≤ T336.heap.size := Nat.le_trans Z321 K336q.1
    have K336 : Keep h0 T336.heap [] := K321.trans K336q (allS (P := fun x => x ∈ [] ∨ h0.size ≤ x) (Or.inr z334) all0)
    refine own_tr st336 ?_
    show OwnGo p e below s _ _ _ (T336.setTop (mkF m 151 #[.val (.int xa), .val (.int xb), .val (.int xc), .val (.int xd), .val (.int vS), .val (.int vH), .val (.int vT), .val (.ref wA), .val (.ref wB), .val (.ref wC), .val (.ref wD), .val (.ref wE), .val (.ref wF), .val (.ref oS), .val (.ref oH), .unset, .unset, .unset] [(.ref b321)]))
    refine own_on (fun t_ k_ => XS.astore X336.here hx rfl (hb hby at_151) rfl rfl (l' := #[.val (.int xa), .val (.int xb), .val (.int xc), .val (.int xd), .val (.int vS), .val (.int vH), .val (.int vT), .val (.ref wA), .val (.ref wB), .val (.ref wC), .val (.ref wD), .val (.ref wE), .val (.ref wF), .val (.ref oS), .val (.ref oH), .val (.ref b321), .unset, .unset]) rfl k_) ?_
    show OwnGo p e below s _ _ _ (T336.setTop (mkF m 153 #[.val (.int xa), .val (.int xb), .val (.int xc), .val (.int xd), .val (.int vS), .val (.int vH), .val (.int vT), .val (.ref wA), .val (.ref wB), .val (.ref wC), .val (.ref wD), .val (.ref wE), .val (.ref wF), .val (.ref oS), .val (.ref oH), .val (.ref b321), .unset, .unset] []))
    have f337 : b321 ≤ T336.heap.size := Nat.le_of_lt c336_0.lt
    have hr338 : b321 = dc ∨ 0 = 0 := Or.inr rfl
    have hr339 : b321 ≤ b321 := Nat.le_refl _
    have f340 : OwnE Z T336.heap own_nil := fun _ q => nomatch q
    rcases fq19 with hv | hv | hv
    · rw [show vT = (0 : Int32) from hv]
      show OwnGo p e below s _ _ _ (T336.setTop (mkF m 153 #[.val (.int xa), .val (.int xb), .val (.int xc), .val (.int xd), .val (.int vS), .val (.int vH), .val (.int (0 : Int32)), .val (.ref wA), .val (.ref wB), .val (.ref wC), .val (.ref wD), .val (.ref wE), .val (.ref wF), .val (.ref oS), .val (.ref oH), .val (.ref b321), .unset, .unset] []))
      refine own_on (fun t_ k_ => XS.iload X336.here hx rfl (hb hby at_153) rfl k_) ?_
      refine own_on (fun t_ k_ => XS.iconst X336.here hx rfl (hb hby at_155) k_) ?_
      refine own_on (fun t_ k_ => XS.icmpYes X336.here hx rfl (pc0 := 156) (pc' := 167) rfl (hb hby at_156) rfl (tlt (by decide : (0 : Int32) < (1 : Int32))).1 (by decide) (by decide) k_) ?_
      show OwnGo p e below s _ _ _ (T336.setTop (mkF m 167 #[.val (.int xa), .val (.int xb), .val (.int xc), .val (.int xd), .val (.int vS), .val (.int vH), .val (.int (0 : Int32)), .val (.ref wA), .val (.ref wB), .val (.ref wC), .val (.ref wD), .val (.ref wE), .val (.ref wF), .val (.ref oS), .val (.ref oH), .val (.ref b321), .unset, .unset] []))
      refine own_on (fun t_ k_ => XS.iload X336.here hx rfl (hb hby at_167) rfl k_) ?_
      refine own_on (fun t_ k_ => XS.iconst X336.here hx rfl (hb hby at_169) k_) ?_
      refine own_on (fun t_ k_ => XS.icmpYes X336.here hx rfl (pc0 := 170) (pc' := 181) rfl (hb hby at_170) rfl (tlt (by decide : (0 : Int32) < (2 : Int32))).1 (by decide) (by decide) k_) ?_
      show OwnGo p e below s _ _ _ (T336.setTop (mkF m 181 #[.val (.int xa), .val (.int xb), .val (.int xc), .val (.int xd), .val (.int vS), .val (.int vH), .val (.int (0 : Int32)), .val (.ref wA), .val (.ref wB), .val (.ref wC), .val (.ref wD), .val (.ref wE), .val (.ref wF), .val (.ref oS), .val (.ref oH), .val (.ref b321), .unset, .unset] []))
      have hc341 : own_case (0 : Int32) own_nil wE wF := Or.inl ⟨rfl, rfl⟩
      have f342 : Exa Z h321 oS "java/util/ArrayList" := fq0.ext E321
      have f343 : Exa Z T336.heap oS "java/util/ArrayList" := f342.keep K336q
      have f344 : Fld Z h321 oS "java/util/ArrayList" "elementData" "[Ljava/lang/Object;" (.ref eaS) := fq1.ext E321
      have f345 : Fld Z T336.heap oS "java/util/ArrayList" "elementData" "[Ljava/lang/Object;" (.ref eaS) := f344.keep K336q (ninS ne322 nin0)
      have f346 : Fld Z h321 oS "java/util/ArrayList" "size" "I" (.int (own_n lS)) := fq2.ext E321
      have f347 : Fld Z T336.heap oS "java/util/ArrayList" "size" "I" (.int (own_n lS)) := f346.keep K336q (ninS ne322 nin0)
      have f348 : OwnA Z h321 eaS cpS lS := fq3.ext E321
      have f349 : OwnA Z T336.heap eaS cpS lS := f348.keep K336q (ninS ne323 nin0)
      have f350 : OwnE Z h321 lS := fq4.ext E321
      have f351 : OwnE Z T336.heap lS := f350.keep K336q 
      have f352 : Exa Z h321 oH "java/util/ArrayList" := fq5.ext E321
      have f353 : Exa Z T336.heap oH "java/util/ArrayList" := f352.keep K336q
      have f354 : Fld Z h321 oH "java/util/ArrayList" "elementData" "[Ljava/lang/Object;" (.ref eaH) := fq6.ext E321
      have f355 : Fld Z T336.heap oH "java/util/ArrayList" "elementData" "[Ljava/lang/Object;" (.ref eaH) := f354.keep K336q (ninS ne324 nin0)
      have f356 : Fld Z h321 oH "java/util/ArrayList" "size" "I" (.int (own_n lH)) := fq7.ext E321
      have f357 : Fld Z T336.heap oH "java/util/ArrayList" "size" "I" (.int (own_n lH)) := f356.keep K336q (ninS ne324 nin0)
      have f358 : OwnA Z h321 eaH cpH lH := fq8.ext E321
      have f359 : OwnA Z T336.heap eaH cpH lH := f358.keep K336q (ninS ne325 nin0)
      have f360 : OwnE Z h321 lH := fq9.ext E321
      have f361 : OwnE Z T336.heap lH := f360.keep K336q 
      have f362 : Exa Z h321 wA "java/lang/String" := fq11.ext E321
      have f363 : Exa Z T336.heap wA "java/lang/String" := f362.keep K336q
      have f364 : Exa Z h321 wB "java/lang/String" := fq12.ext E321
      have f365 : Exa Z T336.heap wB "java/lang/String" := f364.keep K336q
      have f366 : Exa Z h321 wC "java/lang/String" := fq13.ext E321
      have f367 : Exa Z T336.heap wC "java/lang/String" := f366.keep K336q
      have f368 : Exa Z h321 wD "java/lang/String" := fq14.ext E321
      have f369 : Exa Z T336.heap wD "java/lang/String" := f368.keep K336q
      have f370 : Exa Z h321 wE "java/lang/String" := fq15.ext E321
      have f371 : Exa Z T336.heap wE "java/lang/String" := f370.keep K336q
      have f372 : Exa Z h321 wF "java/lang/String" := fq16.ext E321
      have f373 : Exa Z T336.heap wF "java/lang/String" := f372.keep K336q
      exact J181 _ _ _ (X336.more (by decide) (by decide)) rfl N336 Z336 K336 vS vH (0 : Int32) wA wB wC wD wE wF oS eaS cpS lS oH eaH cpH lH b321 dc 0 own_nil f343 f345 f347 f349 f351 f353 f355 f357 f359 f361 c336_0 c336_1 c336_2 c336_4 f340 c336_5 f363 f365 f367 f369 f371 f373 fq17 fq18 hc341
    · rw [show vT = (1 : Int32) from hv]
      show OwnGo p e below s _ _ _ (T336.setTop (mkF m 153 #[.val (.int xa), .val (.int xb), .val (.int xc), .val (.int xd), .val (.int vS), .val (.int vH), .val (.int (1 : Int32)), .val (.ref wA), .val (.ref wB), .val (.ref wC), .val (.ref wD), .val (.ref wE), .val (.ref wF), .val (.ref oS), .val (.ref oH), .val (.ref b321), .unset, .unset] []))
      refine own_on (fun t_ k_ => XS.iload X336.here hx rfl (hb hby at_153) rfl k_) ?_
      refine own_on (fun t_ k_ => XS.iconst X336.here hx rfl (hb hby at_155) k_) ?_
      refine own_on (fun t_ k_ => XS.icmpNo X336.here hx rfl (hb hby at_156) rfl (flt (by decide : ¬ ((1 : Int32) < (1 : Int32)))).1 k_) ?_
      show OwnGo p e below s _ _ _ (T336.setTop (mkF m 159 #[.val (.int xa), .val (.int xb), .val (.int xc), .val (.int xd), .val (.int vS), .val (.int vH), .val (.int (1 : Int32)), .val (.ref wA), .val (.ref wB), .val (.ref wC), .val (.ref wD), .val (.ref wE), .val (.ref wF), .val (.ref oS), .val (.ref oH), .val (.ref b321), .unset, .unset] []))
      refine own_on (fun t_ k_ => XS.aload X336.here hx rfl (hb hby at_159) rfl rfl k_) ?_
      refine own_on (fun t_ k_ => XS.aload X336.here hx rfl (hb hby at_161) rfl rfl k_) ?_
      have f374 : Exa Z h321 wE "java/lang/String" := fq15.ext E321
      have f375 : Exa Z T336.heap wE "java/lang/String" := f374.keep K336q
      obtain ⟨cq376, kq376, q376a, q376b, q376c⟩ := isOf hZ rfl c336_0
      obtain ⟨_, _, ⟨T376, L376, k376, n376⟩, -, X376, ⟨Lc376, hQ376, l376, y376, z376⟩, st376⟩ := X336.virtualBack hx (y := (⟨"java/util/ArrayList", "add", "(Ljava/lang/Object;)Z"⟩ : MethodName)) (z := (⟨"java/util/ArrayList", "add", "(Ljava/lang/Object;)Z"⟩ : MethodName)) hown (mvT hZ (w140 hw)) (mvT hZ (w141 hw)) (notFace_of_selects (args := #[]) (mvT hZ (w143 hw))) (mvT hZ (w143 hw)) (mvT hZ (w142 hw)) (by decide) (backOf (W := 0) (rm21 l Z a0 hw [] b321 wE dc 0 own_nil (0 : Int32) b321 b321 dc mr T336.heap n0 Z336 c336_0 c336_1 c336_2 c336_3 c336_4 f340 f375 hr338 g333 hr339 f337 c336_5 P3 P7 g333 (by (first | omega | exact Nat.le_of_ble_eq_true rfl | (simp only [List.length_append]; omega)) : own_nil.length ≤ 5)) hZ (w144 hw) (w36 hw) (by decide) (by decide)) q376a q376c (g := (mkF m 163 #[.val (.int xa), .val (.int xb), .val (.int xc), .val (.int xd), .val (.int vS), .val (.int vH), .val (.int (1 : Int32)), .val (.ref wA), .val (.ref wB), .val (.ref wC), .val (.ref wD), .val (.ref wE), .val (.ref wF), .val (.ref oS), .val (.ref oH), .val (.ref b321), .unset, .unset] [(.ref wE), (.ref b321)])) rfl (by rw [hml]; rfl) (Steps.refl _) (argsL := [(.ref wE)]) (rest := []) (lenOf pd_16 rfl) rfl (by show 2 * 0 + _ ≤ _; exact Nat.le_of_eq rfl) (hb hby at_163) (fun _ hWx => ⟨rfl, rfl, (by decide : 26 + 1 ≤ _), (by decide : 101 + 10 ≤ _)⟩)
      dsimp only [Pt.U, Pt.locs, Pt.cells, Pt.slots] at X376 l376 y376 z376 st376 hQ376
      replace X376 := own_num (c' := 27) (n' := 111) X376 l376 (y376.trans rfl) (z376.trans rfl)
      obtain ⟨ea2_376, cp2_376, wa2_376, rfl, N376q, K376q, c376_0, c376_1, c376_2, c376_3, c376_4, c376_5, c376_6, c376_7, c376_8, c376_9⟩ := hQ376
      have N376 := Fr.app N336 N376q
      have Z376 : n0 ≤ T376.heap.size := Nat.le_trans Z336 K376q.1
      have K376 : Keep h0 T376.heap [] := K336.trans K376q (allS (P := fun x => x ∈ [] ∨ h0.size ≤ x) (Or.inr z334) (allS (P := fun x => x ∈ [] ∨ h0.size ≤ x) (Or.inr z334) all0))
      refine own_tr st376 ?_
      show OwnGo p e below s _ _ _ (T376.setTop (mkF m 166 #[.val (.int xa), .val (.int xb), .val (.int xc), .val (.int xd), .val (.int vS), .val (.int vH), .val (.int (1 : Int32)), .val (.ref wA), .val (.ref wB), .val (.ref wC), .val (.ref wD), .val (.ref wE), .val (.ref wF), .val (.ref oS), .val (.ref oH), .val (.ref b321), .unset, .unset] [(.int (1 : Int32))]))
      have hr377 : h0.size ≤ wa2_376 := Nat.le_trans z334 c376_7
      have ne378 : oS ≠ wa2_376 := Nat.ne_of_lt (Nat.lt_of_lt_of_le ne322' c376_7)
      have ne379 : eaS ≠ wa2_376 := Nat.ne_of_lt (Nat.lt_of_lt_of_le ne323' c376_7)
      have ne380 : oH ≠ wa2_376 := Nat.ne_of_lt (Nat.lt_of_lt_of_le ne324' c376_7)
      have ne381 : eaH ≠ wa2_376 := Nat.ne_of_lt (Nat.lt_of_lt_of_le ne325' c376_7)
      have ne382 : wA ≠ wa2_376 := Nat.ne_of_lt (Nat.lt_of_lt_of_le ne326' c376_7)
      have ne383 : wB ≠ wa2_376 := Nat.ne_of_lt (Nat.lt_of_lt_of_le ne327' c376_7)
      have ne384 : wC ≠ wa2_376 := Nat.ne_of_lt (Nat.lt_of_lt_of_le ne328' c376_7)
      have ne385 : wD ≠ wa2_376 := Nat.ne_of_lt (Nat.lt_of_lt_of_le ne329' c376_7)
      have ne386 : wE ≠ wa2_376 := Nat.ne_of_lt (Nat.lt_of_lt_of_le ne330' c376_7)
      have ne387 : wF ≠ wa2_376 := Nat.ne_of_lt (Nat.lt_of_lt_of_le ne331' c376_7)
      have ne388 : dc ≠ wa2_376 := Nat.ne_of_lt (Nat.lt_of_lt_of_le ne332' c376_7)
      refine own_on (fun t_ k_ => XS.pop X376.here hx rfl (hb hby at_166) rfl rfl k_) ?_
      show OwnGo p e below s _ _ _ (T376.setTop (mkF m 167 #[.val (.int xa), .val (.int xb), .val (.int xc), .val (.int xd), .val (.int vS), .val (.int vH), .val (.int (1 : Int32)), .val (.ref wA), .val (.ref wB), .val (.ref wC), .val (.ref wD), .val (.ref wE), .val (.ref wF), .val (.ref oS), .val (.ref oH), .val (.ref b321), .unset, .unset] []))
      refine own_on (fun t_ k_ => XS.iload X376.here hx rfl (hb hby at_167) rfl k_) ?_
      refine own_on (fun t_ k_ => XS.iconst X376.here hx rfl (hb hby at_169) k_) ?_
      refine own_on (fun t_ k_ => XS.icmpYes X376.here hx rfl (pc0 := 170) (pc' := 181) rfl (hb hby at_170) rfl (tlt (by decide : (1 : Int32) < (2 : Int32))).1 (by decide) (by decide) k_) ?_
      show OwnGo p e below s _ _ _ (T376.setTop (mkF m 181 #[.val (.int xa), .val (.int xb), .val (.int xc), .val (.int xd), .val (.int vS), .val (.int vH), .val (.int (1 : Int32)), .val (.ref wA), .val (.ref wB), .val (.ref wC), .val (.ref wD), .val (.ref wE), .val (.ref wF), .val (.ref oS), .val (.ref oH), .val (.ref b321), .unset, .unset] []))
      have hc389 : own_case (1 : Int32) (own_nil ++ [wE]) wE wF := Or.inr (Or.inl ⟨rfl, rfl⟩)
      have f390 : Exa Z h321 oS "java/util/ArrayList" := fq0.ext E321
      have f391 : Exa Z T336.heap oS "java/util/ArrayList" := f390.keep K336q
      have f392 : Exa Z T376.heap oS "java/util/ArrayList" := f391.keep K376q
      have f393 : Fld Z h321 oS "java/util/ArrayList" "elementData" "[Ljava/lang/Object;" (.ref eaS) := fq1.ext E321
      have f394 : Fld Z T336.heap oS "java/util/ArrayList" "elementData" "[Ljava/lang/Object;" (.ref eaS) := f393.keep K336q (ninS ne322 nin0)
      have f395 : Fld Z T376.heap oS "java/util/ArrayList" "elementData" "[Ljava/lang/Object;" (.ref eaS) := f394.keep K376q (ninS ne322 (ninS ne322 nin0))
      have f396 : Fld Z h321 oS "java/util/ArrayList" "size" "I" (.int (own_n lS)) := fq2.ext E321
      have f397 : Fld Z T336.heap oS "java/util/ArrayList" "size" "I" (.int (own_n lS)) := f396.keep K336q (ninS ne322 nin0)
      have f398 : Fld Z T376.heap oS "java/util/ArrayList" "size" "I" (.int (own_n lS)) := f397.keep K376q (ninS ne322 (ninS ne322 nin0))
      have f399 : OwnA Z h321 eaS cpS lS := fq3.ext E321
      have f400 : OwnA Z T336.heap eaS cpS lS := f399.keep K336q (ninS ne323 nin0)
      have f401 : OwnA Z T376.heap eaS cpS lS := f400.keep K376q (ninS ne323 (ninS ne323 nin0))
      have f402 : OwnE Z h321 lS := fq4.ext E321
      have f403 : OwnE Z T336.heap lS := f402.keep K336q 
      have f404 : OwnE Z T376.heap lS := f403.keep K376q 
      have f405 : Exa Z h321 oH "java/util/ArrayList" := fq5.ext E321
      have f406 : Exa Z T336.heap oH "java/util/ArrayList" := f405.keep K336q
      have f407 : Exa Z T376.heap oH "java/util/ArrayList" := f406.keep K376q
      have f408 : Fld Z h321 oH "java/util/ArrayList" "elementData" "[Ljava/lang/Object;" (.ref eaH) := fq6.ext E321
      have f409 : Fld Z T336.heap oH "java/util/ArrayList" "elementData" "[Ljava/lang/Object;" (.ref eaH) := f408.keep K336q (ninS ne324 nin0)
      have f410 : Fld Z T376.heap oH "java/util/ArrayList" "elementData" "[Ljava/lang/Object;" (.ref eaH) := f409.keep K376q (ninS ne324 (ninS ne324 nin0))
      have f411 : Fld Z h321 oH "java/util/ArrayList" "size" "I" (.int (own_n lH)) := fq7.ext E321
      have f412 : Fld Z T336.heap oH "java/util/ArrayList" "size" "I" (.int (own_n lH)) := f411.keep K336q (ninS ne324 nin0)
      have f413 : Fld Z T376.heap oH "java/util/ArrayList" "size" "I" (.int (own_n lH)) := f412.keep K376q (ninS ne324 (ninS ne324 nin0))
      have f414 : OwnA Z h321 eaH cpH lH := fq8.ext E321
      have f415 : OwnA Z T336.heap eaH cpH lH := f414.keep K336q (ninS ne325 nin0)
      have f416 : OwnA Z T376.heap eaH cpH lH := f415.keep K376q (ninS ne325 (ninS ne325 nin0))
      have f417 : OwnE Z h321 lH := fq9.ext E321
      have f418 : OwnE Z T336.heap lH := f417.keep K336q 
      have f419 : OwnE Z T376.heap lH := f418.keep K376q 
      have f420 : Exa Z h321 wA "java/lang/String" := fq11.ext E321
      have f421 : Exa Z T336.heap wA "java/lang/String" := f420.keep K336q
      have f422 : Exa Z T376.heap wA "java/lang/String" := f421.keep K376q
      have f423 : Exa Z h321 wB "java/lang/String" := fq12.ext E321
      have f424 : Exa Z T336.heap wB "java/lang/String" := f423.keep K336q
      have f425 : Exa Z T376.heap wB "java/lang/String" := f424.keep K376q
      have f426 : Exa Z h321 wC "java/lang/String" := fq13.ext E321
      have f427 : Exa Z T336.heap wC "java/lang/String" := f426.keep K336q
      have f428 : Exa Z T376.heap wC "java/lang/String" := f427.keep K376q
      have f429 : Exa Z h321 wD "java/lang/String" := fq14.ext E321
      have f430 : Exa Z T336.heap wD "java/lang/String" := f429.keep K336q
      have f431 : Exa Z T376.heap wD "java/lang/String" := f430.keep K376q
      have f432 : Exa Z T376.heap wE "java/lang/String" := f375.keep K376q
      have f433 : Exa Z h321 wF "java/lang/String" := fq16.ext E321
      have f434 : Exa Z T336.heap wF "java/lang/String" := f433.keep K336q
      have f435 : Exa Z T376.heap wF "java/lang/String" := f434.keep K376q
      exact J181 _ _ _ (X376.more (by decide) (by decide)) rfl N376 Z376 K376 vS vH (1 : Int32) wA wB wC wD wE wF oS eaS cpS lS oH eaH cpH lH b321 ea2_376 cp2_376 (own_nil ++ [wE]) f392 f395 f398 f401 f404 f407 f410 f413 f416 f419 c376_0 c376_1 c376_2 c376_4 c376_9 c376_8 f422 f425 f428 f431 f432 f435 fq17 fq18 hc389
    · rw [show vT = (2 : Int32) from hv]
      show OwnGo p e below s _ _ _ (T336.setTop (mkF m 153 #[.val (.int xa), .val (.int xb), .val (.int xc), .val (.int xd), .val (.int vS), .val (.int vH), .val (.int (2 : Int32)), .val (.ref wA), .val (.ref wB), .val (.ref wC), .val (.ref wD), .val (.ref wE), .val (.ref wF), .val (.ref oS), .val (.ref oH), .val (.ref b321), .unset, .unset] []))
      refine own_on (fun t_ k_ => XS.iload X336.here hx rfl (hb hby at_153) rfl k_) ?_
      refine own_on (fun t_ k_ => XS.iconst X336.here hx rfl (hb hby at_155) k_) ?_
      refine own_on (fun t_ k_ => XS.icmpNo X336.here hx rfl (hb hby at_156) rfl (flt (by decide : ¬ ((2 : Int32) < (1 : Int32)))).1 k_) ?_
      show OwnGo p e below s _ _ _ (T336.setTop (mkF m 159 #[.val (.int xa), .val (.int xb), .val (.int xc), .val (.int xd), .val (.int vS), .val (.int vH), .val (.int (2 : Int32)), .val (.ref wA), .val (.ref wB), .val (.ref wC), .val (.ref wD), .val (.ref wE), .val (.ref wF), .val (.ref oS), .val (.ref oH), .val (.ref b321), .unset, .unset] []))
      refine own_on (fun t_ k_ => XS.aload X336.here hx rfl (hb hby at_159) rfl rfl k_) ?_
      refine own_on (fun t_ k_ => XS.aload X336.here hx rfl (hb hby at_161) rfl rfl k_) ?_
      have f436 : Exa Z h321 wE "java/lang/String" := fq15.ext E321
      have f437 : Exa Z T336.heap wE "java/lang/String" := f436.keep K336q
      obtain ⟨cq438, kq438, q438a, q438b, q438c⟩ := isOf hZ rfl c336_0
      obtain ⟨_, _, ⟨T438, L438, k438, n438⟩, -, X438, ⟨Lc438, hQ438, l438, y438, z438⟩, st438⟩ := X336.virtualBack hx (y := (⟨"java/util/ArrayList", "add", "(Ljava/lang/Object;)Z"⟩ : MethodName)) (z := (⟨"java/util/ArrayList", "add", "(Ljava/lang/Object;)Z"⟩ : MethodName)) hown (mvT hZ (w140 hw)) (mvT hZ (w141 hw)) (notFace_of_selects (args := #[]) (mvT hZ (w143 hw))) (mvT hZ (w143 hw)) (mvT hZ (w142 hw)) (by decide) (backOf (W := 0) (rm21 l Z a0 hw [] b321 wE dc 0 own_nil (0 : Int32) b321 b321 dc mr T336.heap n0 Z336 c336_0 c336_1 c336_2 c336_3 c336_4 f340 f437 hr338 g333 hr339 f337 c336_5 P3 P7 g333 (by (first | omega | exact Nat.le_of_ble_eq_true rfl | (simp only [List.length_append]; omega)) : own_nil.length ≤ 5)) hZ (w144 hw) (w36 hw) (by decide) (by decide)) q438a q438c (g := (mkF m 163 #[.val (.int xa), .val (.int xb), .val (.int xc), .val (.int xd), .val (.int vS), .val (.int vH), .val (.int (2 : Int32)), .val (.ref wA), .val (.ref wB), .val (.ref wC), .val (.ref wD), .val (.ref wE), .val (.ref wF), .val (.ref oS), .val (.ref oH), .val (.ref b321), .unset, .unset] [(.ref wE), (.ref b321)])) rfl (by rw [hml]; rfl) (Steps.refl _) (argsL := [(.ref wE)]) (rest := []) (lenOf pd_16 rfl) rfl (by show 2 * 0 + _ ≤ _; exact Nat.le_of_eq rfl) (hb hby at_163) (fun _ hWx => ⟨rfl, rfl, (by decide : 26 + 1 ≤ _), (by decide : 101 + 10 ≤ _)⟩)
      dsimp only [Pt.U, Pt.locs, Pt.cells, Pt.slots] at X438 l438 y438 z438 st438 hQ438
      replace X438 := own_num (c' := 27) (n' := 111) X438 l438 (y438.trans rfl) (z438.trans rfl)
      obtain ⟨ea2_438, cp2_438, wa2_438, rfl, N438q, K438q, c438_0, c438_1, c438_2, c438_3, c438_4, c438_5, c438_6, c438_7, c438_8, c438_9⟩ := hQ438
      have N438 := Fr.app N336 N438q
      have Z438 : n0 ≤ T438.heap.size := Nat.le_trans Z336 K438q.1
      have K438 : Keep h0 T438.heap [] := K336.trans K438q (allS (P := fun x => x ∈ [] ∨ h0.size ≤ x) (Or.inr z334) (allS (P := fun x => x ∈ [] ∨ h0.size ≤ x) (Or.inr z334) all0))
      refine own_tr st438 ?_
      show OwnGo p e below s _ _ _ (T438.setTop (mkF m 166 #[.val (.int xa), .val (.int xb), .val (.int xc), .val (.int xd), .val (.int vS), .val (.int vH), .val (.int (2 : Int32)), .val (.ref wA), .val (.ref wB), .val (.ref wC), .val (.ref wD), .val (.ref wE), .val (.ref wF), .val (.ref oS), .val (.ref oH), .val (.ref b321), .unset, .unset] [(.int (1 : Int32))]))
      have hr439 : h0.size ≤ wa2_438 := Nat.le_trans z334 c438_7
      have ne440 : oS ≠ wa2_438 := Nat.ne_of_lt (Nat.lt_of_lt_of_le ne322' c438_7)
      have ne441 : eaS ≠ wa2_438 := Nat.ne_of_lt (Nat.lt_of_lt_of_le ne323' c438_7)
      have ne442 : oH ≠ wa2_438 := Nat.ne_of_lt (Nat.lt_of_lt_of_le ne324' c438_7)
      have ne443 : eaH ≠ wa2_438 := Nat.ne_of_lt (Nat.lt_of_lt_of_le ne325' c438_7)
      have ne444 : wA ≠ wa2_438 := Nat.ne_of_lt (Nat.lt_of_lt_of_le ne326' c438_7)
      have ne445 : wB ≠ wa2_438 := Nat.ne_of_lt (Nat.lt_of_lt_of_le ne327' c438_7)
      have ne446 : wC ≠ wa2_438 := Nat.ne_of_lt (Nat.lt_of_lt_of_le ne328' c438_7)
      have ne447 : wD ≠ wa2_438 := Nat.ne_of_lt (Nat.lt_of_lt_of_le ne329' c438_7)
      have ne448 : wE ≠ wa2_438 := Nat.ne_of_lt (Nat.lt_of_lt_of_le ne330' c438_7)
      have ne449 : wF ≠ wa2_438 := Nat.ne_of_lt (Nat.lt_of_lt_of_le ne331' c438_7)
      have ne450 : dc ≠ wa2_438 := Nat.ne_of_lt (Nat.lt_of_lt_of_le ne332' c438_7)
      refine own_on (fun t_ k_ => XS.pop X438.here hx rfl (hb hby at_166) rfl rfl k_) ?_
      show OwnGo p e below s _ _ _ (T438.setTop (mkF m 167 #[.val (.int xa), .val (.int xb), .val (.int xc), .val (.int xd), .val (.int vS), .val (.int vH), .val (.int (2 : Int32)), .val (.ref wA), .val (.ref wB), .val (.ref wC), .val (.ref wD), .val (.ref wE), .val (.ref wF), .val (.ref oS), .val (.ref oH), .val (.ref b321), .unset, .unset] []))
      refine own_on (fun t_ k_ => XS.iload X438.here hx rfl (hb hby at_167) rfl k_) ?_
      refine own_on (fun t_ k_ => XS.iconst X438.here hx rfl (hb hby at_169) k_) ?_
      refine own_on (fun t_ k_ => XS.icmpNo X438.here hx rfl (hb hby at_170) rfl (flt (by decide : ¬ ((2 : Int32) < (2 : Int32)))).1 k_) ?_
      show OwnGo p e below s _ _ _ (T438.setTop (mkF m 173 #[.val (.int xa), .val (.int xb), .val (.int xc), .val (.int xd), .val (.int vS), .val (.int vH), .val (.int (2 : Int32)), .val (.ref wA), .val (.ref wB), .val (.ref wC), .val (.ref wD), .val (.ref wE), .val (.ref wF), .val (.ref oS), .val (.ref oH), .val (.ref b321), .unset, .unset] []))
      refine own_on (fun t_ k_ => XS.aload X438.here hx rfl (hb hby at_173) rfl rfl k_) ?_
      refine own_on (fun t_ k_ => XS.aload X438.here hx rfl (hb hby at_175) rfl rfl k_) ?_
      have f451 : Exa Z h321 wF "java/lang/String" := fq16.ext E321
      have f452 : Exa Z T336.heap wF "java/lang/String" := f451.keep K336q
      have f453 : Exa Z T438.heap wF "java/lang/String" := f452.keep K438q
      have f454 : b321 ≤ T438.heap.size := Nat.le_trans f337 K438q.1
      obtain ⟨cq455, kq455, q455a, q455b, q455c⟩ := isOf hZ rfl c438_0
      obtain ⟨_, _, ⟨T455, L455, k455, n455⟩, -, X455, ⟨Lc455, hQ455, l455, y455, z455⟩, st455⟩ := X438.virtualBack hx (y := (⟨"java/util/ArrayList", "add", "(Ljava/lang/Object;)Z"⟩ : MethodName)) (z := (⟨"java/util/ArrayList", "add", "(Ljava/lang/Object;)Z"⟩ : MethodName)) hown (mvT hZ (w140 hw)) (mvT hZ (w141 hw)) (notFace_of_selects (args := #[]) (mvT hZ (w143 hw))) (mvT hZ (w143 hw)) (mvT hZ (w142 hw)) (by decide) (backOf (W := 0) (rm21 l Z a0 hw [] b321 wF ea2_438 cp2_438 (own_nil ++ [wE]) ((0 : Int32) + (1 : Int32)) wa2_438 b321 dc mr T438.heap n0 Z438 c438_0 c438_1 c438_2 c438_3 c438_4 c438_9 f453 c438_5 c438_6 c438_7 f454 c438_8 P3 P7 g333 (by (first | omega | exact Nat.le_of_ble_eq_true rfl | (simp only [List.length_append]; omega)) : (own_nil ++ [wE]).length ≤ 5)) hZ (w144 hw) (w36 hw) (by decide) (by decide)) q455a q455c (g := (mkF m 177 #[.val (.int xa), .val (.int xb), .val (.int xc), .val (.int xd), .val (.int vS), .val (.int vH), .val (.int (2 : Int32)), .val (.ref wA), .val (.ref wB), .val (.ref wC), .val (.ref wD), .val (.ref wE), .val (.ref wF), .val (.ref oS), .val (.ref oH), .val (.ref b321), .unset, .unset] [(.ref wF), (.ref b321)])) rfl (by rw [hml]; rfl) (Steps.refl _) (argsL := [(.ref wF)]) (rest := []) (lenOf pd_16 rfl) rfl (by show 2 * 0 + _ ≤ _; exact Nat.le_of_eq rfl) (hb hby at_177) (fun _ hWx => ⟨rfl, rfl, (by decide : 27 + 1 ≤ _), (by decide : 111 + 10 ≤ _)⟩)
      dsimp only [Pt.U, Pt.locs, Pt.cells, Pt.slots] at X455 l455 y455 z455 st455 hQ455
      replace X455 := own_num (c' := 28) (n' := 121) X455 l455 (y455.trans rfl) (z455.trans rfl)
      obtain ⟨ea2_455, cp2_455, wa2_455, rfl, N455q, K455q, c455_0, c455_1, c455_2, c455_3, c455_4, c455_5, c455_6, c455_7, c455_8, c455_9⟩ := hQ455
      have N455 := Fr.app N438 N455q
      have Z455 : n0 ≤ T455.heap.size := Nat.le_trans Z438 K455q.1
      have K455 : Keep h0 T455.heap [] := K438.trans K455q (allS (P := fun x => x ∈ [] ∨ h0.size ≤ x) (Or.inr z334) (allS (P := fun x => x ∈ [] ∨ h0.size ≤ x) (Or.inr hr439) all0))
      refine own_tr st455 ?_
      show OwnGo p e below s _ _ _ (T455.setTop (mkF m 180 #[.val (.int xa), .val (.int xb), .val (.int xc), .val (.int xd), .val (.int vS), .val (.int vH), .val (.int (2 : Int32)), .val (.ref wA), .val (.ref wB), .val (.ref wC), .val (.ref wD), .val (.ref wE), .val (.ref wF), .val (.ref oS), .val (.ref oH), .val (.ref b321), .unset, .unset] [(.int (1 : Int32))]))
      refine own_on (fun t_ k_ => XS.pop X455.here hx rfl (hb hby at_180) rfl rfl k_) ?_
      show OwnGo p e below s _ _ _ (T455.setTop (mkF m 181 #[.val (.int xa), .val (.int xb), .val (.int xc), .val (.int xd), .val (.int vS), .val (.int vH), .val (.int (2 : Int32)), .val (.ref wA), .val (.ref wB), .val (.ref wC), .val (.ref wD), .val (.ref wE), .val (.ref wF), .val (.ref oS), .val (.ref oH), .val (.ref b321), .unset, .unset] []))
      have hc456 : own_case (2 : Int32) ((own_nil ++ [wE]) ++ [wF]) wE wF := Or.inr (Or.inr ⟨rfl, rfl⟩)
      have f457 : Exa Z h321 oS "java/util/ArrayList" := fq0.ext E321
      have f458 : Exa Z T336.heap oS "java/util/ArrayList" := f457.keep K336q
      have f459 : Exa Z T438.heap oS "java/util/ArrayList" := f458.keep K438q
      have f460 : Exa Z T455.heap oS "java/util/ArrayList" := f459.keep K455q
      have f461 : Fld Z h321 oS "java/util/ArrayList" "elementData" "[Ljava/lang/Object;" (.ref eaS) := fq1.ext E321
      have f462 : Fld Z T336.heap oS "java/util/ArrayList" "elementData" "[Ljava/lang/Object;" (.ref eaS) := f461.keep K336q (ninS ne322 nin0)
      have f463 : Fld Z T438.heap oS "java/util/ArrayList" "elementData" "[Ljava/lang/Object;" (.ref eaS) := f462.keep K438q (ninS ne322 (ninS ne322 nin0))
      have f464 : Fld Z T455.heap oS "java/util/ArrayList" "elementData" "[Ljava/lang/Object;" (.ref eaS) := f463.keep K455q (ninS ne322 (ninS ne440 nin0))
      have f465 : Fld Z h321 oS "java/util/ArrayList" "size" "I" (.int (own_n lS)) := fq2.ext E321
      have f466 : Fld Z T336.heap oS "java/util/ArrayList" "size" "I" (.int (own_n lS)) := f465.keep K336q (ninS ne322 nin0)
      have f467 : Fld Z T438.heap oS "java/util/ArrayList" "size" "I" (.int (own_n lS)) := f466.keep K438q (ninS ne322 (ninS ne322 nin0))
      have f468 : Fld Z T455.heap oS "java/util/ArrayList" "size" "I" (.int (own_n lS)) := f467.keep K455q (ninS ne322 (ninS ne440 nin0))
      have f469 : OwnA Z h321 eaS cpS lS := fq3.ext E321
      have f470 : OwnA Z T336.heap eaS cpS lS := f469.keep K336q (ninS ne323 nin0)
      have f471 : OwnA Z T438.heap eaS cpS lS := f470.keep K438q (ninS ne323 (ninS ne323 nin0))
      have f472 : OwnA Z T455.heap eaS cpS lS := f471.keep K455q (ninS ne323 (ninS ne441 nin0))
      have f473 : OwnE Z h321 lS := fq4.ext E321
      have f474 : OwnE Z T336.heap lS := f473.keep K336q 
      have f475 : OwnE Z T438.heap lS := f474.keep K438q 
      have f476 : OwnE Z T455.heap lS := f475.keep K455q 
      have f477 : Exa Z h321 oH "java/util/ArrayList" := fq5.ext E321
      have f478 : Exa Z T336.heap oH "java/util/ArrayList" := f477.keep K336q
      have f479 : Exa Z T438.heap oH "java/util/ArrayList" := f478.keep K438q
      have f480 : Exa Z T455.heap oH "java/util/ArrayList" := f479.keep K455q
      have f481 : Fld Z h321 oH "java/util/ArrayList" "elementData" "[Ljava/lang/Object;" (.ref eaH) := fq6.ext E321
      have f482 : Fld Z T336.heap oH "java/util/ArrayList" "elementData" "[Ljava/lang/Object;" (.ref eaH) := f481.keep K336q (ninS ne324 nin0)
      have f483 : Fld Z T438.heap oH "java/util/ArrayList" "elementData" "[Ljava/lang/Object;" (.ref eaH) := f482.keep K438q (ninS ne324 (ninS ne324 nin0))
      have f484 : Fld Z T455.heap oH "java/util/ArrayList" "elementData" "[Ljava/lang/Object;" (.ref eaH) := f483.keep K455q (ninS ne324 (ninS ne442 nin0))
      have f485 : Fld Z h321 oH "java/util/ArrayList" "size" "I" (.int (own_n lH)) := fq7.ext E321
      have f486 : Fld Z T336.heap oH "java/util/ArrayList" "size" "I" (.int (own_n lH)) := f485.keep K336q (ninS ne324 nin0)
      have f487 : Fld Z T438.heap oH "java/util/ArrayList" "size" "I" (.int (own_n lH)) := f486.keep K438q (ninS ne324 (ninS ne324 nin0))
      have f488 : Fld Z T455.heap oH "java/util/ArrayList" "size" "I" (.int (own_n lH)) := f487.keep K455q (ninS ne324 (ninS ne442 nin0))
      have f489 : OwnA Z h321 eaH cpH lH := fq8.ext E321
      have f490 : OwnA Z T336.heap eaH cpH lH := f489.keep K336q (ninS ne325 nin0)
      have f491 : OwnA Z T438.heap eaH cpH lH := f490.keep K438q (ninS ne325 (ninS ne325 nin0))
      have f492 : OwnA Z T455.heap eaH cpH lH := f491.keep K455q (ninS ne325 (ninS ne443 nin0))
      have f493 : OwnE Z h321 lH := fq9.ext E321
      have f494 : OwnE Z T336.heap lH := f493.keep K336q 
      have f495 : OwnE Z T438.heap lH := f494.keep K438q 
      have f496 : OwnE Z T455.heap lH := f495.keep K455q 
      have f497 : Exa Z h321 wA "java/lang/String" := fq11.ext E321
      have f498 : Exa Z T336.heap wA "java/lang/String" := f497.keep K336q
      have f499 : Exa Z T438.heap wA "java/lang/String" := f498.keep K438q
      have f500 : Exa Z T455.heap wA "java/lang/String" := f499.keep K455q
      have f501 : Exa Z h321 wB "java/lang/String" := fq12.ext E321
      have f502 : Exa Z T336.heap wB "java/lang/String" := f501.keep K336q
      have f503 : Exa Z T438.heap wB "java/lang/String" := f502.keep K438q
      have f504 : Exa Z T455.heap wB "java/lang/String" := f503.keep K455q
      have f505 : Exa Z h321 wC "java/lang/String" := fq13.ext E321
      have f506 : Exa Z T336.heap wC "java/lang/String" := f505.keep K336q
      have f507 : Exa Z T438.heap wC "java/lang/String" := f506.keep K438q
      have f508 : Exa Z T455.heap wC "java/lang/String" := f507.keep K455q
      have f509 : Exa Z h321 wD "java/lang/String" := fq14.ext E321
      have f510 : Exa Z T336.heap wD "java/lang/String" := f509.keep K336q
      have f511 : Exa Z T438.heap wD "java/lang/String" := f510.keep K438q
      have f512 : Exa Z T455.heap wD "java/lang/String" := f511.keep K455q
      have f513 : Exa Z T438.heap wE "java/lang/String" := f437.keep K438q
      have f514 : Exa Z T455.heap wE "java/lang/String" := f513.keep K455q
      have f515 : Exa Z T455.heap wF "java/lang/String" := f453.keep K455q
      exact J181 _ _ _ (X455.more (by decide) (by decide)) rfl N455 Z455 K455 vS vH (2 : Int32) wA wB wC wD wE wF oS eaS cpS lS oH eaH cpH lH b321 ea2_455 cp2_455 ((own_nil ++ [wE]) ++ [wF]) f460 f464 f468 f472 f476 f480 f484 f488 f492 f496 c455_0 c455_1 c455_2 c455_4 c455_9 c455_8 f500 f504 f508 f512 f514 f515 fq17 fq18 hc456
  have J107 : ∀ (Tq : State) (hq : Heap) (lq : List Loc) (Xq : Stand p l e room_1 s m #[(.int xa), (.int xb), (.int xc), (.int xd)] below meth c Tq lq 22 74) (eq : Tq.heap = hq) (Nq : Fr n0 lq) (Zq : n0 ≤ hq.size) (Kq : Keep h0 hq []) (vS : Int32) (vH : Int32) (vT : Int32) (wA : Addr) (wB : Addr) (wC : Addr) (wD : Addr) (wE : Addr) (wF : Addr) (oS : Addr) (eaS : Addr) (cpS : Nat) (lS : List Addr) (fq0 : Exa Z hq oS "java/util/ArrayList") (fq1 : Fld Z hq oS "java/util/ArrayList" "elementData" "[Ljava/lang/Object;" (.ref eaS)) (fq2 : Fld Z hq oS "java/util/ArrayList" "size" "I" (.int (own_n lS))) (fq3 : OwnA Z hq eaS cpS lS) (fq4 : OwnE Z hq lS) (fq5 : Old Z n0 hq) (fq6 : Exa Z hq wA "java/lang/String") (fq7 : Exa Z hq wB "java/lang/String") (fq8 : Exa Z hq wC "java/lang/String") (fq9 : Exa Z hq wD "java/lang/String") (fq10 : Exa Z hq wE "java/lang/String") (fq11 : Exa Z hq wF "java/lang/String") (fq12 : own_case vS lS wA wB) (fq13 : vH = 0 ∨ vH = 1 ∨ vH = 2) (fq14 : vT = 0 ∨ vT = 1 ∨ vT = 2), OwnGo p e below s (Q0 Z xa xb xc xd cs dc em mr ml h0 n0) room_1.cells room_1.slots (Tq.setTop (mkF m 107 #[.val (.int xa), .val (.int xb), .val (.int xc), .val (.int xd), .val (.int vS), .val (.int vH), .val (.int vT), .val (.ref wA), .val (.ref wB), .val (.ref wC), .val (.ref wD), .val (.ref wE), .val (.ref wF), .val (.ref oS), .unset, .unset, .unset, .unset] [])) := by
    intro Tq hq lq Xq eq Nq Zq Kq vS vH vT wA wB wC wD wE wF oS eaS cpS lS fq0 fq1 fq2 fq3 fq4 fq5 fq6 fq7 fq8 fq9 fq10 fq11 fq12 fq13 fq14
    have f516 : OwnA Z hq dc 0 own_nil := P4.ext fq5.2
    obtain ⟨T517, h517, X517, e517, E517, A517, D517, u517, st517⟩ := newO Xq hx hZ hown (w34 hw) (w35 hw) (w36 hw) eq (g := (mkF m 107 #[.val (.int xa), .val (.int xb), .val (.int xc), .val (.int xd), .val (.int vS), .val (.int vH), .val (.int vT), .val (.ref wA), .val (.ref wB), .val (.ref wC), .val (.ref wD), .val (.ref wE), .val (.ref wF), .val (.ref oS), .unset, .unset, .unset, .unset] [])) rfl (hb hby at_107) (by decide) (by decide)
    obtain ⟨b517, g517⟩ : ∃ z, z = hq.size := ⟨_, rfl⟩
    rw [← g517] at A517 D517 st517
    have ne518' : oS < b517 := Nat.lt_of_lt_of_le fq0.lt (Nat.le_of_eq g517.symm)
    have ne518 : oS ≠ b517 := Nat.ne_of_lt ne518'
    have ne519' : eaS < b517 := Nat.lt_of_lt_of_le fq3.lt (Nat.le_of_eq g517.symm)
    have ne519 : eaS ≠ b517 := Nat.ne_of_lt ne519'
    have ne520' : wA < b517 := Nat.lt_of_lt_of_le fq6.lt (Nat.le_of_eq g517.symm)
    have ne520 : wA ≠ b517 := Nat.ne_of_lt ne520'
    have ne521' : wB < b517 := Nat.lt_of_lt_of_le fq7.lt (Nat.le_of_eq g517.symm)
    have ne521 : wB ≠ b517 := Nat.ne_of_lt ne521'
    have ne522' : wC < b517 := Nat.lt_of_lt_of_le fq8.lt (Nat.le_of_eq g517.symm)
    have ne522 : wC ≠ b517 := Nat.ne_of_lt ne522'
    have ne523' : wD < b517 := Nat.lt_of_lt_of_le fq9.lt (Nat.le_of_eq g517.symm)
    have ne523 : wD ≠ b517 := Nat.ne_of_lt ne523'
    have ne524' : wE < b517 := Nat.lt_of_lt_of_le fq10.lt (Nat.le_of_eq g517.symm)
    have ne524 : wE ≠ b517 := Nat.ne_of_lt ne524'
    have ne525' : wF < b517 := Nat.lt_of_lt_of_le fq11.lt (Nat.le_of_eq g517.symm)
    have ne525 : wF ≠ b517 := Nat.ne_of_lt ne525'
    have ne526' : dc < b517 := Nat.lt_of_lt_of_le f516.lt (Nat.le_of_eq g517.symm)
    have ne526 : dc ≠ b517 := Nat.ne_of_lt ne526'
    have g527 : n0 ≤ b517 := Nat.le_trans Zq (Nat.le_of_eq g517.symm)
    have z528 : h0.size ≤ b517 := Nat.le_trans Kq.1 (Nat.le_of_eq g517.symm)
    have Z517 : n0 ≤ h517.size := Nat.le_trans Zq E517.1
    have K517 : Keep h0 h517 [] := Kq.ext E517
    have F517_modCount : Fld Z h517 b517 "java/util/AbstractList" "modCount" "I" (.int (0 : Int32)) := D517 (Or.inl (w54 hw)) (ty := .int) (by decide)
    have F517_elementData : Fld Z h517 b517 "java/util/ArrayList" "elementData" "[Ljava/lang/Object;" .null := D517 (Or.inl (w57 hw)) (ty := (.array (.object "java/lang/Object"))) (by decide)
    have F517_size : Fld Z h517 b517 "java/util/ArrayList" "size" "I" (.int (0 : Int32)) := D517 (Or.inl (w95 hw)) (ty := .int) (by decide)
    refine own_on st517 ?_
    show OwnGo p e below s _ _ _ (T517.setTop (mkF m 110 #[.val (.int xa), .val (.int xb), .val (.int xc), .val (.int xd), .val (.int vS), .val (.int vH), .val (.int vT), .val (.ref wA), .val (.ref wB), .val (.ref wC), .val (.ref wD), .val (.ref wE), .val (.ref wF), .val (.ref oS), .unset, .unset, .unset, .unset] [(.ref b517)]))
    refine own_on (fun t_ k_ => XS.dup X517.here hx rfl (hb hby at_110) rfl rfl k_) ?_
    show OwnGo p e below s _ _ _ (T517.setTop (mkF m 111 #[.val (.int xa), .val (.int xb), .val (.int xc), .val (.int xd), .val (.int vS), .val (.int vH), .val (.int vT), .val (.ref wA), .val (.ref wB), .val (.ref wC), .val (.ref wD), .val (.ref wE), .val (.ref wF), .val (.ref oS), .unset, .unset, .unset, .unset] [(.ref b517), (.ref b517)]))
    have f529 : Old Z n0 h517 := fq5.ext E517
    obtain ⟨_, _, ⟨T530, L530, k530, n530⟩, -, X530, ⟨Lc530, hQ530, l530, y530, z530⟩, st530⟩ := X517.specialBack hx (y := (⟨"java/util/ArrayList", "<init>", "()V"⟩ : MethodName)) rfl hown (mvT hZ (w37 hw)) (mvT hZ (w38 hw)) (mvT hZ (w39 hw)) (by decide) (backOf (W := 1) (rm8 l Z a0 hw [] b517 .null (.int (0 : Int32)) dc h517 n0 Z517 A517 F517_elementData F517_size F517_modCount g527 f529 P3 P4) hZ (w39 hw) (w36 hw) (by decide) (by decide)) (g := (mkF m 111 #[.val (.int xa), .val (.int xb), .val (.int xc), .val (.int xd), .val (.int vS), .val (.int vH), .val (.int vT), .val (.ref wA), .val (.ref wB), .val (.ref wC), .val (.ref wD), .val (.ref wE), .val (.ref wF), .val (.ref oS), .unset, .unset, .unset, .unset] [(.ref b517), (.ref b517)])) rfl (by rw [hml]; rfl) (Steps.refl _) (a := b517) (argsL := []) (rest := [(.ref b517)]) (lenOf pd_0 rfl) rfl (by show 2 * 0 + _ ≤ _; exact Nat.le_of_eq rfl) (hb hby at_111) (fun _ hWx => ⟨rfl, e517, (by decide : 23 + 0 ≤ _), (by decide : 77 + 0 ≤ _)⟩)
    dsimp only [Pt.U, Pt.locs, Pt.cells, Pt.slots] at X530 l530 y530 z530 st530 hQ530
    replace X530 := own_num (c' := 23) (n' := 77) X530 l530 (y530.trans rfl) (z530.trans rfl)
    obtain ⟨rfl, N530q, K530q, c530_0, c530_1, c530_2, c530_3, c530_4, c530_5⟩ := hQ530
    have N530 := Fr.app Nq N530q
    have Z530 : n0 ≤ T530.heap.size := Nat.le_trans Z517 K530q.1
    have K530 : Keep h0 T530.heap [] := K517.trans K530q (allS (P := fun x => x ∈ [] ∨ h0.size ≤ x) (Or.inr z528) all0)
    refine own_tr st530 ?_
    show OwnGo p e below s _ _ _ (T530.setTop (mkF m 114 #[.val (.int xa), .val (.int xb), .val (.int xc), .val (.int xd), .val (.int vS), .val (.int vH), .val (.int vT), .val (.ref wA), .val (.ref wB), .val (.ref wC), .val (.ref wD), .val (.ref wE), .val (.ref wF), .val (.ref oS), .unset, .unset, .unset, .unset] [(.ref b517)]))
    refine own_on (fun t_ k_ => XS.astore X530.here hx rfl (hb hby at_114) rfl rfl (l' := #[.val (.int xa), .val (.int xb), .val (.int xc), .val (.int xd), .val (.int vS), .val (.int vH), .val (.int vT), .val (.ref wA), .val (.ref wB), .val (.ref wC), .val (.ref wD), .val (.ref wE), .val (.ref wF), .val (.ref oS), .val (.ref b517), .unset, .unset, .unset]) rfl k_) ?_
    show OwnGo p e below s _ _ _ (T530.setTop (mkF m 116 #[.val (.int xa), .val (.int xb), .val (.int xc), .val (.int xd), .val (.int vS), .val (.int vH), .val (.int vT), .val (.ref wA), .val (.ref wB), .val (.ref wC), .val (.ref wD), .val (.ref wE), .val (.ref wF), .val (.ref oS), .val (.ref b517), .unset, .unset, .unset] []))
    have f531 : b517 ≤ T530.heap.size := Nat.le_of_lt c530_0.lt
    have hr532 : b517 = dc ∨ 0 = 0 := Or.inr rfl
    have hr533 : b517 ≤ b517 := Nat.le_refl _
    have f534 : OwnE Z T530.heap own_nil := fun _ q => nomatch q
    rcases fq13 with hv | hv | hv
    · rw [show vH = (0 : Int32) from hv]
      show OwnGo p e below s _ _ _ (T530.setTop (mkF m 116 #[.val (.int xa), .val (.int xb), .val (.int xc), .val (.int xd), .val (.int vS), .val (.int (0 : Int32)), .val (.int vT), .val (.ref wA), .val (.ref wB), .val (.ref wC), .val (.ref wD), .val (.ref wE), .val (.ref wF), .val (.ref oS), .val (.ref b517), .unset, .unset, .unset] []))
      refine own_on (fun t_ k_ => XS.iload X530.here hx rfl (hb hby at_116) rfl k_) ?_
      refine own_on (fun t_ k_ => XS.iconst X530.here hx rfl (hb hby at_118) k_) ?_
      refine own_on (fun t_ k_ => XS.icmpYes X530.here hx rfl (pc0 := 119) (pc' := 130) rfl (hb hby at_119) rfl (tlt (by decide : (0 : Int32) < (1 : Int32))).1 (by decide) (by decide) k_) ?_
      show OwnGo p e below s _ _ _ (T530.setTop (mkF m 130 #[.val (.int xa), .val (.int xb), .val (.int xc), .val (.int xd), .val (.int vS), .val (.int (0 : Int32)), .val (.int vT), .val (.ref wA), .val (.ref wB), .val (.ref wC), .val (.ref wD), .val (.ref wE), .val (.ref wF), .val (.ref oS), .val (.ref b517), .unset, .unset, .unset] []))
      refine own_on (fun t_ k_ => XS.iload X530.here hx rfl (hb hby at_130) rfl k_) ?_
      refine own_on (fun t_ k_ => XS.iconst X530.here hx rfl (hb hby at_132) k_) ?_
      refine own_on (fun t_ k_ => XS.icmpYes X530.here hx rfl (pc0 := 133) (pc' := 144) rfl (hb hby at_133) rfl (tlt (by decide : (0 : Int32) < (2 : Int32))).1 (by decide) (by decide) k_) ?_
      show OwnGo p e below s _ _ _ (T530.setTop (mkF m 144 #[.val (.int xa), .val (.int xb), .val (.int xc), .val (.int xd), .val (.int vS), .val (.int (0 : Int32)), .val (.int vT), .val (.ref wA), .val (.ref wB), .val (.ref wC), .val (.ref wD), .val (.ref wE), .val (.ref wF), .val (.ref oS), .val (.ref b517), .unset, .unset, .unset] []))
      have hc535 : own_case (0 : Int32) own_nil wC wD := Or.inl ⟨rfl, rfl⟩
      have f536 : Exa Z h517 oS "java/util/ArrayList" := fq0.ext E517
      have f537 : Exa Z T530.heap oS "java/util/ArrayList" := f536.keep K530q
      have f538 : Fld Z h517 oS "java/util/ArrayList" "elementData" "[Ljava/lang/Object;" (.ref eaS) := fq1.ext E517
      have f539 : Fld Z T530.heap oS "java/util/ArrayList" "elementData" "[Ljava/lang/Object;" (.ref eaS) := f538.keep K530q (ninS ne518 nin0)
      have f540 : Fld Z h517 oS "java/util/ArrayList" "size" "I" (.int (own_n lS)) := fq2.ext E517
      have f541 : Fld Z T530.heap oS "java/util/ArrayList" "size" "I" (.int (own_n lS)) := f540.keep K530q (ninS ne518 nin0)
      have f542 : OwnA Z h517 eaS cpS lS := fq3.ext E517
      have f543 : OwnA Z T530.heap eaS cpS lS := f542.keep K530q (ninS ne519 nin0)
      have f544 : OwnE Z h517 lS := fq4.ext E517
      have f545 : OwnE Z T530.heap lS := f544.keep K530q 
      have f546 : Exa Z h517 wA "java/lang/String" := fq6.ext E517
      have f547 : Exa Z T530.heap wA "java/lang/String" := f546.keep K530q
      have f548 : Exa Z h517 wB "java/lang/String" := fq7.ext E517
      have f549 : Exa Z T530.heap wB "java/lang/String" := f548.keep K530q
      have f550 : Exa Z h517 wC "java/lang/String" := fq8.ext E517
      have f551 : Exa Z T530.heap wC "java/lang/String" := f550.keep K530q
      have f552 : Exa Z h517 wD "java/lang/String" := fq9.ext E517
      have f553 : Exa Z T530.heap wD "java/lang/String" := f552.keep K530q
      have f554 : Exa Z h517 wE "java/lang/String" := fq10.ext E517
      have f555 : Exa Z T530.heap wE "java/lang/String" := f554.keep K530q
      have f556 : Exa Z h517 wF "java/lang/String" := fq11.ext E517
      have f557 : Exa Z T530.heap wF "java/lang/String" := f556.keep K530q
      exact J144 _ _ _ (X530.more (by decide) (by decide)) rfl N530 Z530 K530 vS (0 : Int32) vT wA wB wC wD wE wF oS eaS cpS lS b517 dc 0 own_nil f537 f539 f541 f543 f545 c530_0 c530_1 c530_2 c530_4 f534 c530_5 f547 f549 f551 f553 f555 f557 fq12 hc535 fq14
    · rw [show vH = (1 : Int32) from hv]
      show OwnGo p e below s _ _ _ (T530.setTop (mkF m 116 #[.val (.int xa), .val (.int xb), .val (.int xc), .val (.int xd), .val (.int vS), .val (.int (1 : Int32)), .val (.int vT), .val (.ref wA), .val (.ref wB), .val (.ref wC), .val (.ref wD), .val (.ref wE), .val (.ref wF), .val (.ref oS), .val (.ref b517), .unset, .unset, .unset] []))
      refine own_on (fun t_ k_ => XS.iload X530.here hx rfl (hb hby at_116) rfl k_) ?_
      refine own_on (fun t_ k_ => XS.iconst X530.here hx rfl (hb hby at_118) k_) ?_
      refine own_on (fun t_ k_ => XS.icmpNo X530.here hx rfl (hb hby at_119) rfl (flt (by decide : ¬ ((1 : Int32) < (1 : Int32)))).1 k_) ?_
      show OwnGo p e below s _ _ _ (T530.setTop (mkF m 122 #[.val (.int xa), .val (.int xb), .val (.int xc), .val (.int xd), .val (.int vS), .val (.int (1 : Int32)), .val (.int vT), .val (.ref wA), .val (.ref wB), .val (.ref wC), .val (.ref wD), .val (.ref wE), .val (.ref wF), .val (.ref oS), .val (.ref b517), .unset, .unset, .unset] []))
      refine own_on (fun t_ k_ => XS.aload X530.here hx rfl (hb hby at_122) rfl rfl k_) ?_
      refine own_on (fun t_ k_ => XS.aload X530.here hx rfl (hb hby at_124) rfl rfl k_) ?_
      have f558 : Exa Z h517 wC "java/lang/String" := fq8.ext E517
      have f559 : Exa Z T530.heap wC "java/lang/String" := f558.keep K530q
      obtain ⟨cq560, kq560, q560a, q560b, q560c⟩ := isOf hZ rfl c530_0
      obtain ⟨_, _, ⟨T560, L560, k560, n560⟩, -, X560, ⟨Lc560, hQ560, l560, y560, z560⟩, st560⟩ := X530.virtualBack hx (y := (⟨"java/util/ArrayList", "add", "(Ljava/lang/Object;)Z"⟩ : MethodName)) (z := (⟨"java/util/ArrayList", "add", "(Ljava/lang/Object;)Z"⟩ : MethodName)) hown (mvT hZ (w140 hw)) (mvT hZ (w141 hw)) (notFace_of_selects (args := #[]) (mvT hZ (w143 hw))) (mvT hZ (w143 hw)) (mvT hZ (w142 hw)) (by decide) (backOf (W := 0) (rm21 l Z a0 hw [] b517 wC dc 0 own_nil (0 : Int32) b517 b517 dc mr T530.heap n0 Z530 c530_0 c530_1 c530_2 c530_3 c530_4 f534 f559 hr532 g527 hr533 f531 c530_5 P3 P7 g527 (by (first | omega | exact Nat.le_of_ble_eq_true rfl | (simp only [List.length_append]; omega)) : own_nil.length ≤ 5)) hZ (w144 hw) (w36 hw) (by decide) (by decide)) q560a q560c (g := (mkF m 126 #[.val (.int xa), .val (.int xb), .val (.int xc), .val (.int xd), .val (.int vS), .val (.int (1 : Int32)), .val (.int vT), .val (.ref wA), .val (.ref wB), .val (.ref wC), .val (.ref wD), .val (.ref wE), .val (.ref wF), .val (.ref oS), .val (.ref b517), .unset, .unset, .unset] [(.ref wC), (.ref b517)])) rfl (by rw [hml]; rfl) (Steps.refl _) (argsL := [(.ref wC)]) (rest := []) (lenOf pd_16 rfl) rfl (by show 2 * 0 + _ ≤ _; exact Nat.le_of_eq rfl) (hb hby at_126) (fun _ hWx => ⟨rfl, rfl, (by decide : 23 + 1 ≤ _), (by decide : 77 + 10 ≤ _)⟩)
      dsimp only [Pt.U, Pt.locs, Pt.cells, Pt.slots] at X560 l560 y560 z560 st560 hQ560
      replace X560 := own_num (c' := 24) (n' := 87) X560 l560 (y560.trans rfl) (z560.trans rfl)
      obtain ⟨ea2_560, cp2_560, wa2_560, rfl, N560q, K560q, c560_0, c560_1, c560_2, c560_3, c560_4, c560_5, c560_6, c560_7, c560_8, c560_9⟩ := hQ560
      have N560 := Fr.app N530 N560q
      have Z560 : n0 ≤ T560.heap.size := Nat.le_trans Z530 K560q.1
      have K560 : Keep h0 T560.heap [] := K530.trans K560q (allS (P := fun x => x ∈ [] ∨ h0.size ≤ x) (Or.inr z528) (allS (P := fun x => x ∈ [] ∨ h0.size ≤ x) (Or.inr z528) all0))
      refine own_tr st560 ?_
      show OwnGo p e below s _ _ _ (T560.setTop (mkF m 129 #[.val (.int xa), .val (.int xb), .val (.int xc), .val (.int xd), .val (.int vS), .val (.int (1 : Int32)), .val (.int vT), .val (.ref wA), .val (.ref wB), .val (.ref wC), .val (.ref wD), .val (.ref wE), .val (.ref wF), .val (.ref oS), .val (.ref b517), .unset, .unset, .unset] [(.int (1 : Int32))]))
      have hr561 : h0.size ≤ wa2_560 := Nat.le_trans z528 c560_7
      have ne562 : oS ≠ wa2_560 := Nat.ne_of_lt (Nat.lt_of_lt_of_le ne518' c560_7)
      have ne563 : eaS ≠ wa2_560 := Nat.ne_of_lt (Nat.lt_of_lt_of_le ne519' c560_7)
      have ne564 : wA ≠ wa2_560 := Nat.ne_of_lt (Nat.lt_of_lt_of_le ne520' c560_7)
      have ne565 : wB ≠ wa2_560 := Nat.ne_of_lt (Nat.lt_of_lt_of_le ne521' c560_7)
      have ne566 : wC ≠ wa2_560 := Nat.ne_of_lt (Nat.lt_of_lt_of_le ne522' c560_7)
      have ne567 : wD ≠ wa2_560 := Nat.ne_of_lt (Nat.lt_of_lt_of_le ne523' c560_7)
      have ne568 : wE ≠ wa2_560 := Nat.ne_of_lt (Nat.lt_of_lt_of_le ne524' c560_7)
      have ne569 : wF ≠ wa2_560 := Nat.ne_of_lt (Nat.lt_of_lt_of_le ne525' c560_7)
      have ne570 : dc ≠ wa2_560 := Nat.ne_of_lt (Nat.lt_of_lt_of_le ne526' c560_7)
      refine own_on (fun t_ k_ => XS.pop X560.here hx rfl (hb hby at_129) rfl rfl k_) ?_
      show OwnGo p e below s _ _ _ (T560.setTop (mkF m 130 #[.val (.int xa), .val (.int xb), .val (.int xc), .val (.int xd), .val (.int vS), .val (.int (1 : Int32)), .val (.int vT), .val (.ref wA), .val (.ref wB), .val (.ref wC), .val (.ref wD), .val (.ref wE), .val (.ref wF), .val (.ref oS), .val (.ref b517), .unset, .unset, .unset] []))
      refine own_on (fun t_ k_ => XS.iload X560.here hx rfl (hb hby at_130) rfl k_) ?_
      refine own_on (fun t_ k_ => XS.iconst X560.here hx rfl (hb hby at_132) k_) ?_
      refine own_on (fun t_ k_ => XS.icmpYes X560.here hx rfl (pc0 := 133) (pc' := 144) rfl (hb hby at_133) rfl (tlt (by decide : (1 : Int32) < (2 : Int32))).1 (by decide) (by decide) k_) ?_
      show OwnGo p e below s _ _ _ (T560.setTop (mkF m 144 #[.val (.int xa), .val (.int xb), .val (.int xc), .val (.int xd), .val (.int vS), .val (.int (1 : Int32)), .val (.int vT), .val (.ref wA), .val (.ref wB), .val (.ref wC), .val (.ref wD), .val (.ref wE), .val (.ref wF), .val (.ref oS), .val (.ref b517), .unset, .unset, .unset] []))
      have hc571 : own_case (1 : Int32) (own_nil ++ [wC]) wC wD := Or.inr (Or.inl ⟨rfl, rfl⟩)
      have f572 : Exa Z h517 oS "java/util/ArrayList" := fq0.ext E517
      have f573 : Exa Z T530.heap oS "java/util/ArrayList" := f572.keep K530q
      have f574 : Exa Z T560.heap oS "java/util/ArrayList" := f573.keep K560q
      have f575 : Fld Z h517 oS "java/util/ArrayList" "elementData" "[Ljava/lang/Object;" (.ref eaS) := fq1.ext E517
      have f576 : Fld Z T530.heap oS "java/util/ArrayList" "elementData" "[Ljava/lang/Object;" (.ref eaS) := f575.keep K530q (ninS ne518 nin0)
      have f577 : Fld Z T560.heap oS "java/util/ArrayList" "elementData" "[Ljava/lang/Object;" (.ref eaS) := f576.keep K560q (ninS ne518 (ninS ne518 nin0))
      have f578 : Fld Z h517 oS "java/util/ArrayList" "size" "I" (.int (own_n lS)) := fq2.ext E517
      have f579 : Fld Z T530.heap oS "java/util/ArrayList" "size" "I" (.int (own_n lS)) := f578.keep K530q (ninS ne518 nin0)
      have f580 : Fld Z T560.heap oS "java/util/ArrayList" "size" "I" (.int (own_n lS)) := f579.keep K560q (ninS ne518 (ninS ne518 nin0))
      have f581 : OwnA Z h517 eaS cpS lS := fq3.ext E517
      have f582 : OwnA Z T530.heap eaS cpS lS := f581.keep K530q (ninS ne519 nin0)
      have f583 : OwnA Z T560.heap eaS cpS lS := f582.keep K560q (ninS ne519 (ninS ne519 nin0))
      have f584 : OwnE Z h517 lS := fq4.ext E517
      have f585 : OwnE Z T530.heap lS := f584.keep K530q 
      have f586 : OwnE Z T560.heap lS := f585.keep K560q 
      have f587 : Exa Z h517 wA "java/lang/String" := fq6.ext E517
      have f588 : Exa Z T530.heap wA "java/lang/String" := f587.keep K530q
      have f589 : Exa Z T560.heap wA "java/lang/String" := f588.keep K560q
      have f590 : Exa Z h517 wB "java/lang/String" := fq7.ext E517
      have f591 : Exa Z T530.heap wB "java/lang/String" := f590.keep K530q
      have f592 : Exa Z T560.heap wB "java/lang/String" := f591.keep K560q
      have f593 : Exa Z T560.heap wC "java/lang/String" := f559.keep K560q
      have f594 : Exa Z h517 wD "java/lang/String" := fq9.ext E517
      have f595 : Exa Z T530.heap wD "java/lang/String" := f594.keep K530q
      have f596 : Exa Z T560.heap wD "java/lang/String" := f595.keep K560q
      have f597 : Exa Z h517 wE "java/lang/String" := fq10.ext E517
      have f598 : Exa Z T530.heap wE "java/lang/String" := f597.keep K530q
      have f599 : Exa Z T560.heap wE "java/lang/String" := f598.keep K560q
      have f600 : Exa Z h517 wF "java/lang/String" := fq11.ext E517
      have f601 : Exa Z T530.heap wF "java/lang/String" := f600.keep K530q
      have f602 : Exa Z T560.heap wF "java/lang/String" := f601.keep K560q
      exact J144 _ _ _ (X560.more (by decide) (by decide)) rfl N560 Z560 K560 vS (1 : Int32) vT wA wB wC wD wE wF oS eaS cpS lS b517 ea2_560 cp2_560 (own_nil ++ [wC]) f574 f577 f580 f583 f586 c560_0 c560_1 c560_2 c560_4 c560_9 c560_8 f589 f592 f593 f596 f599 f602 fq12 hc571 fq14
    · rw [show vH = (2 : Int32) from hv]
      show OwnGo p e below s _ _ _ (T530.setTop (mkF m 116 #[.val (.int xa), .val (.int xb), .val (.int xc), .val (.int xd), .val (.int vS), .val (.int (2 : Int32)), .val (.int vT), .val (.ref wA), .val (.ref wB), .val (.ref wC), .val (.ref wD), .val (.ref wE), .val (.ref wF), .val (.ref oS), .val (.ref b517), .unset, .unset, .unset] []))
      refine own_on (fun t_ k_ => XS.iload X530.here hx rfl (hb hby at_116) rfl k_) ?_
      refine own_on (fun t_ k_ => XS.iconst X530.here hx rfl (hb hby at_118) k_) ?_
      refine own_on (fun t_ k_ => XS.icmpNo X530.here hx rfl (hb hby at_119) rfl (flt (by decide : ¬ ((2 : Int32) < (1 : Int32)))).1 k_) ?_
      show OwnGo p e below s _ _ _ (T530.setTop (mkF m 122 #[.val (.int xa), .val (.int xb), .val (.int xc), .val (.int xd), .val (.int vS), .val (.int (2 : Int32)), .val (.int vT), .val (.ref wA), .val (.ref wB), .val (.ref wC), .val (.ref wD), .val (.ref wE), .val (.ref wF), .val (.ref oS), .val (.ref b517), .unset, .unset, .unset] []))
      refine own_on (fun t_ k_ => XS.aload X530.here hx rfl (hb hby at_122) rfl rfl k_) ?_
      refine own_on (fun t_ k_ => XS.aload X530.here hx rfl (hb hby at_124) rfl rfl k_) ?_
      have f603 : Exa Z h517 wC "java/lang/String" := fq8.ext E517
      have f604 : Exa Z T530.heap wC "java/lang/String" := f603.keep K530q
      obtain ⟨cq605, kq605, q605a, q605b, q605c⟩ := isOf hZ rfl c530_0
      obtain ⟨_, _, ⟨T605, L605, k605, n605⟩, -, X605, ⟨Lc605, hQ605, l605, y605, z605⟩, st605⟩ := X530.virtualBack hx (y := (⟨"java/util/ArrayList", "add", "(Ljava/lang/Object;)Z"⟩ : MethodName)) (z := (⟨"java/util/ArrayList", "add", "(Ljava/lang/Object;)Z"⟩ : MethodName)) hown (mvT hZ (w140 hw)) (mvT hZ (w141 hw)) (notFace_of_selects (args := #[]) (mvT hZ (w143 hw))) (mvT hZ (w143 hw)) (mvT hZ (w142 hw)) (by decide) (backOf (W := 0) (rm21 l Z a0 hw [] b517 wC dc 0 own_nil (0 : Int32) b517 b517 dc mr T530.heap n0 Z530 c530_0 c530_1 c530_2 c530_3 c530_4 f534 f604 hr532 g527 hr533 f531 c530_5 P3 P7 g527 (by (first | omega | exact Nat.le_of_ble_eq_true rfl | (simp only [List.length_append]; omega)) : own_nil.length ≤ 5)) hZ (w144 hw) (w36 hw) (by decide) (by decide)) q605a q605c (g := (mkF m 126 #[.val (.int xa), .val (.int xb), .val (.int xc), .val (.int xd), .val (.int vS), .val (.int (2 : Int32)), .val (.int vT), .val (.ref wA), .val (.ref wB), .val (.ref wC), .val (.ref wD), .val (.ref wE), .val (.ref wF), .val (.ref oS), .val (.ref b517), .unset, .unset, .unset] [(.ref wC), (.ref b517)])) rfl (by rw [hml]; rfl) (Steps.refl _) (argsL := [(.ref wC)]) (rest := []) (lenOf pd_16 rfl) rfl (by show 2 * 0 + _ ≤ _; exact Nat.le_of_eq rfl) (hb hby at_126) (fun _ hWx => ⟨rfl, rfl, (by decide : 23 + 1 ≤ _), (by decide : 77 + 10 ≤ _)⟩)
      dsimp only [Pt.U, Pt.locs, Pt.cells, Pt.slots] at X605 l605 y605 z605 st605 hQ605
      replace X605 := own_num (c' := 24) (n' := 87) X605 l605 (y605.trans rfl) (z605.trans rfl)
      obtain ⟨ea2_605, cp2_605, wa2_605, rfl, N605q, K605q, c605_0, c605_1, c605_2, c605_3, c605_4, c605_5, c605_6, c605_7, c605_8, c605_9⟩ := hQ605
      have N605 := Fr.app N530 N605q
      have Z605 : n0 ≤ T605.heap.size := Nat.le_trans Z530 K605q.1
      have K605 : Keep h0 T605.heap [] := K530.trans K605q (allS (P := fun x => x ∈ [] ∨ h0.size ≤ x) (Or.inr z528) (allS (P := fun x => x ∈ [] ∨ h0.size ≤ x) (Or.inr z528) all0))
      refine own_tr st605 ?_
      show OwnGo p e below s _ _ _ (T605.setTop (mkF m 129 #[.val (.int xa), .val (.int xb), .val (.int xc), .val (.int xd), .val (.int vS), .val (.int (2 : Int32)), .val (.int vT), .val (.ref wA), .val (.ref wB), .val (.ref wC), .val (.ref wD), .val (.ref wE), .val (.ref wF), .val (.ref oS), .val (.ref b517), .unset, .unset, .unset] [(.int (1 : Int32))]))
      have hr606 : h0.size ≤ wa2_605 := Nat.le_trans z528 c605_7
      have ne607 : oS ≠ wa2_605 := Nat.ne_of_lt (Nat.lt_of_lt_of_le ne518' c605_7)
      have ne608 : eaS ≠ wa2_605 := Nat.ne_of_lt (Nat.lt_of_lt_of_le ne519' c605_7)
      have ne609 : wA ≠ wa2_605 := Nat.ne_of_lt (Nat.lt_of_lt_of_le ne520' c605_7)
      have ne610 : wB ≠ wa2_605 := Nat.ne_of_lt (Nat.lt_of_lt_of_le ne521' c605_7)
      have ne611 : wC ≠ wa2_605 := Nat.ne_of_lt (Nat.lt_of_lt_of_le ne522' c605_7)
      have ne612 : wD ≠ wa2_605 := Nat.ne_of_lt (Nat.lt_of_lt_of_le ne523' c605_7)
      have ne613 : wE ≠ wa2_605 := Nat.ne_of_lt (Nat.lt_of_lt_of_le ne524' c605_7)
      have ne614 : wF ≠ wa2_605 := Nat.ne_of_lt (Nat.lt_of_lt_of_le ne525' c605_7)
      have ne615 : dc ≠ wa2_605 := Nat.ne_of_lt (Nat.lt_of_lt_of_le ne526' c605_7)
      refine own_on (fun t_ k_ => XS.pop X605.here hx rfl (hb hby at_129) rfl rfl k_) ?_
      show OwnGo p e below s _ _ _ (T605.setTop (mkF m 130 #[.val (.int xa), .val (.int xb), .val (.int xc), .val (.int xd), .val (.int vS), .val (.int (2 : Int32)), .val (.int vT), .val (.ref wA), .val (.ref wB), .val (.ref wC), .val (.ref wD), .val (.ref wE), .val (.ref wF), .val (.ref oS), .val (.ref b517), .unset, .unset, .unset] []))
      refine own_on (fun t_ k_ => XS.iload X605.here hx rfl (hb hby at_130) rfl k_) ?_
      refine own_on (fun t_ k_ => XS.iconst X605.here hx rfl (hb hby at_132) k_) ?_
      refine own_on (fun t_ k_ => XS.icmpNo X605.here hx rfl (hb hby at_133) rfl (flt (by decide : ¬ ((2 : Int32) < (2 : Int32)))).1 k_) ?_
      show OwnGo p e below s _ _ _ (T605.setTop (mkF m 136 #[.val (.int xa), .val (.int xb), .val (.int xc), .val (.int xd), .val (.int vS), .val (.int (2 : Int32)), .val (.int vT), .val (.ref wA), .val (.ref wB), .val (.ref wC), .val (.ref wD), .val (.ref wE), .val (.ref wF), .val (.ref oS), .val (.ref b517), .unset, .unset, .unset] []))
      refine own_on (fun t_ k_ => XS.aload X605.here hx rfl (hb hby at_136) rfl rfl k_) ?_
      refine own_on (fun t_ k_ => XS.aload X605.here hx rfl (hb hby at_138) rfl rfl k_) ?_
      have f616 : Exa Z h517 wD "java/lang/String" := fq9.ext E517
      have f617 : Exa Z T530.heap wD "java/lang/String" := f616.keep K530q
      have f618 : Exa Z T605.heap wD "java/lang/String" := f617.keep K605q
      have f619 : b517 ≤ T605.heap.size := Nat.le_trans f531 K605q.1
      obtain ⟨cq620, kq620, q620a, q620b, q620c⟩ := isOf hZ rfl c605_0
      obtain ⟨_, _, ⟨T620, L620, k620, n620⟩, -, X620, ⟨Lc620, hQ620, l620, y620, z620⟩, st620⟩ := X605.virtualBack hx (y := (⟨"java/util/ArrayList", "add", "(Ljava/lang/Object;)Z"⟩ : MethodName)) (z := (⟨"java/util/ArrayList", "add", "(Ljava/lang/Object;)Z"⟩ : MethodName)) hown (mvT hZ (w140 hw)) (mvT hZ (w141 hw)) (notFace_of_selects (args := #[]) (mvT hZ (w143 hw))) (mvT hZ (w143 hw)) (mvT hZ (w142 hw)) (by decide) (backOf (W := 0) (rm21 l Z a0 hw [] b517 wD ea2_605 cp2_605 (own_nil ++ [wC]) ((0 : Int32) + (1 : Int32)) wa2_605 b517 dc mr T605.heap n0 Z605 c605_0 c605_1 c605_2 c605_3 c605_4 c605_9 f618 c605_5 c605_6 c605_7 f619 c605_8 P3 P7 g527 (by (first | omega | exact Nat.le_of_ble_eq_true rfl | (simp only [List.length_append]; omega)) : (own_nil ++ [wC]).length ≤ 5)) hZ (w144 hw) (w36 hw) (by decide) (by decide)) q620a q620c (g := (mkF m 140 #[.val (.int xa), .val (.int xb), .val (.int xc), .val (.int xd), .val (.int vS), .val (.int (2 : Int32)), .val (.int vT), .val (.ref wA), .val (.ref wB), .val (.ref wC), .val (.ref wD), .val (.ref wE), .val (.ref wF), .val (.ref oS), .val (.ref b517), .unset, .unset, .unset] [(.ref wD), (.ref b517)])) rfl (by rw [hml]; rfl) (Steps.refl _) (argsL := [(.ref wD)]) (rest := []) (lenOf pd_16 rfl) rfl (by show 2 * 0 + _ ≤ _; exact Nat.le_of_eq rfl) (hb hby at_140) (fun _ hWx => ⟨rfl, rfl, (by decide : 24 + 1 ≤ _), (by decide : 87 + 10 ≤ _)⟩)
      dsimp only [Pt.U, Pt.locs, Pt.cells, Pt.slots] at X620 l620 y620 z620 st620 hQ620
      replace X620 := own_num (c' := 25) (n' := 97) X620 l620 (y620.trans rfl) (z620.trans rfl)
      obtain ⟨ea2_620, cp2_620, wa2_620, rfl, N620q, K620q, c620_0, c620_1, c620_2, c620_3, c620_4, c620_5, c620_6, c620_7, c620_8, c620_9⟩ := hQ620
      have N620 := Fr.app N605 N620q
      have Z620 : n0 ≤ T620.heap.size := Nat.le_trans Z605 K620q.1
      have K620 : Keep h0 T620.heap [] := K605.trans K620q (allS (P := fun x => x ∈ [] ∨ h0.size ≤ x) (Or.inr z528) (allS (P := fun x => x ∈ [] ∨ h0.size ≤ x) (Or.inr hr606) all0))
      refine own_tr st620 ?_
      show OwnGo p e below s _ _ _ (T620.setTop (mkF m 143 #[.val (.int xa), .val (.int xb), .val (.int xc), .val (.int xd), .val (.int vS), .val (.int (2 : Int32)), .val (.int vT), .val (.ref wA), .val (.ref wB), .val (.ref wC), .val (.ref wD), .val (.ref wE), .val (.ref wF), .val (.ref oS), .val (.ref b517), .unset, .unset, .unset] [(.int (1 : Int32))]))
      refine own_on (fun t_ k_ => XS.pop X620.here hx rfl (hb hby at_143) rfl rfl k_) ?_
      show OwnGo p e below s _ _ _ (T620.setTop (mkF m 144 #[.val (.int xa), .val (.int xb), .val (.int xc), .val (.int xd), .val (.int vS), .val (.int (2 : Int32)), .val (.int vT), .val (.ref wA), .val (.ref wB), .val (.ref wC), .val (.ref wD), .val (.ref wE), .val (.ref wF), .val (.ref oS), .val (.ref b517), .unset, .unset, .unset] []))
      have hc621 : own_case (2 : Int32) ((own_nil ++ [wC]) ++ [wD]) wC wD := Or.inr (Or.inr ⟨rfl, rfl⟩)
      have f622 : Exa Z h517 oS "java/util/ArrayList" := fq0.ext E517
      have f623 : Exa Z T530.heap oS "java/util/ArrayList" := f622.keep K530q
      have f624 : Exa Z T605.heap oS "java/util/ArrayList" := f623.keep K605q
      have f625 : Exa Z T620.heap oS "java/util/ArrayList" := f624.keep K620q
      have f626 : Fld Z h517 oS "java/util/ArrayList" "elementData" "[Ljava/lang/Object;" (.ref eaS) := fq1.ext E517
      have f627 : Fld Z T530.heap oS "java/util/ArrayList" "elementData" "[Ljava/lang/Object;" (.ref eaS) := f626.keep K530q (ninS ne518 nin0)
      have f628 : Fld Z T605.heap oS "java/util/ArrayList" "elementData" "[Ljava/lang/Object;" (.ref eaS) := f627.keep K605q (ninS ne518 (ninS ne518 nin0))
      have f629 : Fld Z T620.heap oS "java/util/ArrayList" "elementData" "[Ljava/lang/Object;" (.ref eaS) := f628.keep K620q (ninS ne518 (ninS ne607 nin0))
      have f630 : Fld Z h517 oS "java/util/ArrayList" "size" "I" (.int (own_n lS)) := fq2.ext E517
      have f631 : Fld Z T530.heap oS "java/util/ArrayList" "size" "I" (.int (own_n lS)) := f630.keep K530q (ninS ne518 nin0)
      have f632 : Fld Z T605.heap oS "java/util/ArrayList" "size" "I" (.int (own_n lS)) := f631.keep K605q (ninS ne518 (ninS ne518 nin0))
      have f633 : Fld Z T620.heap oS "java/util/ArrayList" "size" "I" (.int (own_n lS)) := f632.keep K620q (ninS ne518 (ninS ne607 nin0))
      have f634 : OwnA Z h517 eaS cpS lS := fq3.ext E517
      have f635 : OwnA Z T530.heap eaS cpS lS := f634.keep K530q (ninS ne519 nin0)
      have f636 : OwnA Z T605.heap eaS cpS lS := f635.keep K605q (ninS ne519 (ninS ne519 nin0))
      have f637 : OwnA Z T620.heap eaS cpS lS := f636.keep K620q (ninS ne519 (ninS ne608 nin0))
      have f638 : OwnE Z h517 lS := fq4.ext E517
      have f639 : OwnE Z T530.heap lS := f638.keep K530q 
      have f640 : OwnE Z T605.heap lS := f639.keep K605q 
      have f641 : OwnE Z T620.heap lS := f640.keep K620q 
      have f642 : Exa Z h517 wA "java/lang/String" := fq6.ext E517
      have f643 : Exa Z T530.heap wA "java/lang/String" := f642.keep K530q
      have f644 : Exa Z T605.heap wA "java/lang/String" := f643.keep K605q
      have f645 : Exa Z T620.heap wA "java/lang/String" := f644.keep K620q
      have f646 : Exa Z h517 wB "java/lang/String" := fq7.ext E517
      have f647 : Exa Z T530.heap wB "java/lang/String" := f646.keep K530q
      have f648 : Exa Z T605.heap wB "java/lang/String" := f647.keep K605q
      have f649 : Exa Z T620.heap wB "java/lang/String" := f648.keep K620q
      have f650 : Exa Z T605.heap wC "java/lang/String" := f604.keep K605q
      have f651 : Exa Z T620.heap wC "java/lang/String" := f650.keep K620q
      have f652 : Exa Z T620.heap wD "java/lang/String" := f618.keep K620q
      have f653 : Exa Z h517 wE "java/lang/String" := fq10.ext E517
      have f654 : Exa Z T530.heap wE "java/lang/String" := f653.keep K530q
      have f655 : Exa Z T605.heap wE "java/lang/String" := f654.keep K605q
      have f656 : Exa Z T620.heap wE "java/lang/String" := f655.keep K620q
      have f657 : Exa Z h517 wF "java/lang/String" := fq11.ext E517
      have f658 : Exa Z T530.heap wF "java/lang/String" := f657.keep K530q
      have f659 : Exa Z T605.heap wF "java/lang/String" := f658.keep K605q
      have f660 : Exa Z T620.heap wF "java/lang/String" := f659.keep K620q
      exact J144 _ _ _ (X620.more (by decide) (by decide)) rfl N620 Z620 K620 vS (2 : Int32) vT wA wB wC wD wE wF oS eaS cpS lS b517 ea2_620 cp2_620 ((own_nil ++ [wC]) ++ [wD]) f625 f629 f633 f637 f641 c620_0 c620_1 c620_2 c620_4 c620_9 c620_8 f645 f649 f651 f652 f656 f660 fq12 hc621 fq14
  have J70 : ∀ (Tq : State) (hq : Heap) (lq : List Loc) (Xq : Stand p l e room_1 s m #[(.int xa), (.int xb), (.int xc), (.int xd)] below meth c Tq lq 19 50) (eq : Tq.heap = hq) (Nq : Fr n0 lq) (Zq : n0 ≤ hq.size) (Kq : Keep h0 hq []) (vS : Int32) (vH : Int32) (vT : Int32) (wA : Addr) (wB : Addr) (wC : Addr) (wD : Addr) (wE : Addr) (wF : Addr) (fq0 : Old Z n0 hq) (fq1 : Exa Z hq wA "java/lang/String") (fq2 : Exa Z hq wB "java/lang/String") (fq3 : Exa Z hq wC "java/lang/String") (fq4 : Exa Z hq wD "java/lang/String") (fq5 : Exa Z hq wE "java/lang/String") (fq6 : Exa Z hq wF "java/lang/String") (fq7 : vS = 0 ∨ vS = 1 ∨ vS = 2) (fq8 : vH = 0 ∨ vH = 1 ∨ vH = 2) (fq9 : vT = 0 ∨ vT = 1 ∨ vT = 2), OwnGo p e below s (Q0 Z xa xb xc xd cs dc em mr ml h0 n0) room_1.cells room_1.slots (Tq.setTop (mkF m 70 #[.val (.int xa), .val (.int xb), .val (.int xc), .val (.int xd), .val (.int vS), .val (.int vH), .val (.int vT), .val (.ref wA), .val (.ref wB), .val (.ref wC), .val (.ref wD), .val (.ref wE), .val (.ref wF), .unset, .unset, .unset, .unset, .unset] [])) := by
    intro Tq hq lq Xq eq Nq Zq Kq vS vH vT wA wB wC wD wE wF fq0 fq1 fq2 fq3 fq4 fq5 fq6 fq7 fq8 fq9
    have f661 : OwnA Z hq dc 0 own_nil := P4.ext fq0.2
    obtain ⟨T662, h662, X662, e662, E662, A662, D662, u662, st662⟩ := newO Xq hx hZ hown (w34 hw) (w35 hw) (w36 hw) eq (g := (mkF m 70 #[.val (.int xa), .val (.int xb), .val (.int xc), .val (.int xd), .val (.int vS), .val (.int vH), .val (.int vT), .val (.ref wA), .val (.ref wB), .val (.ref wC), .val (.ref wD), .val (.ref wE), .val (.ref wF), .unset, .unset, .unset, .unset, .unset] [])) rfl (hb hby at_70) (by decide) (by decide)
    obtain ⟨b662, g662⟩ : ∃ z, z = hq.size := ⟨_, rfl⟩
    rw [← g662] at A662 D662 st662
    have ne663' : wA < b662 := Nat.lt_of_lt_of_le fq1.lt (Nat.le_of_eq g662.symm)
    have ne663 : wA ≠ b662 := Nat.ne_of_lt ne663'
    have ne664' : wB < b662 := Nat.lt_of_lt_of_le fq2.lt (Nat.le_of_eq g662.symm)
    have ne664 : wB ≠ b662 := Nat.ne_of_lt ne664'
    have ne665' : wC < b662 := Nat.lt_of_lt_of_le fq3.lt (Nat.le_of_eq g662.symm)
    have ne665 : wC ≠ b662 := Nat.ne_of_lt ne665'
    have ne666' : wD < b662 := Nat.lt_of_lt_of_le fq4.lt (Nat.le_of_eq g662.symm)
    have ne666 : wD ≠ b662 := Nat.ne_of_lt ne666'
    have ne667' : wE < b662 := Nat.lt_of_lt_of_le fq5.lt (Nat.le_of_eq g662.symm)
    have ne667 : wE ≠ b662 := Nat.ne_of_lt ne667'
    have ne668' : wF < b662 := Nat.lt_of_lt_of_le fq6.lt (Nat.le_of_eq g662.symm)
    have ne668 : wF ≠ b662 := Nat.ne_of_lt ne668'
    have ne669' : dc < b662 := Nat.lt_of_lt_of_le f661.lt (Nat.le_of_eq g662.symm)
    have ne669 : dc ≠ b662 := Nat.ne_of_lt ne669'
    have g670 : n0 ≤ b662 := Nat.le_trans Zq (Nat.le_of_eq g662.symm)
    have z671 : h0.size ≤ b662 := Nat.le_trans Kq.1 (Nat.le_of_eq g662.symm)
    have Z662 : n0 ≤ h662.size := Nat.le_trans Zq E662.1
    have K662 : Keep h0 h662 [] := Kq.ext E662
    have F662_modCount : Fld Z h662 b662 "java/util/AbstractList" "modCount" "I" (.int (0 : Int32)) := D662 (Or.inl (w54 hw)) (ty := .int) (by decide)
    have F662_elementData : Fld Z h662 b662 "java/util/ArrayList" "elementData" "[Ljava/lang/Object;" .null := D662 (Or.inl (w57 hw)) (ty := (.array (.object "java/lang/Object"))) (by decide)
    have F662_size : Fld Z h662 b662 "java/util/ArrayList" "size" "I" (.int (0 : Int32)) := D662 (Or.inl (w95 hw)) (ty := .int) (by decide)
    refine own_on st662 ?_
    show OwnGo p e below s _ _ _ (T662.setTop (mkF m 73 #[.val (.int xa), .val (.int xb), .val (.int xc), .val (.int xd), .val (.int vS), .val (.int vH), .val (.int vT), .val (.ref wA), .val (.ref wB), .val (.ref wC), .val (.ref wD), .val (.ref wE), .val (.ref wF), .unset, .unset, .unset, .unset, .unset] [(.ref b662)]))
    refine own_on (fun t_ k_ => XS.dup X662.here hx rfl (hb hby at_73) rfl rfl k_) ?_
    show OwnGo p e below s _ _ _ (T662.setTop (mkF m 74 #[.val (.int xa), .val (.int xb), .val (.int xc), .val (.int xd), .val (.int vS), .val (.int vH), .val (.int vT), .val (.ref wA), .val (.ref wB), .val (.ref wC), .val (.ref wD), .val (.ref wE), .val (.ref wF), .unset, .unset, .unset, .unset, .unset] [(.ref b662), (.ref b662)]))
    have f672 : Old Z n0 h662 := fq0.ext E662
    obtain ⟨_, _, ⟨T673, L673, k673, n673⟩, -, X673, ⟨Lc673, hQ673, l673, y673, z673⟩, st673⟩ := X662.specialBack hx (y := (⟨"java/util/ArrayList", "<init>", "()V"⟩ : MethodName)) rfl hown (mvT hZ (w37 hw)) (mvT hZ (w38 hw)) (mvT hZ (w39 hw)) (by decide) (backOf (W := 1) (rm8 l Z a0 hw [] b662 .null (.int (0 : Int32)) dc h662 n0 Z662 A662 F662_elementData F662_size F662_modCount g670 f672 P3 P4) hZ (w39 hw) (w36 hw) (by decide) (by decide)) (g := (mkF m 74 #[.val (.int xa), .val (.int xb), .val (.int xc), .val (.int xd), .val (.int vS), .val (.int vH), .val (.int vT), .val (.ref wA), .val (.ref wB), .val (.ref wC), .val (.ref wD), .val (.ref wE), .val (.ref wF), .unset, .unset, .unset, .unset, .unset] [(.ref b662), (.ref b662)])) rfl (by rw [hml]; rfl) (Steps.refl _) (a := b662) (argsL := []) (rest := [(.ref b662)]) (lenOf pd_0 rfl) rfl (by show 2 * 0 + _ ≤ _; exact Nat.le_of_eq rfl) (hb hby at_74) (fun _ hWx => ⟨rfl, e662, (by decide : 20 + 0 ≤ _), (by decide : 53 + 0 ≤ _)⟩)
    dsimp only [Pt.U, Pt.locs, Pt.cells, Pt.slots] at X673 l673 y673 z673 st673 hQ673
    replace X673 := own_num (c' := 20) (n' := 53) X673 l673 (y673.trans rfl) (z673.trans rfl)
    obtain ⟨rfl, N673q, K673q, c673_0, c673_1, c673_2, c673_3, c673_4, c673_5⟩ := hQ673
    have N673 := Fr.app Nq N673q
    have Z673 : n0 ≤ T673.heap.size := Nat.le_trans Z662 K673q.1
    have K673 : Keep h0 T673.heap [] := K662.trans K673q (allS (P := fun x => x ∈ [] ∨ h0.size ≤ x) (Or.inr z671) all0)
    refine own_tr st673 ?_
    show OwnGo p e below s _ _ _ (T673.setTop (mkF m 77 #[.val (.int xa), .val (.int xb), .val (.int xc), .val (.int xd), .val (.int vS), .val (.int vH), .val (.int vT), .val (.ref wA), .val (.ref wB), .val (.ref wC), .val (.ref wD), .val (.ref wE), .val (.ref wF), .unset, .unset, .unset, .unset, .unset] [(.ref b662)]))
    refine own_on (fun t_ k_ => XS.astore X673.here hx rfl (hb hby at_77) rfl rfl (l' := #[.val (.int xa), .val (.int xb), .val (.int xc), .val (.int xd), .val (.int vS), .val (.int vH), .val (.int vT), .val (.ref wA), .val (.ref wB), .val (.ref wC), .val (.ref wD), .val (.ref wE), .val (.ref wF), .val (.ref b662), .unset, .unset, .unset, .unset]) rfl k_) ?_
    show OwnGo p e below s _ _ _ (T673.setTop (mkF m 79 #[.val (.int xa), .val (.int xb), .val (.int xc), .val (.int xd), .val (.int vS), .val (.int vH), .val (.int vT), .val (.ref wA), .val (.ref wB), .val (.ref wC), .val (.ref wD), .val (.ref wE), .val (.ref wF), .val (.ref b662), .unset, .unset, .unset, .unset] []))
    have f674 : b662 ≤ T673.heap.size := Nat.le_of_lt c673_0.lt
    have hr675 : b662 = dc ∨ 0 = 0 := Or.inr rfl
    have hr676 : b662 ≤ b662 := Nat.le_refl _
    have f677 : OwnE Z T673.heap own_nil := fun _ q => nomatch q
    rcases fq7 with hv | hv | hv
    · rw [show vS = (0 : Int32) from hv]
      show OwnGo p e below s _ _ _ (T673.setTop (mkF m 79 #[.val (.int xa), .val (.int xb), .val (.int xc), .val (.int xd), .val (.int (0 : Int32)), .val (.int vH), .val (.int vT), .val (.ref wA), .val (.ref wB), .val (.ref wC), .val (.ref wD), .val (.ref wE), .val (.ref wF), .val (.ref b662), .unset, .unset, .unset, .unset] []))
      refine own_on (fun t_ k_ => XS.iload X673.here hx rfl (hb hby at_79) rfl k_) ?_
      refine own_on (fun t_ k_ => XS.iconst X673.here hx rfl (hb hby at_81) k_) ?_
      refine own_on (fun t_ k_ => XS.icmpYes X673.here hx rfl (pc0 := 82) (pc' := 93) rfl (hb hby at_82) rfl (tlt (by decide : (0 : Int32) < (1 : Int32))).1 (by decide) (by decide) k_) ?_
      show OwnGo p e below s _ _ _ (T673.setTop (mkF m 93 #[.val (.int xa), .val (.int xb), .val (.int xc), .val (.int xd), .val (.int (0 : Int32)), .val (.int vH), .val (.int vT), .val (.ref wA), .val (.ref wB), .val (.ref wC), .val (.ref wD), .val (.ref wE), .val (.ref wF), .val (.ref b662), .unset, .unset, .unset, .unset] []))
      refine own_on (fun t_ k_ => XS.iload X673.here hx rfl (hb hby at_93) rfl k_) ?_
      refine own_on (fun t_ k_ => XS.iconst X673.here hx rfl (hb hby at_95) k_) ?_
      refine own_on (fun t_ k_ => XS.icmpYes X673.here hx rfl (pc0 := 96) (pc' := 107) rfl (hb hby at_96) rfl (tlt (by decide : (0 : Int32) < (2 : Int32))).1 (by decide) (by decide) k_) ?_
      show OwnGo p e below s _ _ _ (T673.setTop (mkF m 107 #[.val (.int xa), .val (.int xb), .val (.int xc), .val (.int xd), .val (.int (0 : Int32)), .val (.int vH), .val (.int vT), .val (.ref wA), .val (.ref wB), .val (.ref wC), .val (.ref wD), .val (.ref wE), .val (.ref wF), .val (.ref b662), .unset, .unset, .unset, .unset] []))
      have hc678 : own_case (0 : Int32) own_nil wA wB := Or.inl ⟨rfl, rfl⟩
      have f679 : Exa Z h662 wA "java/lang/String" := fq1.ext E662
      have f680 : Exa Z T673.heap wA "java/lang/String" := f679.keep K673q
      have f681 : Exa Z h662 wB "java/lang/String" := fq2.ext E662
      have f682 : Exa Z T673.heap wB "java/lang/String" := f681.keep K673q
      have f683 : Exa Z h662 wC "java/lang/String" := fq3.ext E662
      have f684 : Exa Z T673.heap wC "java/lang/String" := f683.keep K673q
      have f685 : Exa Z h662 wD "java/lang/String" := fq4.ext E662
      have f686 : Exa Z T673.heap wD "java/lang/String" := f685.keep K673q
      have f687 : Exa Z h662 wE "java/lang/String" := fq5.ext E662
      have f688 : Exa Z T673.heap wE "java/lang/String" := f687.keep K673q
      have f689 : Exa Z h662 wF "java/lang/String" := fq6.ext E662
      have f690 : Exa Z T673.heap wF "java/lang/String" := f689.keep K673q
      exact J107 _ _ _ (X673.more (by decide) (by decide)) rfl N673 Z673 K673 (0 : Int32) vH vT wA wB wC wD wE wF b662 dc 0 own_nil c673_0 c673_1 c673_2 c673_4 f677 c673_5 f680 f682 f684 f686 f688 f690 hc678 fq8 fq9
    · rw [show vS = (1 : Int32) from hv]
      show OwnGo p e below s _ _ _ (T673.setTop (mkF m 79 #[.val (.int xa), .val (.int xb), .val (.int xc), .val (.int xd), .val (.int (1 : Int32)), .val (.int vH), .val (.int vT), .val (.ref wA), .val (.ref wB), .val (.ref wC), .val (.ref wD), .val (.ref wE), .val (.ref wF), .val (.ref b662), .unset, .unset, .unset, .unset] []))
      refine own_on (fun t_ k_ => XS.iload X673.here hx rfl (hb hby at_79) rfl k_) ?_
      refine own_on (fun t_ k_ => XS.iconst X673.here hx rfl (hb hby at_81) k_) ?_
      refine own_on (fun t_ k_ => XS.icmpNo X673.here hx rfl (hb hby at_82) rfl (flt (by decide : ¬ ((1 : Int32) < (1 : Int32)))).1 k_) ?_
      show OwnGo p e below s _ _ _ (T673.setTop (mkF m 85 #[.val (.int xa), .val (.int xb), .val (.int xc), .val (.int xd), .val (.int (1 : Int32)), .val (.int vH), .val (.int vT), .val (.ref wA), .val (.ref wB), .val (.ref wC), .val (.ref wD), .val (.ref wE), .val (.ref wF), .val (.ref b662), .unset, .unset, .unset, .unset] []))
      refine own_on (fun t_ k_ => XS.aload X673.here hx rfl (hb hby at_85) rfl rfl k_) ?_
      refine own_on (fun t_ k_ => XS.aload X673.here hx rfl (hb hby at_87) rfl rfl k_) ?_
      have f691 : Exa Z h662 wA "java/lang/String" := fq1.ext E662
      have f692 : Exa Z T673.heap wA "java/lang/String" := f691.keep K673q
      obtain ⟨cq693, kq693, q693a, q693b, q693c⟩ := isOf hZ rfl c673_0
      obtain ⟨_, _, ⟨T693, L693, k693, n693⟩, -, X693, ⟨Lc693, hQ693, l693, y693, z693⟩, st693⟩ := X673.virtualBack hx (y := (⟨"java/util/ArrayList", "add", "(Ljava/lang/Object;)Z"⟩ : MethodName)) (z := (⟨"java/util/ArrayList", "add", "(Ljava/lang/Object;)Z"⟩ : MethodName)) hown (mvT hZ (w140 hw)) (mvT hZ (w141 hw)) (notFace_of_selects (args := #[]) (mvT hZ (w143 hw))) (mvT hZ (w143 hw)) (mvT hZ (w142 hw)) (by decide) (backOf (W := 0) (rm21 l Z a0 hw [] b662 wA dc 0 own_nil (0 : Int32) b662 b662 dc mr T673.heap n0 Z673 c673_0 c673_1 c673_2 c673_3 c673_4 f677 f692 hr675 g670 hr676 f674 c673_5 P3 P7 g670 (by (first | omega | exact Nat.le_of_ble_eq_true rfl | (simp only [List.length_append]; omega)) : own_nil.length ≤ 5)) hZ (w144 hw) (w36 hw) (by decide) (by decide)) q693a q693c (g := (mkF m 89 #[.val (.int xa), .val (.int xb), .val (.int xc), .val (.int xd), .val (.int (1 : Int32)), .val (.int vH), .val (.int vT), .val (.ref wA), .val (.ref wB), .val (.ref wC), .val (.ref wD), .val (.ref wE), .val (.ref wF), .val (.ref b662), .unset, .unset, .unset, .unset] [(.ref wA), (.ref b662)])) rfl (by rw [hml]; rfl) (Steps.refl _) (argsL := [(.ref wA)]) (rest := []) (lenOf pd_16 rfl) rfl (by show 2 * 0 + _ ≤ _; exact Nat.le_of_eq rfl) (hb hby at_89) (fun _ hWx => ⟨rfl, rfl, (by decide : 20 + 1 ≤ _), (by decide : 53 + 10 ≤ _)⟩)
      dsimp only [Pt.U, Pt.locs, Pt.cells, Pt.slots] at X693 l693 y693 z693 st693 hQ693
      replace X693 := own_num (c' := 21) (n' := 63) X693 l693 (y693.trans rfl) (z693.trans rfl)
      obtain ⟨ea2_693, cp2_693, wa2_693, rfl, N693q, K693q, c693_0, c693_1, c693_2, c693_3, c693_4, c693_5, c693_6, c693_7, c693_8, c693_9⟩ := hQ693
      have N693 := Fr.app N673 N693q
      have Z693 : n0 ≤ T693.heap.size := Nat.le_trans Z673 K693q.1
      have K693 : Keep h0 T693.heap [] := K673.trans K693q (allS (P := fun x => x ∈ [] ∨ h0.size ≤ x) (Or.inr z671) (allS (P := fun x => x ∈ [] ∨ h0.size ≤ x) (Or.inr z671) all0))
      refine own_tr st693 ?_
      show OwnGo p e below s _ _ _ (T693.setTop (mkF m 92 #[.val (.int xa), .val (.int xb), .val (.int xc), .val (.int xd), .val (.int (1 : Int32)), .val (.int vH), .val (.int vT), .val (.ref wA), .val (.ref wB), .val (.ref wC), .val (.ref wD), .val (.ref wE), .val (.ref wF), .val (.ref b662), .unset, .unset, .unset, .unset] [(.int (1 : Int32))]))
      have hr694 : h0.size ≤ wa2_693 := Nat.le_trans z671 c693_7
      have ne695 : wA ≠ wa2_693 := Nat.ne_of_lt (Nat.lt_of_lt_of_le ne663' c693_7)
      have ne696 : wB ≠ wa2_693 := Nat.ne_of_lt (Nat.lt_of_lt_of_le ne664' c693_7)
      have ne697 : wC ≠ wa2_693 := Nat.ne_of_lt (Nat.lt_of_lt_of_le ne665' c693_7)
      have ne698 : wD ≠ wa2_693 := Nat.ne_of_lt (Nat.lt_of_lt_of_le ne666' c693_7)
      have ne699 : wE ≠ wa2_693 := Nat.ne_of_lt (Nat.lt_of_lt_of_le ne667' c693_7)
      have ne700 : wF ≠ wa2_693 := Nat.ne_of_lt (Nat.lt_of_lt_of_le ne668' c693_7)
      have ne701 : dc ≠ wa2_693 := Nat.ne_of_lt (Nat.lt_of_lt_of_le ne669' c693_7)
      refine own_on (fun t_ k_ => XS.pop X693.here hx rfl (hb hby at_92) rfl rfl k_) ?_
      show OwnGo p e below s _ _ _ (T693.setTop (mkF m 93 #[.val (.int xa), .val (.int xb), .val (.int xc), .val (.int xd), .val (.int (1 : Int32)), .val (.int vH), .val (.int vT), .val (.ref wA), .val (.ref wB), .val (.ref wC), .val (.ref wD), .val (.ref wE), .val (.ref wF), .val (.ref b662), .unset, .unset, .unset, .unset] []))
      refine own_on (fun t_ k_ => XS.iload X693.here hx rfl (hb hby at_93) rfl k_) ?_
      refine own_on (fun t_ k_ => XS.iconst X693.here hx rfl (hb hby at_95) k_) ?_
      refine own_on (fun t_ k_ => XS.icmpYes X693.here hx rfl (pc0 := 96) (pc' := 107) rfl (hb hby at_96) rfl (tlt (by decide : (1 : Int32) < (2 : Int32))).1 (by decide) (by decide) k_) ?_
      show OwnGo p e below s _ _ _ (T693.setTop (mkF m 107 #[.val (.int xa), .val (.int xb), .val (.int xc), .val (.int xd), .val (.int (1 : Int32)), .val (.int vH), .val (.int vT), .val (.ref wA), .val (.ref wB), .val (.ref wC), .val (.ref wD), .val (.ref wE), .val (.ref wF), .val (.ref b662), .unset, .unset, .unset, .unset] []))
      have hc702 : own_case (1 : Int32) (own_nil ++ [wA]) wA wB := Or.inr (Or.inl ⟨rfl, rfl⟩)
      have f703 : Exa Z T693.heap wA "java/lang/String" := f692.keep K693q
      have f704 : Exa Z h662 wB "java/lang/String" := fq2.ext E662
      have f705 : Exa Z T673.heap wB "java/lang/String" := f704.keep K673q
      have f706 : Exa Z T693.heap wB "java/lang/String" := f705.keep K693q
      have f707 : Exa Z h662 wC "java/lang/String" := fq3.ext E662
      have f708 : Exa Z T673.heap wC "java/lang/String" := f707.keep K673q
      have f709 : Exa Z T693.heap wC "java/lang/String" := f708.keep K693q
      have f710 : Exa Z h662 wD "java/lang/String" := fq4.ext E662
      have f711 : Exa Z T673.heap wD "java/lang/String" := f710.keep K673q
      have f712 : Exa Z T693.heap wD "java/lang/String" := f711.keep K693q
      have f713 : Exa Z h662 wE "java/lang/String" := fq5.ext E662
      have f714 : Exa Z T673.heap wE "java/lang/String" := f713.keep K673q
      have f715 : Exa Z T693.heap wE "java/lang/String" := f714.keep K693q
      have f716 : Exa Z h662 wF "java/lang/String" := fq6.ext E662
      have f717 : Exa Z T673.heap wF "java/lang/String" := f716.keep K673q
      have f718 : Exa Z T693.heap wF "java/lang/String" := f717.keep K693q
      exact J107 _ _ _ (X693.more (by decide) (by decide)) rfl N693 Z693 K693 (1 : Int32) vH vT wA wB wC wD wE wF b662 ea2_693 cp2_693 (own_nil ++ [wA]) c693_0 c693_1 c693_2 c693_4 c693_9 c693_8 f703 f706 f709 f712 f715 f718 hc702 fq8 fq9
    · rw [show vS = (2 : Int32) from hv]
      show OwnGo p e below s _ _ _ (T673.setTop (mkF m 79 #[.val (.int xa), .val (.int xb), .val (.int xc), .val (.int xd), .val (.int (2 : Int32)), .val (.int vH), .val (.int vT), .val (.ref wA), .val (.ref wB), .val (.ref wC), .val (.ref wD), .val (.ref wE), .val (.ref wF), .val (.ref b662), .unset, .unset, .unset, .unset] []))
      refine own_on (fun t_ k_ => XS.iload X673.here hx rfl (hb hby at_79) rfl k_) ?_
      refine own_on (fun t_ k_ => XS.iconst X673.here hx rfl (hb hby at_81) k_) ?_
      refine own_on (fun t_ k_ => XS.icmpNo X673.here hx rfl (hb hby at_82) rfl (flt (by decide : ¬ ((2 : Int32) < (1 : Int32)))).1 k_) ?_
      show OwnGo p e below s _ _ _ (T673.setTop (mkF m 85 #[.val (.int xa), .val (.int xb), .val (.int xc), .val (.int xd), .val (.int (2 : Int32)), .val (.int vH), .val (.int vT), .val (.ref wA), .val (.ref wB), .val (.ref wC), .val (.ref wD), .val (.ref wE), .val (.ref wF), .val (.ref b662), .unset, .unset, .unset, .unset] []))
      refine own_on (fun t_ k_ => XS.aload X673.here hx rfl (hb hby at_85) rfl rfl k_) ?_
      refine own_on (fun t_ k_ => XS.aload X673.here hx rfl (hb hby at_87) rfl rfl k_) ?_
      have f719 : Exa Z h662 wA "java/lang/String" := fq1.ext E662
      have f720 : Exa Z T673.heap wA "java/lang/String" := f719.keep K673q
      obtain ⟨cq721, kq721, q721a, q721b, q721c⟩ := isOf hZ rfl c673_0
      obtain ⟨_, _, ⟨T721, L721, k721, n721⟩, -, X721, ⟨Lc721, hQ721, l721, y721, z721⟩, st721⟩ := X673.virtualBack hx (y := (⟨"java/util/ArrayList", "add", "(Ljava/lang/Object;)Z"⟩ : MethodName)) (z := (⟨"java/util/ArrayList", "add", "(Ljava/lang/Object;)Z"⟩ : MethodName)) hown (mvT hZ (w140 hw)) (mvT hZ (w141 hw)) (notFace_of_selects (args := #[]) (mvT hZ (w143 hw))) (mvT hZ (w143 hw)) (mvT hZ (w142 hw)) (by decide) (backOf (W := 0) (rm21 l Z a0 hw [] b662 wA dc 0 own_nil (0 : Int32) b662 b662 dc mr T673.heap n0 Z673 c673_0 c673_1 c673_2 c673_3 c673_4 f677 f720 hr675 g670 hr676 f674 c673_5 P3 P7 g670 (by (first | omega | exact Nat.le_of_ble_eq_true rfl | (simp only [List.length_append]; omega)) : own_nil.length ≤ 5)) hZ (w144 hw) (w36 hw) (by decide) (by decide)) q721a q721c (g := (mkF m 89 #[.val (.int xa), .val (.int xb), .val (.int xc), .val (.int xd), .val (.int (2 : Int32)), .val (.int vH), .val (.int vT), .val (.ref wA), .val (.ref wB), .val (.ref wC), .val (.ref wD), .val (.ref wE), .val (.ref wF), .val (.ref b662), .unset, .unset, .unset, .unset] [(.ref wA), (.ref b662)])) rfl (by rw [hml]; rfl) (Steps.refl _) (argsL := [(.ref wA)]) (rest := []) (lenOf pd_16 rfl) rfl (by show 2 * 0 + _ ≤ _; exact Nat.le_of_eq rfl) (hb hby at_89) (fun _ hWx => ⟨rfl, rfl, (by decide : 20 + 1 ≤ _), (by decide : 53 + 10 ≤ _)⟩)
      dsimp only [Pt.U, Pt.locs, Pt.cells, Pt.slots] at X721 l721 y721 z721 st721 hQ721
      replace X721 := own_num (c' := 21) (n' := 63) X721 l721 (y721.trans rfl) (z721.trans rfl)
      obtain ⟨ea2_721, cp2_721, wa2_721, rfl, N721q, K721q, c721_0, c721_1, c721_2, c721_3, c721_4, c721_5, c721_6, c721_7, c721_8, c721_9⟩ := hQ721
      have N721 := Fr.app N673 N721q
      have Z721 : n0 ≤ T721.heap.size := Nat.le_trans Z673 K721q.1
      have K721 : Keep h0 T721.heap [] := K673.trans K721q (allS (P := fun x => x ∈ [] ∨ h0.size ≤ x) (Or.inr z671) (allS (P := fun x => x ∈ [] ∨ h0.size ≤ x) (Or.inr z671) all0))
      refine own_tr st721 ?_
      show OwnGo p e below s _ _ _ (T721.setTop (mkF m 92 #[.val (.int xa), .val (.int xb), .val (.int xc), .val (.int xd), .val (.int (2 : Int32)), .val (.int vH), .val (.int vT), .val (.ref wA), .val (.ref wB), .val (.ref wC), .val (.ref wD), .val (.ref wE), .val (.ref wF), .val (.ref b662), .unset, .unset, .unset, .unset] [(.int (1 : Int32))]))
      have hr722 : h0.size ≤ wa2_721 := Nat.le_trans z671 c721_7
      have ne723 : wA ≠ wa2_721 := Nat.ne_of_lt (Nat.lt_of_lt_of_le ne663' c721_7)
      have ne724 : wB ≠ wa2_721 := Nat.ne_of_lt (Nat.lt_of_lt_of_le ne664' c721_7)
      have ne725 : wC ≠ wa2_721 := Nat.ne_of_lt (Nat.lt_of_lt_of_le ne665' c721_7)
      have ne726 : wD ≠ wa2_721 := Nat.ne_of_lt (Nat.lt_of_lt_of_le ne666' c721_7)
      have ne727 : wE ≠ wa2_721 := Nat.ne_of_lt (Nat.lt_of_lt_of_le ne667' c721_7)
      have ne728 : wF ≠ wa2_721 := Nat.ne_of_lt (Nat.lt_of_lt_of_le ne668' c721_7)
      have ne729 : dc ≠ wa2_721 := Nat.ne_of_lt (Nat.lt_of_lt_of_le ne669' c721_7)
      refine own_on (fun t_ k_ => XS.pop X721.here hx rfl (hb hby at_92) rfl rfl k_) ?_
      show OwnGo p e below s _ _ _ (T721.setTop (mkF m 93 #[.val (.int xa), .val (.int xb), .val (.int xc), .val (.int xd), .val (.int (2 : Int32)), .val (.int vH), .val (.int vT), .val (.ref wA), .val (.ref wB), .val (.ref wC), .val (.ref wD), .val (.ref wE), .val (.ref wF), .val (.ref b662), .unset, .unset, .unset, .unset] []))
      refine own_on (fun t_ k_ => XS.iload X721.here hx rfl (hb hby at_93) rfl k_) ?_
      refine own_on (fun t_ k_ => XS.iconst X721.here hx rfl (hb hby at_95) k_) ?_
      refine own_on (fun t_ k_ => XS.icmpNo X721.here hx rfl (hb hby at_96) rfl (flt (by decide : ¬ ((2 : Int32) < (2 : Int32)))).1 k_) ?_
      show OwnGo p e below s _ _ _ (T721.setTop (mkF m 99 #[.val (.int xa), .val (.int xb), .val (.int xc), .val (.int xd), .val (.int (2 : Int32)), .val (.int vH), .val (.int vT), .val (.ref wA), .val (.ref wB), .val (.ref wC), .val (.ref wD), .val (.ref wE), .val (.ref wF), .val (.ref b662), .unset, .unset, .unset, .unset] []))
      refine own_on (fun t_ k_ => XS.aload X721.here hx rfl (hb hby at_99) rfl rfl k_) ?_
      refine own_on (fun t_ k_ => XS.aload X721.here hx rfl (hb hby at_101) rfl rfl k_) ?_
      have f730 : Exa Z h662 wB "java/lang/String" := fq2.ext E662
      have f731 : Exa Z T673.heap wB "java/lang/String" := f730.keep K673q
      have f732 : Exa Z T721.heap wB "java/lang/String" := f731.keep K721q
      have f733 : b662 ≤ T721.heap.size := Nat.le_trans f674 K721q.1
      obtain ⟨cq734, kq734, q734a, q734b, q734c⟩ := isOf hZ rfl c721_0
      obtain ⟨_, _, ⟨T734, L734, k734, n734⟩, -, X734, ⟨Lc734, hQ734, l734, y734, z734⟩, st734⟩ := X721.virtualBack hx (y := (⟨"java/util/ArrayList", "add", "(Ljava/lang/Object;)Z"⟩ : MethodName)) (z := (⟨"java/util/ArrayList", "add", "(Ljava/lang/Object;)Z"⟩ : MethodName)) hown (mvT hZ (w140 hw)) (mvT hZ (w141 hw)) (notFace_of_selects (args := #[]) (mvT hZ (w143 hw))) (mvT hZ (w143 hw)) (mvT hZ (w142 hw)) (by decide) (backOf (W := 0) (rm21 l Z a0 hw [] b662 wB ea2_721 cp2_721 (own_nil ++ [wA]) ((0 : Int32) + (1 : Int32)) wa2_721 b662 dc mr T721.heap n0 Z721 c721_0 c721_1 c721_2 c721_3 c721_4 c721_9 f732 c721_5 c721_6 c721_7 f733 c721_8 P3 P7 g670 (by (first | omega | exact Nat.le_of_ble_eq_true rfl | (simp only [List.length_append]; omega)) : (own_nil ++ [wA]).length ≤ 5)) hZ (w144 hw) (w36 hw) (by decide) (by decide)) q734a q734c (g := (mkF m 103 #[.val (.int xa), .val (.int xb), .val (.int xc), .val (.int xd), .val (.int (2 : Int32)), .val (.int vH), .val (.int vT), .val (.ref wA), .val (.ref wB), .val (.ref wC), .val (.ref wD), .val (.ref wE), .val (.ref wF), .val (.ref b662), .unset, .unset, .unset, .unset] [(.ref wB), (.ref b662)])) rfl (by rw [hml]; rfl) (Steps.refl _) (argsL := [(.ref wB)]) (rest := []) (lenOf pd_16 rfl) rfl (by show 2 * 0 + _ ≤ _; exact Nat.le_of_eq rfl) (hb hby at_103) (fun _ hWx => ⟨rfl, rfl, (by decide : 21 + 1 ≤ _), (by decide : 63 + 10 ≤ _)⟩)
      dsimp only [Pt.U, Pt.locs, Pt.cells, Pt.slots] at X734 l734 y734 z734 st734 hQ734
      replace X734 := own_num (c' := 22) (n' := 73) X734 l734 (y734.trans rfl) (z734.trans rfl)
      obtain ⟨ea2_734, cp2_734, wa2_734, rfl, N734q, K734q, c734_0, c734_1, c734_2, c734_3, c734_4, c734_5, c734_6, c734_7, c734_8, c734_9⟩ := hQ734
      have N734 := Fr.app N721 N734q
      have Z734 : n0 ≤ T734.heap.size := Nat.le_trans Z721 K734q.1
      have K734 : Keep h0 T734.heap [] := K721.trans K734q (allS (P := fun x => x ∈ [] ∨ h0.size ≤ x) (Or.inr z671) (allS (P := fun x => x ∈ [] ∨ h0.size ≤ x) (Or.inr hr722) all0))
      refine own_tr st734 ?_
      show OwnGo p e below s _ _ _ (T734.setTop (mkF m 106 #[.val (.int xa), .val (.int xb), .val (.int xc), .val (.int xd), .val (.int (2 : Int32)), .val (.int vH), .val (.int vT), .val (.ref wA), .val (.ref wB), .val (.ref wC), .val (.ref wD), .val (.ref wE), .val (.ref wF), .val (.ref b662), .unset, .unset, .unset, .unset] [(.int (1 : Int32))]))
      refine own_on (fun t_ k_ => XS.pop X734.here hx rfl (hb hby at_106) rfl rfl k_) ?_
      show OwnGo p e below s _ _ _ (T734.setTop (mkF m 107 #[.val (.int xa), .val (.int xb), .val (.int xc), .val (.int xd), .val (.int (2 : Int32)), .val (.int vH), .val (.int vT), .val (.ref wA), .val (.ref wB), .val (.ref wC), .val (.ref wD), .val (.ref wE), .val (.ref wF), .val (.ref b662), .unset, .unset, .unset, .unset] []))
      have hc735 : own_case (2 : Int32) ((own_nil ++ [wA]) ++ [wB]) wA wB := Or.inr (Or.inr ⟨rfl, rfl⟩)
      have f736 : Exa Z T721.heap wA "java/lang/String" := f720.keep K721q
      have f737 : Exa Z T734.heap wA "java/lang/String" := f736.keep K734q
      have f738 : Exa Z T734.heap wB "java/lang/String" := f732.keep K734q
      have f739 : Exa Z h662 wC "java/lang/String" := fq3.ext E662
      have f740 : Exa Z T673.heap wC "java/lang/String" := f739.keep K673q
      have f741 : Exa Z T721.heap wC "java/lang/String" := f740.keep K721q
      have f742 : Exa Z T734.heap wC "java/lang/String" := f741.keep K734q
      have f743 : Exa Z h662 wD "java/lang/String" := fq4.ext E662
      have f744 : Exa Z T673.heap wD "java/lang/String" := f743.keep K673q
      have f745 : Exa Z T721.heap wD "java/lang/String" := f744.keep K721q
      have f746 : Exa Z T734.heap wD "java/lang/String" := f745.keep K734q
      have f747 : Exa Z h662 wE "java/lang/String" := fq5.ext E662
      have f748 : Exa Z T673.heap wE "java/lang/String" := f747.keep K673q
      have f749 : Exa Z T721.heap wE "java/lang/String" := f748.keep K721q
      have f750 : Exa Z T734.heap wE "java/lang/String" := f749.keep K734q
      have f751 : Exa Z h662 wF "java/lang/String" := fq6.ext E662
      have f752 : Exa Z T673.heap wF "java/lang/String" := f751.keep K673q
      have f753 : Exa Z T721.heap wF "java/lang/String" := f752.keep K721q
      have f754 : Exa Z T734.heap wF "java/lang/String" := f753.keep K734q
      exact J107 _ _ _ (X734.more (by decide) (by decide)) rfl N734 Z734 K734 (2 : Int32) vH vT wA wB wC wD wE wF b662 ea2_734 cp2_734 ((own_nil ++ [wA]) ++ [wB]) c734_0 c734_1 c734_2 c734_4 c734_9 c734_8 f737 f738 f742 f746 f750 f754 hc735 fq8 fq9
  refine own_on (fun t_ k_ => XS.iloadN X0.here hx rfl (hb hby at_0) rfl k_) ?_
  refine own_on (fun t_ k_ => XS.iconst X0.here hx rfl (hb hby at_1) k_) ?_
  refine own_on (fun t_ k_ => XS.iand X0.here hx rfl (hb hby at_2) rfl k_) ?_
  show OwnGo p e below s _ _ _ (s₁.setTop (mkF m 3 #[.val (.int xa), .val (.int xb), .val (.int xc), .val (.int xd), .unset, .unset, .unset, .unset, .unset, .unset, .unset, .unset, .unset, .unset, .unset, .unset, .unset, .unset] [(.int (xa &&& (3 : Int32)))]))
  refine own_on (fun t_ k_ => XS.iconst X0.here hx rfl (hb hby at_3) k_) ?_
  refine own_on (fun t_ k_ => iremM X0 hx rfl (hb hby at_4) rfl (by decide) k_) ?_
  show OwnGo p e below s _ _ _ (s₁.setTop (mkF m 5 #[.val (.int xa), .val (.int xb), .val (.int xc), .val (.int xd), .unset, .unset, .unset, .unset, .unset, .unset, .unset, .unset, .unset, .unset, .unset, .unset, .unset, .unset] [(.int ((xa &&& (3 : Int32)) % (3 : Int32)))]))
  refine own_on (fun t_ k_ => XS.istore X0.here hx rfl (hb hby at_5) rfl (l' := #[.val (.int xa), .val (.int xb), .val (.int xc), .val (.int xd), .val (.int ((xa &&& (3 : Int32)) % (3 : Int32))), .unset, .unset, .unset, .unset, .unset, .unset, .unset, .unset, .unset, .unset, .unset, .unset, .unset]) rfl k_) ?_
  show OwnGo p e below s _ _ _ (s₁.setTop (mkF m 7 #[.val (.int xa), .val (.int xb), .val (.int xc), .val (.int xd), .val (.int ((xa &&& (3 : Int32)) % (3 : Int32))), .unset, .unset, .unset, .unset, .unset, .unset, .unset, .unset, .unset, .unset, .unset, .unset, .unset] []))
  refine own_on (fun t_ k_ => XS.iloadN X0.here hx rfl (hb hby at_7) rfl k_) ?_
  refine own_on (fun t_ k_ => XS.iconst X0.here hx rfl (hb hby at_8) k_) ?_
  refine own_on (fun t_ k_ => XS.iushr X0.here hx rfl (hb hby at_9) rfl k_) ?_
  show OwnGo p e below s _ _ _ (s₁.setTop (mkF m 10 #[.val (.int xa), .val (.int xb), .val (.int xc), .val (.int xd), .val (.int ((xa &&& (3 : Int32)) % (3 : Int32))), .unset, .unset, .unset, .unset, .unset, .unset, .unset, .unset, .unset, .unset, .unset, .unset, .unset] [(.int ((xa.toUInt32 >>> ((2 : Int32) &&& 31).toUInt32).toInt32))]))
  refine own_on (fun t_ k_ => XS.iconst X0.here hx rfl (hb hby at_10) k_) ?_
  refine own_on (fun t_ k_ => XS.iand X0.here hx rfl (hb hby at_11) rfl k_) ?_
  show OwnGo p e below s _ _ _ (s₁.setTop (mkF m 12 #[.val (.int xa), .val (.int xb), .val (.int xc), .val (.int xd), .val (.int ((xa &&& (3 : Int32)) % (3 : Int32))), .unset, .unset, .unset, .unset, .unset, .unset, .unset, .unset, .unset, .unset, .unset, .unset, .unset] [(.int (((xa.toUInt32 >>> ((2 : Int32) &&& 31).toUInt32).toInt32) &&& (3 : Int32)))]))
  refine own_on (fun t_ k_ => XS.iconst X0.here hx rfl (hb hby at_12) k_) ?_
  refine own_on (fun t_ k_ => iremM X0 hx rfl (hb hby at_13) rfl (by decide) k_) ?_
  show OwnGo p e below s _ _ _ (s₁.setTop (mkF m 14 #[.val (.int xa), .val (.int xb), .val (.int xc), .val (.int xd), .val (.int ((xa &&& (3 : Int32)) % (3 : Int32))), .unset, .unset, .unset, .unset, .unset, .unset, .unset, .unset, .unset, .unset, .unset, .unset, .unset] [(.int ((((xa.toUInt32 >>> ((2 : Int32) &&& 31).toUInt32).toInt32) &&& (3 : Int32)) % (3 : Int32)))]))
  refine own_on (fun t_ k_ => XS.istore X0.here hx rfl (hb hby at_14) rfl (l' := #[.val (.int xa), .val (.int xb), .val (.int xc), .val (.int xd), .val (.int ((xa &&& (3 : Int32)) % (3 : Int32))), .val (.int ((((xa.toUInt32 >>> ((2 : Int32) &&& 31).toUInt32).toInt32) &&& (3 : Int32)) % (3 : Int32))), .unset, .unset, .unset, .unset, .unset, .unset, .unset, .unset, .unset, .unset, .unset, .unset]) rfl k_) ?_
  show OwnGo p e below s _ _ _ (s₁.setTop (mkF m 16 #[.val (.int xa), .val (.int xb), .val (.int xc), .val (.int xd), .val (.int ((xa &&& (3 : Int32)) % (3 : Int32))), .val (.int ((((xa.toUInt32 >>> ((2 : Int32) &&& 31).toUInt32).toInt32) &&& (3 : Int32)) % (3 : Int32))), .unset, .unset, .unset, .unset, .unset, .unset, .unset, .unset, .unset, .unset, .unset, .unset] []))
  refine own_on (fun t_ k_ => XS.iloadN X0.here hx rfl (hb hby at_16) rfl k_) ?_
  refine own_on (fun t_ k_ => XS.iconst X0.here hx rfl (hb hby at_17) k_) ?_
  refine own_on (fun t_ k_ => XS.iushr X0.here hx rfl (hb hby at_18) rfl k_) ?_
  show OwnGo p e below s _ _ _ (s₁.setTop (mkF m 19 #[.val (.int xa), .val (.int xb), .val (.int xc), .val (.int xd), .val (.int ((xa &&& (3 : Int32)) % (3 : Int32))), .val (.int ((((xa.toUInt32 >>> ((2 : Int32) &&& 31).toUInt32).toInt32) &&& (3 : Int32)) % (3 : Int32))), .unset, .unset, .unset, .unset, .unset, .unset, .unset, .unset, .unset, .unset, .unset, .unset] [(.int ((xa.toUInt32 >>> ((4 : Int32) &&& 31).toUInt32).toInt32))]))
  refine own_on (fun t_ k_ => XS.iconst X0.here hx rfl (hb hby at_19) k_) ?_
  refine own_on (fun t_ k_ => XS.iand X0.here hx rfl (hb hby at_20) rfl k_) ?_
  show OwnGo p e below s _ _ _ (s₁.setTop (mkF m 21 #[.val (.int xa), .val (.int xb), .val (.int xc), .val (.int xd), .val (.int ((xa &&& (3 : Int32)) % (3 : Int32))), .val (.int ((((xa.toUInt32 >>> ((2 : Int32) &&& 31).toUInt32).toInt32) &&& (3 : Int32)) % (3 : Int32))), .unset, .unset, .unset, .unset, .unset, .unset, .unset, .unset, .unset, .unset, .unset, .unset] [(.int (((xa.toUInt32 >>> ((4 : Int32) &&& 31).toUInt32).toInt32) &&& (3 : Int32)))]))
  refine own_on (fun t_ k_ => XS.iconst X0.here hx rfl (hb hby at_21) k_) ?_
  refine own_on (fun t_ k_ => iremM X0 hx rfl (hb hby at_22) rfl (by decide) k_) ?_
  show OwnGo p e below s _ _ _ (s₁.setTop (mkF m 23 #[.val (.int xa), .val (.int xb), .val (.int xc), .val (.int xd), .val (.int ((xa &&& (3 : Int32)) % (3 : Int32))), .val (.int ((((xa.toUInt32 >>> ((2 : Int32) &&& 31).toUInt32).toInt32) &&& (3 : Int32)) % (3 : Int32))), .unset, .unset, .unset, .unset, .unset, .unset, .unset, .unset, .unset, .unset, .unset, .unset] [(.int ((((xa.toUInt32 >>> ((4 : Int32) &&& 31).toUInt32).toInt32) &&& (3 : Int32)) % (3 : Int32)))]))
  refine own_on (fun t_ k_ => XS.istore X0.here hx rfl (hb hby at_23) rfl (l' := #[.val (.int xa), .val (.int xb), .val (.int xc), .val (.int xd), .val (.int ((xa &&& (3 : Int32)) % (3 : Int32))), .val (.int ((((xa.toUInt32 >>> ((2 : Int32) &&& 31).toUInt32).toInt32) &&& (3 : Int32)) % (3 : Int32))), .val (.int ((((xa.toUInt32 >>> ((4 : Int32) &&& 31).toUInt32).toInt32) &&& (3 : Int32)) % (3 : Int32))), .unset, .unset, .unset, .unset, .unset, .unset, .unset, .unset, .unset, .unset, .unset]) rfl k_) ?_
  show OwnGo p e below s _ _ _ (s₁.setTop (mkF m 25 #[.val (.int xa), .val (.int xb), .val (.int xc), .val (.int xd), .val (.int ((xa &&& (3 : Int32)) % (3 : Int32))), .val (.int ((((xa.toUInt32 >>> ((2 : Int32) &&& 31).toUInt32).toInt32) &&& (3 : Int32)) % (3 : Int32))), .val (.int ((((xa.toUInt32 >>> ((4 : Int32) &&& 31).toUInt32).toInt32) &&& (3 : Int32)) % (3 : Int32))), .unset, .unset, .unset, .unset, .unset, .unset, .unset, .unset, .unset, .unset, .unset] []))
  refine own_on (fun t_ k_ => XS.iloadN X0.here hx rfl (hb hby at_25) rfl k_) ?_
  refine own_on (fun t_ k_ => XS.iconst X0.here hx rfl (hb hby at_26) k_) ?_
  obtain ⟨_, _, ⟨T755, L755, k755, n755⟩, -, X755, ⟨Lc755, hQ755, l755, y755, z755⟩, st755⟩ := Jvm.LawKit.callS X0 hx (y := (⟨"com/example/fachwissen/fachwissen/mail/MessageWordTextsPinLaw", "str", "(II)Ljava/lang/String;"⟩ : MethodName)) hown (mvT hZ (w0 hw)) (mvT hZ (w1 hw)) (mvT hZ (w2 hw)) (mvT hZ (w3 hw)) (by decide) (backOf (W := 0) (rm1 l Z a0 hw [] xb (0 : Int32) cs h0 n0 Z0 P0 P1 P2) hZ (w3 hw) (w2 hw) (by decide) (by decide)) (g := (mkF m 27 #[.val (.int xa), .val (.int xb), .val (.int xc), .val (.int xd), .val (.int ((xa &&& (3 : Int32)) % (3 : Int32))), .val (.int ((((xa.toUInt32 >>> ((2 : Int32) &&& 31).toUInt32).toInt32) &&& (3 : Int32)) % (3 : Int32))), .val (.int ((((xa.toUInt32 >>> ((4 : Int32) &&& 31).toUInt32).toInt32) &&& (3 : Int32)) % (3 : Int32))), .unset, .unset, .unset, .unset, .unset, .unset, .unset, .unset, .unset, .unset, .unset] [(.int (0 : Int32)), (.int xb)])) rfl (by rw [hml]; rfl) (argsL := [(.int xb), (.int (0 : Int32))]) (rest := []) (lenOf pd_17 rfl) rfl (by show 2 * 0 + _ ≤ _; exact Nat.le_of_eq rfl) (hb hby at_27) (fun _ hWx => ⟨rfl, e0, (by decide : 0 + 3 ≤ _), (by decide : 0 + 8 ≤ _)⟩)
  dsimp only [Pt.U, Pt.locs, Pt.cells, Pt.slots] at X755 l755 y755 z755 st755 hQ755
  replace X755 := own_num (c' := 3) (n' := 8) X755 l755 (y755.trans rfl) (z755.trans rfl)
  obtain ⟨r_755, rfl, N755q, K755q, c755_0, c755_1, c755_2, c755_3⟩ := hQ755
  have N755 := Fr.app N0 N755q
  have Z755 : n0 ≤ T755.heap.size := Nat.le_trans Z0 K755q.1
  have K755 : Keep h0 T755.heap [] := K0.trans K755q all0
  have z756 : h0.size ≤ r_755 := Nat.le_trans K0.1 c755_2
  refine own_on st755 ?_
  show OwnGo p e below s _ _ _ (T755.setTop (mkF m 30 #[.val (.int xa), .val (.int xb), .val (.int xc), .val (.int xd), .val (.int ((xa &&& (3 : Int32)) % (3 : Int32))), .val (.int ((((xa.toUInt32 >>> ((2 : Int32) &&& 31).toUInt32).toInt32) &&& (3 : Int32)) % (3 : Int32))), .val (.int ((((xa.toUInt32 >>> ((4 : Int32) &&& 31).toUInt32).toInt32) &&& (3 : Int32)) % (3 : Int32))), .unset, .unset, .unset, .unset, .unset, .unset, .unset, .unset, .unset, .unset, .unset] [(.ref r_755)]))
  refine own_on (fun t_ k_ => XS.astore X755.here hx rfl (hb hby at_30) rfl rfl (l' := #[.val (.int xa), .val (.int xb), .val (.int xc), .val (.int xd), .val (.int ((xa &&& (3 : Int32)) % (3 : Int32))), .val (.int ((((xa.toUInt32 >>> ((2 : Int32) &&& 31).toUInt32).toInt32) &&& (3 : Int32)) % (3 : Int32))), .val (.int ((((xa.toUInt32 >>> ((4 : Int32) &&& 31).toUInt32).toInt32) &&& (3 : Int32)) % (3 : Int32))), .val (.ref r_755), .unset, .unset, .unset, .unset, .unset, .unset, .unset, .unset, .unset, .unset]) rfl k_) ?_
  show OwnGo p e below s _ _ _ (T755.setTop (mkF m 32 #[.val (.int xa), .val (.int xb), .val (.int xc), .val (.int xd), .val (.int ((xa &&& (3 : Int32)) % (3 : Int32))), .val (.int ((((xa.toUInt32 >>> ((2 : Int32) &&& 31).toUInt32).toInt32) &&& (3 : Int32)) % (3 : Int32))), .val (.int ((((xa.toUInt32 >>> ((4 : Int32) &&& 31).toUInt32).toInt32) &&& (3 : Int32)) % (3 : Int32))), .val (.ref r_755), .unset, .unset, .unset, .unset, .unset, .unset, .unset, .unset, .unset, .unset] []))
  refine own_on (fun t_ k_ => XS.iloadN X755.here hx rfl (hb hby at_32) rfl k_) ?_
  refine own_on (fun t_ k_ => XS.bipush X755.here hx rfl (hb hby at_33) k_) ?_
  obtain ⟨_, _, ⟨T757, L757, k757, n757⟩, -, X757, ⟨Lc757, hQ757, l757, y757, z757⟩, st757⟩ := Jvm.LawKit.callS X755 hx (y := (⟨"com/example/fachwissen/fachwissen/mail/MessageWordTextsPinLaw", "str", "(II)Ljava/lang/String;"⟩ : MethodName)) hown (mvT hZ (w0 hw)) (mvT hZ (w1 hw)) (mvT hZ (w2 hw)) (mvT hZ (w3 hw)) (by decide) (backOf (W := 0) (rm1 l Z a0 hw [] xb (16 : Int32) cs T755.heap n0 Z755 c755_3 P1 P2) hZ (w3 hw) (w2 hw) (by decide) (by decide)) (g := (mkF m 35 #[.val (.int xa), .val (.int xb), .val (.int xc), .val (.int xd), .val (.int ((xa &&& (3 : Int32)) % (3 : Int32))), .val (.int ((((xa.toUInt32 >>> ((2 : Int32) &&& 31).toUInt32).toInt32) &&& (3 : Int32)) % (3 : Int32))), .val (.int ((((xa.toUInt32 >>> ((4 : Int32) &&& 31).toUInt32).toInt32) &&& (3 : Int32)) % (3 : Int32))), .val (.ref r_755), .unset, .unset, .unset, .unset, .unset, .unset, .unset, .unset, .unset, .unset] [(.int (16 : Int32)), (.int xb)])) rfl (by rw [hml]; rfl) (argsL := [(.int xb), (.int (16 : Int32))]) (rest := []) (lenOf pd_17 rfl) rfl (by show 2 * 0 + _ ≤ _; exact Nat.le_of_eq rfl) (hb hby at_35) (fun _ hWx => ⟨rfl, rfl, (by decide : 3 + 3 ≤ _), (by decide : 8 + 8 ≤ _)⟩)
  dsimp only [Pt.U, Pt.locs, Pt.cells, Pt.slots] at X757 l757 y757 z757 st757 hQ757
  replace X757 := own_num (c' := 6) (n' := 16) X757 l757 (y757.trans rfl) (z757.trans rfl)
  obtain ⟨r_757, rfl, N757q, K757q, c757_0, c757_1, c757_2, c757_3⟩ := hQ757
  have N757 := Fr.app N755 N757q
  have Z757 : n0 ≤ T757.heap.size := Nat.le_trans Z755 K757q.1
  have K757 : Keep h0 T757.heap [] := K755.trans K757q all0
  have ne758 : r_755 ≠ r_757 := Nat.ne_of_lt (Nat.lt_of_lt_of_le c755_0.lt c757_2)
  have z759 : h0.size ≤ r_757 := Nat.le_trans K755.1 c757_2
  refine own_on st757 ?_
  show OwnGo p e below s _ _ _ (T757.setTop (mkF m 38 #[.val (.int xa), .val (.int xb), .val (.int xc), .val (.int xd), .val (.int ((xa &&& (3 : Int32)) % (3 : Int32))), .val (.int ((((xa.toUInt32 >>> ((2 : Int32) &&& 31).toUInt32).toInt32) &&& (3 : Int32)) % (3 : Int32))), .val (.int ((((xa.toUInt32 >>> ((4 : Int32) &&& 31).toUInt32).toInt32) &&& (3 : Int32)) % (3 : Int32))), .val (.ref r_755), .unset, .unset, .unset, .unset, .unset, .unset, .unset, .unset, .unset, .unset] [(.ref r_757)]))
  refine own_on (fun t_ k_ => XS.astore X757.here hx rfl (hb hby at_38) rfl rfl (l' := #[.val (.int xa), .val (.int xb), .val (.int xc), .val (.int xd), .val (.int ((xa &&& (3 : Int32)) % (3 : Int32))), .val (.int ((((xa.toUInt32 >>> ((2 : Int32) &&& 31).toUInt32).toInt32) &&& (3 : Int32)) % (3 : Int32))), .val (.int ((((xa.toUInt32 >>> ((4 : Int32) &&& 31).toUInt32).toInt32) &&& (3 : Int32)) % (3 : Int32))), .val (.ref r_755), .val (.ref r_757), .unset, .unset, .unset, .unset, .unset, .unset, .unset, .unset, .unset]) rfl k_) ?_
  show OwnGo p e below s _ _ _ (T757.setTop (mkF m 40 #[.val (.int xa), .val (.int xb), .val (.int xc), .val (.int xd), .val (.int ((xa &&& (3 : Int32)) % (3 : Int32))), .val (.int ((((xa.toUInt32 >>> ((2 : Int32) &&& 31).toUInt32).toInt32) &&& (3 : Int32)) % (3 : Int32))), .val (.int ((((xa.toUInt32 >>> ((4 : Int32) &&& 31).toUInt32).toInt32) &&& (3 : Int32)) % (3 : Int32))), .val (.ref r_755), .val (.ref r_757), .unset, .unset, .unset, .unset, .unset, .unset, .unset, .unset, .unset] []))
  refine own_on (fun t_ k_ => XS.iloadN X757.here hx rfl (hb hby at_40) rfl k_) ?_
  refine own_on (fun t_ k_ => XS.iconst X757.here hx rfl (hb hby at_41) k_) ?_
  obtain ⟨_, _, ⟨T760, L760, k760, n760⟩, -, X760, ⟨Lc760, hQ760, l760, y760, z760⟩, st760⟩ := Jvm.LawKit.callS X757 hx (y := (⟨"com/example/fachwissen/fachwissen/mail/MessageWordTextsPinLaw", "str", "(II)Ljava/lang/String;"⟩ : MethodName)) hown (mvT hZ (w0 hw)) (mvT hZ (w1 hw)) (mvT hZ (w2 hw)) (mvT hZ (w3 hw)) (by decide) (backOf (W := 0) (rm1 l Z a0 hw [] xc (0 : Int32) cs T757.heap n0 Z757 c757_3 P1 P2) hZ (w3 hw) (w2 hw) (by decide) (by decide)) (g := (mkF m 42 #[.val (.int xa), .val (.int xb), .val (.int xc), .val (.int xd), .val (.int ((xa &&& (3 : Int32)) % (3 : Int32))), .val (.int ((((xa.toUInt32 >>> ((2 : Int32) &&& 31).toUInt32).toInt32) &&& (3 : Int32)) % (3 : Int32))), .val (.int ((((xa.toUInt32 >>> ((4 : Int32) &&& 31).toUInt32).toInt32) &&& (3 : Int32)) % (3 : Int32))), .val (.ref r_755), .val (.ref r_757), .unset, .unset, .unset, .unset, .unset, .unset, .unset, .unset, .unset] [(.int (0 : Int32)), (.int xc)])) rfl (by rw [hml]; rfl) (argsL := [(.int xc), (.int (0 : Int32))]) (rest := []) (lenOf pd_17 rfl) rfl (by show 2 * 0 + _ ≤ _; exact Nat.le_of_eq rfl) (hb hby at_42) (fun _ hWx => ⟨rfl, rfl, (by decide : 6 + 3 ≤ _), (by decide : 16 + 8 ≤ _)⟩)
  have f761 : Exa Z T757.heap r_755 "java/lang/String" := c755_0.keep K757q
  dsimp only [Pt.U, Pt.locs, Pt.cells, Pt.slots] at X760 l760 y760 z760 st760 hQ760
  replace X760 := own_num (c' := 9) (n' := 24) X760 l760 (y760.trans rfl) (z760.trans rfl)
  obtain ⟨r_760, rfl, N760q, K760q, c760_0, c760_1, c760_2, c760_3⟩ := hQ760
  have N760 := Fr.app N757 N760q
  have Z760 : n0 ≤ T760.heap.size := Nat.le_trans Z757 K760q.1
  have K760 : Keep h0 T760.heap [] := K757.trans K760q all0
  have ne762 : r_755 ≠ r_760 := Nat.ne_of_lt (Nat.lt_of_lt_of_le f761.lt c760_2)
  have ne763 : r_757 ≠ r_760 := Nat.ne_of_lt (Nat.lt_of_lt_of_le c757_0.lt c760_2)
  have z764 : h0.size ≤ r_760 := Nat.le_trans K757.1 c760_2
  refine own_on st760 ?_
  show OwnGo p e below s _ _ _ (T760.setTop (mkF m 45 #[.val (.int xa), .val (.int xb), .val (.int xc), .val (.int xd), .val (.int ((xa &&& (3 : Int32)) % (3 : Int32))), .val (.int ((((xa.toUInt32 >>> ((2 : Int32) &&& 31).toUInt32).toInt32) &&& (3 : Int32)) % (3 : Int32))), .val (.int ((((xa.toUInt32 >>> ((4 : Int32) &&& 31).toUInt32).toInt32) &&& (3 : Int32)) % (3 : Int32))), .val (.ref r_755), .val (.ref r_757), .unset, .unset, .unset, .unset, .unset, .unset, .unset, .unset, .unset] [(.ref r_760)]))
  refine own_on (fun t_ k_ => XS.astore X760.here hx rfl (hb hby at_45) rfl rfl (l' := #[.val (.int xa), .val (.int xb), .val (.int xc), .val (.int xd), .val (.int ((xa &&& (3 : Int32)) % (3 : Int32))), .val (.int ((((xa.toUInt32 >>> ((2 : Int32) &&& 31).toUInt32).toInt32) &&& (3 : Int32)) % (3 : Int32))), .val (.int ((((xa.toUInt32 >>> ((4 : Int32) &&& 31).toUInt32).toInt32) &&& (3 : Int32)) % (3 : Int32))), .val (.ref r_755), .val (.ref r_757), .val (.ref r_760), .unset, .unset, .unset, .unset, .unset, .unset, .unset, .unset]) rfl k_) ?_
  show OwnGo p e below s _ _ _ (T760.setTop (mkF m 47 #[.val (.int xa), .val (.int xb), .val (.int xc), .val (.int xd), .val (.int ((xa &&& (3 : Int32)) % (3 : Int32))), .val (.int ((((xa.toUInt32 >>> ((2 : Int32) &&& 31).toUInt32).toInt32) &&& (3 : Int32)) % (3 : Int32))), .val (.int ((((xa.toUInt32 >>> ((4 : Int32) &&& 31).toUInt32).toInt32) &&& (3 : Int32)) % (3 : Int32))), .val (.ref r_755), .val (.ref r_757), .val (.ref r_760), .unset, .unset, .unset, .unset, .unset, .unset, .unset, .unset] []))
  refine own_on (fun t_ k_ => XS.iloadN X760.here hx rfl (hb hby at_47) rfl k_) ?_
  refine own_on (fun t_ k_ => XS.bipush X760.here hx rfl (hb hby at_48) k_) ?_
  obtain ⟨_, _, ⟨T765, L765, k765, n765⟩, -, X765, ⟨Lc765, hQ765, l765, y765, z765⟩, st765⟩ := Jvm.LawKit.callS X760 hx (y := (⟨"com/example/fachwissen/fachwissen/mail/MessageWordTextsPinLaw", "str", "(II)Ljava/lang/String;"⟩ : MethodName)) hown (mvT hZ (w0 hw)) (mvT hZ (w1 hw)) (mvT hZ (w2 hw)) (mvT hZ (w3 hw)) (by decide) (backOf (W := 0) (rm1 l Z a0 hw [] xc (16 : Int32) cs T760.heap n0 Z760 c760_3 P1 P2) hZ (w3 hw) (w2 hw) (by decide) (by decide)) (g := (mkF m 50 #[.val (.int xa), .val (.int xb), .val (.int xc), .val (.int xd), .val (.int ((xa &&& (3 : Int32)) % (3 : Int32))), .val (.int ((((xa.toUInt32 >>> ((2 : Int32) &&& 31).toUInt32).toInt32) &&& (3 : Int32)) % (3 : Int32))), .val (.int ((((xa.toUInt32 >>> ((4 : Int32) &&& 31).toUInt32).toInt32) &&& (3 : Int32)) % (3 : Int32))), .val (.ref r_755), .val (.ref r_757), .val (.ref r_760), .unset, .unset, .unset, .unset, .unset, .unset, .unset, .unset] [(.int (16 : Int32)), (.int xc)])) rfl (by rw [hml]; rfl) (argsL := [(.int xc), (.int (16 : Int32))]) (rest := []) (lenOf pd_17 rfl) rfl (by show 2 * 0 + _ ≤ _; exact Nat.le_of_eq rfl) (hb hby at_50) (fun _ hWx => ⟨rfl, rfl, (by decide : 9 + 3 ≤ _), (by decide : 24 + 8 ≤ _)⟩)
  have f766 : Exa Z T760.heap r_755 "java/lang/String" := f761.keep K760q
  have f767 : Exa Z T760.heap r_757 "java/lang/String" := c757_0.keep K760q
  dsimp only [Pt.U, Pt.locs, Pt.cells, Pt.slots] at X765 l765 y765 z765 st765 hQ765
  replace X765 := own_num (c' := 12) (n' := 32) X765 l765 (y765.trans rfl) (z765.trans rfl)
  obtain ⟨r_765, rfl, N765q, K765q, c765_0, c765_1, c765_2, c765_3⟩ := hQ765
  have N765 := Fr.app N760 N765q
  have Z765 : n0 ≤ T765.heap.size := Nat.le_trans Z760 K765q.1
  have K765 : Keep h0 T765.heap [] := K760.trans K765q all0
  have ne768 : r_755 ≠ r_765 := Nat.ne_of_lt (Nat.lt_of_lt_of_le f766.lt c765_2)
  have ne769 : r_757 ≠ r_765 := Nat.ne_of_lt (Nat.lt_of_lt_of_le f767.lt c765_2)
  have ne770 : r_760 ≠ r_765 := Nat.ne_of_lt (Nat.lt_of_lt_of_le c760_0.lt c765_2)
  have z771 : h0.size ≤ r_765 := Nat.le_trans K760.1 c765_2
  refine own_on st765 ?_
  show OwnGo p e below s _ _ _ (T765.setTop (mkF m 53 #[.val (.int xa), .val (.int xb), .val (.int xc), .val (.int xd), .val (.int ((xa &&& (3 : Int32)) % (3 : Int32))), .val (.int ((((xa.toUInt32 >>> ((2 : Int32) &&& 31).toUInt32).toInt32) &&& (3 : Int32)) % (3 : Int32))), .val (.int ((((xa.toUInt32 >>> ((4 : Int32) &&& 31).toUInt32).toInt32) &&& (3 : Int32)) % (3 : Int32))), .val (.ref r_755), .val (.ref r_757), .val (.ref r_760), .unset, .unset, .unset, .unset, .unset, .unset, .unset, .unset] [(.ref r_765)]))
  refine own_on (fun t_ k_ => XS.astore X765.here hx rfl (hb hby at_53) rfl rfl (l' := #[.val (.int xa), .val (.int xb), .val (.int xc), .val (.int xd), .val (.int ((xa &&& (3 : Int32)) % (3 : Int32))), .val (.int ((((xa.toUInt32 >>> ((2 : Int32) &&& 31).toUInt32).toInt32) &&& (3 : Int32)) % (3 : Int32))), .val (.int ((((xa.toUInt32 >>> ((4 : Int32) &&& 31).toUInt32).toInt32) &&& (3 : Int32)) % (3 : Int32))), .val (.ref r_755), .val (.ref r_757), .val (.ref r_760), .val (.ref r_765), .unset, .unset, .unset, .unset, .unset, .unset, .unset]) rfl k_) ?_
  show OwnGo p e below s _ _ _ (T765.setTop (mkF m 55 #[.val (.int xa), .val (.int xb), .val (.int xc), .val (.int xd), .val (.int ((xa &&& (3 : Int32)) % (3 : Int32))), .val (.int ((((xa.toUInt32 >>> ((2 : Int32) &&& 31).toUInt32).toInt32) &&& (3 : Int32)) % (3 : Int32))), .val (.int ((((xa.toUInt32 >>> ((4 : Int32) &&& 31).toUInt32).toInt32) &&& (3 : Int32)) % (3 : Int32))), .val (.ref r_755), .val (.ref r_757), .val (.ref r_760), .val (.ref r_765), .unset, .unset, .unset, .unset, .unset, .unset, .unset] []))
  refine own_on (fun t_ k_ => XS.iloadN X765.here hx rfl (hb hby at_55) rfl k_) ?_
  refine own_on (fun t_ k_ => XS.iconst X765.here hx rfl (hb hby at_56) k_) ?_
  obtain ⟨_, _, ⟨T772, L772, k772, n772⟩, -, X772, ⟨Lc772, hQ772, l772, y772, z772⟩, st772⟩ := Jvm.LawKit.callS X765 hx (y := (⟨"com/example/fachwissen/fachwissen/mail/MessageWordTextsPinLaw", "str", "(II)Ljava/lang/String;"⟩ : MethodName)) hown (mvT hZ (w0 hw)) (mvT hZ (w1 hw)) (mvT hZ (w2 hw)) (mvT hZ (w3 hw)) (by decide) (backOf (W := 0) (rm1 l Z a0 hw [] xd (0 : Int32) cs T765.heap n0 Z765 c765_3 P1 P2) hZ (w3 hw) (w2 hw) (by decide) (by decide)) (g := (mkF m 57 #[.val (.int xa), .val (.int xb), .val (.int xc), .val (.int xd), .val (.int ((xa &&& (3 : Int32)) % (3 : Int32))), .val (.int ((((xa.toUInt32 >>> ((2 : Int32) &&& 31).toUInt32).toInt32) &&& (3 : Int32)) % (3 : Int32))), .val (.int ((((xa.toUInt32 >>> ((4 : Int32) &&& 31).toUInt32).toInt32) &&& (3 : Int32)) % (3 : Int32))), .val (.ref r_755), .val (.ref r_757), .val (.ref r_760), .val (.ref r_765), .unset, .unset, .unset, .unset, .unset, .unset, .unset] [(.int (0 : Int32)), (.int xd)])) rfl (by rw [hml]; rfl) (argsL := [(.int xd), (.int (0 : Int32))]) (rest := []) (lenOf pd_17 rfl) rfl (by show 2 * 0 + _ ≤ _; exact Nat.le_of_eq rfl) (hb hby at_57) (fun _ hWx => ⟨rfl, rfl, (by decide : 12 + 3 ≤ _), (by decide : 32 + 8 ≤ _)⟩)
  have f773 : Exa Z T765.heap r_755 "java/lang/String" := f766.keep K765q
  have f774 : Exa Z T765.heap r_757 "java/lang/String" := f767.keep K765q
  have f775 : Exa Z T765.heap r_760 "java/lang/String" := c760_0.keep K765q
  dsimp only [Pt.U, Pt.locs, Pt.cells, Pt.slots] at X772 l772 y772 z772 st772 hQ772
  replace X772 := own_num (c' := 15) (n' := 40) X772 l772 (y772.trans rfl) (z772.trans rfl)
  obtain ⟨r_772, rfl, N772q, K772q, c772_0, c772_1, c772_2, c772_3⟩ := hQ772
  have N772 := Fr.app N765 N772q
  have Z772 : n0 ≤ T772.heap.size := Nat.le_trans Z765 K772q.1
  have K772 : Keep h0 T772.heap [] := K765.trans K772q all0
  have ne776 : r_755 ≠ r_772 := Nat.ne_of_lt (Nat.lt_of_lt_of_le f773.lt c772_2)
  have ne777 : r_757 ≠ r_772 := Nat.ne_of_lt (Nat.lt_of_lt_of_le f774.lt c772_2)
  have ne778 : r_760 ≠ r_772 := Nat.ne_of_lt (Nat.lt_of_lt_of_le f775.lt c772_2)
  have ne779 : r_765 ≠ r_772 := Nat.ne_of_lt (Nat.lt_of_lt_of_le c765_0.lt c772_2)
  have z780 : h0.size ≤ r_772 := Nat.le_trans K765.1 c772_2
  refine own_on st772 ?_
  show OwnGo p e below s _ _ _ (T772.setTop (mkF m 60 #[.val (.int xa), .val (.int xb), .val (.int xc), .val (.int xd), .val (.int ((xa &&& (3 : Int32)) % (3 : Int32))), .val (.int ((((xa.toUInt32 >>> ((2 : Int32) &&& 31).toUInt32).toInt32) &&& (3 : Int32)) % (3 : Int32))), .val (.int ((((xa.toUInt32 >>> ((4 : Int32) &&& 31).toUInt32).toInt32) &&& (3 : Int32)) % (3 : Int32))), .val (.ref r_755), .val (.ref r_757), .val (.ref r_760), .val (.ref r_765), .unset, .unset, .unset, .unset, .unset, .unset, .unset] [(.ref r_772)]))
  refine own_on (fun t_ k_ => XS.astore X772.here hx rfl (hb hby at_60) rfl rfl (l' := #[.val (.int xa), .val (.int xb), .val (.int xc), .val (.int xd), .val (.int ((xa &&& (3 : Int32)) % (3 : Int32))), .val (.int ((((xa.toUInt32 >>> ((2 : Int32) &&& 31).toUInt32).toInt32) &&& (3 : Int32)) % (3 : Int32))), .val (.int ((((xa.toUInt32 >>> ((4 : Int32) &&& 31).toUInt32).toInt32) &&& (3 : Int32)) % (3 : Int32))), .val (.ref r_755), .val (.ref r_757), .val (.ref r_760), .val (.ref r_765), .val (.ref r_772), .unset, .unset, .unset, .unset, .unset, .unset]) rfl k_) ?_
  show OwnGo p e below s _ _ _ (T772.setTop (mkF m 62 #[.val (.int xa), .val (.int xb), .val (.int xc), .val (.int xd), .val (.int ((xa &&& (3 : Int32)) % (3 : Int32))), .val (.int ((((xa.toUInt32 >>> ((2 : Int32) &&& 31).toUInt32).toInt32) &&& (3 : Int32)) % (3 : Int32))), .val (.int ((((xa.toUInt32 >>> ((4 : Int32) &&& 31).toUInt32).toInt32) &&& (3 : Int32)) % (3 : Int32))), .val (.ref r_755), .val (.ref r_757), .val (.ref r_760), .val (.ref r_765), .val (.ref r_772), .unset, .unset, .unset, .unset, .unset, .unset] []))
  refine own_on (fun t_ k_ => XS.iloadN X772.here hx rfl (hb hby at_62) rfl k_) ?_
  refine own_on (fun t_ k_ => XS.bipush X772.here hx rfl (hb hby at_63) k_) ?_
  obtain ⟨_, _, ⟨T781, L781, k781, n781⟩, -, X781, ⟨Lc781, hQ781, l781, y781, z781⟩, st781⟩ := Jvm.LawKit.callS X772 hx (y := (⟨"com/example/fachwissen/fachwissen/mail/MessageWordTextsPinLaw", "str", "(II)Ljava/lang/String;"⟩ : MethodName)) hown (mvT hZ (w0 hw)) (mvT hZ (w1 hw)) (mvT hZ (w2 hw)) (mvT hZ (w3 hw)) (by decide) (backOf (W := 0) (rm1 l Z a0 hw [] xd (16 : Int32) cs T772.heap n0 Z772 c772_3 P1 P2) hZ (w3 hw) (w2 hw) (by decide) (by decide)) (g := (mkF m 65 #[.val (.int xa), .val (.int xb), .val (.int xc), .val (.int xd), .val (.int ((xa &&& (3 : Int32)) % (3 : Int32))), .val (.int ((((xa.toUInt32 >>> ((2 : Int32) &&& 31).toUInt32).toInt32) &&& (3 : Int32)) % (3 : Int32))), .val (.int ((((xa.toUInt32 >>> ((4 : Int32) &&& 31).toUInt32).toInt32) &&& (3 : Int32)) % (3 : Int32))), .val (.ref r_755), .val (.ref r_757), .val (.ref r_760), .val (.ref r_765), .val (.ref r_772), .unset, .unset, .unset, .unset, .unset, .unset] [(.int (16 : Int32)), (.int xd)])) rfl (by rw [hml]; rfl) (argsL := [(.int xd), (.int (16 : Int32))]) (rest := []) (lenOf pd_17 rfl) rfl (by show 2 * 0 + _ ≤ _; exact Nat.le_of_eq rfl) (hb hby at_65) (fun _ hWx => ⟨rfl, rfl, (by decide : 15 + 3 ≤ _), (by decide : 40 + 8 ≤ _)⟩)
  have f782 : Exa Z T772.heap r_755 "java/lang/String" := f773.keep K772q
  have f783 : Exa Z T772.heap r_757 "java/lang/String" := f774.keep K772q
  have f784 : Exa Z T772.heap r_760 "java/lang/String" := f775.keep K772q
  have f785 : Exa Z T772.heap r_765 "java/lang/String" := c765_0.keep K772q
  dsimp only [Pt.U, Pt.locs, Pt.cells, Pt.slots] at X781 l781 y781 z781 st781 hQ781
  replace X781 := own_num (c' := 18) (n' := 48) X781 l781 (y781.trans rfl) (z781.trans rfl)
  obtain ⟨r_781, rfl, N781q, K781q, c781_0, c781_1, c781_2, c781_3⟩ := hQ781
  have N781 := Fr.app N772 N781q
  have Z781 : n0 ≤ T781.heap.size := Nat.le_trans Z772 K781q.1
  have K781 : Keep h0 T781.heap [] := K772.trans K781q all0
  have ne786 : r_755 ≠ r_781 := Nat.ne_of_lt (Nat.lt_of_lt_of_le f782.lt c781_2)
  have ne787 : r_757 ≠ r_781 := Nat.ne_of_lt (Nat.lt_of_lt_of_le f783.lt c781_2)
  have ne788 : r_760 ≠ r_781 := Nat.ne_of_lt (Nat.lt_of_lt_of_le f784.lt c781_2)
  have ne789 : r_765 ≠ r_781 := Nat.ne_of_lt (Nat.lt_of_lt_of_le f785.lt c781_2)
  have ne790 : r_772 ≠ r_781 := Nat.ne_of_lt (Nat.lt_of_lt_of_le c772_0.lt c781_2)
  have z791 : h0.size ≤ r_781 := Nat.le_trans K772.1 c781_2
  refine own_on st781 ?_
  show OwnGo p e below s _ _ _ (T781.setTop (mkF m 68 #[.val (.int xa), .val (.int xb), .val (.int xc), .val (.int xd), .val (.int ((xa &&& (3 : Int32)) % (3 : Int32))), .val (.int ((((xa.toUInt32 >>> ((2 : Int32) &&& 31).toUInt32).toInt32) &&& (3 : Int32)) % (3 : Int32))), .val (.int ((((xa.toUInt32 >>> ((4 : Int32) &&& 31).toUInt32).toInt32) &&& (3 : Int32)) % (3 : Int32))), .val (.ref r_755), .val (.ref r_757), .val (.ref r_760), .val (.ref r_765), .val (.ref r_772), .unset, .unset, .unset, .unset, .unset, .unset] [(.ref r_781)]))
  refine own_on (fun t_ k_ => XS.astore X781.here hx rfl (hb hby at_68) rfl rfl (l' := #[.val (.int xa), .val (.int xb), .val (.int xc), .val (.int xd), .val (.int ((xa &&& (3 : Int32)) % (3 : Int32))), .val (.int ((((xa.toUInt32 >>> ((2 : Int32) &&& 31).toUInt32).toInt32) &&& (3 : Int32)) % (3 : Int32))), .val (.int ((((xa.toUInt32 >>> ((4 : Int32) &&& 31).toUInt32).toInt32) &&& (3 : Int32)) % (3 : Int32))), .val (.ref r_755), .val (.ref r_757), .val (.ref r_760), .val (.ref r_765), .val (.ref r_772), .val (.ref r_781), .unset, .unset, .unset, .unset, .unset]) rfl k_) ?_
  show OwnGo p e below s _ _ _ (T781.setTop (mkF m 70 #[.val (.int xa), .val (.int xb), .val (.int xc), .val (.int xd), .val (.int ((xa &&& (3 : Int32)) % (3 : Int32))), .val (.int ((((xa.toUInt32 >>> ((2 : Int32) &&& 31).toUInt32).toInt32) &&& (3 : Int32)) % (3 : Int32))), .val (.int ((((xa.toUInt32 >>> ((4 : Int32) &&& 31).toUInt32).toInt32) &&& (3 : Int32)) % (3 : Int32))), .val (.ref r_755), .val (.ref r_757), .val (.ref r_760), .val (.ref r_765), .val (.ref r_772), .val (.ref r_781), .unset, .unset, .unset, .unset, .unset] []))
  have f792 : Exa Z T781.heap r_755 "java/lang/String" := f782.keep K781q
  have f793 : Exa Z T781.heap r_757 "java/lang/String" := f783.keep K781q
  have f794 : Exa Z T781.heap r_760 "java/lang/String" := f784.keep K781q
  have f795 : Exa Z T781.heap r_765 "java/lang/String" := f785.keep K781q
  have f796 : Exa Z T781.heap r_772 "java/lang/String" := c772_0.keep K781q
  exact J70 _ _ _ (X781.more (by decide) (by decide)) rfl N781 Z781 K781 ((xa &&& (3 : Int32)) % (3 : Int32)) ((((xa.toUInt32 >>> ((2 : Int32) &&& 31).toUInt32).toInt32) &&& (3 : Int32)) % (3 : Int32)) ((((xa.toUInt32 >>> ((4 : Int32) &&& 31).toUInt32).toInt32) &&& (3 : Int32)) % (3 : Int32)) r_755 r_757 r_760 r_765 r_772 r_781 c781_3 f792 f793 f794 f795 f796 c781_0 (own_r3 _) (own_r3 _) (own_r3 _)
set_option maxRecDepth 65536 in
set_option maxHeartbeats 40000000 in
theorem comes_1 {Post : Tables → Env → Array Value → State → Outcome → State → Prop} (hpost : ∀ tb e args s v u, (limb_1_1.after args s (.returned v) u = true ∧ limb_1_2.after args s (.returned v) u = true ∧ True) → FrameEnd s (.returned v) u (Jvm.fieldLocs frame_1_writes args s ++ Jvm.arrayLocs frame_1_arrays args s ++ Jvm.staticLocs frame_1_statics s) 72 320 → Post tb e args s (.returned v) u) :
    ArmFor flags0 classFile x code maxLocals ret World_1 tables_1 room_1 Calls_1 rest_1 Pre_1 Post := by
  intro l hfl _ _ p e ha hc hk s m args below hf hA hF happ hP
  obtain ⟨hcalls, hrest, hpre⟩ := hP
  obtain ⟨-, -, -, hnamed, -, -, -, hat⟩ := (Spec.applies_iff hf).mp happ
  obtain ⟨hg, hn⟩ := and_e (Cond.before_iff.mp (show (Jvm.Cond.and given_1 narrow_1).before args s = true from hpre))
  obtain ⟨gc, gr0⟩ := and_e hg
  obtain ⟨gi0, gr1⟩ := and_e gr0
  obtain ⟨gi1, gr2⟩ := and_e gr1
  obtain ⟨gi2, gr3⟩ := and_e gr2
  have gi3 := gr3
  obtain ⟨w_0, w_1, w_2, w_3, rfl⟩ : ∃ w_0 w_1 w_2 w_3 : Value, args = #[w_0, w_1, w_2, w_3] := by
    have hs : args.size = 4 := by simpa [Cond.value, given_1] using gc
    obtain ⟨L⟩ := args
    match L, hs with
    | [w_0, w_1, w_2, w_3], _ => exact ⟨w_0, w_1, w_2, w_3, rfl⟩
  have hw := fun d (hd : d ∈ tables_1) => atoms_spec (ws := Jvm.Cond.code x code maxLocals ret :: tables_1) hat d (List.mem_cons_of_mem _ hd)
  have hfit : Fit s := fun {y c} hc i hi => by
    obtain ⟨ha, rfl⟩ := Array.getElem?_eq_some_iff.mp hc
    have q := List.all_eq_true.mp ((Array.all_eq_true_iff_forall_mem.mp hF) _ (Array.getElem_mem ha)) i (List.mem_range.mpr hi)
    simpa [Array.getElem?_eq_getElem hi] using q
  obtain ⟨hsets, hown0⟩ := atoms_of _ (rest_1_c_eq ▸ (show rest_1_c.before _ s = true from hrest))
  obtain ⟨i0, ei0⟩ := is_v gi0
  obtain rfl : w_0 = (.int i0) := Option.some.inj ei0
  obtain ⟨i1, ei1⟩ := is_v gi1
  obtain rfl : w_1 = (.int i1) := Option.some.inj ei1
  obtain ⟨i2, ei2⟩ := is_v gi2
  obtain rfl : w_2 = (.int i2) := Option.some.inj ei2
  obtain ⟨i3, ei3⟩ := is_v gi3
  obtain rfl : w_3 = (.int i3) := Option.some.inj ei3
  obtain ⟨cs, ecs⟩ := is_v (Cond.before_iff.mp (hsets _ (List.mem_of_getElem? (i := 1) rfl)))
  obtain ⟨em, eem⟩ := arr_v (Cond.before_iff.mp (hsets _ (List.mem_of_getElem? (i := 12) rfl)))
  obtain ⟨dc, edc⟩ := arr_v (Cond.before_iff.mp (hsets _ (List.mem_of_getElem? (i := 15) rfl)))
  obtain ⟨⟨cA, kA, mr, mA1, mA2, mA3⟩, ⟨cL, kL, ml, mL1, mL2, mL3⟩, -⟩ := hcalls
  have AD := own_empty hfit edc (hsets _ (List.mem_of_getElem? (i := 15) rfl)) (hsets _ (List.mem_of_getElem? (i := 16) rfl)) (hsets _ (List.mem_of_getElem? (i := 17) rfl))
  have AE := own_empty hfit eem (hsets _ (List.mem_of_getElem? (i := 12) rfl)) (hsets _ (List.mem_of_getElem? (i := 13) rfl)) (hsets _ (List.mem_of_getElem? (i := 14) rfl))
  have SD := Sta.start edc (Or.inr ⟨(w36 hw), (hsets _ (List.mem_of_getElem? (i := 11) rfl))⟩)
  have SE := Sta.start eem (Or.inl (hsets _ (List.mem_of_getElem? (i := 10) rfl)))
  obtain ⟨n, o, h1, h2, h3, _, L, rfl, ⟨rfl, N, _⟩, hq⟩ := rm0 l s _ hw tables_1 i0 i1 i2 i3 cs dc em mr ml s.heap s.heap.size (Nat.le_refl _) (Old.start s) (Sta.start ecs (Or.inl (hsets _ (List.mem_of_getElem? (i := 0) rfl)))) (own_nz ecs (Cond.before_iff.mp (hsets _ (List.mem_of_getElem? (i := 2) rfl)))) SD AD SE AE ⟨cA, kA, mA1, mA2, mA3.1⟩ ⟨cL, kL, mL1, mL2, mL3.1⟩ p e ha hc hk s m _ below hf ((Spec.applies_iff_loose hf).mp happ).1 ⟨rfl, State.Warmed39.refl s, rfl⟩ trivial
  refine ⟨n, _, h1, h2, h3, hpost _ _ _ _ _ _ ⟨Cond.after_iff.mpr rfl, Cond.after_iff.mpr (eq_i res_at (Term.int_eval (1)) rfl), trivial⟩ ⟨hq.1, hq.2.1, (hq.2.2.sift fun y hy => Or.inr (N y hy)).mono (by decide) (by decide)⟩⟩
theorem main_1_1 : Claimed_1_1 := comes_1 fun _ _ _ _ _ _ h hF => ⟨h.1, hF⟩
theorem main_1_2 : Claimed_1_2 := comes_1 fun _ _ _ _ _ _ h hF => ⟨h.2.1, hF⟩
end Jvm.Pilot.@@N@@
namespace Jvm.Pilot.@@N@@
open Jvm Jvm.ClassFile Sem Op Lib Jvm.Free Jvm.Stand Jvm.Pilot.@@N@@.Jvm.D
/-! MADE BY PROGRAM (witnessworld.py) out of the Statement's table words and the real class files: 35 classes; the members and pool entries that the words name. The judged class is class 1, her method 2. -/
namespace start1
open Jvm.ClassFile
def u (s : String) : CpInfo := .utf8 (stringToUtf16 s)
/-- a pool by its gaps: so many unusable entries, then the entry; so many at the end -/
def gap : Nat → List CpInfo → List CpInfo
  | 0, r => r
  | n + 1, r => .unusable :: gap n r
def poolList (es : List (Nat × CpInfo)) (last : Nat) : List CpInfo := es.foldr (fun e r => gap e.1 (e.2 :: r)) (gap last [])
def pool (es : List (Nat × CpInfo)) (last : Nat) : Array CpInfo := ⟨poolList es last⟩
def fileOf (pool : Array CpInfo) (this : Nat) (attrs : Array Attribute := #[]) (ms : Array MethodInfo := #[]) (fl : Nat := 33) (sup : Nat := 0) (ifs : Array Nat := #[]) (fds : Array FieldInfo := #[]) : ClassFile where
  minorVersion := 0
  majorVersion := 65
  constantPool := pool
  accessFlags := fl
  thisClass := this
  superClass := sup
  interfaces := ifs
  fields := fds
  methods := ms
  attributes := attrs
def plain (name : String) (sup : Option ClassId) : Class where
  name := name
  kind := .ordinary
  loader := none
  accessFlags := 33
  super := sup
  interfaces := #[]
  cf := none
  fields := #[]
  methods := #[]
  instanceTypes := #[]
  staticTypes := #[]
  resolved := #[]
  callSites := []
  init := .initialized
  statics := none
  mirror := none

def pool0 : Array CpInfo := pool [(5, u "<init>"), (0, u "()V"), (1, .class_ 10), (1, u "java/lang/Object"), (0, u "getClass"), (0, u "()Ljava/lang/Class;")] 111

def k0c0 : Code := { maxStack := 0, maxLocals := 1, code := object_method_1_code, exceptionTable := #[], attributes := #[] }
def k0m0 : Method := { name := "<init>", desc := "()V", sig := { parameters := [], returnType := none }, accessFlags := 1, code := some k0c0 }
def k0m1 : Method := { name := "getClass", desc := "()Ljava/lang/Class;", sig := { parameters := [], returnType := some (.object "java/lang/Class") }, accessFlags := 273, code := none }
/-- java/lang/Object -/
def k0 : Class := { plain "java/lang/Object" none with
  accessFlags := 33
  interfaces := #[]
  cf := some (fileOf pool0 8 #[] #[{ accessFlags := 1, nameIndex := 5, descriptorIndex := 6, attributes := #[] }, { accessFlags := 273, nameIndex := 11, descriptorIndex := 12, attributes := #[] }] 33 0 #[] #[])
  fields := #[]
  methods := #[k0m0, k0m1]
  instanceTypes := #[]
  staticTypes := #[]
  resolved := Array.replicate 124 none
  statics := none }

def pool1 : Array CpInfo := pool [(2, .class_ 4), (0, .nameAndType 5 6), (0, u "java/lang/Object"), (0, u "<init>"), (0, u "()V"), (0, .class_ 8), (0, u "java/lang/String"), (0, .methodref 7 10), (0, .nameAndType 5 11), (0, u "([C)V"), (0, .methodref 13 14), (0, .class_ 15), (0, .nameAndType 16 17), (0, u "com/example/fachwissen/fachwissen/mail/MessageWordTextsPinLaw"), (0, u "str"), (0, u "(II)Ljava/lang/String;"), (0, .class_ 19), (0, u "java/util/ArrayList"), (0, .methodref 18 3), (0, .methodref 18 22), (0, .nameAndType 23 24), (0, u "add"), (0, u "(Ljava/lang/Object;)Z"), (0, .class_ 26), (0, u "com/example/fachwissen/fachwissen/mail/Message"), (0, .methodref 25 28), (0, .nameAndType 5 29), (0, u "(Ljava/util/List;Ljava/util/List;Ljava/util/List;)V"), (0, .methodref 25 31), (0, .nameAndType 32 33), (0, u "wordTexts"), (0, u "()Ljava/util/List;"), (0, .interfaceMethodref 35 36), (0, .class_ 37), (0, .nameAndType 38 39), (0, u "java/util/List"), (0, u "size"), (0, u "()I"), (0, .interfaceMethodref 35 41), (0, .nameAndType 42 43), (0, u "get"), (0, u "(I)Ljava/lang/Object;"), (0, .methodref 7 45), (0, .nameAndType 46 24), (0, u "equals"), (0, .methodref 18 36), (2, u "law"), (0, u "(IIII)Z")] 3

def k1m0 : Method := { name := "<init>", desc := "()V", sig := { parameters := [], returnType := none }, accessFlags := 1, code := none }
def k1c1 : Code := { maxStack := 5, maxLocals := 3, code := method_2_code, exceptionTable := #[], attributes := #[] }
def k1m1 : Method := { name := "str", desc := "(II)Ljava/lang/String;", sig := { parameters := [.int, .int], returnType := some (.object "java/lang/String") }, accessFlags := 10, code := some k1c1 }
def k1c2 : Code := { maxStack := 5, maxLocals := 18, code := code, exceptionTable := #[], attributes := #[] }
def k1m2 : Method := { name := "law", desc := "(IIII)Z", sig := { parameters := [.int, .int, .int, .int], returnType := some .boolean }, accessFlags := 9, code := some k1c2 }
/-- com/example/fachwissen/fachwissen/mail/MessageWordTextsPinLaw -/
def k1 : Class := { plain "com/example/fachwissen/fachwissen/mail/MessageWordTextsPinLaw" (some 0) with
  accessFlags := 49
  interfaces := #[]
  cf := some (fileOf pool1 13 #[] #[{ accessFlags := 1, nameIndex := 5, descriptorIndex := 6, attributes := #[] }, { accessFlags := 10, nameIndex := 16, descriptorIndex := 17, attributes := #[] }, { accessFlags := 9, nameIndex := 50, descriptorIndex := 51, attributes := #[] }] 49 2 #[] #[])
  fields := #[]
  methods := #[k1m0, k1m1, k1m2]
  instanceTypes := #[]
  staticTypes := #[]
  resolved := Array.replicate 55 none
  statics := none }

def pool2 : Array CpInfo := pool [(1, .class_ 2), (0, u "java/io/Serializable"), (0, .class_ 4), (0, u "java/lang/Object")] 2

/-- java/io/Serializable -/
def k2 : Class := { plain "java/io/Serializable" (some 0) with
  accessFlags := 1537
  interfaces := #[]
  cf := some (fileOf pool2 1 #[] #[] 1537 3 #[] #[])
  fields := #[]
  methods := #[]
  instanceTypes := #[]
  staticTypes := #[]
  resolved := Array.replicate 7 none
  statics := none }

def pool3 : Array CpInfo := pool [(1, .class_ 2), (0, u "java/lang/Comparable"), (0, .class_ 4), (0, u "java/lang/Object")] 7

/-- java/lang/Comparable -/
def k3 : Class := { plain "java/lang/Comparable" (some 0) with
  accessFlags := 1537
  interfaces := #[]
  cf := some (fileOf pool3 1 #[] #[] 1537 3 #[] #[])
  fields := #[]
  methods := #[]
  instanceTypes := #[]
  staticTypes := #[]
  resolved := Array.replicate 12 none
  statics := none }

def pool4 : Array CpInfo := pool [(2, .class_ 4), (1, u "java/lang/CharSequence"), (42, .class_ 48), (0, u "java/lang/CharSequence$1CodePointIterator"), (10, .class_ 60), (0, u "java/lang/CharSequence$1CharIterator"), (5, .class_ 67), (0, u "java/lang/Object")] 63

/-- java/lang/CharSequence -/
def k4 : Class := { plain "java/lang/CharSequence" (some 0) with
  accessFlags := 1537
  interfaces := #[]
  cf := some (fileOf pool4 2 #[.nestMembers #[47, 59]] #[] 1537 66 #[] #[])
  fields := #[]
  methods := #[]
  instanceTypes := #[]
  staticTypes := #[]
  resolved := Array.replicate 131 none
  statics := none }

def pool5 : Array CpInfo := pool [(1, .class_ 2), (0, u "java/lang/constant/Constable"), (0, .class_ 4), (0, u "java/lang/Object")] 6

/-- java/lang/constant/Constable -/
def k5 : Class := { plain "java/lang/constant/Constable" (some 0) with
  accessFlags := 1537
  interfaces := #[]
  cf := some (fileOf pool5 1 #[] #[] 1537 3 #[] #[])
  fields := #[]
  methods := #[]
  instanceTypes := #[]
  staticTypes := #[]
  resolved := Array.replicate 11 none
  statics := none }

def pool6 : Array CpInfo := pool [(1, .class_ 2), (0, u "java/lang/constant/ConstantDesc"), (0, .class_ 4), (0, u "java/lang/Object")] 32

/-- java/lang/constant/ConstantDesc -/
def k6 : Class := { plain "java/lang/constant/ConstantDesc" (some 0) with
  accessFlags := 1537
  interfaces := #[]
  cf := some (fileOf pool6 1 #[] #[] 1537 3 #[] #[])
  fields := #[]
  methods := #[]
  instanceTypes := #[]
  staticTypes := #[]
  resolved := Array.replicate 37 none
  statics := none }

def pool7 : Array CpInfo := pool [(1, .methodref 2 3), (0, .class_ 4), (0, .nameAndType 5 6), (0, u "java/lang/Object"), (0, u "<init>"), (0, u "()V"), (2, .fieldref 10 11), (0, .class_ 12), (0, .nameAndType 13 14), (0, u "java/lang/String"), (0, u "value"), (0, u "[B"), (0, .fieldref 10 16), (0, .nameAndType 17 18), (0, u "coder"), (0, u "B"), (2, u "hash"), (0, u "I"), (2, u "hashIsZero"), (0, u "Z"), (0, .methodref 10 28), (0, .nameAndType 5 29), (0, u "([CIILjava/lang/Void;)V"), (8, .fieldref 10 39), (0, .nameAndType 40 26), (0, u "COMPACT_STRINGS"), (1, .class_ 44), (1, u "java/lang/StringUTF16"), (0, u "compress"), (1, .methodref 42 48), (0, .nameAndType 49 50), (0, u "coderFromArrayLen"), (0, u "([BI)B"), (126, .methodref 42 178), (0, .nameAndType 45 179), (0, u "([CII)[B"), (363, u "equals"), (29, u "(Ljava/lang/Object;)Z"), (1, .class_ 576), (0, u "java/lang/CharSequence"), (22, u "CASE_INSENSITIVE_ORDER"), (0, u "Ljava/util/Comparator;"), (409, u "([C)V"), (90, u "serialPersistentFields"), (0, u "[Ljava/io/ObjectStreamField;"), (0, .class_ 1104), (0, u "java/lang/String$CaseInsensitiveComparator"), (1, .class_ 1107), (0, u "java/io/Serializable"), (0, .class_ 1109), (0, u "java/lang/Comparable"), (0, .class_ 1111), (0, u "java/lang/constant/Constable"), (0, .class_ 1113), (0, u "java/lang/constant/ConstantDesc"), (2, u "serialVersionUID"), (0, u "J"), (3, u "REPL"), (0, u "C"), (2, u "LATIN1"), (1, u "UTF16")] 323

def k7m0 : Method := { name := "<init>", desc := "()V", sig := { parameters := [], returnType := none }, accessFlags := 1, code := none }
def k7c1 : Code := { maxStack := 5, maxLocals := 2, code := jdk_42_method_3_code, exceptionTable := #[], attributes := #[] }
def k7m1 : Method := { name := "<init>", desc := "([C)V", sig := { parameters := [(.array .char)], returnType := none }, accessFlags := 1, code := some k7c1 }
def k7c2 : Code := { maxStack := 2, maxLocals := 3, code := jdk_42_method_66_code, exceptionTable := #[], attributes := #[] }
def k7m2 : Method := { name := "equals", desc := "(Ljava/lang/Object;)Z", sig := { parameters := [(.object "java/lang/Object")], returnType := some .boolean }, accessFlags := 1, code := some k7c2 }
def k7c3 : Code := { maxStack := 4, maxLocals := 6, code := jdk_42_method_149_code, exceptionTable := #[], attributes := #[] }
def k7m3 : Method := { name := "<init>", desc := "([CIILjava/lang/Void;)V", sig := { parameters := [(.array .char), .int, .int, (.object "java/lang/Void")], returnType := none }, accessFlags := 2, code := some k7c3 }
/-- java/lang/String -/
def k7 : Class := { plain "java/lang/String" (some 0) with
  accessFlags := 49
  interfaces := #[2, 3, 4, 5, 6]
  cf := some (fileOf pool7 10 #[.nestMembers #[1103]] #[{ accessFlags := 1, nameIndex := 5, descriptorIndex := 6, attributes := #[] }, { accessFlags := 1, nameIndex := 5, descriptorIndex := 1010, attributes := #[] }, { accessFlags := 1, nameIndex := 543, descriptorIndex := 573, attributes := #[] }, { accessFlags := 2, nameIndex := 5, descriptorIndex := 29, attributes := #[] }] 49 2 #[1106, 1108, 575, 1110, 1112] #[{ accessFlags := 18, nameIndex := 13, descriptorIndex := 14, attributes := #[] }, { accessFlags := 18, nameIndex := 17, descriptorIndex := 18, attributes := #[] }, { accessFlags := 2, nameIndex := 21, descriptorIndex := 22, attributes := #[] }, { accessFlags := 2, nameIndex := 25, descriptorIndex := 26, attributes := #[] }, { accessFlags := 26, nameIndex := 1116, descriptorIndex := 1117, attributes := #[] }, { accessFlags := 24, nameIndex := 40, descriptorIndex := 26, attributes := #[] }, { accessFlags := 26, nameIndex := 1101, descriptorIndex := 1102, attributes := #[] }, { accessFlags := 26, nameIndex := 1121, descriptorIndex := 1122, attributes := #[] }, { accessFlags := 25, nameIndex := 599, descriptorIndex := 600, attributes := #[] }, { accessFlags := 24, nameIndex := 1125, descriptorIndex := 18, attributes := #[] }, { accessFlags := 24, nameIndex := 1127, descriptorIndex := 18, attributes := #[] }])
  fields := #[{ name := "value", type := (.array .byte), accessFlags := 18, slot := 0, constantValue := 0 }, { name := "coder", type := .byte, accessFlags := 18, slot := 1, constantValue := 0 }, { name := "hash", type := .int, accessFlags := 2, slot := 2, constantValue := 0 }, { name := "hashIsZero", type := .boolean, accessFlags := 2, slot := 3, constantValue := 0 }, { name := "serialVersionUID", type := .long, accessFlags := 26, slot := 0, constantValue := 0 }, { name := "COMPACT_STRINGS", type := .boolean, accessFlags := 24, slot := 1, constantValue := 0 }, { name := "serialPersistentFields", type := (.array (.object "java/io/ObjectStreamField")), accessFlags := 26, slot := 2, constantValue := 0 }, { name := "REPL", type := .char, accessFlags := 26, slot := 3, constantValue := 0 }, { name := "CASE_INSENSITIVE_ORDER", type := (.object "java/util/Comparator"), accessFlags := 25, slot := 4, constantValue := 0 }, { name := "LATIN1", type := .byte, accessFlags := 24, slot := 5, constantValue := 0 }, { name := "UTF16", type := .byte, accessFlags := 24, slot := 6, constantValue := 0 }]
  methods := #[k7m0, k7m1, k7m2, k7m3]
  instanceTypes := #[(.array .byte), .byte, .int, .boolean]
  staticTypes := #[.long, .boolean, (.array (.object "java/io/ObjectStreamField")), .char, (.object "java/util/Comparator"), .byte, .byte]
  resolved := Array.replicate 1451 none
  statics := some 0 }

def pool8 : Array CpInfo := pool [(6, .class_ 8), (1, u "java/lang/Object"), (0, u "<init>"), (0, u "()V"), (1, .class_ 14), (1, u "java/lang/StringUTF16"), (31, u "$assertionsDisabled"), (0, u "Z"), (13, u "HI_BYTE_SHIFT"), (0, u "I"), (2, u "LO_BYTE_SHIFT"), (49, .methodref 12 116), (0, .nameAndType 117 118), (0, u "compress"), (0, u "([CI[BII)I"), (3, u "([CII)[B"), (138, u "coderFromArrayLen"), (0, u "([BI)B"), (106, .class_ 371), (1, u "java/lang/StringUTF16$LinesSpliterator"), (58, u "MAX_LENGTH"), (196, .class_ 628), (0, u "java/lang/StringUTF16$CodePointsSpliterator"), (0, .class_ 630), (0, u "java/lang/StringUTF16$CharsSpliterator")] 4

def k8m0 : Method := { name := "<init>", desc := "()V", sig := { parameters := [], returnType := none }, accessFlags := 0, code := none }
def k8c1 : Code := { maxStack := 2, maxLocals := 2, code := jdk_52_method_15_code, exceptionTable := #[], attributes := #[] }
def k8m1 : Method := { name := "coderFromArrayLen", desc := "([BI)B", sig := { parameters := [(.array .byte), .int], returnType := some .byte }, accessFlags := 8, code := some k8c1 }
def k8c2 : Code := { maxStack := 5, maxLocals := 6, code := jdk_52_method_16_code, exceptionTable := #[], attributes := #[] }
def k8m2 : Method := { name := "compress", desc := "([CII)[B", sig := { parameters := [(.array .char), .int, .int], returnType := some (.array .byte) }, accessFlags := 9, code := some k8c2 }
def k8c3 : Code := { maxStack := 3, maxLocals := 7, code := jdk_52_method_21_code, exceptionTable := #[], attributes := #[] }
def k8m3 : Method := { name := "compress", desc := "([CI[BII)I", sig := { parameters := [(.array .char), .int, (.array .byte), .int, .int], returnType := some .int }, accessFlags := 9, code := some k8c3 }
/-- java/lang/StringUTF16 -/
def k8 : Class := { plain "java/lang/StringUTF16" (some 0) with
  accessFlags := 48
  interfaces := #[]
  cf := some (fileOf pool8 12 #[.nestMembers #[627, 629, 369]] #[{ accessFlags := 0, nameIndex := 9, descriptorIndex := 10, attributes := #[] }, { accessFlags := 8, nameIndex := 261, descriptorIndex := 262, attributes := #[] }, { accessFlags := 9, nameIndex := 117, descriptorIndex := 122, attributes := #[] }, { accessFlags := 9, nameIndex := 117, descriptorIndex := 118, attributes := #[] }] 48 6 #[] #[{ accessFlags := 26, nameIndex := 61, descriptorIndex := 62, attributes := #[] }, { accessFlags := 26, nameIndex := 65, descriptorIndex := 62, attributes := #[] }, { accessFlags := 24, nameIndex := 430, descriptorIndex := 62, attributes := #[] }, { accessFlags := 4120, nameIndex := 46, descriptorIndex := 47, attributes := #[] }])
  fields := #[{ name := "HI_BYTE_SHIFT", type := .int, accessFlags := 26, slot := 0, constantValue := 0 }, { name := "LO_BYTE_SHIFT", type := .int, accessFlags := 26, slot := 1, constantValue := 0 }, { name := "MAX_LENGTH", type := .int, accessFlags := 24, slot := 2, constantValue := 0 }, { name := "$assertionsDisabled", type := .boolean, accessFlags := 4120, slot := 3, constantValue := 0 }]
  methods := #[k8m0, k8m1, k8m2, k8m3]
  instanceTypes := #[]
  staticTypes := #[.int, .int, .int, .boolean]
  resolved := Array.replicate 635 none
  statics := none }

def pool9 : Array CpInfo := pool [(8, .class_ 10), (1, u "java/lang/Iterable"), (24, .class_ 36), (0, u "java/lang/Object")] 25

/-- java/lang/Iterable -/
def k9 : Class := { plain "java/lang/Iterable" (some 0) with
  accessFlags := 1537
  interfaces := #[]
  cf := some (fileOf pool9 8 #[] #[] 1537 35 #[] #[])
  fields := #[]
  methods := #[]
  instanceTypes := #[]
  staticTypes := #[]
  resolved := Array.replicate 62 none
  statics := none }

def pool10 : Array CpInfo := pool [(10, .class_ 12), (1, u "java/util/Collection"), (0, u "toArray"), (46, .class_ 61), (0, u "java/lang/Object"), (0, .class_ 63), (0, u "java/lang/Iterable"), (6, u "()[Ljava/lang/Object;")] 44

def k10m0 : Method := { name := "toArray", desc := "()[Ljava/lang/Object;", sig := { parameters := [], returnType := some (.array (.object "java/lang/Object")) }, accessFlags := 1025, code := none }
/-- java/util/Collection -/
def k10 : Class := { plain "java/util/Collection" (some 0) with
  accessFlags := 1537
  interfaces := #[9]
  cf := some (fileOf pool10 10 #[] #[{ accessFlags := 1025, nameIndex := 13, descriptorIndex := 70, attributes := #[] }] 1537 60 #[62] #[])
  fields := #[]
  methods := #[k10m0]
  instanceTypes := #[]
  staticTypes := #[]
  resolved := Array.replicate 115 none
  statics := none }

def pool11 : Array CpInfo := pool [(1, .methodref 2 3), (0, .class_ 4), (0, .nameAndType 5 6), (0, u "java/lang/Object"), (0, u "<init>"), (0, u "()V"), (1, .class_ 10), (1, u "java/util/AbstractCollection"), (66, .class_ 78), (0, u "java/util/Collection")] 81

def k11c0 : Code := { maxStack := 1, maxLocals := 1, code := jdk_22_method_1_code, exceptionTable := #[], attributes := #[] }
def k11m0 : Method := { name := "<init>", desc := "()V", sig := { parameters := [], returnType := none }, accessFlags := 4, code := some k11c0 }
/-- java/util/AbstractCollection -/
def k11 : Class := { plain "java/util/AbstractCollection" (some 0) with
  accessFlags := 1057
  interfaces := #[10]
  cf := some (fileOf pool11 8 #[] #[{ accessFlags := 4, nameIndex := 5, descriptorIndex := 6, attributes := #[] }] 1057 2 #[77] #[])
  fields := #[]
  methods := #[k11m0]
  instanceTypes := #[]
  staticTypes := #[]
  resolved := Array.replicate 160 none
  statics := none }

def pool12 : Array CpInfo := pool [(8, .class_ 10), (1, u "java/util/SequencedCollection"), (15, .class_ 27), (0, u "java/lang/Object"), (0, .class_ 29), (0, u "java/util/Collection")] 27

/-- java/util/SequencedCollection -/
def k12 : Class := { plain "java/util/SequencedCollection" (some 0) with
  accessFlags := 1537
  interfaces := #[10]
  cf := some (fileOf pool12 8 #[] #[] 1537 26 #[28] #[])
  fields := #[]
  methods := #[]
  instanceTypes := #[]
  staticTypes := #[]
  resolved := Array.replicate 57 none
  statics := none }

def pool13 : Array CpInfo := pool [(8, .class_ 10), (1, u "java/util/List"), (64, u "get"), (0, u "(I)Ljava/lang/Object;"), (2, u "size"), (0, u "()I"), (22, .class_ 104), (0, u "java/lang/Object"), (15, .class_ 121), (0, u "java/util/SequencedCollection")] 129

def k13m0 : Method := { name := "size", desc := "()I", sig := { parameters := [], returnType := some .int }, accessFlags := 1025, code := none }
def k13m1 : Method := { name := "get", desc := "(I)Ljava/lang/Object;", sig := { parameters := [.int], returnType := some (.object "java/lang/Object") }, accessFlags := 1025, code := none }
/-- java/util/List -/
def k13 : Class := { plain "java/util/List" (some 0) with
  accessFlags := 1537
  interfaces := #[12]
  cf := some (fileOf pool13 8 #[] #[{ accessFlags := 1025, nameIndex := 79, descriptorIndex := 80, attributes := #[] }, { accessFlags := 1025, nameIndex := 75, descriptorIndex := 76, attributes := #[] }] 1537 103 #[120] #[])
  fields := #[]
  methods := #[k13m0, k13m1]
  instanceTypes := #[]
  staticTypes := #[]
  resolved := Array.replicate 251 none
  statics := none }

def pool14 : Array CpInfo := pool [(1, .methodref 2 3), (0, .class_ 4), (0, .nameAndType 5 6), (0, u "java/util/AbstractCollection"), (0, u "<init>"), (0, u "()V"), (0, .fieldref 8 9), (0, .class_ 10), (0, .nameAndType 11 12), (0, u "java/util/AbstractList"), (0, u "modCount"), (0, u "I"), (64, .class_ 78), (0, u "java/util/AbstractList$Itr"), (3, .class_ 83), (0, u "java/util/AbstractList$ListItr"), (9, .class_ 94), (0, u "java/util/AbstractList$RandomAccessSubList"), (3, .class_ 99), (0, u "java/util/AbstractList$SubList"), (33, .class_ 134), (0, u "java/util/List"), (73, .class_ 209), (0, u "java/util/AbstractList$SubList$1"), (0, .class_ 211), (0, u "java/util/AbstractList$RandomAccessSpliterator")] 6

def k14c0 : Code := { maxStack := 2, maxLocals := 1, code := jdk_39_method_1_code, exceptionTable := #[], attributes := #[] }
def k14m0 : Method := { name := "<init>", desc := "()V", sig := { parameters := [], returnType := none }, accessFlags := 4, code := some k14c0 }
/-- java/util/AbstractList -/
def k14 : Class := { plain "java/util/AbstractList" (some 11) with
  accessFlags := 1057
  interfaces := #[13]
  cf := some (fileOf pool14 8 #[.nestMembers #[93, 98, 208, 210, 82, 77]] #[{ accessFlags := 4, nameIndex := 5, descriptorIndex := 6, attributes := #[] }] 1057 2 #[133] #[{ accessFlags := 132, nameIndex := 11, descriptorIndex := 12, attributes := #[] }])
  fields := #[{ name := "modCount", type := .int, accessFlags := 132, slot := 0, constantValue := 0 }]
  methods := #[k14m0]
  instanceTypes := #[.int]
  staticTypes := #[]
  resolved := Array.replicate 218 none
  statics := none }

def pool15 : Array CpInfo := pool [(1, .class_ 2), (0, u "java/util/RandomAccess"), (0, .class_ 4), (0, u "java/lang/Object")] 2

/-- java/util/RandomAccess -/
def k15 : Class := { plain "java/util/RandomAccess" (some 0) with
  accessFlags := 1537
  interfaces := #[]
  cf := some (fileOf pool15 1 #[] #[] 1537 3 #[] #[])
  fields := #[]
  methods := #[]
  instanceTypes := #[]
  staticTypes := #[]
  resolved := Array.replicate 7 none
  statics := none }

def pool16 : Array CpInfo := pool [(1, .class_ 2), (0, u "java/lang/Cloneable"), (0, .class_ 4), (0, u "java/lang/Object")] 2

/-- java/lang/Cloneable -/
def k16 : Class := { plain "java/lang/Cloneable" (some 0) with
  accessFlags := 1537
  interfaces := #[]
  cf := some (fileOf pool16 1 #[] #[] 1537 3 #[] #[])
  fields := #[]
  methods := #[]
  instanceTypes := #[]
  staticTypes := #[]
  resolved := Array.replicate 7 none
  statics := none }

def pool17 : Array CpInfo := pool [(1, .methodref 2 3), (0, .class_ 4), (0, .nameAndType 5 6), (0, u "java/util/AbstractList"), (0, u "<init>"), (0, u "()V"), (0, .class_ 8), (0, u "java/lang/Object"), (0, .fieldref 10 11), (0, .class_ 12), (0, .nameAndType 13 14), (0, u "java/util/ArrayList"), (0, u "elementData"), (0, u "[Ljava/lang/Object;"), (0, .fieldref 10 16), (0, .nameAndType 17 14), (0, u "EMPTY_ELEMENTDATA"), (21, .fieldref 10 40), (0, .nameAndType 41 14), (0, u "DEFAULTCAPACITY_EMPTY_ELEMENTDATA"), (0, .interfaceMethodref 43 44), (0, .class_ 45), (0, .nameAndType 46 47), (0, u "java/util/Collection"), (0, u "toArray"), (0, u "()[Ljava/lang/Object;"), (0, .fieldref 10 49), (0, .nameAndType 50 51), (0, u "size"), (0, u "I"), (0, .interfaceMethodref 43 53), (0, .nameAndType 54 55), (0, u "getClass"), (0, u "()Ljava/lang/Class;"), (2, .class_ 60), (1, u "java/util/Arrays"), (0, u "copyOf"), (1, .fieldref 10 64), (0, .nameAndType 65 51), (0, u "modCount"), (0, .methodref 58 67), (0, .nameAndType 61 68), (0, u "([Ljava/lang/Object;I)[Ljava/lang/Object;"), (0, .methodref 10 70), (0, .nameAndType 71 72), (0, u "grow"), (0, u "(I)[Ljava/lang/Object;"), (0, .methodref 74 75), (0, .class_ 76), (0, .nameAndType 77 78), (0, u "jdk/internal/util/ArraysSupport"), (0, u "newLength"), (0, u "(III)I"), (0, .methodref 80 81), (0, .class_ 82), (0, .nameAndType 83 84), (0, u "java/lang/Math"), (0, u "max"), (0, u "(II)I"), (11, u "(Ljava/lang/Object;)Z"), (15, .methodref 113 114), (0, .class_ 115), (0, .nameAndType 116 117), (0, u "java/lang/System"), (0, u "arraycopy"), (0, u "(Ljava/lang/Object;ILjava/lang/Object;II)V"), (0, .methodref 119 120), (0, .class_ 121), (0, .nameAndType 122 84), (0, u "java/util/Objects"), (0, u "checkIndex"), (0, .methodref 10 124), (0, .nameAndType 13 125), (0, u "(I)Ljava/lang/Object;"), (3, .methodref 10 130), (0, .nameAndType 71 47), (0, .methodref 10 132), (0, .nameAndType 133 134), (0, u "add"), (0, u "(Ljava/lang/Object;[Ljava/lang/Object;I)V"), (13, .class_ 149), (0, u "java/util/List"), (36, u "()I"), (75, .class_ 263), (0, u "java/util/ArrayList$ListItr"), (3, .class_ 268), (0, u "java/util/ArrayList$Itr"), (7, .class_ 277), (0, u "java/util/ArrayList$SubList"), (12, .class_ 291), (0, u "java/util/ArrayList$ArrayListSpliterator"), (37, .class_ 330), (0, u "java/util/RandomAccess"), (0, .class_ 332), (0, u "java/lang/Cloneable"), (0, .class_ 334), (0, u "java/io/Serializable"), (0, u "serialVersionUID"), (0, u "J"), (3, u "DEFAULT_CAPACITY"), (10, u "(Ljava/util/Collection;)V"), (29, u "get"), (38, u "addAll"), (0, u "(Ljava/util/Collection;)Z"), (78, .class_ 501), (0, u "java/util/ArrayList$SubList$2"), (0, .class_ 503), (0, u "java/util/ArrayList$SubList$1")] 5

def k17c0 : Code := { maxStack := 2, maxLocals := 1, code := jdk_38_method_2_code, exceptionTable := #[], attributes := #[] }
def k17m0 : Method := { name := "<init>", desc := "()V", sig := { parameters := [], returnType := none }, accessFlags := 1, code := some k17c0 }
def k17c1 : Code := { maxStack := 4, maxLocals := 3, code := jdk_38_method_3_code, exceptionTable := #[], attributes := #[] }
def k17m1 : Method := { name := "<init>", desc := "(Ljava/util/Collection;)V", sig := { parameters := [(.object "java/util/Collection")], returnType := none }, accessFlags := 1, code := some k17c1 }
def k17c2 : Code := { maxStack := 4, maxLocals := 4, code := jdk_38_method_6_code, exceptionTable := #[], attributes := #[] }
def k17m2 : Method := { name := "grow", desc := "(I)[Ljava/lang/Object;", sig := { parameters := [.int], returnType := some (.array (.object "java/lang/Object")) }, accessFlags := 2, code := some k17c2 }
def k17c3 : Code := { maxStack := 3, maxLocals := 1, code := jdk_38_method_7_code, exceptionTable := #[], attributes := #[] }
def k17m3 : Method := { name := "grow", desc := "()[Ljava/lang/Object;", sig := { parameters := [], returnType := some (.array (.object "java/lang/Object")) }, accessFlags := 2, code := some k17c3 }
def k17c4 : Code := { maxStack := 1, maxLocals := 1, code := jdk_38_method_8_code, exceptionTable := #[], attributes := #[] }
def k17m4 : Method := { name := "size", desc := "()I", sig := { parameters := [], returnType := some .int }, accessFlags := 1, code := some k17c4 }
def k17c5 : Code := { maxStack := 2, maxLocals := 1, code := jdk_38_method_16_code, exceptionTable := #[], attributes := #[] }
def k17m5 : Method := { name := "toArray", desc := "()[Ljava/lang/Object;", sig := { parameters := [], returnType := some (.array (.object "java/lang/Object")) }, accessFlags := 1, code := some k17c5 }
def k17c6 : Code := { maxStack := 2, maxLocals := 2, code := jdk_38_method_18_code, exceptionTable := #[], attributes := #[] }
def k17m6 : Method := { name := "elementData", desc := "(I)Ljava/lang/Object;", sig := { parameters := [.int], returnType := some (.object "java/lang/Object") }, accessFlags := 0, code := some k17c6 }
def k17c7 : Code := { maxStack := 2, maxLocals := 2, code := jdk_38_method_20_code, exceptionTable := #[], attributes := #[] }
def k17m7 : Method := { name := "get", desc := "(I)Ljava/lang/Object;", sig := { parameters := [.int], returnType := some (.object "java/lang/Object") }, accessFlags := 1, code := some k17c7 }
def k17c8 : Code := { maxStack := 3, maxLocals := 4, code := jdk_38_method_24_code, exceptionTable := #[], attributes := #[] }
def k17m8 : Method := { name := "add", desc := "(Ljava/lang/Object;[Ljava/lang/Object;I)V", sig := { parameters := [(.object "java/lang/Object"), (.array (.object "java/lang/Object")), .int], returnType := none }, accessFlags := 2, code := some k17c8 }
def k17c9 : Code := { maxStack := 4, maxLocals := 2, code := jdk_38_method_25_code, exceptionTable := #[], attributes := #[] }
def k17m9 : Method := { name := "add", desc := "(Ljava/lang/Object;)Z", sig := { parameters := [(.object "java/lang/Object")], returnType := some .boolean }, accessFlags := 1, code := some k17c9 }
def k17c10 : Code := { maxStack := 5, maxLocals := 6, code := jdk_38_method_41_code, exceptionTable := #[], attributes := #[] }
def k17m10 : Method := { name := "addAll", desc := "(Ljava/util/Collection;)Z", sig := { parameters := [(.object "java/util/Collection")], returnType := some .boolean }, accessFlags := 1, code := some k17c10 }
/-- java/util/ArrayList -/
def k17 : Class := { plain "java/util/ArrayList" (some 14) with
  accessFlags := 33
  interfaces := #[13, 15, 16, 2]
  cf := some (fileOf pool17 10 #[.nestMembers #[290, 276, 500, 502, 262, 267]] #[{ accessFlags := 1, nameIndex := 5, descriptorIndex := 6, attributes := #[] }, { accessFlags := 1, nameIndex := 5, descriptorIndex := 351, attributes := #[] }, { accessFlags := 2, nameIndex := 71, descriptorIndex := 72, attributes := #[] }, { accessFlags := 2, nameIndex := 71, descriptorIndex := 47, attributes := #[] }, { accessFlags := 1, nameIndex := 50, descriptorIndex := 186, attributes := #[] }, { accessFlags := 1, nameIndex := 46, descriptorIndex := 47, attributes := #[] }, { accessFlags := 0, nameIndex := 13, descriptorIndex := 125, attributes := #[] }, { accessFlags := 1, nameIndex := 381, descriptorIndex := 125, attributes := #[] }, { accessFlags := 2, nameIndex := 133, descriptorIndex := 134, attributes := #[] }, { accessFlags := 1, nameIndex := 133, descriptorIndex := 96, attributes := #[] }, { accessFlags := 1, nameIndex := 420, descriptorIndex := 421, attributes := #[] }] 33 2 #[148, 329, 331, 333] #[{ accessFlags := 26, nameIndex := 335, descriptorIndex := 336, attributes := #[] }, { accessFlags := 26, nameIndex := 340, descriptorIndex := 51, attributes := #[] }, { accessFlags := 26, nameIndex := 17, descriptorIndex := 14, attributes := #[] }, { accessFlags := 26, nameIndex := 41, descriptorIndex := 14, attributes := #[] }, { accessFlags := 128, nameIndex := 13, descriptorIndex := 14, attributes := #[] }, { accessFlags := 2, nameIndex := 50, descriptorIndex := 51, attributes := #[] }])
  fields := #[{ name := "serialVersionUID", type := .long, accessFlags := 26, slot := 0, constantValue := 0 }, { name := "DEFAULT_CAPACITY", type := .int, accessFlags := 26, slot := 1, constantValue := 0 }, { name := "EMPTY_ELEMENTDATA", type := (.array (.object "java/lang/Object")), accessFlags := 26, slot := 2, constantValue := 0 }, { name := "DEFAULTCAPACITY_EMPTY_ELEMENTDATA", type := (.array (.object "java/lang/Object")), accessFlags := 26, slot := 3, constantValue := 0 }, { name := "elementData", type := (.array (.object "java/lang/Object")), accessFlags := 128, slot := 1, constantValue := 0 }, { name := "size", type := .int, accessFlags := 2, slot := 2, constantValue := 0 }]
  methods := #[k17m0, k17m1, k17m2, k17m3, k17m4, k17m5, k17m6, k17m7, k17m8, k17m9, k17m10]
  instanceTypes := #[.int, (.array (.object "java/lang/Object")), .int]
  staticTypes := #[.long, .int, (.array (.object "java/lang/Object")), (.array (.object "java/lang/Object"))]
  resolved := Array.replicate 509 none
  mirror := some 4
  statics := some 1 }

def pool18 : Array CpInfo := pool [(1, .methodref 2 3), (0, .class_ 4), (0, .nameAndType 5 6), (0, u "java/lang/Object"), (0, u "<init>"), (0, u "()V"), (0, .class_ 8), (0, u "java/lang/Record")] 13

def k18c0 : Code := { maxStack := 1, maxLocals := 1, code := jdk_30_method_1_code, exceptionTable := #[], attributes := #[] }
def k18m0 : Method := { name := "<init>", desc := "()V", sig := { parameters := [], returnType := none }, accessFlags := 4, code := some k18c0 }
/-- java/lang/Record -/
def k18 : Class := { plain "java/lang/Record" (some 0) with
  accessFlags := 1057
  interfaces := #[]
  cf := some (fileOf pool18 7 #[] #[{ accessFlags := 4, nameIndex := 5, descriptorIndex := 6, attributes := #[] }] 1057 2 #[] #[])
  fields := #[]
  methods := #[k18m0]
  instanceTypes := #[]
  staticTypes := #[]
  resolved := Array.replicate 22 none
  statics := none }

def pool19 : Array CpInfo := pool [(1, .methodref 2 3), (0, .class_ 4), (0, .nameAndType 5 6), (0, u "java/lang/Record"), (0, u "<init>"), (0, u "()V"), (0, .fieldref 8 9), (0, .class_ 10), (0, .nameAndType 11 12), (0, u "com/example/fachwissen/fachwissen/mail/Message"), (0, u "subjects"), (0, u "Ljava/util/List;"), (0, .fieldref 8 14), (0, .nameAndType 15 12), (0, u "addressHeaders"), (0, .fieldref 8 17), (0, .nameAndType 18 12), (0, u "textParts"), (0, .class_ 20), (0, u "java/util/ArrayList"), (0, .methodref 19 22), (0, .nameAndType 5 23), (0, u "(Ljava/util/Collection;)V"), (0, .methodref 19 25), (0, .nameAndType 26 27), (0, u "addAll"), (0, u "(Ljava/util/Collection;)Z"), (14, u "(Ljava/util/List;Ljava/util/List;Ljava/util/List;)V"), (5, u "()Ljava/util/List;"), (1, u "wordTexts")] 25

def k19c0 : Code := { maxStack := 2, maxLocals := 4, code := prog_12_method_1_code, exceptionTable := #[], attributes := #[] }
def k19m0 : Method := { name := "<init>", desc := "(Ljava/util/List;Ljava/util/List;Ljava/util/List;)V", sig := { parameters := [(.object "java/util/List"), (.object "java/util/List"), (.object "java/util/List")], returnType := none }, accessFlags := 1, code := some k19c0 }
def k19c1 : Code := { maxStack := 3, maxLocals := 2, code := prog_12_method_3_code, exceptionTable := #[], attributes := #[] }
def k19m1 : Method := { name := "wordTexts", desc := "()Ljava/util/List;", sig := { parameters := [], returnType := some (.object "java/util/List") }, accessFlags := 1, code := some k19c1 }
/-- com/example/fachwissen/fachwissen/mail/Message -/
def k19 : Class := { plain "com/example/fachwissen/fachwissen/mail/Message" (some 18) with
  accessFlags := 49
  interfaces := #[]
  cf := some (fileOf pool19 8 #[] #[{ accessFlags := 1, nameIndex := 5, descriptorIndex := 42, attributes := #[] }, { accessFlags := 1, nameIndex := 50, descriptorIndex := 48, attributes := #[] }] 49 2 #[] #[{ accessFlags := 18, nameIndex := 11, descriptorIndex := 12, attributes := #[] }, { accessFlags := 18, nameIndex := 15, descriptorIndex := 12, attributes := #[] }, { accessFlags := 18, nameIndex := 18, descriptorIndex := 12, attributes := #[] }])
  fields := #[{ name := "subjects", type := (.object "java/util/List"), accessFlags := 18, slot := 0, constantValue := 0 }, { name := "addressHeaders", type := (.object "java/util/List"), accessFlags := 18, slot := 1, constantValue := 0 }, { name := "textParts", type := (.object "java/util/List"), accessFlags := 18, slot := 2, constantValue := 0 }]
  methods := #[k19m0, k19m1]
  instanceTypes := #[(.object "java/util/List"), (.object "java/util/List"), (.object "java/util/List")]
  staticTypes := #[]
  resolved := Array.replicate 76 none
  statics := none }

def pool20 : Array CpInfo := pool [(2, .class_ 4), (1, u "java/lang/Object"), (0, u "<init>"), (0, u "()V"), (7, .class_ 16), (1, u "java/util/Arrays"), (57, .class_ 76), (1, u "java/util/Arrays$NaturalOrder"), (9, .methodref 2 87), (0, .nameAndType 88 89), (0, u "getClass"), (0, u "()Ljava/lang/Class;"), (20, .class_ 111), (0, u "[Ljava/lang/Object;"), (1, .class_ 115), (1, u "java/util/Arrays$LegacyMergeSort"), (1, u "Z"), (32, .methodref 151 152), (0, .class_ 153), (0, .nameAndType 154 155), (0, u "java/lang/System"), (0, u "arraycopy"), (0, u "(Ljava/lang/Object;ILjava/lang/Object;II)V"), (144, .methodref 14 301), (0, .nameAndType 302 303), (0, u "copyOf"), (0, u "([Ljava/lang/Object;ILjava/lang/Class;)[Ljava/lang/Object;"), (0, .methodref 305 306), (0, .class_ 307), (0, .nameAndType 308 309), (0, u "java/lang/Math"), (0, u "min"), (0, u "(II)I"), (65, .class_ 376), (0, u "java/util/Arrays$ArrayList"), (68, u "$assertionsDisabled"), (269, u "MIN_ARRAY_SORT_GRAN"), (0, u "I"), (2, u "INSERTIONSORT_THRESHOLD"), (140, u "([Ljava/lang/Object;I)[Ljava/lang/Object;"), (114, .class_ 976), (0, u "java/util/Arrays$ArrayItr")] 52

def k20m0 : Method := { name := "<init>", desc := "()V", sig := { parameters := [], returnType := none }, accessFlags := 2, code := none }
def k20c1 : Code := { maxStack := 3, maxLocals := 2, code := jdk_65_method_119_code, exceptionTable := #[], attributes := #[] }
def k20m1 : Method := { name := "copyOf", desc := "([Ljava/lang/Object;I)[Ljava/lang/Object;", sig := { parameters := [(.array (.object "java/lang/Object")), .int], returnType := some (.array (.object "java/lang/Object")) }, accessFlags := 9, code := some k20c1 }
def k20c2 : Code := { maxStack := 6, maxLocals := 4, code := jdk_65_method_120_code, exceptionTable := #[], attributes := #[] }
def k20m2 : Method := { name := "copyOf", desc := "([Ljava/lang/Object;ILjava/lang/Class;)[Ljava/lang/Object;", sig := { parameters := [(.array (.object "java/lang/Object")), .int, (.object "java/lang/Class")], returnType := some (.array (.object "java/lang/Object")) }, accessFlags := 9, code := some k20c2 }
/-- java/util/Arrays -/
def k20 : Class := { plain "java/util/Arrays" (some 0) with
  accessFlags := 49
  interfaces := #[]
  cf := some (fileOf pool20 14 #[.nestMembers #[975, 375, 113, 74]] #[{ accessFlags := 2, nameIndex := 5, descriptorIndex := 6, attributes := #[] }, { accessFlags := 9, nameIndex := 302, descriptorIndex := 860, attributes := #[] }, { accessFlags := 9, nameIndex := 302, descriptorIndex := 303, attributes := #[] }] 49 2 #[] #[{ accessFlags := 26, nameIndex := 715, descriptorIndex := 716, attributes := #[] }, { accessFlags := 26, nameIndex := 719, descriptorIndex := 716, attributes := #[] }, { accessFlags := 4120, nameIndex := 445, descriptorIndex := 117, attributes := #[] }])
  fields := #[{ name := "MIN_ARRAY_SORT_GRAN", type := .int, accessFlags := 26, slot := 0, constantValue := 0 }, { name := "INSERTIONSORT_THRESHOLD", type := .int, accessFlags := 26, slot := 1, constantValue := 0 }, { name := "$assertionsDisabled", type := .boolean, accessFlags := 4120, slot := 2, constantValue := 0 }]
  methods := #[k20m0, k20m1, k20m2]
  instanceTypes := #[]
  staticTypes := #[.int, .int, .boolean]
  resolved := Array.replicate 1029 none
  statics := none }

def pool21 : Array CpInfo := pool [(1, .class_ 2), (0, u "java/lang/Math"), (1, .class_ 6), (1, u "java/lang/Object"), (0, u "<init>"), (0, u "()V"), (89, .class_ 100), (1, u "java/lang/Math$RandomNumberGeneratorHolder"), (71, u "negativeZeroFloatBits"), (0, u "J"), (2, u "negativeZeroDoubleBits"), (21, u "max"), (2, u "min"), (43, u "$assertionsDisabled"), (0, u "Z"), (88, u "(II)I"), (2, u "twoToTheDoubleScaleDown"), (0, u "D"), (4, u "twoToTheDoubleScaleUp"), (9, u "E"), (3, u "PI"), (2, u "TAU"), (2, u "DEGREES_TO_RADIANS"), (0, u "RADIANS_TO_DEGREES")] 94

def k21m0 : Method := { name := "<init>", desc := "()V", sig := { parameters := [], returnType := none }, accessFlags := 2, code := none }
def k21c1 : Code := { maxStack := 2, maxLocals := 2, code := jdk_29_method_65_code, exceptionTable := #[], attributes := #[] }
def k21m1 : Method := { name := "max", desc := "(II)I", sig := { parameters := [.int, .int], returnType := some .int }, accessFlags := 9, code := some k21c1 }
def k21c2 : Code := { maxStack := 2, maxLocals := 2, code := jdk_29_method_69_code, exceptionTable := #[], attributes := #[] }
def k21m2 : Method := { name := "min", desc := "(II)I", sig := { parameters := [.int, .int], returnType := some .int }, accessFlags := 9, code := some k21c2 }
/-- java/lang/Math -/
def k21 : Class := { plain "java/lang/Math" (some 0) with
  accessFlags := 49
  interfaces := #[]
  cf := some (fileOf pool21 1 #[.nestMembers #[98]] #[{ accessFlags := 2, nameIndex := 7, descriptorIndex := 8, attributes := #[] }, { accessFlags := 9, nameIndex := 198, descriptorIndex := 335, attributes := #[] }, { accessFlags := 9, nameIndex := 201, descriptorIndex := 335, attributes := #[] }] 49 4 #[] #[{ accessFlags := 25, nameIndex := 354, descriptorIndex := 339, attributes := #[] }, { accessFlags := 25, nameIndex := 358, descriptorIndex := 339, attributes := #[] }, { accessFlags := 25, nameIndex := 361, descriptorIndex := 339, attributes := #[] }, { accessFlags := 26, nameIndex := 364, descriptorIndex := 339, attributes := #[] }, { accessFlags := 26, nameIndex := 365, descriptorIndex := 339, attributes := #[] }, { accessFlags := 26, nameIndex := 172, descriptorIndex := 173, attributes := #[] }, { accessFlags := 26, nameIndex := 176, descriptorIndex := 173, attributes := #[] }, { accessFlags := 8, nameIndex := 344, descriptorIndex := 339, attributes := #[] }, { accessFlags := 8, nameIndex := 338, descriptorIndex := 339, attributes := #[] }, { accessFlags := 4120, nameIndex := 245, descriptorIndex := 246, attributes := #[] }])
  fields := #[{ name := "E", type := .double, accessFlags := 25, slot := 0, constantValue := 0 }, { name := "PI", type := .double, accessFlags := 25, slot := 1, constantValue := 0 }, { name := "TAU", type := .double, accessFlags := 25, slot := 2, constantValue := 0 }, { name := "DEGREES_TO_RADIANS", type := .double, accessFlags := 26, slot := 3, constantValue := 0 }, { name := "RADIANS_TO_DEGREES", type := .double, accessFlags := 26, slot := 4, constantValue := 0 }, { name := "negativeZeroFloatBits", type := .long, accessFlags := 26, slot := 5, constantValue := 0 }, { name := "negativeZeroDoubleBits", type := .long, accessFlags := 26, slot := 6, constantValue := 0 }, { name := "twoToTheDoubleScaleUp", type := .double, accessFlags := 8, slot := 7, constantValue := 0 }, { name := "twoToTheDoubleScaleDown", type := .double, accessFlags := 8, slot := 8, constantValue := 0 }, { name := "$assertionsDisabled", type := .boolean, accessFlags := 4120, slot := 9, constantValue := 0 }]
  methods := #[k21m0, k21m1, k21m2]
  instanceTypes := #[]
  staticTypes := #[.double, .double, .double, .double, .double, .long, .long, .double, .double, .boolean]
  resolved := Array.replicate 460 none
  statics := none }

def pool22 : Array CpInfo := pool [(2, .class_ 4), (1, u "java/lang/Object"), (0, u "<init>"), (0, u "()V"), (1, .class_ 10), (1, u "java/lang/System"), (0, u "allowSecurityManager"), (0, u "I"), (16, u "cons"), (0, u "Ljava/io/Console;"), (77, .class_ 110), (1, u "java/lang/System$CallersHolder"), (43, u "initialErrStream"), (0, u "Ljava/io/PrintStream;"), (19, u "security"), (0, u "Ljava/lang/SecurityManager;"), (31, .class_ 209), (0, u "java/lang/System$1"), (7, u "props"), (0, u "Ljava/util/Properties;"), (2, u "lineSeparator"), (0, u "Ljava/lang/String;"), (96, .class_ 321), (1, u "java/lang/System$LoggerFinder"), (5, .class_ 328), (0, u "java/lang/System$Logger"), (67, u "err"), (2, u "out"), (91, u "notSupportedJnuEncoding"), (15, u "in"), (17, u "initialIn"), (0, u "Ljava/io/InputStream;"), (35, u "bootLayer"), (0, u "Ljava/lang/ModuleLayer;"), (99, .class_ 664), (0, u "java/lang/System$2"), (9, u "NEVER"), (2, u "MAYBE"), (49, u "arraycopy"), (0, u "(Ljava/lang/Object;ILjava/lang/Object;II)V"), (72, .class_ 802), (0, u "java/lang/System$Logger$Level")] 31

def k22m0 : Method := { name := "<init>", desc := "()V", sig := { parameters := [], returnType := none }, accessFlags := 2, code := none }
def k22m1 : Method := { name := "arraycopy", desc := "(Ljava/lang/Object;ILjava/lang/Object;II)V", sig := { parameters := [(.object "java/lang/Object"), .int, (.object "java/lang/Object"), .int, .int], returnType := none }, accessFlags := 265, code := none }
/-- java/lang/System -/
def k22 : Class := { plain "java/lang/System" (some 0) with
  accessFlags := 49
  interfaces := #[]
  cf := some (fileOf pool22 8 #[.nestMembers #[319, 327, 801, 108, 663, 208]] #[{ accessFlags := 2, nameIndex := 5, descriptorIndex := 6, attributes := #[] }, { accessFlags := 265, nameIndex := 727, descriptorIndex := 728, attributes := #[] }] 49 2 #[] #[{ accessFlags := 25, nameIndex := 507, descriptorIndex := 526, attributes := #[] }, { accessFlags := 25, nameIndex := 399, descriptorIndex := 155, attributes := #[] }, { accessFlags := 25, nameIndex := 396, descriptorIndex := 155, attributes := #[] }, { accessFlags := 10, nameIndex := 525, descriptorIndex := 526, attributes := #[] }, { accessFlags := 26, nameIndex := 674, descriptorIndex := 12, attributes := #[] }, { accessFlags := 26, nameIndex := 677, descriptorIndex := 12, attributes := #[] }, { accessFlags := 10, nameIndex := 11, descriptorIndex := 12, attributes := #[] }, { accessFlags := 74, nameIndex := 175, descriptorIndex := 176, attributes := #[] }, { accessFlags := 10, nameIndex := 491, descriptorIndex := 222, attributes := #[] }, { accessFlags := 74, nameIndex := 29, descriptorIndex := 30, attributes := #[] }, { accessFlags := 74, nameIndex := 154, descriptorIndex := 155, attributes := #[] }, { accessFlags := 10, nameIndex := 217, descriptorIndex := 218, attributes := #[] }, { accessFlags := 10, nameIndex := 221, descriptorIndex := 222, attributes := #[] }, { accessFlags := 8, nameIndex := 562, descriptorIndex := 563, attributes := #[] }])
  fields := #[{ name := "in", type := (.object "java/io/InputStream"), accessFlags := 25, slot := 0, constantValue := 0 }, { name := "out", type := (.object "java/io/PrintStream"), accessFlags := 25, slot := 1, constantValue := 0 }, { name := "err", type := (.object "java/io/PrintStream"), accessFlags := 25, slot := 2, constantValue := 0 }, { name := "initialIn", type := (.object "java/io/InputStream"), accessFlags := 10, slot := 3, constantValue := 0 }, { name := "NEVER", type := .int, accessFlags := 26, slot := 4, constantValue := 0 }, { name := "MAYBE", type := .int, accessFlags := 26, slot := 5, constantValue := 0 }, { name := "allowSecurityManager", type := .int, accessFlags := 10, slot := 6, constantValue := 0 }, { name := "security", type := (.object "java/lang/SecurityManager"), accessFlags := 74, slot := 7, constantValue := 0 }, { name := "notSupportedJnuEncoding", type := (.object "java/lang/String"), accessFlags := 10, slot := 8, constantValue := 0 }, { name := "cons", type := (.object "java/io/Console"), accessFlags := 74, slot := 9, constantValue := 0 }, { name := "initialErrStream", type := (.object "java/io/PrintStream"), accessFlags := 74, slot := 10, constantValue := 0 }, { name := "props", type := (.object "java/util/Properties"), accessFlags := 10, slot := 11, constantValue := 0 }, { name := "lineSeparator", type := (.object "java/lang/String"), accessFlags := 10, slot := 12, constantValue := 0 }, { name := "bootLayer", type := (.object "java/lang/ModuleLayer"), accessFlags := 8, slot := 13, constantValue := 0 }]
  methods := #[k22m0, k22m1]
  instanceTypes := #[]
  staticTypes := #[(.object "java/io/InputStream"), (.object "java/io/PrintStream"), (.object "java/io/PrintStream"), (.object "java/io/InputStream"), .int, .int, .int, (.object "java/lang/SecurityManager"), (.object "java/lang/String"), (.object "java/io/Console"), (.object "java/io/PrintStream"), (.object "java/util/Properties"), (.object "java/lang/String"), (.object "java/lang/ModuleLayer")]
  resolved := Array.replicate 834 none
  statics := none }

def pool23 : Array CpInfo := pool [(2, .class_ 4), (1, u "java/lang/Object"), (0, u "<init>"), (0, u "()V"), (35, .class_ 44), (1, u "java/util/Objects"), (60, .methodref 106 107), (0, .class_ 108), (0, .nameAndType 109 110), (0, u "jdk/internal/util/Preconditions"), (0, u "checkIndex"), (0, u "(IILjava/util/function/BiFunction;)I"), (60, u "(II)I")] 12

def k23m0 : Method := { name := "<init>", desc := "()V", sig := { parameters := [], returnType := none }, accessFlags := 2, code := none }
def k23c1 : Code := { maxStack := 3, maxLocals := 2, code := jdk_31_method_17_code, exceptionTable := #[], attributes := #[] }
def k23m1 : Method := { name := "checkIndex", desc := "(II)I", sig := { parameters := [.int, .int], returnType := some .int }, accessFlags := 9, code := some k23c1 }
/-- java/util/Objects -/
def k23 : Class := { plain "java/util/Objects" (some 0) with
  accessFlags := 49
  interfaces := #[]
  cf := some (fileOf pool23 42 #[] #[{ accessFlags := 2, nameIndex := 5, descriptorIndex := 6, attributes := #[] }, { accessFlags := 9, nameIndex := 109, descriptorIndex := 171, attributes := #[] }] 49 2 #[] #[])
  fields := #[]
  methods := #[k23m0, k23m1]
  instanceTypes := #[]
  staticTypes := #[]
  resolved := Array.replicate 184 none
  statics := none }

def pool24 : Array CpInfo := pool [(2, .class_ 4), (1, u "java/lang/Object"), (0, u "<init>"), (0, u "()V"), (17, .class_ 26), (1, u "jdk/internal/util/Preconditions"), (6, u "checkIndex"), (21, .class_ 56), (0, u "jdk/internal/util/Preconditions$4"), (57, .class_ 115), (0, u "jdk/internal/util/Preconditions$1"), (7, u "SIOOBE_FORMATTER"), (0, u "Ljava/util/function/BiFunction;"), (0, .class_ 126), (0, u "jdk/internal/util/Preconditions$2"), (3, u "AIOOBE_FORMATTER"), (0, .class_ 132), (0, u "jdk/internal/util/Preconditions$3"), (3, u "IOOBE_FORMATTER"), (41, u "(IILjava/util/function/BiFunction;)I")] 15

def k24m0 : Method := { name := "<init>", desc := "()V", sig := { parameters := [], returnType := none }, accessFlags := 1, code := none }
def k24c1 : Code := { maxStack := 3, maxLocals := 3, code := jdk_41_method_11_code, exceptionTable := #[], attributes := #[] }
def k24m1 : Method := { name := "checkIndex", desc := "(IILjava/util/function/BiFunction;)I", sig := { parameters := [.int, .int, (.object "java/util/function/BiFunction")], returnType := some .int }, accessFlags := 9, code := some k24c1 }
/-- jdk/internal/util/Preconditions -/
def k24 : Class := { plain "jdk/internal/util/Preconditions" (some 0) with
  accessFlags := 33
  interfaces := #[]
  cf := some (fileOf pool24 24 #[.nestMembers #[55, 131, 125, 114]] #[{ accessFlags := 1, nameIndex := 5, descriptorIndex := 6, attributes := #[] }, { accessFlags := 9, nameIndex := 33, descriptorIndex := 178, attributes := #[] }] 33 2 #[] #[{ accessFlags := 25, nameIndex := 123, descriptorIndex := 124, attributes := #[] }, { accessFlags := 25, nameIndex := 130, descriptorIndex := 124, attributes := #[] }, { accessFlags := 25, nameIndex := 136, descriptorIndex := 124, attributes := #[] }])
  fields := #[{ name := "SIOOBE_FORMATTER", type := (.object "java/util/function/BiFunction"), accessFlags := 25, slot := 0, constantValue := 0 }, { name := "AIOOBE_FORMATTER", type := (.object "java/util/function/BiFunction"), accessFlags := 25, slot := 1, constantValue := 0 }, { name := "IOOBE_FORMATTER", type := (.object "java/util/function/BiFunction"), accessFlags := 25, slot := 2, constantValue := 0 }]
  methods := #[k24m0, k24m1]
  instanceTypes := #[]
  staticTypes := #[(.object "java/util/function/BiFunction"), (.object "java/util/function/BiFunction"), (.object "java/util/function/BiFunction")]
  resolved := Array.replicate 194 none
  statics := some 2 }

def pool25 : Array CpInfo := pool [(9, u "<init>"), (6, .class_ 18), (1, u "java/lang/Object"), (0, u "()V"), (1, .class_ 23), (1, u "jdk/internal/util/ArraysSupport"), (0, u "LOG2_ARRAY_LONG_INDEX_SCALE"), (0, u "I"), (2, u "U"), (0, u "Ljdk/internal/misc/Unsafe;"), (8, u "BIG_ENDIAN"), (0, u "Z"), (8, u "LOG2_BYTE_BIT_SIZE"), (4, u "LOG2_ARRAY_INT_INDEX_SCALE"), (54, u "JLA"), (0, u "Ljdk/internal/access/JavaLangAccess;"), (11, u "LOG2_ARRAY_BOOLEAN_INDEX_SCALE"), (9, u "LOG2_ARRAY_BYTE_INDEX_SCALE"), (5, u "LOG2_ARRAY_CHAR_INDEX_SCALE"), (5, u "LOG2_ARRAY_SHORT_INDEX_SCALE"), (18, u "LOG2_ARRAY_FLOAT_INDEX_SCALE"), (24, u "LOG2_ARRAY_DOUBLE_INDEX_SCALE"), (6, .methodref 195 196), (0, .class_ 197), (0, .nameAndType 198 199), (0, u "java/lang/Math"), (0, u "max"), (0, u "(II)I"), (0, .integer 2147483639), (76, u "T_BOOLEAN"), (2, u "T_CHAR"), (1, u "T_FLOAT"), (1, u "T_DOUBLE"), (1, u "T_BYTE"), (1, u "T_SHORT"), (1, u "T_INT"), (1, u "T_LONG"), (1, u "SOFT_MAX_ARRAY_LENGTH"), (56, u "newLength"), (0, u "(III)I")] 25

def k25m0 : Method := { name := "<init>", desc := "()V", sig := { parameters := [], returnType := none }, accessFlags := 2, code := none }
def k25c1 : Code := { maxStack := 3, maxLocals := 4, code := jdk_48_method_27_code, exceptionTable := #[], attributes := #[] }
def k25m1 : Method := { name := "newLength", desc := "(III)I", sig := { parameters := [.int, .int, .int], returnType := some .int }, accessFlags := 9, code := some k25c1 }
/-- jdk/internal/util/ArraysSupport -/
def k25 : Class := { plain "jdk/internal/util/ArraysSupport" (some 0) with
  accessFlags := 33
  interfaces := #[]
  cf := some (fileOf pool25 21 #[] #[{ accessFlags := 2, nameIndex := 9, descriptorIndex := 19, attributes := #[] }, { accessFlags := 9, nameIndex := 351, descriptorIndex := 352, attributes := #[] }] 33 16 #[] #[{ accessFlags := 24, nameIndex := 28, descriptorIndex := 29, attributes := #[] }, { accessFlags := 26, nameIndex := 38, descriptorIndex := 39, attributes := #[] }, { accessFlags := 25, nameIndex := 121, descriptorIndex := 25, attributes := #[] }, { accessFlags := 25, nameIndex := 131, descriptorIndex := 25, attributes := #[] }, { accessFlags := 25, nameIndex := 137, descriptorIndex := 25, attributes := #[] }, { accessFlags := 25, nameIndex := 143, descriptorIndex := 25, attributes := #[] }, { accessFlags := 25, nameIndex := 53, descriptorIndex := 25, attributes := #[] }, { accessFlags := 25, nameIndex := 24, descriptorIndex := 25, attributes := #[] }, { accessFlags := 25, nameIndex := 162, descriptorIndex := 25, attributes := #[] }, { accessFlags := 25, nameIndex := 187, descriptorIndex := 25, attributes := #[] }, { accessFlags := 26, nameIndex := 48, descriptorIndex := 25, attributes := #[] }, { accessFlags := 25, nameIndex := 277, descriptorIndex := 25, attributes := #[] }, { accessFlags := 25, nameIndex := 280, descriptorIndex := 25, attributes := #[] }, { accessFlags := 25, nameIndex := 282, descriptorIndex := 25, attributes := #[] }, { accessFlags := 25, nameIndex := 284, descriptorIndex := 25, attributes := #[] }, { accessFlags := 25, nameIndex := 286, descriptorIndex := 25, attributes := #[] }, { accessFlags := 25, nameIndex := 288, descriptorIndex := 25, attributes := #[] }, { accessFlags := 25, nameIndex := 290, descriptorIndex := 25, attributes := #[] }, { accessFlags := 25, nameIndex := 292, descriptorIndex := 25, attributes := #[] }, { accessFlags := 26, nameIndex := 108, descriptorIndex := 109, attributes := #[] }, { accessFlags := 25, nameIndex := 294, descriptorIndex := 25, attributes := #[] }])
  fields := #[{ name := "U", type := (.object "jdk/internal/misc/Unsafe"), accessFlags := 24, slot := 0, constantValue := 0 }, { name := "BIG_ENDIAN", type := .boolean, accessFlags := 26, slot := 1, constantValue := 0 }, { name := "LOG2_ARRAY_BOOLEAN_INDEX_SCALE", type := .int, accessFlags := 25, slot := 2, constantValue := 0 }, { name := "LOG2_ARRAY_BYTE_INDEX_SCALE", type := .int, accessFlags := 25, slot := 3, constantValue := 0 }, { name := "LOG2_ARRAY_CHAR_INDEX_SCALE", type := .int, accessFlags := 25, slot := 4, constantValue := 0 }, { name := "LOG2_ARRAY_SHORT_INDEX_SCALE", type := .int, accessFlags := 25, slot := 5, constantValue := 0 }, { name := "LOG2_ARRAY_INT_INDEX_SCALE", type := .int, accessFlags := 25, slot := 6, constantValue := 0 }, { name := "LOG2_ARRAY_LONG_INDEX_SCALE", type := .int, accessFlags := 25, slot := 7, constantValue := 0 }, { name := "LOG2_ARRAY_FLOAT_INDEX_SCALE", type := .int, accessFlags := 25, slot := 8, constantValue := 0 }, { name := "LOG2_ARRAY_DOUBLE_INDEX_SCALE", type := .int, accessFlags := 25, slot := 9, constantValue := 0 }, { name := "LOG2_BYTE_BIT_SIZE", type := .int, accessFlags := 26, slot := 10, constantValue := 0 }, { name := "T_BOOLEAN", type := .int, accessFlags := 25, slot := 11, constantValue := 0 }, { name := "T_CHAR", type := .int, accessFlags := 25, slot := 12, constantValue := 0 }, { name := "T_FLOAT", type := .int, accessFlags := 25, slot := 13, constantValue := 0 }, { name := "T_DOUBLE", type := .int, accessFlags := 25, slot := 14, constantValue := 0 }, { name := "T_BYTE", type := .int, accessFlags := 25, slot := 15, constantValue := 0 }, { name := "T_SHORT", type := .int, accessFlags := 25, slot := 16, constantValue := 0 }, { name := "T_INT", type := .int, accessFlags := 25, slot := 17, constantValue := 0 }, { name := "T_LONG", type := .int, accessFlags := 25, slot := 18, constantValue := 0 }, { name := "JLA", type := (.object "jdk/internal/access/JavaLangAccess"), accessFlags := 26, slot := 19, constantValue := 0 }, { name := "SOFT_MAX_ARRAY_LENGTH", type := .int, accessFlags := 25, slot := 20, constantValue := 0 }]
  methods := #[k25m0, k25m1]
  instanceTypes := #[]
  staticTypes := #[(.object "jdk/internal/misc/Unsafe"), .boolean, .int, .int, .int, .int, .int, .int, .int, .int, .int, .int, .int, .int, .int, .int, .int, .int, .int, (.object "jdk/internal/access/JavaLangAccess"), .int]
  resolved := Array.replicate 378 none
  statics := none }

def pool26 : Array CpInfo := pool [(4, .class_ 6), (1, u "java/lang/Object"), (0, u "<init>"), (0, u "()V"), (5, .class_ 16), (1, u "java/lang/StringLatin1"), (104, u "$assertionsDisabled"), (0, u "Z"), (98, .class_ 223), (1, u "java/lang/StringLatin1$LinesSpliterator"), (166, .class_ 391), (0, u "java/lang/StringLatin1$CharsSpliterator")] 3

def k26m0 : Method := { name := "<init>", desc := "()V", sig := { parameters := [], returnType := none }, accessFlags := 0, code := none }
/-- java/lang/StringLatin1 -/
def k26 : Class := { plain "java/lang/StringLatin1" (some 0) with
  accessFlags := 48
  interfaces := #[]
  cf := some (fileOf pool26 14 #[.nestMembers #[390, 221]] #[{ accessFlags := 0, nameIndex := 7, descriptorIndex := 8, attributes := #[] }] 48 4 #[] #[{ accessFlags := 4120, nameIndex := 121, descriptorIndex := 122, attributes := #[] }])
  fields := #[{ name := "$assertionsDisabled", type := .boolean, accessFlags := 4120, slot := 0, constantValue := 0 }]
  methods := #[k26m0]
  instanceTypes := #[]
  staticTypes := #[.boolean]
  resolved := Array.replicate 395 none
  statics := none }

def pool27 : Array CpInfo := pool [(1, u "java/lang/Class"), (0, .class_ 1), (0, u "java/lang/Object"), (0, .class_ 3)] 0

/-- java/lang/Class -/
def k27 : Class := { plain "java/lang/Class" (some 0) with
  accessFlags := 49
  interfaces := #[]
  cf := some (fileOf pool27 2 #[] #[] 49 4 #[] #[])
  fields := #[]
  methods := #[]
  instanceTypes := #[]
  staticTypes := #[]
  resolved := Array.replicate 5 none
  statics := none }

/-- the primitive byte -/
def k28 : Class := { plain "byte" none with kind := .primitive 'B', accessFlags := 0x411 }
/-- [B -/
def k29 : Class := { plain "[B" (some 0) with kind := .array 28 .byte, interfaces := #[16, 2], accessFlags := 1041 }

/-- the primitive char -/
def k30 : Class := { plain "char" none with kind := .primitive 'C', accessFlags := 0x411 }
/-- [C -/
def k31 : Class := { plain "[C" (some 0) with kind := .array 30 .char, interfaces := #[16, 2], accessFlags := 1041 }

/-- the primitive int -/
def k32 : Class := { plain "int" none with kind := .primitive 'I', accessFlags := 0x411 }
/-- [I -/
def k33 : Class := { plain "[I" (some 0) with kind := .array 32 .int, interfaces := #[16, 2], accessFlags := 1041 }

/-- [Ljava/lang/Object; -/
def k34 : Class := { plain "[Ljava/lang/Object;" (some 0) with kind := .array 0 (.object "java/lang/Object"), interfaces := #[16, 2], accessFlags := 1041, mirror := some 3 }

def heap : Heap := #[{ cls := 7, slots := #[.long 0, .int 1, .null, .int 0, .null, .int 0, .int 0], vm := .statics 7 },
  { cls := 17, slots := #[.long 0, .int 0, .ref 5, .ref 6], vm := .statics 17 },
  { cls := 24, slots := #[.null, .null, .null], vm := .statics 24 },
  { cls := 27, slots := #[], vm := .mirror 34 },
  { cls := 27, slots := #[], vm := .mirror 17 },
  { cls := 34, slots := #[], vm := .none },
  { cls := 34, slots := #[], vm := .none }]
def classes : Array Class := #[k0, k1, k2, k3, k4, k5, k6, k7, k8, k9, k10, k11, k12, k13, k14, k15, k16, k17, k18, k19, k20, k21, k22, k23, k24, k25, k26, k27, k28, k29, k30, k31, k32, k33, k34]
def interned : List (Array UInt16 × Addr) := []
def slotsUsed : Nat := 14
def theMethod : MethodId := ⟨1, 2⟩
def args0 : Array Value := #[.int 63, .int 7, .int 9, .int 5]
def aboutOver (below : List Frame) : State where
  vm := { classes := classes, interned := interned.toArray }
  heap := heap
  slotsUsed := slotsUsed
  threads := #[{ frames := .invoking theMethod args0 :: below }]
def below0 : List Frame := [.native { method := ⟨0, 0⟩, args := #[] }]
def about1 : State := aboutOver below0
def p0 : Program := .bare "" "" ""
def e0 : Env := launch0.env 0 0 0
theorem w_frames : about1.frames = Frame.invoking theMethod args0 :: below0 := rfl
set_option maxRecDepth 65536 in
theorem w_args : argsFit about1.vm theMethod args0 = true := by decide +kernel
set_option maxRecDepth 65536 in
theorem w_heap : heapFits about1 = true := by decide +kernel
set_option maxRecDepth 65536 in
theorem w_runnable : about1.curStatus? = some .runnable := by decide +kernel
set_option maxRecDepth 65536 in
theorem w_alone : about1.alone = true := by decide +kernel
set_option maxRecDepth 65536 in
theorem w_named : about1.methodNamed? x = some theMethod := by decide +kernel
set_option maxRecDepth 65536 in
theorem w_hears : about1.hears theMethod below0 = true := by decide +kernel
set_option maxRecDepth 65536 in
theorem w_ripe : about1.ripe theMethod args0 below0 = true := by decide +kernel
theorem w_running : about1.status = .running := rfl
set_option maxRecDepth 65536 in
theorem w_room : about1.hasRoom e0.platform room_1 = true :=
  launch0.hasRoom_least _ room_1 (by decide +kernel) (by decide +kernel) (by decide +kernel) (by decide +kernel) (by decide +kernel) (by decide +kernel)
theorem allAtoms_all (ts : List Jvm.Cond) (a : Array Jvm.Value) (st : Jvm.State) : (allAtoms ts).before a st = ts.all (fun c => c.before a st) := by
  induction ts with
  | nil => rfl
  | cons c t ih =>
    show (Jvm.Cond.and c (allAtoms t)).before a st = _
    rw [Jvm.Cond.before_and, ih, List.all_cons]
def words1 : List Jvm.Cond := Jvm.Cond.code x code maxLocals ret :: tables_1
/-- a 'code' word, met by the world's own term for the bytes: nothing is compared byte by byte -/
theorem code_word {y : MethodName} {bytes : ByteArray} {mx : Nat} {rt : Option FieldType} {a : Array Value} {s : State} {m : MethodId} {meth : Method} {c : Code} (h1 : s.methodNamed? y = some m) (h2 : s.vm.method? m = some meth) (h3 : meth.code = some c) (h4 : c.code = bytes)
    (h5 : (c.maxLocals == mx && c.exceptionTable.isEmpty && decide (c.maxStack ≤ mostOperands) && decide (meth.sig.returnType = rt) && !meth.locks && decide (parseMethodDescriptor y.desc = some meth.sig)) = true) : (Jvm.Cond.code y bytes mx rt).before a s = true := by
  simp only [Bool.and_eq_true, beq_iff_eq, Bool.not_eq_true', decide_eq_true_eq] at h5
  obtain ⟨⟨⟨⟨⟨g1, g2⟩, g3⟩, g4⟩, g5⟩, g6⟩ := h5
  simp [Cond.before, Cond.holds, Cond.value, h1, h2, h3, h4, g1, g2, g3, g4, g5, g6]
def isCode : Jvm.Cond → Bool
  | .code _ _ _ _ => true
  | _ => false
theorem all_split {L : List Jvm.Cond} {P : Jvm.Cond → Bool} (h1 : L.all (fun c => isCode c || P c) = true) (h2 : ∀ c ∈ L.filter isCode, P c = true) : L.all P = true := by
  refine List.all_eq_true.mpr fun c hc => ?_
  have h := List.all_eq_true.mp h1 c hc
  rcases Bool.eq_false_or_eq_true (isCode c) with hi | hi
  · exact h2 c (List.mem_filter.mpr ⟨hc, hi⟩)
  · simpa [hi] using h
set_option maxRecDepth 65536 in
theorem w_c0 : (Jvm.Cond.code x code maxLocals ret).before args0 about1 = true := code_word (m := ⟨1, 2⟩) (meth := k1m2) (c := k1c2) (by decide +kernel) rfl rfl rfl (by decide +kernel)
set_option maxRecDepth 65536 in
theorem w_c1 : (Jvm.Cond.code ({ cls := "com/example/fachwissen/fachwissen/mail/MessageWordTextsPinLaw", name := "str", desc := "(II)Ljava/lang/String;" } : Jvm.MethodName) method_2_code (3 : Nat) (Option.some (Jvm.ClassFile.FieldType.object "java/lang/String"))).before args0 about1 = true := code_word (m := ⟨1, 1⟩) (meth := k1m1) (c := k1c1) (by decide +kernel) rfl rfl rfl (by decide +kernel)
set_option maxRecDepth 65536 in
theorem w_c2 : (Jvm.Cond.code ({ cls := "java/lang/String", name := "<init>", desc := "([C)V" } : Jvm.MethodName) jdk_42_method_3_code (2 : Nat) (Option.none : Option Jvm.ClassFile.FieldType)).before args0 about1 = true := code_word (m := ⟨7, 1⟩) (meth := k7m1) (c := k7c1) (by decide +kernel) rfl rfl rfl (by decide +kernel)
set_option maxRecDepth 65536 in
theorem w_c3 : (Jvm.Cond.code ({ cls := "java/lang/String", name := "<init>", desc := "([CIILjava/lang/Void;)V" } : Jvm.MethodName) jdk_42_method_149_code (6 : Nat) (Option.none : Option Jvm.ClassFile.FieldType)).before args0 about1 = true := code_word (m := ⟨7, 3⟩) (meth := k7m3) (c := k7c3) (by decide +kernel) rfl rfl rfl (by decide +kernel)
set_option maxRecDepth 65536 in
theorem w_c4 : (Jvm.Cond.code ({ cls := "java/lang/Object", name := "<init>", desc := "()V" } : Jvm.MethodName) object_method_1_code (1 : Nat) (Option.none : Option Jvm.ClassFile.FieldType)).before args0 about1 = true := code_word (m := ⟨0, 0⟩) (meth := k0m0) (c := k0c0) (by decide +kernel) rfl rfl rfl (by decide +kernel)
set_option maxRecDepth 65536 in
theorem w_c5 : (Jvm.Cond.code ({ cls := "java/lang/StringUTF16", name := "compress", desc := "([CII)[B" } : Jvm.MethodName) jdk_52_method_16_code (6 : Nat) (Option.some (Jvm.ClassFile.FieldType.array Jvm.ClassFile.FieldType.byte))).before args0 about1 = true := code_word (m := ⟨8, 2⟩) (meth := k8m2) (c := k8c2) (by decide +kernel) rfl rfl rfl (by decide +kernel)
set_option maxRecDepth 65536 in
theorem w_c6 : (Jvm.Cond.code ({ cls := "java/lang/StringUTF16", name := "compress", desc := "([CI[BII)I" } : Jvm.MethodName) jdk_52_method_21_code (7 : Nat) (Option.some Jvm.ClassFile.FieldType.int)).before args0 about1 = true := code_word (m := ⟨8, 3⟩) (meth := k8m3) (c := k8c3) (by decide +kernel) rfl rfl rfl (by decide +kernel)
set_option maxRecDepth 65536 in
theorem w_c7 : (Jvm.Cond.code ({ cls := "java/lang/StringUTF16", name := "coderFromArrayLen", desc := "([BI)B" } : Jvm.MethodName) jdk_52_method_15_code (2 : Nat) (Option.some Jvm.ClassFile.FieldType.byte)).before args0 about1 = true := code_word (m := ⟨8, 1⟩) (meth := k8m1) (c := k8c1) (by decide +kernel) rfl rfl rfl (by decide +kernel)
set_option maxRecDepth 65536 in
theorem w_c8 : (Jvm.Cond.code ({ cls := "java/util/ArrayList", name := "<init>", desc := "()V" } : Jvm.MethodName) jdk_38_method_2_code (1 : Nat) (Option.none : Option Jvm.ClassFile.FieldType)).before args0 about1 = true := code_word (m := ⟨17, 0⟩) (meth := k17m0) (c := k17c0) (by decide +kernel) rfl rfl rfl (by decide +kernel)
set_option maxRecDepth 65536 in
theorem w_c9 : (Jvm.Cond.code ({ cls := "java/util/AbstractList", name := "<init>", desc := "()V" } : Jvm.MethodName) jdk_39_method_1_code (1 : Nat) (Option.none : Option Jvm.ClassFile.FieldType)).before args0 about1 = true := code_word (m := ⟨14, 0⟩) (meth := k14m0) (c := k14c0) (by decide +kernel) rfl rfl rfl (by decide +kernel)
set_option maxRecDepth 65536 in
theorem w_c10 : (Jvm.Cond.code ({ cls := "java/util/AbstractCollection", name := "<init>", desc := "()V" } : Jvm.MethodName) jdk_22_method_1_code (1 : Nat) (Option.none : Option Jvm.ClassFile.FieldType)).before args0 about1 = true := code_word (m := ⟨11, 0⟩) (meth := k11m0) (c := k11c0) (by decide +kernel) rfl rfl rfl (by decide +kernel)
set_option maxRecDepth 65536 in
theorem w_c11 : (Jvm.Cond.code ({ cls := "com/example/fachwissen/fachwissen/mail/Message", name := "<init>", desc := "(Ljava/util/List;Ljava/util/List;Ljava/util/List;)V" } : Jvm.MethodName) prog_12_method_1_code (4 : Nat) (Option.none : Option Jvm.ClassFile.FieldType)).before args0 about1 = true := code_word (m := ⟨19, 0⟩) (meth := k19m0) (c := k19c0) (by decide +kernel) rfl rfl rfl (by decide +kernel)
set_option maxRecDepth 65536 in
theorem w_c12 : (Jvm.Cond.code ({ cls := "java/lang/Record", name := "<init>", desc := "()V" } : Jvm.MethodName) jdk_30_method_1_code (1 : Nat) (Option.none : Option Jvm.ClassFile.FieldType)).before args0 about1 = true := code_word (m := ⟨18, 0⟩) (meth := k18m0) (c := k18c0) (by decide +kernel) rfl rfl rfl (by decide +kernel)
set_option maxRecDepth 65536 in
theorem w_c13 : (Jvm.Cond.code ({ cls := "com/example/fachwissen/fachwissen/mail/Message", name := "wordTexts", desc := "()Ljava/util/List;" } : Jvm.MethodName) prog_12_method_3_code (2 : Nat) (Option.some (Jvm.ClassFile.FieldType.object "java/util/List"))).before args0 about1 = true := code_word (m := ⟨19, 1⟩) (meth := k19m1) (c := k19c1) (by decide +kernel) rfl rfl rfl (by decide +kernel)
set_option maxRecDepth 65536 in
theorem w_c14 : (Jvm.Cond.code ({ cls := "java/util/ArrayList", name := "<init>", desc := "(Ljava/util/Collection;)V" } : Jvm.MethodName) jdk_38_method_3_code (3 : Nat) (Option.none : Option Jvm.ClassFile.FieldType)).before args0 about1 = true := code_word (m := ⟨17, 1⟩) (meth := k17m1) (c := k17c1) (by decide +kernel) rfl rfl rfl (by decide +kernel)
set_option maxRecDepth 65536 in
theorem w_c15 : (Jvm.Cond.code ({ cls := "java/util/ArrayList", name := "toArray", desc := "()[Ljava/lang/Object;" } : Jvm.MethodName) jdk_38_method_16_code (1 : Nat) (Option.some (Jvm.ClassFile.FieldType.array (Jvm.ClassFile.FieldType.object "java/lang/Object")))).before args0 about1 = true := code_word (m := ⟨17, 5⟩) (meth := k17m5) (c := k17c5) (by decide +kernel) rfl rfl rfl (by decide +kernel)
set_option maxRecDepth 65536 in
theorem w_c16 : (Jvm.Cond.code ({ cls := "java/util/Arrays", name := "copyOf", desc := "([Ljava/lang/Object;I)[Ljava/lang/Object;" } : Jvm.MethodName) jdk_65_method_119_code (2 : Nat) (Option.some (Jvm.ClassFile.FieldType.array (Jvm.ClassFile.FieldType.object "java/lang/Object")))).before args0 about1 = true := code_word (m := ⟨20, 1⟩) (meth := k20m1) (c := k20c1) (by decide +kernel) rfl rfl rfl (by decide +kernel)
set_option maxRecDepth 65536 in
theorem w_c17 : (Jvm.Cond.code ({ cls := "java/util/Arrays", name := "copyOf", desc := "([Ljava/lang/Object;ILjava/lang/Class;)[Ljava/lang/Object;" } : Jvm.MethodName) jdk_65_method_120_code (4 : Nat) (Option.some (Jvm.ClassFile.FieldType.array (Jvm.ClassFile.FieldType.object "java/lang/Object")))).before args0 about1 = true := code_word (m := ⟨20, 2⟩) (meth := k20m2) (c := k20c2) (by decide +kernel) rfl rfl rfl (by decide +kernel)
set_option maxRecDepth 65536 in
theorem w_c18 : (Jvm.Cond.code ({ cls := "java/lang/Math", name := "min", desc := "(II)I" } : Jvm.MethodName) jdk_29_method_69_code (2 : Nat) (Option.some Jvm.ClassFile.FieldType.int)).before args0 about1 = true := code_word (m := ⟨21, 2⟩) (meth := k21m2) (c := k21c2) (by decide +kernel) rfl rfl rfl (by decide +kernel)
set_option maxRecDepth 65536 in
theorem w_c19 : (Jvm.Cond.code ({ cls := "java/util/ArrayList", name := "addAll", desc := "(Ljava/util/Collection;)Z" } : Jvm.MethodName) jdk_38_method_41_code (6 : Nat) (Option.some Jvm.ClassFile.FieldType.boolean)).before args0 about1 = true := code_word (m := ⟨17, 10⟩) (meth := k17m10) (c := k17c10) (by decide +kernel) rfl rfl rfl (by decide +kernel)
set_option maxRecDepth 65536 in
theorem w_c20 : (Jvm.Cond.code ({ cls := "java/util/ArrayList", name := "size", desc := "()I" } : Jvm.MethodName) jdk_38_method_8_code (1 : Nat) (Option.some Jvm.ClassFile.FieldType.int)).before args0 about1 = true := code_word (m := ⟨17, 4⟩) (meth := k17m4) (c := k17c4) (by decide +kernel) rfl rfl rfl (by decide +kernel)
set_option maxRecDepth 65536 in
theorem w_c21 : (Jvm.Cond.code ({ cls := "java/util/ArrayList", name := "add", desc := "(Ljava/lang/Object;)Z" } : Jvm.MethodName) jdk_38_method_25_code (2 : Nat) (Option.some Jvm.ClassFile.FieldType.boolean)).before args0 about1 = true := code_word (m := ⟨17, 9⟩) (meth := k17m9) (c := k17c9) (by decide +kernel) rfl rfl rfl (by decide +kernel)
set_option maxRecDepth 65536 in
theorem w_c22 : (Jvm.Cond.code ({ cls := "java/util/ArrayList", name := "add", desc := "(Ljava/lang/Object;[Ljava/lang/Object;I)V" } : Jvm.MethodName) jdk_38_method_24_code (4 : Nat) (Option.none : Option Jvm.ClassFile.FieldType)).before args0 about1 = true := code_word (m := ⟨17, 8⟩) (meth := k17m8) (c := k17c8) (by decide +kernel) rfl rfl rfl (by decide +kernel)
set_option maxRecDepth 65536 in
theorem w_c23 : (Jvm.Cond.code ({ cls := "java/util/ArrayList", name := "grow", desc := "()[Ljava/lang/Object;" } : Jvm.MethodName) jdk_38_method_7_code (1 : Nat) (Option.some (Jvm.ClassFile.FieldType.array (Jvm.ClassFile.FieldType.object "java/lang/Object")))).before args0 about1 = true := code_word (m := ⟨17, 3⟩) (meth := k17m3) (c := k17c3) (by decide +kernel) rfl rfl rfl (by decide +kernel)
set_option maxRecDepth 65536 in
theorem w_c24 : (Jvm.Cond.code ({ cls := "java/util/ArrayList", name := "grow", desc := "(I)[Ljava/lang/Object;" } : Jvm.MethodName) jdk_38_method_6_code (4 : Nat) (Option.some (Jvm.ClassFile.FieldType.array (Jvm.ClassFile.FieldType.object "java/lang/Object")))).before args0 about1 = true := code_word (m := ⟨17, 2⟩) (meth := k17m2) (c := k17c2) (by decide +kernel) rfl rfl rfl (by decide +kernel)
set_option maxRecDepth 65536 in
theorem w_c25 : (Jvm.Cond.code ({ cls := "java/lang/Math", name := "max", desc := "(II)I" } : Jvm.MethodName) jdk_29_method_65_code (2 : Nat) (Option.some Jvm.ClassFile.FieldType.int)).before args0 about1 = true := code_word (m := ⟨21, 1⟩) (meth := k21m1) (c := k21c1) (by decide +kernel) rfl rfl rfl (by decide +kernel)
set_option maxRecDepth 65536 in
theorem w_c26 : (Jvm.Cond.code ({ cls := "java/util/ArrayList", name := "get", desc := "(I)Ljava/lang/Object;" } : Jvm.MethodName) jdk_38_method_20_code (2 : Nat) (Option.some (Jvm.ClassFile.FieldType.object "java/lang/Object"))).before args0 about1 = true := code_word (m := ⟨17, 7⟩) (meth := k17m7) (c := k17c7) (by decide +kernel) rfl rfl rfl (by decide +kernel)
set_option maxRecDepth 65536 in
theorem w_c27 : (Jvm.Cond.code ({ cls := "java/util/Objects", name := "checkIndex", desc := "(II)I" } : Jvm.MethodName) jdk_31_method_17_code (2 : Nat) (Option.some Jvm.ClassFile.FieldType.int)).before args0 about1 = true := code_word (m := ⟨23, 1⟩) (meth := k23m1) (c := k23c1) (by decide +kernel) rfl rfl rfl (by decide +kernel)
set_option maxRecDepth 65536 in
theorem w_c28 : (Jvm.Cond.code ({ cls := "jdk/internal/util/Preconditions", name := "checkIndex", desc := "(IILjava/util/function/BiFunction;)I" } : Jvm.MethodName) jdk_41_method_11_code (3 : Nat) (Option.some Jvm.ClassFile.FieldType.int)).before args0 about1 = true := code_word (m := ⟨24, 1⟩) (meth := k24m1) (c := k24c1) (by decide +kernel) rfl rfl rfl (by decide +kernel)
set_option maxRecDepth 65536 in
theorem w_c29 : (Jvm.Cond.code ({ cls := "java/util/ArrayList", name := "elementData", desc := "(I)Ljava/lang/Object;" } : Jvm.MethodName) jdk_38_method_18_code (2 : Nat) (Option.some (Jvm.ClassFile.FieldType.object "java/lang/Object"))).before args0 about1 = true := code_word (m := ⟨17, 6⟩) (meth := k17m6) (c := k17c6) (by decide +kernel) rfl rfl rfl (by decide +kernel)
set_option maxRecDepth 65536 in
theorem w_c30 : (Jvm.Cond.code ({ cls := "java/lang/String", name := "equals", desc := "(Ljava/lang/Object;)Z" } : Jvm.MethodName) jdk_42_method_66_code (3 : Nat) (Option.some Jvm.ClassFile.FieldType.boolean)).before args0 about1 = true := code_word (m := ⟨7, 2⟩) (meth := k7m2) (c := k7c2) (by decide +kernel) rfl rfl rfl (by decide +kernel)
set_option maxRecDepth 65536 in
theorem w_c31 : (Jvm.Cond.code ({ cls := "jdk/internal/util/ArraysSupport", name := "newLength", desc := "(III)I" } : Jvm.MethodName) jdk_48_method_27_code (4 : Nat) (Option.some Jvm.ClassFile.FieldType.int)).before args0 about1 = true := code_word (m := ⟨25, 1⟩) (meth := k25m1) (c := k25c1) (by decide +kernel) rfl rfl rfl (by decide +kernel)
def codes1 : List Jvm.Cond := [Jvm.Cond.code x code maxLocals ret, Jvm.Cond.code ({ cls := "com/example/fachwissen/fachwissen/mail/MessageWordTextsPinLaw", name := "str", desc := "(II)Ljava/lang/String;" } : Jvm.MethodName) method_2_code (3 : Nat) (Option.some (Jvm.ClassFile.FieldType.object "java/lang/String")), Jvm.Cond.code ({ cls := "java/lang/String", name := "<init>", desc := "([C)V" } : Jvm.MethodName) jdk_42_method_3_code (2 : Nat) (Option.none : Option Jvm.ClassFile.FieldType), Jvm.Cond.code ({ cls := "java/lang/String", name := "<init>", desc := "([CIILjava/lang/Void;)V" } : Jvm.MethodName) jdk_42_method_149_code (6 : Nat) (Option.none : Option Jvm.ClassFile.FieldType), Jvm.Cond.code ({ cls := "java/lang/Object", name := "<init>", desc := "()V" } : Jvm.MethodName) object_method_1_code (1 : Nat) (Option.none : Option Jvm.ClassFile.FieldType), Jvm.Cond.code ({ cls := "java/lang/StringUTF16", name := "compress", desc := "([CII)[B" } : Jvm.MethodName) jdk_52_method_16_code (6 : Nat) (Option.some (Jvm.ClassFile.FieldType.array Jvm.ClassFile.FieldType.byte)), Jvm.Cond.code ({ cls := "java/lang/StringUTF16", name := "compress", desc := "([CI[BII)I" } : Jvm.MethodName) jdk_52_method_21_code (7 : Nat) (Option.some Jvm.ClassFile.FieldType.int), Jvm.Cond.code ({ cls := "java/lang/StringUTF16", name := "coderFromArrayLen", desc := "([BI)B" } : Jvm.MethodName) jdk_52_method_15_code (2 : Nat) (Option.some Jvm.ClassFile.FieldType.byte), Jvm.Cond.code ({ cls := "java/util/ArrayList", name := "<init>", desc := "()V" } : Jvm.MethodName) jdk_38_method_2_code (1 : Nat) (Option.none : Option Jvm.ClassFile.FieldType), Jvm.Cond.code ({ cls := "java/util/AbstractList", name := "<init>", desc := "()V" } : Jvm.MethodName) jdk_39_method_1_code (1 : Nat) (Option.none : Option Jvm.ClassFile.FieldType), Jvm.Cond.code ({ cls := "java/util/AbstractCollection", name := "<init>", desc := "()V" } : Jvm.MethodName) jdk_22_method_1_code (1 : Nat) (Option.none : Option Jvm.ClassFile.FieldType), Jvm.Cond.code ({ cls := "com/example/fachwissen/fachwissen/mail/Message", name := "<init>", desc := "(Ljava/util/List;Ljava/util/List;Ljava/util/List;)V" } : Jvm.MethodName) prog_12_method_1_code (4 : Nat) (Option.none : Option Jvm.ClassFile.FieldType), Jvm.Cond.code ({ cls := "java/lang/Record", name := "<init>", desc := "()V" } : Jvm.MethodName) jdk_30_method_1_code (1 : Nat) (Option.none : Option Jvm.ClassFile.FieldType), Jvm.Cond.code ({ cls := "com/example/fachwissen/fachwissen/mail/Message", name := "wordTexts", desc := "()Ljava/util/List;" } : Jvm.MethodName) prog_12_method_3_code (2 : Nat) (Option.some (Jvm.ClassFile.FieldType.object "java/util/List")), Jvm.Cond.code ({ cls := "java/util/ArrayList", name := "<init>", desc := "(Ljava/util/Collection;)V" } : Jvm.MethodName) jdk_38_method_3_code (3 : Nat) (Option.none : Option Jvm.ClassFile.FieldType), Jvm.Cond.code ({ cls := "java/util/ArrayList", name := "toArray", desc := "()[Ljava/lang/Object;" } : Jvm.MethodName) jdk_38_method_16_code (1 : Nat) (Option.some (Jvm.ClassFile.FieldType.array (Jvm.ClassFile.FieldType.object "java/lang/Object"))), Jvm.Cond.code ({ cls := "java/util/Arrays", name := "copyOf", desc := "([Ljava/lang/Object;I)[Ljava/lang/Object;" } : Jvm.MethodName) jdk_65_method_119_code (2 : Nat) (Option.some (Jvm.ClassFile.FieldType.array (Jvm.ClassFile.FieldType.object "java/lang/Object"))), Jvm.Cond.code ({ cls := "java/util/Arrays", name := "copyOf", desc := "([Ljava/lang/Object;ILjava/lang/Class;)[Ljava/lang/Object;" } : Jvm.MethodName) jdk_65_method_120_code (4 : Nat) (Option.some (Jvm.ClassFile.FieldType.array (Jvm.ClassFile.FieldType.object "java/lang/Object"))), Jvm.Cond.code ({ cls := "java/lang/Math", name := "min", desc := "(II)I" } : Jvm.MethodName) jdk_29_method_69_code (2 : Nat) (Option.some Jvm.ClassFile.FieldType.int), Jvm.Cond.code ({ cls := "java/util/ArrayList", name := "addAll", desc := "(Ljava/util/Collection;)Z" } : Jvm.MethodName) jdk_38_method_41_code (6 : Nat) (Option.some Jvm.ClassFile.FieldType.boolean), Jvm.Cond.code ({ cls := "java/util/ArrayList", name := "size", desc := "()I" } : Jvm.MethodName) jdk_38_method_8_code (1 : Nat) (Option.some Jvm.ClassFile.FieldType.int), Jvm.Cond.code ({ cls := "java/util/ArrayList", name := "add", desc := "(Ljava/lang/Object;)Z" } : Jvm.MethodName) jdk_38_method_25_code (2 : Nat) (Option.some Jvm.ClassFile.FieldType.boolean), Jvm.Cond.code ({ cls := "java/util/ArrayList", name := "add", desc := "(Ljava/lang/Object;[Ljava/lang/Object;I)V" } : Jvm.MethodName) jdk_38_method_24_code (4 : Nat) (Option.none : Option Jvm.ClassFile.FieldType), Jvm.Cond.code ({ cls := "java/util/ArrayList", name := "grow", desc := "()[Ljava/lang/Object;" } : Jvm.MethodName) jdk_38_method_7_code (1 : Nat) (Option.some (Jvm.ClassFile.FieldType.array (Jvm.ClassFile.FieldType.object "java/lang/Object"))), Jvm.Cond.code ({ cls := "java/util/ArrayList", name := "grow", desc := "(I)[Ljava/lang/Object;" } : Jvm.MethodName) jdk_38_method_6_code (4 : Nat) (Option.some (Jvm.ClassFile.FieldType.array (Jvm.ClassFile.FieldType.object "java/lang/Object"))), Jvm.Cond.code ({ cls := "java/lang/Math", name := "max", desc := "(II)I" } : Jvm.MethodName) jdk_29_method_65_code (2 : Nat) (Option.some Jvm.ClassFile.FieldType.int), Jvm.Cond.code ({ cls := "java/util/ArrayList", name := "get", desc := "(I)Ljava/lang/Object;" } : Jvm.MethodName) jdk_38_method_20_code (2 : Nat) (Option.some (Jvm.ClassFile.FieldType.object "java/lang/Object")), Jvm.Cond.code ({ cls := "java/util/Objects", name := "checkIndex", desc := "(II)I" } : Jvm.MethodName) jdk_31_method_17_code (2 : Nat) (Option.some Jvm.ClassFile.FieldType.int), Jvm.Cond.code ({ cls := "jdk/internal/util/Preconditions", name := "checkIndex", desc := "(IILjava/util/function/BiFunction;)I" } : Jvm.MethodName) jdk_41_method_11_code (3 : Nat) (Option.some Jvm.ClassFile.FieldType.int), Jvm.Cond.code ({ cls := "java/util/ArrayList", name := "elementData", desc := "(I)Ljava/lang/Object;" } : Jvm.MethodName) jdk_38_method_18_code (2 : Nat) (Option.some (Jvm.ClassFile.FieldType.object "java/lang/Object")), Jvm.Cond.code ({ cls := "java/lang/String", name := "equals", desc := "(Ljava/lang/Object;)Z" } : Jvm.MethodName) jdk_42_method_66_code (3 : Nat) (Option.some Jvm.ClassFile.FieldType.boolean), Jvm.Cond.code ({ cls := "jdk/internal/util/ArraysSupport", name := "newLength", desc := "(III)I" } : Jvm.MethodName) jdk_48_method_27_code (4 : Nat) (Option.some Jvm.ClassFile.FieldType.int)]
set_option maxRecDepth 65536 in
theorem codes_eq : words1.filter isCode = codes1 := rfl
theorem w_codes : ∀ c ∈ words1.filter isCode, c.before args0 about1 = true := by
  rw [codes_eq]
  intro c hc
  simp only [codes1, List.mem_cons, List.not_mem_nil, or_false] at hc
  rcases hc with rfl | rfl | rfl | rfl | rfl | rfl | rfl | rfl | rfl | rfl | rfl | rfl | rfl | rfl | rfl | rfl | rfl | rfl | rfl | rfl | rfl | rfl | rfl | rfl | rfl | rfl | rfl | rfl | rfl | rfl | rfl | rfl
  · exact w_c0
  · exact w_c1
  · exact w_c2
  · exact w_c3
  · exact w_c4
  · exact w_c5
  · exact w_c6
  · exact w_c7
  · exact w_c8
  · exact w_c9
  · exact w_c10
  · exact w_c11
  · exact w_c12
  · exact w_c13
  · exact w_c14
  · exact w_c15
  · exact w_c16
  · exact w_c17
  · exact w_c18
  · exact w_c19
  · exact w_c20
  · exact w_c21
  · exact w_c22
  · exact w_c23
  · exact w_c24
  · exact w_c25
  · exact w_c26
  · exact w_c27
  · exact w_c28
  · exact w_c29
  · exact w_c30
  · exact w_c31
set_option maxRecDepth 65536 in
theorem w_t1 : (words1.take 24).all (fun c => isCode c || c.before args0 about1) = true := by decide +kernel
set_option maxRecDepth 65536 in
theorem w_t2 : ((words1.drop 24).take 24).all (fun c => isCode c || c.before args0 about1) = true := by decide +kernel
set_option maxRecDepth 65536 in
theorem w_t3 : (((words1.drop 24).drop 24).take 24).all (fun c => isCode c || c.before args0 about1) = true := by decide +kernel
set_option maxRecDepth 65536 in
theorem w_t4 : ((((words1.drop 24).drop 24).drop 24).take 24).all (fun c => isCode c || c.before args0 about1) = true := by decide +kernel
set_option maxRecDepth 65536 in
theorem w_t5 : (((((words1.drop 24).drop 24).drop 24).drop 24).take 24).all (fun c => isCode c || c.before args0 about1) = true := by decide +kernel
set_option maxRecDepth 65536 in
theorem w_t6 : ((((((words1.drop 24).drop 24).drop 24).drop 24).drop 24).take 24).all (fun c => isCode c || c.before args0 about1) = true := by decide +kernel
set_option maxRecDepth 65536 in
theorem w_t7 : (((((((words1.drop 24).drop 24).drop 24).drop 24).drop 24).drop 24).take 24).all (fun c => isCode c || c.before args0 about1) = true := by decide +kernel
set_option maxRecDepth 65536 in
theorem w_t8 : ((((((((words1.drop 24).drop 24).drop 24).drop 24).drop 24).drop 24).drop 24).take 24).all (fun c => isCode c || c.before args0 about1) = true := by decide +kernel
set_option maxRecDepth 65536 in
theorem w_t9 : ((((((((words1.drop 24).drop 24).drop 24).drop 24).drop 24).drop 24).drop 24).drop 24).all (fun c => isCode c || c.before args0 about1) = true := by decide +kernel
theorem w_tables : (allAtoms (Jvm.Cond.code x code maxLocals ret :: tables_1)).before args0 about1 = true := by
  rw [allAtoms_all]
  show words1.all (fun c => c.before args0 about1) = true
  refine all_split ?_ w_codes
  rw [← List.take_append_drop 24 words1, List.all_append, w_t1, ← List.take_append_drop 24 (words1.drop 24), List.all_append, w_t2, ← List.take_append_drop 24 ((words1.drop 24).drop 24), List.all_append, w_t3, ← List.take_append_drop 24 (((words1.drop 24).drop 24).drop 24), List.all_append, w_t4, ← List.take_append_drop 24 ((((words1.drop 24).drop 24).drop 24).drop 24), List.all_append, w_t5, ← List.take_append_drop 24 (((((words1.drop 24).drop 24).drop 24).drop 24).drop 24), List.all_append, w_t6, ← List.take_append_drop 24 ((((((words1.drop 24).drop 24).drop 24).drop 24).drop 24).drop 24), List.all_append, w_t7, ← List.take_append_drop 24 (((((((words1.drop 24).drop 24).drop 24).drop 24).drop 24).drop 24).drop 24), List.all_append, w_t8, w_t9]
  rfl
set_option maxRecDepth 65536 in
theorem w_rest : rest_1_c.before args0 about1 = true := by decide +kernel
set_option maxRecDepth 65536 in
theorem w_case : (Jvm.Cond.and given_1 narrow_1).before args0 about1 = true := by decide +kernel
theorem w_applies : (headSpec (Jvm.Cond.code x code maxLocals ret :: tables_1) room_1).applies x e0.platform about1 = true :=
  (Spec.applies_iff w_frames).mpr ⟨w_running, w_runnable, w_alone, w_named, w_hears, w_ripe, w_room, w_tables⟩
theorem atStart : AtStart classFile x code maxLocals ret World_1 tables_1 room_1 Calls_1 rest_1 Pre_1 launch0 p0 e0 about1 theMethod args0 below0 :=
  ⟨lists_1, trivial, launch0.admits_env _ _ _, launch0.least_env, fairChoices_fair.cas, fairChoices_fair.clock, w_frames, w_args, w_heap, w_applies, ⟨⟨34, k34, 3, by decide +kernel, rfl, rfl, _, rfl, rfl⟩, ⟨⟨17, k17, 4, by decide +kernel, rfl, rfl, _, rfl, rfl⟩, trivial⟩⟩, w_rest, w_case⟩
end start1
theorem witness_1 : WitnessClaimed_1 := ⟨start1.p0, start1.e0, start1.about1, start1.theMethod, start1.args0, start1.below0, start1.atStart⟩
end Jvm.Pilot.@@N@@
