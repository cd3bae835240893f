import JvmDerived
import JvmDerived.Pilot.@@N@@Statement
import JvmDerived.Pilot.@@N@@Code
set_option linter.unusedVariables false
set_option linter.unusedSimpArgs false
namespace Jvm.RoadKit
open Sem ClassFile Op Lib Jvm.Stand Jvm.Free Jvm.LawKit
section New
variable {p : Program} {l : Launch} {e : Env} {R : Room} {s : State} {m : MethodId} {args : Array Value} {below : List Frame} {meth : Method} {c : Code} {T : State} {locs : List Loc} {cells slots : Nat}
theorem retI (X : Stand p l e R s m args below meth c T locs cells slots) (hx : p.tables.exec = Jvm.exec) {pc : Nat} {Ls : Array Slot} {z : Int32} {rest : List Value} (hret : meth.sig.returnType = some .int) (hd : decode c.code pc = .ok (.ireturn, 1)) {fs : List Frame}
    (hl : ∀ (f : JFrame) (acts : List Action), f.method = m → f.locked = none → f.entered = [] → (doReturn e (T.setTop f) acts (some (.int z))).1 = T.setFrames fs) : Steps p.tables e below (T.setTop (mkF m pc Ls (.int z :: rest))) (T.setFrames fs) := by
  have hm' : T.vm.method? m = some meth := X.method'
  have hn : narrow .int (.int z) = .int z := rfl
  show Steps p.tables e below (T.setTop { method := m, pc := pc, locals := Ls, stack := _ :: rest, locked := none }) _
  jvm_step X.here [X.here.top, hx, hd, hm', hret, hn]
  first | (intro acts; rw [hl _ acts rfl rfl rfl]) | rw [hl _ _ rfl rfl rfl]
  exact Steps.refl _
end New
end Jvm.RoadKit
/- laws to paste: Road.backV, Road.eqW (cut by pick.py; bodies as the Statement names them) -/
namespace Jvm.Pilot.@@N@@
namespace StrChars
open Jvm Sem ClassFile Op Lib Jvm.Stand Jvm.Free.XT Jvm.Free.ALB Jvm.Free.JM Jvm.Free
open Jvm.Lib.Cold (StaticIs)
/-- a char array whose places are chars -/
def Ch (a : Addr) (A : Cell) (U : State) : Prop := Arr .char a A U ∧ Typed .char A
theorem Ch.mv {a : Addr} {A : Cell} {U U' : State} (h : Ch a A U) (hal : U.vm.Alike U'.vm) (hh : U'.heap = U.heap) : Ch a A U' := ⟨h.1.mv hal hh, h.2⟩
theorem Ch.keep {a : Addr} {A : Cell} {U U' : State} (h : Ch a A U) (hal : U.vm.Alike U'.vm) (hk : U'.heap[a]? = some A) : Ch a A U' := ⟨h.1.keep hal hk, h.2⟩
/-- what place i of a char[]'s cell holds -/
def cv (A : Cell) (i : Nat) : Int32 := match A.slots[i]? with | some (.int x) => x | _ => 0
theorem Ch.get {a : Addr} {A : Cell} {U : State} (h : Ch a A U) {i : Nat} (hi : i < A.slots.size) : A.slots[i]? = some (.int (cv A i)) := by
  have e := Array.getElem?_eq_getElem hi
  have f := h.2 i _ e
  unfold cv; rw [e]
  generalize A.slots[i] = v at f
  cases v <;> simp [fits] at f ⊢
/-- the byte that i2b leaves of a char -/
def lo8 (x : Int32) : Int32 := x.toInt8.toInt32
theorem fits_lo8 (y : Int32) : fits .byte (.int (lo8 y)) = true := by
  have h1 := y.toInt8.le_toInt
  have h2 := y.toInt8.toInt_lt
  simp only [lo8, fits, Bool.and_eq_true, decide_eq_true_eq, Int32.le_iff_toInt_le, Int8.toInt_toInt32, show (-128 : Int32).toInt = -128 from by decide, show (127 : Int32).toInt = 127 from by decide]
  omega
/-- A' is A but that each place j of lo .. hi - 1 holds f j -/
def Laid (A A' : Cell) (lo hi : Nat) (f : Nat → Value) : Prop := A'.cls = A.cls ∧ A'.vm = A.vm ∧ A'.slots.size = A.slots.size ∧ ∀ i, A'.slots[i]? = if lo ≤ i ∧ i < hi then some (f i) else A.slots[i]?
theorem Laid.zero (A : Cell) (lo : Nat) (f : Nat → Value) : Laid A A lo (lo + 0) f := ⟨rfl, rfl, rfl, fun i => by rw [if_neg (by omega)]⟩
theorem Laid.step {A Ak : Cell} {lo k : Nat} {f : Nat → Value} {v : Value} (h : Laid A Ak lo k f) (hlo : lo ≤ k) (hk : k < Ak.slots.size) (hv : v = f k) : Laid A (Ak.setSlot k v) lo (k + 1) f := by
  refine ⟨h.1, h.2.1, by simpa [Cell.setSlot] using h.2.2.1, fun i => ?_⟩
  by_cases e : k = i
  · subst e; rw [Cell.slots_setSlot_self v hk, if_pos (by omega), hv]
  · rw [Cell.slots_setSlot_ne v e, h.2.2.2 i]
    by_cases q : lo ≤ i ∧ i < k
    · rw [if_pos q, if_pos (by omega)]
    · rw [if_neg q, if_neg (by omega)]
def U16 : String := "java/lang/StringUTF16"
namespace Cmp5
def yN : MethodName := ⟨"java/lang/StringUTF16", "compress", "([CI[BII)I"⟩
abbrev yB : ByteArray := jdk_52_method_21_code
theorem d0 : decode yB 0 = .ok (.iconst 0, 1) := by decide +kernel
theorem d1 : decode yB 1 = .ok (.istore 5, 2) := by decide +kernel
theorem d3 : decode yB 3 = .ok (.iload 5, 2) := by decide +kernel
theorem d5 : decode yB 5 = .ok (.iload 4, 2) := by decide +kernel
theorem d7 : decode yB 7 = .ok (.if_icmp (.ge) 37, 3) := by decide +kernel
theorem d10 : decode yB 10 = .ok (.aload_n 0, 1) := by decide +kernel
theorem d11 : decode yB 11 = .ok (.iload_n 1, 1) := by decide +kernel
theorem d12 : decode yB 12 = .ok (.caload, 1) := by decide +kernel
theorem d13 : decode yB 13 = .ok (.istore 6, 2) := by decide +kernel
theorem d15 : decode yB 15 = .ok (.iload 6, 2) := by decide +kernel
theorem d17 : decode yB 17 = .ok (.sipush 255, 3) := by decide +kernel
theorem d20 : decode yB 20 = .ok (.if_icmp (.le) 6, 3) := by decide +kernel
theorem d26 : decode yB 26 = .ok (.aload_n 2, 1) := by decide +kernel
theorem d27 : decode yB 27 = .ok (.iload_n 3, 1) := by decide +kernel
theorem d28 : decode yB 28 = .ok (.iload 6, 2) := by decide +kernel
theorem d30 : decode yB 30 = .ok (.i2b, 1) := by decide +kernel
theorem d31 : decode yB 31 = .ok (.bastore, 1) := by decide +kernel
theorem d32 : decode yB 32 = .ok (.iinc 1 1, 3) := by decide +kernel
theorem d35 : decode yB 35 = .ok (.iinc 3 1, 3) := by decide +kernel
theorem d38 : decode yB 38 = .ok (.iinc 5 1, 3) := by decide +kernel
theorem d41 : decode yB 41 = .ok (.goto (-38), 3) := by decide +kernel
theorem d44 : decode yB 44 = .ok (.iload 4, 2) := by decide +kernel
theorem d46 : decode yB 46 = .ok (.ireturn, 1) := by decide +kernel
def site : List Cond := []
def tab : Cond := tabOf yN yB 7 (some .int) site
def P (b : Addr) (A : Cell) (d : Addr) (B : Cell) (o q len : Nat) (args : Array Value) (s : State) : Prop := args = #[.ref b, .int (Int32.ofNat o), .ref d, .int (Int32.ofNat q), .int (Int32.ofNat len)] ∧ Ch b A s ∧ Arr .byte d B s ∧ b ≠ d ∧ o + len ≤ A.slots.size ∧ q + len ≤ B.slots.size ∧ ∀ i, i < len → ¬ 255 < cv A (o + i)
def E (b : Addr) (A : Cell) (d : Addr) (B : Cell) (o q len : Nat) (r : Option Value) (s u : State) : Prop := r = some (.int (Int32.ofNat len)) ∧ ∃ B', Put d B' s u ∧ Laid B B' q (q + len) (fun j => Value.int (lo8 (cv A (o + (j - q)))))
/-- no char of the range above 255: len; the places written hold each char's low byte -/
theorem law (l : Launch) (b : Addr) (A : Cell) (d : Addr) (B : Cell) (o q len : Nat) : Law l yN 5 5 0 0 yB 7 (some .int) site (P b A d B o q len) (E b A d B o q len) (copyLocs d q len) 0 0 := by
  refine Law.of_walk (plainFor_of_name (by decide +kernel)) (by decide +kernel) (by decide +kernel) (by decide) (fun _ _ h => by rw [h.1]; rfl) (fun _ U U' hal hh h => ⟨h.1, h.2.1.mv hal hh, h.2.2.1.mv hal hh, h.2.2.2⟩) (fun r U U' V V' h1 hal h2 h => ⟨h.1, h.2.elim fun B' q => ⟨B', q.1.mv h1 h2, q.2⟩⟩) ?_
  intro p e s m args below meth c s₁ X0 hexec hbytes hml hret hlk hnm hown hh0 W hP
  obtain ⟨rfl, hA, hB, hne, l1, l2, hp⟩ := hP
  have c1 : Steps p.tables e below (s₁.setTop (entryFrame m #[.ref b, .int (Int32.ofNat o), .ref d, .int (Int32.ofNat q), .int (Int32.ofNat len)] 7)) (s₁.setTop (mkF m 0 #[.val (.ref b), .val (.int (Int32.ofNat o)), .val (.ref d), .val (.int (Int32.ofNat q)), .val (.int (Int32.ofNat len)), .unset, .unset] [])) := entry rfl
  have hA0 := hA.1.mv X0.warmed.alike hh0
  have hB0 := hB.mv X0.warmed.alike hh0
  have a31 := hA.1.2.2.2
  have c2 : Steps p.tables e below (s₁.setTop (entryFrame m #[.ref b, .int (Int32.ofNat o), .ref d, .int (Int32.ofNat q), .int (Int32.ofNat len)] 7)) (s₁.setTop (mkF m 3 #[.val (.ref b), .val (.int (Int32.ofNat o)), .val (.ref d), .val (.int (Int32.ofNat q)), .val (.int (Int32.ofNat len)), .val (.int 0), .unset] [])) := c1.trans (by
    refine iconstV X0.here hexec rfl 0 (hb hbytes d0) (by decide) ?_
    refine XS.istore X0.here hexec rfl (hb hbytes d1) rfl rfl ?_
    exact Steps.refl _)
  have loop : ∀ (r i : Nat), i + r = len → ∀ (z : Slot), (z = .unset ∨ ∃ w, z = .val w ∧ w.category = 1) → ∀ (Tl : State) (Bk : Cell), Stand p l e { frames := 0, locals := 0, cells := 0, slots := 0 } s m #[.ref b, .int (Int32.ofNat o), .ref d, .int (Int32.ofNat q), .int (Int32.ofNat len)] below meth c Tl ([] ++ copyLocs d q i) 0 0 → Put d Bk s₁ Tl → Laid B Bk q (q + i) (fun j => Value.int (lo8 (cv A (o + (j - q))))) →
      Steps p.tables e below (s₁.setTop (entryFrame m #[.ref b, .int (Int32.ofNat o), .ref d, .int (Int32.ofNat q), .int (Int32.ofNat len)] 7)) (Tl.setTop (mkF m 3 #[.val (.ref b), .val (.int (Int32.ofNat (o + i))), .val (.ref d), .val (.int (Int32.ofNat (q + i))), .val (.int (Int32.ofNat len)), .val (.int (Int32.ofNat i)), z] [])) → ∃ (T' : State) (B' : Cell) (z' : Slot), Stand p l e { frames := 0, locals := 0, cells := 0, slots := 0 } s m #[.ref b, .int (Int32.ofNat o), .ref d, .int (Int32.ofNat q), .int (Int32.ofNat len)] below meth c T' ([] ++ copyLocs d q len) 0 0 ∧ Put d B' s₁ T' ∧ Laid B B' q (q + len) (fun j => Value.int (lo8 (cv A (o + (j - q))))) ∧
      Steps p.tables e below (s₁.setTop (entryFrame m #[.ref b, .int (Int32.ofNat o), .ref d, .int (Int32.ofNat q), .int (Int32.ofNat len)] 7)) (T'.setTop (mkF m 3 #[.val (.ref b), .val (.int (Int32.ofNat (o + len))), .val (.ref d), .val (.int (Int32.ofNat (q + len))), .val (.int (Int32.ofNat len)), .val (.int (Int32.ofNat len)), z'] [])) := by
    intro r
    induction r with
    | zero =>
      intro i hi z hz Tl Bk Xl pl fl cl
      have hil : i = len := by omega
      rw [hil] at Xl fl cl
      exact ⟨Tl, Bk, z, Xl, pl, fl, cl⟩
    | succ r ih =>
      intro i hi z hz Tl Bk Xl pl fl cl
      have all := X0.warmed.alike.symm.trans Xl.warmed.alike
      have hAl := hA0.keep all (pl.other hne hA0.1)
      have hBk := hB0.like all pl.1 fl.1 fl.2.1 fl.2.2.1
      have hlt : q + i < Bk.slots.size := by rw [fl.2.2.1]; omega
      have c3 : Steps p.tables e below (s₁.setTop (entryFrame m #[.ref b, .int (Int32.ofNat o), .ref d, .int (Int32.ofNat q), .int (Int32.ofNat len)] 7)) (Tl.setTop (mkF m 12 #[.val (.ref b), .val (.int (Int32.ofNat (o + i))), .val (.ref d), .val (.int (Int32.ofNat (q + i))), .val (.int (Int32.ofNat len)), .val (.int (Int32.ofNat i)), z] [.int (Int32.ofNat (o + i)), .ref b])) := cl.trans (by
        refine XS.iload Xl.here hexec rfl (hb hbytes d3) rfl ?_
        refine XS.iload Xl.here hexec rfl (hb hbytes d5) rfl ?_
        refine XS.icmpNo Xl.here hexec rfl (hb hbytes d7) rfl (ii_ge_f (lt32 (by omega) (by omega))) ?_
        refine XS.aloadN Xl.here hexec rfl (hb hbytes d10) rfl rfl ?_
        refine XS.iloadN Xl.here hexec rfl (hb hbytes d11) rfl ?_
        exact Steps.refl _)
      have c4 : Steps p.tables e below (s₁.setTop (entryFrame m #[.ref b, .int (Int32.ofNat o), .ref d, .int (Int32.ofNat q), .int (Int32.ofNat len)] 7)) (Tl.setTop (mkF m 13 #[.val (.ref b), .val (.int (Int32.ofNat (o + i))), .val (.ref d), .val (.int (Int32.ofNat (q + i))), .val (.int (Int32.ofNat len)), .val (.int (Int32.ofNat i)), z] [.int (cv A (o + i))])) := c3.trans (by
        refine Xl.aget hexec hAl rfl (hA.get (i := o + i) (by omega)) rfl rfl (hb hbytes d12) ?_
        exact Steps.refl _)
      have c5 : Steps p.tables e below (s₁.setTop (entryFrame m #[.ref b, .int (Int32.ofNat o), .ref d, .int (Int32.ofNat q), .int (Int32.ofNat len)] 7)) (Tl.setTop (mkF m 15 #[.val (.ref b), .val (.int (Int32.ofNat (o + i))), .val (.ref d), .val (.int (Int32.ofNat (q + i))), .val (.int (Int32.ofNat len)), .val (.int (Int32.ofNat i)), .val (.int (cv A (o + i)))] [])) := c4.trans (by
        refine XS.istoreS Xl.here hexec rfl (hb hbytes d13) rfl rfl hz ?_
        exact Steps.refl _)
      have c6 : Steps p.tables e below (s₁.setTop (entryFrame m #[.ref b, .int (Int32.ofNat o), .ref d, .int (Int32.ofNat q), .int (Int32.ofNat len)] 7)) (Tl.setTop (mkF m 31 #[.val (.ref b), .val (.int (Int32.ofNat (o + i))), .val (.ref d), .val (.int (Int32.ofNat (q + i))), .val (.int (Int32.ofNat len)), .val (.int (Int32.ofNat i)), .val (.int (cv A (o + i)))] [.int (lo8 (cv A (o + i))), .int (Int32.ofNat (q + i)), .ref d])) := c5.trans (by
        refine XS.iload Xl.here hexec rfl (hb hbytes d15) rfl ?_
        refine sipushV Xl.here hexec rfl 255 (hb hbytes d17) (by decide) ?_
        refine XS.icmpYes Xl.here hexec rfl (pc0 := 20) rfl (hb hbytes d20) rfl (ii_le_t (hp i (by omega))) (by decide) rfl ?_
        refine XS.aloadN Xl.here hexec rfl (hb hbytes d26) rfl rfl ?_
        refine XS.iloadN Xl.here hexec rfl (hb hbytes d27) rfl ?_
        refine XS.iload Xl.here hexec rfl (hb hbytes d28) rfl ?_
        refine i2b Xl.here hexec rfl (hb hbytes d30) rfl ?_
        exact Steps.refl _)
      obtain ⟨T7, X7, p7, st7⟩ := Xl.aput hexec hBk rfl hlt rfl (fits_lo8 (cv A (o + i))) (g := (mkF m 31 #[.val (.ref b), .val (.int (Int32.ofNat (o + i))), .val (.ref d), .val (.int (Int32.ofNat (q + i))), .val (.int (Int32.ofNat len)), .val (.int (Int32.ofNat i)), .val (.int (cv A (o + i)))] [.int (lo8 (cv A (o + i))), .int (Int32.ofNat (q + i)), .ref d])) rfl (rest := []) rfl (hb hbytes d31)
      have c8 : Steps p.tables e below (s₁.setTop (entryFrame m #[.ref b, .int (Int32.ofNat o), .ref d, .int (Int32.ofNat q), .int (Int32.ofNat len)] 7)) (T7.setTop (mkF m 32 #[.val (.ref b), .val (.int (Int32.ofNat (o + i))), .val (.ref d), .val (.int (Int32.ofNat (q + i))), .val (.int (Int32.ofNat len)), .val (.int (Int32.ofNat i)), .val (.int (cv A (o + i)))] [])) := c6.trans (st7 _ (Steps.refl _))
      have c9 : Steps p.tables e below (s₁.setTop (entryFrame m #[.ref b, .int (Int32.ofNat o), .ref d, .int (Int32.ofNat q), .int (Int32.ofNat len)] 7)) (T7.setTop (mkF m 3 #[.val (.ref b), .val (.int (Int32.ofNat (o + i) + 1)), .val (.ref d), .val (.int (Int32.ofNat (q + i) + 1)), .val (.int (Int32.ofNat len)), .val (.int (Int32.ofNat i + 1)), .val (.int (cv A (o + i)))] [])) := c8.trans (by
        refine iincV X7.here hexec rfl 1 (hb hbytes d32) (by decide) rfl rfl ?_
        refine iincV X7.here hexec rfl 1 (hb hbytes d35) (by decide) rfl rfl ?_
        refine iincV X7.here hexec rfl 1 (hb hbytes d38) (by decide) rfl rfl ?_
        refine XS.goto X7.here hexec rfl (pc0 := 41) rfl (hb hbytes d41) (by decide) rfl ?_
        exact Steps.refl _)
      have c10 : Steps p.tables e below (s₁.setTop (entryFrame m #[.ref b, .int (Int32.ofNat o), .ref d, .int (Int32.ofNat q), .int (Int32.ofNat len)] 7)) (T7.setTop (mkF m 3 #[.val (.ref b), .val (.int (Int32.ofNat (o + (i + 1)))), .val (.ref d), .val (.int (Int32.ofNat (q + (i + 1)))), .val (.int (Int32.ofNat len)), .val (.int (Int32.ofNat (i + 1))), .val (.int (cv A (o + i)))] [])) := by
        have := c9
        rw [succ32, succ32, succ32] at this
        exact this
      exact ih (i + 1) (by omega) _ (Or.inr ⟨_, rfl, rfl⟩) T7 _ (by rw [copyLocs_step, ← List.append_assoc]; exact X7) (pl.trans p7) (fl.step (by omega) hlt (by simp)) c10
  obtain ⟨T9, B9, z9, X9, p9, f9, g9⟩ := loop len 0 (by omega) .unset (Or.inl rfl) s₁ B (by simpa [copyLocs] using X0) ⟨hB0.1, fun _ _ => rfl, rfl⟩ (Laid.zero _ _ _) c2
  have c11 : Steps p.tables e below (s₁.setTop (entryFrame m #[.ref b, .int (Int32.ofNat o), .ref d, .int (Int32.ofNat q), .int (Int32.ofNat len)] 7)) (T9.setTop (mkF m 46 #[.val (.ref b), .val (.int (Int32.ofNat (o + len))), .val (.ref d), .val (.int (Int32.ofNat (q + len))), .val (.int (Int32.ofNat len)), .val (.int (Int32.ofNat len)), z9] [.int (Int32.ofNat len)])) := g9.trans (by
    refine XS.iload X9.here hexec rfl (hb hbytes d3) rfl ?_
    refine XS.iload X9.here hexec rfl (hb hbytes d5) rfl ?_
    refine XS.icmpYes X9.here hexec rfl (pc0 := 7) rfl (hb hbytes d7) rfl (ii_ge_t (nlt32 (by omega) (Nat.le_refl _))) (by decide) rfl ?_
    refine XS.iload X9.here hexec rfl (hb hbytes d44) rfl ?_
    exact Steps.refl _)
  exact ⟨T9, some (.int (Int32.ofNat len)), _, _, _, X9, by simp, rfl, rfl, (fun h => by cases h), ⟨rfl, B9, p9.from hh0, f9⟩, fun fs hl => c11.trans (X9.ireturnOut hexec hret rfl (Or.inl rfl) (hb hbytes d46) hl)⟩
end Cmp5
namespace Cmp3
def yN : MethodName := ⟨"java/lang/StringUTF16", "compress", "([CII)[B"⟩
abbrev yB : ByteArray := jdk_52_method_16_code
theorem d0 : decode yB 0 = .ok (.iload_n 2, 1) := by decide +kernel
theorem d1 : decode yB 1 = .ok (.newarray .byte, 2) := by decide +kernel
theorem d3 : decode yB 3 = .ok (.astore_n 3, 1) := by decide +kernel
theorem d4 : decode yB 4 = .ok (.aload_n 0, 1) := by decide +kernel
theorem d5 : decode yB 5 = .ok (.iload_n 1, 1) := by decide +kernel
theorem d6 : decode yB 6 = .ok (.aload_n 3, 1) := by decide +kernel
theorem d7 : decode yB 7 = .ok (.iconst 0, 1) := by decide +kernel
theorem d8 : decode yB 8 = .ok (.iload_n 2, 1) := by decide +kernel
theorem d9 : decode yB 9 = .ok (.invokestatic 115, 3) := by decide +kernel
theorem d12 : decode yB 12 = .ok (.istore 4, 2) := by decide +kernel
theorem d14 : decode yB 14 = .ok (.iload 4, 2) := by decide +kernel
theorem d16 : decode yB 16 = .ok (.iload_n 2, 1) := by decide +kernel
theorem d17 : decode yB 17 = .ok (.if_icmp (.eq) 40, 3) := by decide +kernel
theorem d57 : decode yB 57 = .ok (.aload_n 3, 1) := by decide +kernel
theorem d58 : decode yB 58 = .ok (.areturn, 1) := by decide +kernel
def site : List Cond := [.arrayClass .byte, Cmp5.tab] ++ staticW U16 115 Cmp5.yN
def tab : Cond := tabOf yN yB 6 (some (.array .byte)) site
def P (b : Addr) (A : Cell) (o len : Nat) (args : Array Value) (s : State) : Prop := args = #[.ref b, .int (Int32.ofNat o), .int (Int32.ofNat len)] ∧ Ch b A s ∧ o + len ≤ A.slots.size ∧ len ≤ 536870912 ∧ ∀ i, i < len → ¬ 255 < cv A (o + i)
def E (b : Addr) (A : Cell) (o len : Nat) (r : Option Value) (s u : State) : Prop := NewArr .byte "[B" len (fun j => .int (lo8 (cv A (o + j)))) r s u ∧ u.heap.size = s.heap.size + 1
/-- no char of the range above 255: a new byte[] of their low bytes -/
theorem law (l : Launch) (b : Addr) (A : Cell) (o len : Nat) : Law l yN 3 3 1 18 yB 6 (some (.array .byte)) site (P b A o len) (E b A o len) [] 1 len := by
  refine Law.of_walk (plainFor_of_name (by decide +kernel)) (by decide +kernel) (by decide +kernel) (by decide) (fun _ _ h => by rw [h.1]; rfl) (fun _ U U' hal hh h => ⟨h.1, h.2.1.mv hal hh, h.2.2⟩) (fun r U U' V V' h1 hal h2 h => ⟨NewArr.mv r U U' V V' h1 hal h2 h.1, by rw [h1, h2]; exact h.2⟩) ?_
  intro p e s m args below meth c s₁ X0 hexec hbytes hml hret hlk hnm hown hh0 W hP
  obtain ⟨rfl, hA, l1, l2, hp⟩ := hP
  have a31 := hA.1.2.2.2
  have c1 : Steps p.tables e below (s₁.setTop (entryFrame m #[.ref b, .int (Int32.ofNat o), .int (Int32.ofNat len)] 6)) (s₁.setTop (mkF m 0 #[.val (.ref b), .val (.int (Int32.ofNat o)), .val (.int (Int32.ofNat len)), .unset, .unset, .unset] [])) := entry rfl
  have c2 : Steps p.tables e below (s₁.setTop (entryFrame m #[.ref b, .int (Int32.ofNat o), .int (Int32.ofNat len)] 6)) (s₁.setTop (mkF m 1 #[.val (.ref b), .val (.int (Int32.ofNat o)), .val (.int (Int32.ofNat len)), .unset, .unset, .unset] [.int (Int32.ofNat len)])) := c1.trans (by
    refine XS.iloadN X0.here hexec rfl (hb hbytes d0) rfl ?_
    exact Steps.refl _)
  obtain ⟨T3, B3, X3, ba3, bs3, bv3, bh3, bf3, st3⟩ := X0.anew hexec (atype := .byte) (wk W (.arrayClass .byte)) rfl (by show len * 1 ≤ _; omega) (by omega) (g := (mkF m 1 #[.val (.ref b), .val (.int (Int32.ofNat o)), .val (.int (Int32.ofNat len)), .unset, .unset, .unset] [.int (Int32.ofNat len)])) rfl (hb hbytes d1) (rest := []) rfl (Nat.le_refl _) (by show 0 + len ≤ len; omega)
  rw [hh0] at ba3 st3
  have kp3 : XT.Kept s T3 := (XT.Kept.of_eq hh0).push bh3
  have hA3 := hA.keep X3.warmed.alike (kp3 _ _ hA.1.1)
  have hne : b ≠ s.heap.size := hA.1.ne
  have c4 : Steps p.tables e below (s₁.setTop (entryFrame m #[.ref b, .int (Int32.ofNat o), .int (Int32.ofNat len)] 6)) (T3.setTop (mkF m 3 #[.val (.ref b), .val (.int (Int32.ofNat o)), .val (.int (Int32.ofNat len)), .unset, .unset, .unset] [.ref s.heap.size])) := c2.trans (st3 _ (Steps.refl _))
  have c5 : Steps p.tables e below (s₁.setTop (entryFrame m #[.ref b, .int (Int32.ofNat o), .int (Int32.ofNat len)] 6)) (T3.setTop (mkF m 9 #[.val (.ref b), .val (.int (Int32.ofNat o)), .val (.int (Int32.ofNat len)), .val (.ref s.heap.size), .unset, .unset] [.int (Int32.ofNat len), .int 0, .ref s.heap.size, .int (Int32.ofNat o), .ref b])) := c4.trans (by
    refine XS.astoreN X3.here hexec rfl (hb hbytes d3) rfl rfl rfl ?_
    refine XS.aloadN X3.here hexec rfl (hb hbytes d4) rfl rfl ?_
    refine XS.iloadN X3.here hexec rfl (hb hbytes d5) rfl ?_
    refine XS.aloadN X3.here hexec rfl (hb hbytes d6) rfl rfl ?_
    refine iconstV X3.here hexec rfl 0 (hb hbytes d7) (by decide) ?_
    refine XS.iloadN X3.here hexec rfl (hb hbytes d8) rfl ?_
    exact Steps.refl _)
  obtain ⟨v6, T6, X6, E6, g6⟩ := X3.callS hexec (Cmp5.law l b A s.heap.size B3 o 0 len) hown (wks W (staticW U16 115 Cmp5.yN)) (wk W Cmp5.tab) (W := 0) (Nat.le_of_ble_eq_true rfl) (Nat.le_of_ble_eq_true rfl) (Nat.le_refl _) (by show 0 + len + 0 ≤ len; omega) (g := (mkF m 9 #[.val (.ref b), .val (.int (Int32.ofNat o)), .val (.int (Int32.ofNat len)), .val (.ref s.heap.size), .unset, .unset] [.int (Int32.ofNat len), .int (Int32.ofNat 0), .ref s.heap.size, .int (Int32.ofNat o), .ref b])) rfl (by rw [hml]; rfl) c5 (argsL := [.ref b, .int (Int32.ofNat o), .ref s.heap.size, .int (Int32.ofNat 0), .int (Int32.ofNat len)]) (rest := []) rfl rfl (by show 2 * 0 + 0 ≤ _; decide) (hb hbytes d9) (⟨rfl, hA3, ba3, hne, l1, by rw [bs3]; simp, hp⟩)
  obtain ⟨rfl, B6, p6, f6⟩ := E6
  have c7 : Steps p.tables e below (s₁.setTop (entryFrame m #[.ref b, .int (Int32.ofNat o), .int (Int32.ofNat len)] 6)) (T6.setTop (mkF m 12 #[.val (.ref b), .val (.int (Int32.ofNat o)), .val (.int (Int32.ofNat len)), .val (.ref s.heap.size), .unset, .unset] [.int (Int32.ofNat len)])) := g6
  have c8 : Steps p.tables e below (s₁.setTop (entryFrame m #[.ref b, .int (Int32.ofNat o), .int (Int32.ofNat len)] 6)) (T6.setTop (mkF m 58 #[.val (.ref b), .val (.int (Int32.ofNat o)), .val (.int (Int32.ofNat len)), .val (.ref s.heap.size), .val (.int (Int32.ofNat len)), .unset] [.ref s.heap.size])) := c7.trans (by
    refine XS.istore X6.here hexec rfl (hb hbytes d12) rfl rfl ?_
    refine XS.iload X6.here hexec rfl (hb hbytes d14) rfl ?_
    refine XS.iloadN X6.here hexec rfl (hb hbytes d16) rfl ?_
    refine XS.icmpYes X6.here hexec rfl (pc0 := 17) rfl (hb hbytes d17) rfl (ii_eq_t rfl) (by decide) rfl ?_
    refine XS.aloadN X6.here hexec rfl (hb hbytes d57) rfl rfl ?_
    exact Steps.refl _)
  have X8 := X6.wide (L' := []) (cells' := 1) (slots' := len) (fun x hx hlt => by
    simp only [List.nil_append, copyLocs, List.mem_map, List.mem_range] at hx
    obtain ⟨i, -, rfl⟩ := hx
    exact absurd hlt (Nat.lt_irrefl _)) (Nat.le_refl _) (by omega)
  exact ⟨T6, some (.ref s.heap.size), _, _, _, X8, rfl, rfl, rfl, (fun h => by cases h), ⟨⟨rfl, B6, ba3.like (X3.warmed.alike.symm.trans X6.warmed.alike) p6.1 f6.1 f6.2.1 f6.2.2.1, f6.2.1.trans bv3, by rw [X6.warmed.alike.findClass, f6.1]; exact bf3, by rw [f6.2.2.1, bs3]; simp, fun j hj => by rw [f6.2.2.2 j, if_pos (by omega)]; rfl, kp3.put p6 (Nat.le_refl _)⟩, by rw [p6.2.2, bh3, hh0]; simp⟩, fun fs hl => c8.trans (X8.areturnOut hexec rfl hret rfl (hb hbytes d58) hl)⟩
end Cmp3
namespace CodL
def yN : MethodName := ⟨"java/lang/StringUTF16", "coderFromArrayLen", "([BI)B"⟩
abbrev yB : ByteArray := jdk_52_method_15_code
theorem d0 : decode yB 0 = .ok (.iload_n 1, 1) := by decide +kernel
theorem d1 : decode yB 1 = .ok (.aload_n 0, 1) := by decide +kernel
theorem d2 : decode yB 2 = .ok (.arraylength, 1) := by decide +kernel
theorem d3 : decode yB 3 = .ok (.isub, 1) := by decide +kernel
theorem d4 : decode yB 4 = .ok (.bipush 31, 2) := by decide +kernel
theorem d6 : decode yB 6 = .ok (.iushr, 1) := by decide +kernel
theorem d7 : decode yB 7 = .ok (.i2b, 1) := by decide +kernel
theorem d8 : decode yB 8 = .ok (.ireturn, 1) := by decide +kernel
def site : List Cond := []
def tab : Cond := tabOf yN yB 2 (some .byte) site
def P (d : Addr) (B : Cell) (args : Array Value) (s : State) : Prop := args = #[.ref d, .int (Int32.ofNat B.slots.size)] ∧ Arr .byte d B s
def E (r : Option Value) (s u : State) : Prop := XT.PureE (some (.int 0)) r s u
/-- an array as long as the number of chars: LATIN1 -/
theorem law (l : Launch) (d : Addr) (B : Cell) : Law l yN 2 2 0 0 yB 2 (some .byte) site (P d B) E [] 0 0 := by
  refine Law.of_walk (plainFor_of_name (by decide +kernel)) (by decide +kernel) (by decide +kernel) (by decide) (fun _ _ h => by rw [h.1]; rfl) (fun _ U U' hal hh h => ⟨h.1, h.2.mv hal hh⟩) (fun r U U' V V' h1 hal h2 h => XT.PureE.mv r U U' V V' h1 hal h2 h) ?_
  intro p e s m args below meth c s₁ X0 hexec hbytes hml hret hlk hnm hown hh0 W hP
  obtain ⟨rfl, hB⟩ := hP
  have hB0 := hB.mv X0.warmed.alike hh0
  have c1 : Steps p.tables e below (s₁.setTop (entryFrame m #[.ref d, .int (Int32.ofNat B.slots.size)] 2)) (s₁.setTop (mkF m 0 #[.val (.ref d), .val (.int (Int32.ofNat B.slots.size))] [])) := entry rfl
  have c2 : Steps p.tables e below (s₁.setTop (entryFrame m #[.ref d, .int (Int32.ofNat B.slots.size)] 2)) (s₁.setTop (mkF m 2 #[.val (.ref d), .val (.int (Int32.ofNat B.slots.size))] [.ref d, .int (Int32.ofNat B.slots.size)])) := c1.trans (by
    refine XS.iloadN X0.here hexec rfl (hb hbytes d0) rfl ?_
    refine XS.aloadN X0.here hexec rfl (hb hbytes d1) rfl rfl ?_
    exact Steps.refl _)
  have c3 : Steps p.tables e below (s₁.setTop (entryFrame m #[.ref d, .int (Int32.ofNat B.slots.size)] 2)) (s₁.setTop (mkF m 8 #[.val (.ref d), .val (.int (Int32.ofNat B.slots.size))] [.int (lo8 (ushr (Int32.ofNat B.slots.size - Int32.ofNat B.slots.size) 31))])) := c2.trans (by
    refine X0.alen hexec hB0 rfl rfl (hb hbytes d2) ?_
    refine XS.isub X0.here hexec rfl (hb hbytes d3) rfl ?_
    refine bipushV X0.here hexec rfl 31 (hb hbytes d4) (by decide) ?_
    refine iushr X0.here hexec rfl (hb hbytes d6) rfl ?_
    refine i2b X0.here hexec rfl (hb hbytes d7) rfl ?_
    exact Steps.refl _)
  have e0 : lo8 (ushr (Int32.ofNat B.slots.size - Int32.ofNat B.slots.size) 31) = 0 := by rw [Int32.sub_self]; decide
  rw [e0] at c3
  exact ⟨s₁, some (.int 0), _, _, _, X0, rfl, rfl, rfl, (fun h => by cases h), ⟨rfl, hh0⟩, fun fs hl => c3.trans (X0.ireturnOut hexec hret rfl (Or.inr (Or.inr (Or.inl rfl))) (hb hbytes d8) hl)⟩
end CodL
/-- the String at a is Latin-1 over a new byte[] (the heap's one new cell): the low bytes of the len chars of A from o on; every cell but a is kept -/
def Got (a : Addr) (D : Cell) (fV fC : Field) (A : Cell) (o len : Nat) (r : Option Value) (s u : State) : Prop := r = none ∧ ∃ D' V : Cell, Blank "java/lang/String" a D' u ∧ Same D D' [fV.slot, fC.slot] ∧ D'.slots[fV.slot]? = some (.ref s.heap.size) ∧ D'.slots[fC.slot]? = some (.int 0) ∧ Arr .byte s.heap.size V u ∧ V.vm = .none ∧ u.vm.findClass "[B" = some V.cls ∧ V.slots.size = len ∧ (∀ j, j < len → V.slots[j]? = some (.int (lo8 (cv A (o + j))))) ∧ (∀ (y : Addr) (c : Cell), y ≠ a → s.heap[y]? = some c → u.heap[y]? = some c) ∧ u.heap.size = s.heap.size + 1
theorem Got.mv {a : Addr} {D A : Cell} {fV fC : Field} {o len : Nat} : ∀ r (U U' V V' : State), U'.heap = U.heap → V.vm.Alike V'.vm → V'.heap = V.heap → Got a D fV fC A o len r U V → Got a D fV fC A o len r U' V' :=
  fun r U U' V V' h1 hal h2 ⟨e0, D', X, a1, a2, a3, a4, a5, a6, a7, a8, a9, a10, a11⟩ => ⟨e0, D', X, a1.mv hal h2, a2, by rw [h1]; exact a3, a4, by rw [h1]; exact a5.mv hal h2, a6, by rw [hal.findClass]; exact a7, a8, a9, by rw [h1, h2]; exact a10, by rw [h1, h2]; exact a11⟩
namespace New4
def yN : MethodName := ⟨"java/lang/String", "<init>", "([CIILjava/lang/Void;)V"⟩
abbrev yB : ByteArray := jdk_42_method_149_code
theorem d0 : decode yB 0 = .ok (.aload_n 0, 1) := by decide +kernel
theorem d1 : decode yB 1 = .ok (.invokespecial 1, 3) := by decide +kernel
theorem d4 : decode yB 4 = .ok (.iload_n 3, 1) := by decide +kernel
theorem d5 : decode yB 5 = .ok (.ifCond (.ne) 22, 3) := by decide +kernel
theorem d27 : decode yB 27 = .ok (.getstatic 38, 3) := by decide +kernel
theorem d30 : decode yB 30 = .ok (.ifCond (.eq) 28, 3) := by decide +kernel
theorem d33 : decode yB 33 = .ok (.aload_n 1, 1) := by decide +kernel
theorem d34 : decode yB 34 = .ok (.iload_n 2, 1) := by decide +kernel
theorem d35 : decode yB 35 = .ok (.iload_n 3, 1) := by decide +kernel
theorem d36 : decode yB 36 = .ok (.invokestatic 177, 3) := by decide +kernel
theorem d39 : decode yB 39 = .ok (.astore 5, 2) := by decide +kernel
theorem d41 : decode yB 41 = .ok (.aload_n 0, 1) := by decide +kernel
theorem d42 : decode yB 42 = .ok (.aload 5, 2) := by decide +kernel
theorem d44 : decode yB 44 = .ok (.iload_n 3, 1) := by decide +kernel
theorem d45 : decode yB 45 = .ok (.invokestatic 47, 3) := by decide +kernel
theorem d48 : decode yB 48 = .ok (.putfield 15, 3) := by decide +kernel
theorem d51 : decode yB 51 = .ok (.aload_n 0, 1) := by decide +kernel
theorem d52 : decode yB 52 = .ok (.aload 5, 2) := by decide +kernel
theorem d54 : decode yB 54 = .ok (.putfield 9, 3) := by decide +kernel
theorem d57 : decode yB 57 = .ok (.return_, 1) := by decide +kernel
def site : List Cond := [.fieldLink "java/lang/String" 38 "java/lang/String" "COMPACT_STRINGS" "Z", Cmp3.tab, CodL.tab, .laysFinal "java/lang/String" "java/lang/String" "value" "[B", .fieldLink "java/lang/String" 9 "java/lang/String" "value" "[B", .laysFinal "java/lang/String" "java/lang/String" "coder" "B", .fieldLink "java/lang/String" 15 "java/lang/String" "coder" "B"] ++ objW "java/lang/String" 1 ++ staticW "java/lang/String" 177 Cmp3.yN ++ staticW "java/lang/String" 47 CodL.yN
def tab : Cond := tabOf yN yB 6 none site
def P (a : Addr) (D : Cell) (fV fC : Field) (b : Addr) (A : Cell) (z : Int32) (o len : Nat) (args : Array Value) (s : State) : Prop := args = #[.ref a, .ref b, .int (Int32.ofNat o), .int (Int32.ofNat len), .null] ∧ Blank "java/lang/String" a D s ∧ Found "java/lang/String" "value" "[B" fV s ∧ Found "java/lang/String" "coder" "B" fC s ∧ Ch b A s ∧ StaticIs s "java/lang/String" "COMPACT_STRINGS" "Z" (.int z) ∧ ¬ z = 0 ∧ 0 < len ∧ o + len ≤ A.slots.size ∧ len ≤ 536870912 ∧ ∀ i, i < len → ¬ 255 < cv A (o + i)
def E (a : Addr) (D : Cell) (fV fC : Field) (A : Cell) (o len : Nat) (r : Option Value) (s u : State) : Prop := Got a D fV fC A o len r s u
/-- len > 0, no char of the range above 255: a Latin-1 String of their low bytes -/
theorem law (l : Launch) (a : Addr) (D : Cell) (fV fC : Field) (b : Addr) (A : Cell) (z : Int32) (o len : Nat) : Law l yN 5 4 2 35 yB 6 none site (P a D fV fC b A z o len) (E a D fV fC A o len) [⟨a, fC.slot⟩, ⟨a, fV.slot⟩] 1 len := by
  refine Law.of_walk (plainFor_of_name (by decide +kernel)) (by decide +kernel) (by decide +kernel) (by decide) (fun _ _ h => by rw [h.1]; rfl) (fun _ U U' hal hh h => ⟨h.1, h.2.1.mv hal hh, h.2.2.1.al hal, h.2.2.2.1.al hal, h.2.2.2.2.1.mv hal hh, h.2.2.2.2.2.1.there hal hh, h.2.2.2.2.2.2⟩) (fun r U U' V V' h1 hal h2 h => Got.mv r U U' V V' h1 hal h2 h) ?_
  intro p e s m args below meth c s₁ X0 hexec hbytes hml hret hlk hnm hown hh0 W hP
  obtain ⟨rfl, hB, f1, f2, hA, s1, hz, l0, l1, l2, hp⟩ := hP
  have a31 := hA.1.2.2.2
  have c1 : Steps p.tables e below (s₁.setTop (entryFrame m #[.ref a, .ref b, .int (Int32.ofNat o), .int (Int32.ofNat len), .null] 6)) (s₁.setTop (mkF m 0 #[.val (.ref a), .val (.ref b), .val (.int (Int32.ofNat o)), .val (.int (Int32.ofNat len)), .val .null, .unset] [])) := entry rfl
  have c2 : Steps p.tables e below (s₁.setTop (entryFrame m #[.ref a, .ref b, .int (Int32.ofNat o), .int (Int32.ofNat len), .null] 6)) (s₁.setTop (mkF m 1 #[.val (.ref a), .val (.ref b), .val (.int (Int32.ofNat o)), .val (.int (Int32.ofNat len)), .val .null, .unset] [.ref a])) := c1.trans (by
    refine XS.aloadN X0.here hexec rfl (hb hbytes d0) rfl rfl ?_
    exact Steps.refl _)
  obtain ⟨T3, X3, q3, st3⟩ := X0.oinit hexec hown (wks W (objW "java/lang/String" 1)) (g := (mkF m 1 #[.val (.ref a), .val (.ref b), .val (.int (Int32.ofNat o)), .val (.int (Int32.ofNat len)), .val .null, .unset] [.ref a])) rfl (by rw [hml]; rfl) (rest := []) rfl (hb hbytes d1) (W := 0) (by show 2 * 0 + 0 ≤ _; decide) (Nat.le_of_ble_eq_true rfl) (Nat.le_of_ble_eq_true rfl)
  have hh3 := q3.trans hh0
  have c4 : Steps p.tables e below (s₁.setTop (entryFrame m #[.ref a, .ref b, .int (Int32.ofNat o), .int (Int32.ofNat len), .null] 6)) (T3.setTop (mkF m 27 #[.val (.ref a), .val (.ref b), .val (.int (Int32.ofNat o)), .val (.int (Int32.ofNat len)), .val .null, .unset] [])) := (c2.trans (st3 _ (Steps.refl _))).trans (by
    refine XS.iloadN X3.here hexec rfl (hb hbytes d4) rfl ?_
    refine XS.ifYes X3.here hexec rfl (pc0 := 5) rfl (hb hbytes d5) rfl (i0_ne_t (nz32 (by omega) l0)) (by decide) rfl ?_
    exact Steps.refl _)
  obtain ⟨T5, X5, q5, st5⟩ := X3.sget hexec hown (wk W (.fieldLink "java/lang/String" 38 "java/lang/String" "COMPACT_STRINGS" "Z")) s1 (fun _ _ h => by rw [hh3]; exact h) (g := (mkF m 27 #[.val (.ref a), .val (.ref b), .val (.int (Int32.ofNat o)), .val (.int (Int32.ofNat len)), .val .null, .unset] [])) rfl (hb hbytes d27)
  have hh5 := q5.trans hh3
  have c6 : Steps p.tables e below (s₁.setTop (entryFrame m #[.ref a, .ref b, .int (Int32.ofNat o), .int (Int32.ofNat len), .null] 6)) (T5.setTop (mkF m 30 #[.val (.ref a), .val (.ref b), .val (.int (Int32.ofNat o)), .val (.int (Int32.ofNat len)), .val .null, .unset] [.int z])) := c4.trans (st5 _ (Steps.refl _))
  have c7 : Steps p.tables e below (s₁.setTop (entryFrame m #[.ref a, .ref b, .int (Int32.ofNat o), .int (Int32.ofNat len), .null] 6)) (T5.setTop (mkF m 36 #[.val (.ref a), .val (.ref b), .val (.int (Int32.ofNat o)), .val (.int (Int32.ofNat len)), .val .null, .unset] [.int (Int32.ofNat len), .int (Int32.ofNat o), .ref b])) := c6.trans (by
    refine XS.ifNo X5.here hexec rfl (hb hbytes d30) rfl (i0_eq_f hz) ?_
    refine XS.aloadN X5.here hexec rfl (hb hbytes d33) rfl rfl ?_
    refine XS.iloadN X5.here hexec rfl (hb hbytes d34) rfl ?_
    refine XS.iloadN X5.here hexec rfl (hb hbytes d35) rfl ?_
    exact Steps.refl _)
  obtain ⟨v8, T8, X8, E8, g8⟩ := X5.callS hexec (Cmp3.law l b A o len) hown (wks W (staticW "java/lang/String" 177 Cmp3.yN)) (wk W Cmp3.tab) (W := 0) (Nat.le_of_ble_eq_true rfl) (Nat.le_of_ble_eq_true rfl) (Nat.le_refl _) (by show 0 + len ≤ len; omega) (g := (mkF m 36 #[.val (.ref a), .val (.ref b), .val (.int (Int32.ofNat o)), .val (.int (Int32.ofNat len)), .val .null, .unset] [.int (Int32.ofNat len), .int (Int32.ofNat o), .ref b])) rfl (by rw [hml]; rfl) c7 (argsL := [.ref b, .int (Int32.ofNat o), .int (Int32.ofNat len)]) (rest := []) rfl rfl (by show 2 * 0 + 0 ≤ _; decide) (hb hbytes d36) (⟨rfl, hA.mv X5.warmed.alike hh5, l1, l2, hp⟩)
  obtain ⟨e8, z8⟩ := E8
  obtain ⟨rfl, N, n1, n2, n3, n4, n5, n6⟩ := NewArr.mv _ T5 s _ _ hh5.symm (Vm.Alike.refl _) rfl e8
  rw [hh5] at z8
  have hB1 := hB.keep X8.warmed.alike (n6 _ _ hB.1)
  have hne : s.heap.size ≠ a := (Nat.ne_of_lt (Array.getElem?_eq_some_iff.mp hB.1).1).symm
  have c9 : Steps p.tables e below (s₁.setTop (entryFrame m #[.ref a, .ref b, .int (Int32.ofNat o), .int (Int32.ofNat len), .null] 6)) (T8.setTop (mkF m 39 #[.val (.ref a), .val (.ref b), .val (.int (Int32.ofNat o)), .val (.int (Int32.ofNat len)), .val .null, .unset] [.ref s.heap.size])) := g8
  have c10 : Steps p.tables e below (s₁.setTop (entryFrame m #[.ref a, .ref b, .int (Int32.ofNat o), .int (Int32.ofNat len), .null] 6)) (T8.setTop (mkF m 45 #[.val (.ref a), .val (.ref b), .val (.int (Int32.ofNat o)), .val (.int (Int32.ofNat len)), .val .null, .val (.ref s.heap.size)] [.int (Int32.ofNat N.slots.size), .ref s.heap.size, .ref a])) := by
    have hc : Steps p.tables e below (s₁.setTop (entryFrame m #[.ref a, .ref b, .int (Int32.ofNat o), .int (Int32.ofNat len), .null] 6)) (T8.setTop (mkF m 45 #[.val (.ref a), .val (.ref b), .val (.int (Int32.ofNat o)), .val (.int (Int32.ofNat len)), .val .null, .val (.ref s.heap.size)] [.int (Int32.ofNat len), .ref s.heap.size, .ref a])) := c9.trans (by
      refine XS.astore X8.here hexec rfl (hb hbytes d39) rfl rfl rfl ?_
      refine XS.aloadN X8.here hexec rfl (hb hbytes d41) rfl rfl ?_
      refine XS.aload X8.here hexec rfl (hb hbytes d42) rfl rfl ?_
      refine XS.iloadN X8.here hexec rfl (hb hbytes d44) rfl ?_
      exact Steps.refl _)
    rw [n4]; exact hc
  obtain ⟨v11, T11, X11, E11, g11⟩ := X8.callS hexec (CodL.law l s.heap.size N) hown (wks W (staticW "java/lang/String" 47 CodL.yN)) (wk W CodL.tab) (W := 1) (Nat.le_of_ble_eq_true rfl) (Nat.le_of_ble_eq_true rfl) (Nat.le_refl _) (by show 0 + len + 0 ≤ len; omega) (g := (mkF m 45 #[.val (.ref a), .val (.ref b), .val (.int (Int32.ofNat o)), .val (.int (Int32.ofNat len)), .val .null, .val (.ref s.heap.size)] [.int (Int32.ofNat N.slots.size), .ref s.heap.size, .ref a])) rfl (by rw [hml]; rfl) c10 (argsL := [.ref s.heap.size, .int (Int32.ofNat N.slots.size)]) (rest := [.ref a]) rfl rfl (by show 2 * 0 + (1 + 0) ≤ _; decide) (hb hbytes d45) (⟨rfl, n1⟩)
  obtain ⟨rfl, q11⟩ := E11
  have hB11 := hB1.mv (X8.warmed.alike.symm.trans X11.warmed.alike) q11
  have c12 : Steps p.tables e below (s₁.setTop (entryFrame m #[.ref a, .ref b, .int (Int32.ofNat o), .int (Int32.ofNat len), .null] 6)) (T11.setTop (mkF m 48 #[.val (.ref a), .val (.ref b), .val (.int (Int32.ofNat o)), .val (.int (Int32.ofNat len)), .val .null, .val (.ref s.heap.size)] [.int 0, .ref a])) := g11
  obtain ⟨T13, X13, p13, bl13, sl13, st13⟩ := X11.finit hexec hown (wk W (.fieldLink "java/lang/String" 15 "java/lang/String" "coder" "B")) (Or.inr ⟨_, (wk W (.laysFinal "java/lang/String" "java/lang/String" "coder" "B"))⟩) (Or.inl ⟨rfl, hnm⟩) f2 (Or.inl rfl) hB11 (t := .byte) (by decide +kernel) rfl (g := (mkF m 48 #[.val (.ref a), .val (.ref b), .val (.int (Int32.ofNat o)), .val (.int (Int32.ofNat len)), .val .null, .val (.ref s.heap.size)] [.int 0, .ref a])) rfl (rest := []) rfl (hb hbytes d48)
  have c14 : Steps p.tables e below (s₁.setTop (entryFrame m #[.ref a, .ref b, .int (Int32.ofNat o), .int (Int32.ofNat len), .null] 6)) (T13.setTop (mkF m 54 #[.val (.ref a), .val (.ref b), .val (.int (Int32.ofNat o)), .val (.int (Int32.ofNat len)), .val .null, .val (.ref s.heap.size)] [.ref s.heap.size, .ref a])) := (c12.trans (st13 _ (Steps.refl _))).trans (by
    refine XS.aloadN X13.here hexec rfl (hb hbytes d51) rfl rfl ?_
    refine XS.aload X13.here hexec rfl (hb hbytes d52) rfl rfl ?_
    exact Steps.refl _)
  obtain ⟨T15, X15, p15, bl15, sl15, st15⟩ := X13.finit hexec hown (wk W (.fieldLink "java/lang/String" 9 "java/lang/String" "value" "[B")) (Or.inr ⟨_, (wk W (.laysFinal "java/lang/String" "java/lang/String" "value" "[B"))⟩) (Or.inl ⟨rfl, hnm⟩) f1 (Or.inl rfl) bl13 (t := (.array .byte)) (by decide +kernel) rfl (g := (mkF m 54 #[.val (.ref a), .val (.ref b), .val (.int (Int32.ofNat o)), .val (.int (Int32.ofNat len)), .val .null, .val (.ref s.heap.size)] [.ref s.heap.size, .ref a])) rfl (rest := []) rfl (hb hbytes d54)
  have c16 : Steps p.tables e below (s₁.setTop (entryFrame m #[.ref a, .ref b, .int (Int32.ofNat o), .int (Int32.ofNat len), .null] 6)) (T15.setTop (mkF m 57 #[.val (.ref a), .val (.ref b), .val (.int (Int32.ofNat o)), .val (.int (Int32.ofNat len)), .val .null, .val (.ref s.heap.size)] [])) := c14.trans (st15 _ (Steps.refl _))
  have ap := apart (Or.inr ⟨_, (wk W (.laysFinal "java/lang/String" "java/lang/String" "value" "[B"))⟩) (Or.inr ⟨_, (wk W (.laysFinal "java/lang/String" "java/lang/String" "coder" "B"))⟩) f1 f2 (t₁ := .array .byte) (t₂ := .byte) (by decide +kernel) (by decide +kernel) (by decide)
  have al := X8.warmed.alike.symm.trans X15.warmed.alike
  have n7 : T11.heap[s.heap.size]? = some N := by rw [q11]; exact n1.1
  exact ⟨T15, none, _, _, _, X15, by simp, rfl, by omega, (fun _ => rfl), ⟨rfl, _, N, bl15, ((Same.refl D _).set _ (by simp)).set _ (by simp), sl15, (Cell.slots_setSlot_ne _ ap).trans sl13, n1.keep al (p15.other hne (p13.other hne n7)), n2, by rw [al.findClass]; exact n3, n4, n5, fun y c h1 h2 => p15.other h1 (p13.other h1 (by rw [q11]; exact n6 y c h2)), by rw [p15.2.2, p13.2.2, q11]; exact z8⟩, fun fs hl => c16.trans (X15.returnOut hexec hret (hb hbytes d57) hl)⟩
end New4
namespace New1
def yN : MethodName := ⟨"java/lang/String", "<init>", "([C)V"⟩
abbrev yB : ByteArray := jdk_42_method_3_code
theorem d0 : decode yB 0 = .ok (.aload_n 0, 1) := by decide +kernel
theorem d1 : decode yB 1 = .ok (.aload_n 1, 1) := by decide +kernel
theorem d2 : decode yB 2 = .ok (.iconst 0, 1) := by decide +kernel
theorem d3 : decode yB 3 = .ok (.aload_n 1, 1) := by decide +kernel
theorem d4 : decode yB 4 = .ok (.arraylength, 1) := by decide +kernel
theorem d5 : decode yB 5 = .ok (.aconst_null, 1) := by decide +kernel
theorem d6 : decode yB 6 = .ok (.invokespecial 27, 3) := by decide +kernel
theorem d9 : decode yB 9 = .ok (.return_, 1) := by decide +kernel
def site : List Cond := [New4.tab] ++ initW "java/lang/String" 27 New4.yN
def tab : Cond := tabOf yN yB 2 none site
def P (a : Addr) (D : Cell) (fV fC : Field) (b : Addr) (A : Cell) (z : Int32) (args : Array Value) (s : State) : Prop := args = #[.ref a, .ref b] ∧ Blank "java/lang/String" a D s ∧ Found "java/lang/String" "value" "[B" fV s ∧ Found "java/lang/String" "coder" "B" fC s ∧ Ch b A s ∧ StaticIs s "java/lang/String" "COMPACT_STRINGS" "Z" (.int z) ∧ ¬ z = 0 ∧ 0 < A.slots.size ∧ A.slots.size ≤ 536870912 ∧ ∀ i, i < A.slots.size → ¬ 255 < cv A i
def E (a : Addr) (D : Cell) (fV fC : Field) (A : Cell) (r : Option Value) (s u : State) : Prop := Got a D fV fC A 0 A.slots.size r s u
/-- new String(chars), not empty, no char above 255: a Latin-1 String of their low bytes -/
theorem law (l : Launch) (a : Addr) (D : Cell) (fV fC : Field) (b : Addr) (A : Cell) (z : Int32) : Law l yN 2 1 3 52 yB 2 none site (P a D fV fC b A z) (E a D fV fC A) [⟨a, fC.slot⟩, ⟨a, fV.slot⟩] 1 A.slots.size := by
  refine Law.of_walk (plainFor_of_name (by decide +kernel)) (by decide +kernel) (by decide +kernel) (by decide) (fun _ _ h => by rw [h.1]; rfl) (fun _ U U' hal hh h => ⟨h.1, h.2.1.mv hal hh, h.2.2.1.al hal, h.2.2.2.1.al hal, h.2.2.2.2.1.mv hal hh, h.2.2.2.2.2.1.there hal hh, h.2.2.2.2.2.2⟩) (fun r U U' V V' h1 hal h2 h => Got.mv r U U' V V' h1 hal h2 h) ?_
  intro p e s m args below meth c s₁ X0 hexec hbytes hml hret hlk hnm hown hh0 W hP
  obtain ⟨rfl, hB, f1, f2, hA, s1, hz, l0, l2, hp⟩ := hP
  have c1 : Steps p.tables e below (s₁.setTop (entryFrame m #[.ref a, .ref b] 2)) (s₁.setTop (mkF m 0 #[.val (.ref a), .val (.ref b)] [])) := entry rfl
  have c2 : Steps p.tables e below (s₁.setTop (entryFrame m #[.ref a, .ref b] 2)) (s₁.setTop (mkF m 6 #[.val (.ref a), .val (.ref b)] [.null, .int (Int32.ofNat A.slots.size), .int 0, .ref b, .ref a])) := c1.trans (by
    refine XS.aloadN X0.here hexec rfl (hb hbytes d0) rfl rfl ?_
    refine XS.aloadN X0.here hexec rfl (hb hbytes d1) rfl rfl ?_
    refine iconstV X0.here hexec rfl 0 (hb hbytes d2) (by decide) ?_
    refine XS.aloadN X0.here hexec rfl (hb hbytes d3) rfl rfl ?_
    refine X0.alen hexec (hA.1.mv X0.warmed.alike hh0) rfl rfl (hb hbytes d4) ?_
    refine XS.aconstNull X0.here hexec rfl (hb hbytes d5) ?_
    exact Steps.refl _)
  obtain ⟨v3, T3, X3, E3, g3⟩ := X0.callN hexec (New4.law l a D fV fC b A z 0 A.slots.size) rfl hown (wks W (initW "java/lang/String" 27 New4.yN)) (W New4.tab (by simp only [site, List.mem_cons, List.mem_append, true_or, or_true])) (W := 0) (Nat.le_of_ble_eq_true rfl) (Nat.le_of_ble_eq_true rfl) (Nat.le_refl _) (by show 0 + A.slots.size ≤ A.slots.size; omega) (g := (mkF m 6 #[.val (.ref a), .val (.ref b)] [.null, .int (Int32.ofNat A.slots.size), .int (Int32.ofNat 0), .ref b, .ref a])) rfl (by rw [hml]; rfl) c2 (argsL := [.ref b, .int (Int32.ofNat 0), .int (Int32.ofNat A.slots.size), .null]) (rest := []) rfl rfl (by show 2 * 0 + 0 ≤ _; decide) (hb hbytes d6) (⟨rfl, hB.mv X0.warmed.alike hh0, f1.al X0.warmed.alike, f2.al X0.warmed.alike, hA.mv X0.warmed.alike hh0, s1.there X0.warmed.alike hh0, hz, l0, by omega, l2, fun i hi => by rw [Nat.zero_add]; exact hp i hi⟩)
  have e0 := Got.mv _ s₁ s _ _ hh0.symm (Vm.Alike.refl _) rfl E3
  obtain rfl := e0.1
  have c4 : Steps p.tables e below (s₁.setTop (entryFrame m #[.ref a, .ref b] 2)) (T3.setTop (mkF m 9 #[.val (.ref a), .val (.ref b)] [])) := g3
  exact ⟨T3, none, _, _, _, X3, by simp, rfl, by omega, (fun _ => rfl), e0, fun fs hl => c4.trans (X3.returnOut hexec hret (hb hbytes d9) hl)⟩
theorem pays {l : Launch} {R : Room} {p : Program} {e : Env} {below : List Frame} {s : State} {sargs : Array Value} {len W : Nat} (a : Addr) (D : Cell) (fV fC : Field) (b : Addr) (A : Cell) (z : Int32) (htab : tab.before sargs s = true) (hfr : 4 ≤ R.frames) (hlo : W + 65 ≤ R.locals) :
    Back l R p e below s sargs yN len W (fun A₁ a₁ => A₁.cells + 1 ≤ R.cells ∧ A₁.slots + A.slots.size ≤ R.slots ∧ P a D fV fC b A z a₁ A₁.U) (fun A₁ _ v₁ B₁ => E a D fV fC A v₁ A₁.U B₁.U ∧ B₁.locs = A₁.locs ++ [⟨a, fC.slot⟩, ⟨a, fV.slot⟩] ∧ B₁.cells = A₁.cells + 1 ∧ B₁.slots = A₁.slots + A.slots.size) :=
  (law l a D fV fC b A z).pays htab hfr (by omega)
end New1
/-- the byte, read back as charAt reads it, is the char -/
theorem lo8_mask {x : Int32} (h0 : ¬ x < 0) (h1 : ¬ 255 < x) : lo8 x &&& 255 = x := by
  have t : ∀ k : Fin 256, lo8 (Int32.ofNat k.val) &&& 255 = Int32.ofNat k.val := by decide +kernel
  rw [Int32.lt_iff_toInt_lt] at h0 h1
  have e0 : (0 : Int32).toInt = 0 := rfl
  have e1 : (255 : Int32).toInt = 255 := rfl
  obtain ⟨k, hk⟩ : ∃ k : Nat, x.toInt = k := ⟨x.toInt.toNat, by omega⟩
  have hx : x = Int32.ofNat k := Int32.toInt_inj.mp (by rw [hk, Int32.toInt_ofNat_small (by omega)])
  rw [hx]
  exact t ⟨k, by omega⟩
end StrChars
namespace StrChars.Road
open Jvm Sem ClassFile Op Lib Jvm.Stand Jvm.Free Jvm.Free.XT
open Jvm.Lib.Cold (StaticIs)
abbrev ST : String := "java/lang/String"
/-- every table word that New1's law asks, flat -/
abbrev words : List Jvm.Cond := [.code New1.yN New1.yB 2 none, .initialized ST, .methodLink ST 27 New4.yN, .instanceMethod New4.yN,
  .code New4.yN New4.yB 6 none, .fieldLink ST 38 ST "COMPACT_STRINGS" "Z", .laysFinal ST ST "value" "[B", .fieldLink ST 9 ST "value" "[B", .laysFinal ST ST "coder" "B", .fieldLink ST 15 ST "coder" "B",
  .methodLink ST 1 Lib.objectInit, .instanceMethod Lib.objectInit, .code Lib.objectInit ⟨#[0xb1]⟩ 1 none, .methodLink ST 177 Cmp3.yN, .static Cmp3.yN, .methodLink ST 47 CodL.yN, .static CodL.yN,
  .code Cmp3.yN Cmp3.yB 6 (some (.array .byte)), .initialized U16, .arrayClass .byte, .methodLink U16 115 Cmp5.yN, .static Cmp5.yN, .code Cmp5.yN Cmp5.yB 7 (some .int), .code CodL.yN CodL.yB 2 (some .byte)]
theorem tab_of {a : Array Value} {s : State} (h : ∀ w ∈ words, w.before a s = true) : New1.tab.before a s = true := by
  have h5 : Cmp5.tab.before a s = true := unparts (wk h (.code Cmp5.yN Cmp5.yB 7 (some .int))) (wks h (.initialized Cmp5.yN.cls :: Cmp5.site))
  have hc : CodL.tab.before a s = true := unparts (wk h (.code CodL.yN CodL.yB 2 (some .byte))) (wks h (.initialized CodL.yN.cls :: CodL.site))
  have q5 : ∀ w ∈ Cmp5.tab :: words, w.before a s = true := fun w hw => (List.mem_cons.mp hw).elim (fun e => e ▸ h5) (h w)
  have h3 : Cmp3.tab.before a s = true := unparts (wk q5 (.code Cmp3.yN Cmp3.yB 6 (some (.array .byte)))) (wks q5 (.initialized Cmp3.yN.cls :: Cmp3.site))
  have q3 : ∀ w ∈ Cmp3.tab :: CodL.tab :: words, w.before a s = true := fun w hw => (List.mem_cons.mp hw).elim (fun e => e ▸ h3) fun hw => (List.mem_cons.mp hw).elim (fun e => e ▸ hc) (h w)
  have h4 : New4.tab.before a s = true := unparts (wk q3 (.code New4.yN New4.yB 6 none)) (wks q3 (.initialized New4.yN.cls :: New4.site))
  have q4 : ∀ w ∈ New4.tab :: words, w.before a s = true := fun w hw => (List.mem_cons.mp hw).elim (fun e => e ▸ h4) (h w)
  exact unparts (wk q4 (.code New1.yN New1.yB 2 none)) (wks q4 (.initialized New1.yN.cls :: New1.site))
/-- the words ride from the start Z to the walk's own state -/
theorem moved {Z s : State} {a0 args : Array Value} (hZ : Z.Warmed39 s.vm) (hw : ∀ d ∈ words, d.before a0 Z = true) : ∀ d ∈ words, d.before args s = true := fun d hd => by
  have q := hw d hd
  have t : ∀ d ∈ words, d = .arrayClass .byte ∨ (d.onTables && d.keepsFace) = true := by decide +kernel
  rcases t d hd with rfl | t
  · exact RoadKit.mvA hZ q
  · exact RoadKit.mv hZ q t
/-- WHAT COMES BACK, over the tables of the start Z: h the heap at the call, h' behind it -/
def Q (Z : State) (x : Addr) (A : Cell) (h : Heap) (v : Option Value) (h' : Heap) (L : List Loc) : Prop := v = none ∧ (∀ y ∈ L, y.base = x) ∧ RoadKit.Keep h h' [x] ∧ h'.size = h.size + 1 ∧ RoadKit.Exa Z h' x ST ∧ RoadKit.Fld Z h' x ST "value" "[B" (.ref h.size) ∧ RoadKit.Fld Z h' x ST "coder" "B" (.int 0) ∧
  (∃ V : Cell, RoadKit.Arr Z h' h.size V .byte ∧ V.vm = .none ∧ Z.vm.findClass "[B" = some V.cls ∧ V.slots.size = A.slots.size ∧ ∀ j, j < A.slots.size → V.slots[j]? = some (.int (lo8 (cv A j)))) ∧
  ∀ (O n d : String) (w : Value), RoadKit.Fld Z h x O n d w → RoadKit.slotOf Z O n d ≠ RoadKit.slotOf Z ST "value" "[B" → RoadKit.slotOf Z O n d ≠ RoadKit.slotOf Z ST "coder" "B" → RoadKit.Fld Z h' x O n d w
/-- **new String(chars) AT A CALL, IN THE ROAD'S FORM**: for specialBack behind newO: x the fresh String, b the char[] with the cell A -/
theorem back {p : Program} {l : Launch} {e : Env} {R : Room} {s : State} {args : Array Value} {below : List Frame} {len W : Nat} {Z : State} {a0 : Array Value} {h : Heap} (hZ : Z.Warmed39 s.vm) (hw : ∀ d ∈ words, d.before a0 Z = true) {kI : Nat} (wi : (Jvm.Cond.instantiable ST kI).before a0 Z = true)
    {x b : Addr} {A : Cell} {z : Int32} {v0 c0 : Value} (E : RoadKit.Exa Z h x ST) (V : RoadKit.Fld Z h x ST "value" "[B" v0) (C : RoadKit.Fld Z h x ST "coder" "B" c0) (K : RoadKit.Arr Z h b A .char) (hty : Typed .char A) (S : RoadKit.Sta Z h ST "COMPACT_STRINGS" "Z" (.int z)) (hz : ¬ z = 0)
    (l0 : 0 < A.slots.size) (l2 : A.slots.size ≤ 536870912) (hp : ∀ i, i < A.slots.size → ¬ 255 < cv A i) (hfr : 4 ≤ R.frames) (hlo : W + 65 ≤ R.locals) :
    Back l R p e below s args New1.yN len W (fun P a => a = #[.ref x, .ref b] ∧ P.U.heap = h ∧ P.cells + 1 ≤ R.cells ∧ P.slots + A.slots.size ≤ R.slots)
      (fun P _ v B => ∃ L, Q Z x A h v B.U.heap L ∧ B.locs = P.locs ++ L ∧ B.cells = P.cells + 1 ∧ B.slots = P.slots + A.slots.size) := by
  intro m meth c P g ig mk a X hg hsize hdg hW hn hp'
  obtain ⟨rfl, rfl, r1, r2⟩ := hp'
  have al : Z.vm.Alike P.U.vm := hZ.alike.trans X.warmed.alike
  obtain ⟨D, cfV, kV, iV, fV, hD, gV, stV, knV, obV, asV, slV⟩ := id V
  obtain ⟨D', cfC, kC, iC, fC, hD', gC, stC, -, -, asC, slC⟩ := id C
  cases hD.symm.trans hD'
  obtain ⟨D2, kD, e1, e2, e3, e4, e5⟩ := id E
  cases hD.symm.trans e1
  obtain ⟨c2, k2, i1, i2, i3, -⟩ := Cond.instantiable_spec wi
  cases e2.symm.trans i1
  cases e3.symm.trans i2
  obtain ⟨kU, u1, u2⟩ := al.2.2 _ _ e3
  have hB : Blank ST x D P.U := ⟨hD, ⟨knV, fun q hq => by rw [hq] at obV; cases obV⟩, by rw [al.findClass]; exact e2, kU, u1, by rw [u2]; exact i3, by rw [u2]; exact e5 i3⟩
  have F1 : Found ST "value" "[B" fV P.U := ⟨SBG.found_only al ⟨cfV, kV, iV, gV⟩, stV⟩
  have F2 : Found ST "coder" "B" fC P.U := ⟨SBG.found_only al ⟨cfC, kC, iC, gC⟩, stC⟩
  have hA : Ch b A P.U := ⟨⟨K.1, State.isArrayOf_alike al K.2.1, K.2.2, by omega⟩, hty⟩
  have hS : StaticIs P.U ST "COMPACT_STRINGS" "Z" (.int z) := by
    obtain ⟨cfS, iS, kS, fS, st, cS, t1, t2, t3, t4, t5, t6, t7⟩ := S
    exact StaticIs.there (s := { Z with heap := P.U.heap }) ⟨cfS, iS, kS, fS, st, cS, t1, t2, t3, t4, t5, (fun q => by rw [q] at t6; cases t6), t7⟩ al rfl
  obtain ⟨v, B, X', ⟨⟨hv, E', V', q1, q2, q3, q4, q5, q6, q7, q8, q9, q10, q11⟩, hl, hc, hs⟩, st⟩ := New1.pays x D fV fC b A z (tab_of (moved hZ hw)) hfr hlo m meth c P g ig mk _ X hg hsize hdg hW hn ⟨r1, r2, rfl, hB, F1, F2, hA, hS, hz, l0, l2, hp⟩
  have al' : Z.vm.Alike B.U.vm := hZ.alike.trans X'.warmed.alike
  have hsz : E'.slots.size = D.slots.size := by
    obtain ⟨-, -, -, kB, w1, w2, w3⟩ := q1
    obtain ⟨kB', y1, y2⟩ := al'.2.2 _ _ e3
    rw [q2.2.1] at w1
    cases w1.symm.trans y1
    rw [w3, e5 i3, y2]
  refine ⟨v, B, X', ⟨_, ⟨hv, ?_, ⟨by omega, fun y cy hy hn' => q10 y cy (by simpa using hn') hy, fun y cy hy => ?_⟩, q11, ⟨E', _, q1.1, by rw [q2.2.1]; exact e2, by rw [q2.2.1]; exact e3, by rw [q2.1]; exact obV, fun _ => by rw [hsz]; exact e5 i3⟩,
    ⟨E', cfV, kV, iV, fV, q1.1, gV, stV, by rw [q2.1]; exact knV, by rw [q2.1]; exact obV, by rw [q2.2.1]; exact asV, q3⟩, ⟨E', cfC, kC, iC, fC, q1.1, gC, stC, by rw [q2.1]; exact knV, by rw [q2.1]; exact obV, by rw [q2.2.1]; exact asC, q4⟩,
    ⟨V', ⟨q5.1, State.isArrayOf_alike al'.symm q5.2.1, q5.2.2.1⟩, q6, by rw [← al'.findClass]; exact q7, q8, fun j hj => by have := q9 j hj; rwa [Nat.zero_add] at this⟩, fun O n d w F n1 n2 => ?_⟩, hl, hc, hs⟩, st⟩
  · intro y hy
    simp only [List.mem_cons, List.not_mem_nil, or_false] at hy
    rcases hy with rfl | rfl <;> rfl
  · by_cases q : y = x
    · subst q
      cases hD.symm.trans hy
      exact ⟨E', q1.1, q2.2.1, q2.1, hsz⟩
    · exact ⟨cy, q10 y cy q hy, rfl, rfl, rfl⟩
  · obtain ⟨D3, cf, k, i, f, g1, g2, g3, g4, g5, g6, g7⟩ := F
    cases hD.symm.trans g1
    simp only [RoadKit.slotOf, g2, gV, gC, Option.map_some, Option.getD_some] at n1 n2
    exact ⟨E', cf, k, i, f, q1.1, g2, g3, by rw [q2.1]; exact g4, by rw [q2.1]; exact g5, by rw [q2.2.1]; exact g6, by rw [q2.2.2 f.slot (by simp [n1, n2])]; exact g7⟩
end StrChars.Road
namespace StrChars.Road
open Jvm Sem ClassFile Op Lib Jvm.Stand Jvm.Free Jvm.Free.XT
/-- WHAT COMES BACK, the byte[] as a list of values -/
def QA (Z : State) (x : Addr) (zn : Int32) (cs : List Int32) (h : Heap) (v : Option Value) (h' : Heap) (L : List Loc) : Prop := v = none ∧ (∀ y ∈ L, y.base = x) ∧ RoadKit.Keep h h' [x] ∧ h'.size = h.size + 1 ∧ RoadKit.Exa Z h' x ST ∧ RoadKit.Fld Z h' x ST "value" "[B" (.ref h.size) ∧ RoadKit.Fld Z h' x ST "coder" "B" (.int 0) ∧
  (∃ kb, Z.vm.findClass "[B" = some kb ∧ RoadKit.Arv Z h' h.size kb .byte zn (cs.map fun c => .int (lo8 c)) (.int 0)) ∧
  ∀ (O n d : String) (w : Value), RoadKit.Fld Z h x O n d w → RoadKit.slotOf Z O n d ≠ RoadKit.slotOf Z ST "value" "[B" → RoadKit.slotOf Z O n d ≠ RoadKit.slotOf Z ST "coder" "B" → RoadKit.Fld Z h' x O n d w
/-- **new String(chars) AT A CALL, THE ARRAYS AS LISTS**: the char[] at b holds cs, not empty, no char above 255 -/
theorem backArv {p : Program} {l : Launch} {e : Env} {R : Room} {s : State} {args : Array Value} {below : List Frame} {len W : Nat} {Z : State} {a0 : Array Value} {h : Heap} (hZ : Z.Warmed39 s.vm) (hw : ∀ d ∈ words, d.before a0 Z = true) {kI : Nat} (wi : (Jvm.Cond.instantiable ST kI).before a0 Z = true)
    {x b : Addr} {k : ClassId} {zn z : Int32} {cs : List Int32} {dv v0 c0 : Value} (E : RoadKit.Exa Z h x ST) (V : RoadKit.Fld Z h x ST "value" "[B" v0) (C : RoadKit.Fld Z h x ST "coder" "B" c0) (K : RoadKit.Arv Z h b k .char zn (cs.map Value.int) dv) (S : RoadKit.Sta Z h ST "COMPACT_STRINGS" "Z" (.int z)) (hz : ¬ z = 0)
    (hlen : zn.toNatClampNeg = cs.length) (h0 : 0 < cs.length) (hbig : cs.length ≤ 536870912) (hall : ∀ c ∈ cs, ¬ 255 < c) (hfr : 4 ≤ R.frames) (hlo : W + 65 ≤ R.locals) :
    Back l R p e below s args New1.yN len W (fun P a => a = #[.ref x, .ref b] ∧ P.U.heap = h ∧ P.cells + 1 ≤ R.cells ∧ P.slots + cs.length ≤ R.slots)
      (fun P _ v B => ∃ L, QA Z x zn cs h v B.U.heap L ∧ B.locs = P.locs ++ L ∧ B.cells = P.cells + 1 ∧ B.slots = P.slots + cs.length) := by
  obtain ⟨A, K1, K2, K3, K4, K5, K6⟩ := K
  have e : A.slots.size = cs.length := K3.trans hlen
  have hat : ∀ (i : Nat) (hi : i < cs.length), A.slots[i]? = some (.int cs[i]) := fun i hi => by rw [K5 i (by omega)]; simp [List.getD_eq_getElem?_getD, hi]
  have hcv : ∀ (i : Nat) (hi : i < cs.length), cv A i = cs[i] := fun i hi => by unfold cv; rw [hat i hi]
  have hty : Typed .char A := fun i v hv => by
    have hi : i < A.slots.size := (Array.getElem?_eq_some_iff.mp hv).1
    have q := K5 i hi
    rw [hv] at q
    rw [Option.some.inj q]
    exact K6 i hi
  refine Back.mono (back hZ hw wi E V C K1 hty S hz (by omega) (by omega) (fun i hi => by rw [hcv i (by omega)]; exact hall _ (List.getElem_mem _)) hfr hlo) (fun P a hp => ⟨hp.1, hp.2.1, hp.2.2.1, by rw [e]; exact hp.2.2.2⟩) (fun P a v B hp hq => ?_)
  obtain ⟨L, ⟨q1, q2, q3, q4, q5, q6, q7, ⟨V', v1, v2, v3, v4, v5⟩, q9⟩, hl, hc, hs⟩ := hq
  refine ⟨L, ⟨q1, q2, q3, q4, q5, q6, q7, ⟨V'.cls, v3, V', v1, rfl, by rw [v4, e, hlen], K4, fun i hi => ?_, fun i hi => ?_⟩, q9⟩, hl, hc, by rw [hs, e]⟩
  · have hi' : i < cs.length := by omega
    rw [v5 i (by omega), hcv i hi']; simp [List.getD_eq_getElem?_getD, hi']
  · have hi' : i < cs.length := by omega
    simp only [List.getD_eq_getElem?_getD, List.getElem?_map, List.getElem?_eq_getElem hi', Option.map_some, Option.getD_some]
    exact fits_lo8 _
end StrChars.Road
namespace StrChars.Road
open Jvm Sem ClassFile Op Lib Jvm.Stand Jvm.Free Jvm.Free.XT
/-- WHAT COMES BACK, in the writer's own shape -/
def QV (Z : State) (x : Addr) (N : Int32) (bs : List Int32) (h : Heap) (n0 : Nat) (v : Option Value) (h' : Heap) (L : List Loc) : Prop := v = none ∧ RoadKit.Fr n0 L ∧ RoadKit.Keep h h' [x] ∧ RoadKit.Exa Z h' x ST ∧ RoadKit.Fld Z h' x ST "coder" "B" (.int 0) ∧
  ∃ (t : Addr) (kb : ClassId), n0 ≤ t ∧ h.size ≤ t ∧ ¬ t = x ∧ RoadKit.Fld Z h' x ST "value" "[B" (.ref t) ∧ RoadKit.Arv Z h' t kb .byte N (bs.map Value.int) (.int 0)
/-- **new String(chars) AT A CALL, FOR THE WRITER**: a char[] of n known ints, each 0 to 255 -/
theorem backV {p : Program} {l : Launch} {e : Env} {R : Room} {s : State} {args : Array Value} {below : List Frame} {len W : Nat} {Z : State} {a0 : Array Value} {h : Heap} (hZ : Z.Warmed39 s.vm) (hw : ∀ d ∈ words, d.before a0 Z = true) {kI : Nat} (wi : (Jvm.Cond.instantiable ST kI).before a0 Z = true)
    {x b : Addr} {kC : ClassId} {cs bs : List Int32} {d v0 c0 : Value} {z N : Int32} {n n0 : Nat} (hx0 : n0 ≤ x) (hh0 : n0 ≤ h.size) (E : RoadKit.Exa Z h x ST) (V : RoadKit.Fld Z h x ST "value" "[B" v0) (C : RoadKit.Fld Z h x ST "coder" "B" c0) (K : RoadKit.Arv Z h b kC .char N (cs.map Value.int) d) (S : RoadKit.Sta Z h ST "COMPACT_STRINGS" "Z" (.int z)) (hz : ¬ z = 0)
    (hn : cs.length = n) (hN : N = Int32.ofNat n) (l0 : 0 < n) (l2 : n ≤ 4000) (hp : ∀ c ∈ cs, ¬ c < 0 ∧ ¬ (255 : Int32) < c) (hb : bs = cs.map (fun c => c.toInt8.toInt32)) (hfr : 4 ≤ R.frames) (hlo : W + 65 ≤ R.locals) :
    Back l R p e below s args (⟨"java/lang/String", "<init>", "([C)V"⟩ : MethodName) len W (fun P a => a = #[.ref x, .ref b] ∧ P.U.heap = h ∧ P.cells + 1 ≤ R.cells ∧ P.slots + n ≤ R.slots)
      (fun P _ v B => ∃ L, QV Z x N bs h n0 v B.U.heap L ∧ B.locs = P.locs ++ L ∧ B.cells = P.cells + 1 ∧ B.slots = P.slots + n) := by
  subst hn hN hb
  refine Back.mono (backArv hZ hw wi E V C K S hz (n32 (by omega)) l0 (by omega) (fun c hc => (hp c hc).2) hfr hlo) (fun P a hp => hp) (fun P a v B hp hq => ?_)
  obtain ⟨L, ⟨q1, q2, q3, q4, q5, q6, q7, ⟨kb, v1, v2⟩, q9⟩, hl, hc, hs⟩ := hq
  exact ⟨L, ⟨q1, fun y hy => by rw [q2 y hy]; exact hx0, q3, q5, q7, h.size, kb, hh0, Nat.le_refl _, Nat.ne_of_gt E.lt, q6, by rw [List.map_map]; exact v2⟩, hl, hc, hs⟩
end StrChars.Road
namespace StrChars
open Jvm Sem ClassFile Op Lib Jvm.Stand Jvm.Free.XT Jvm.Free.ALB Jvm.Free.JM Jvm.Free
open Jvm.Lib.Cold (StaticIs)
def hi8 (x : Int32) : Int32 := lo8 (x >>> ((8 : Int32) &&& 31))
/-- what StringUTF16.getChar makes of two bytes -/
def pairCh (u v : Int32) : Int32 := (((u &&& 255) <<< ((0 : Int32) &&& 31)) ||| ((v &&& 255) <<< ((8 : Int32) &&& 31))).toUInt32.toUInt16.toUInt32.toInt32
theorem lo8_and (x : Int32) : (lo8 x &&& 255).toBitVec.toNat = x.toBitVec.toNat % 256 := by
  have h : (lo8 x).toBitVec = (x.toBitVec.signExtend 8).signExtend 32 := by rw [lo8, Int8.toBitVec_toInt32, Int32.toBitVec_toInt8]
  rw [Int32.toBitVec_and, BitVec.toNat_and, h]
  have e : ((x.toBitVec.signExtend 8).signExtend 32).toNat % 256 = x.toBitVec.toNat % 256 := by
    rw [BitVec.toNat_signExtend]
    have hlt := x.toBitVec.isLt
    simp only [BitVec.toNat_setWidth, BitVec.toNat_signExtend]
    split <;> split <;> omega
  rw [← e]
  exact Nat.and_two_pow_sub_one_eq_mod _ 8
theorem pair_says {c : Int32} (h0 : ¬ c < 0) (h1 : ¬ 65535 < c) : pairCh (lo8 c) (hi8 c) = c := by
  rw [Int32.lt_iff_toInt_lt] at h0 h1
  have e0 : (0 : Int32).toInt = 0 := rfl
  have e1 : (65535 : Int32).toInt = 65535 := rfl
  have hc : c.toInt = c.toBitVec.toNat := by
    have := c.toBitVec.isLt
    have e : c.toInt = c.toBitVec.toInt := rfl
    rw [e] at h0 h1
    rw [e]
    rw [BitVec.toInt_eq_toNat_cond] at h0 h1 ⊢
    split at h0 <;> split <;> omega
  have hn : c.toBitVec.toNat < 65536 := by omega
  have a1 := lo8_and c
  have a2 : (hi8 c &&& 255).toBitVec.toNat = c.toBitVec.toNat / 256 := by
    rw [hi8, lo8_and]
    have e : ((8 : Int32) &&& 31) = 8 := by decide
    rw [e, Int32.toBitVec_shiftRight]
    have e2 : ((8 : Int32).toBitVec.smod 32) = 8#32 := by decide
    rw [e2, BitVec.sshiftRight_eq', BitVec.toNat_sshiftRight_of_msb_false (by rw [BitVec.msb_eq_false_iff_two_mul_lt]; omega)]
    show c.toBitVec.toNat >>> 8 % 256 = _
    rw [Nat.shiftRight_eq_div_pow]
    omega
  unfold pairCh
  apply Int32.toBitVec_inj.mp
  apply BitVec.eq_of_toNat_eq
  have f0 : ((0 : Int32) &&& 31) = 0 := by decide
  have f8 : ((8 : Int32) &&& 31) = 8 := by decide
  rw [f0, f8]
  have g : (((lo8 c &&& 255) <<< (0 : Int32)) ||| ((hi8 c &&& 255) <<< (8 : Int32))).toBitVec.toNat = c.toBitVec.toNat := by
    rw [Int32.toBitVec_or, Int32.toBitVec_shiftLeft, Int32.toBitVec_shiftLeft]
    have s0 : ((0 : Int32).toBitVec.smod 32) = 0#32 := by decide
    have s8 : ((8 : Int32).toBitVec.smod 32) = 8#32 := by decide
    rw [s0, s8, BitVec.toNat_or]
    simp only [BitVec.shiftLeft_eq', BitVec.toNat_shiftLeft, a1, a2]
    show (c.toBitVec.toNat % 256) <<< 0 % 2 ^ 32 ||| (c.toBitVec.toNat / 256) <<< 8 % 2 ^ 32 = _
    rw [Nat.shiftLeft_zero, Nat.mod_eq_of_lt (show c.toBitVec.toNat % 256 < 2 ^ 32 by omega), Nat.mod_eq_of_lt (show (c.toBitVec.toNat / 256) <<< 8 < 2 ^ 32 by rw [Nat.shiftLeft_eq]; omega), Nat.or_comm, ← Nat.shiftLeft_add_eq_or_of_lt (by omega), Nat.shiftLeft_eq]
    omega
  show BitVec.toNat (((((lo8 c &&& 255) <<< (0 : Int32)) ||| ((hi8 c &&& 255) <<< (8 : Int32))).toBitVec.setWidth 16).setWidth 32) = _
  rw [BitVec.toNat_setWidth, BitVec.toNat_setWidth, g]
  omega
end StrChars
namespace StrChars
open Jvm Sem ClassFile Op Lib Jvm.Stand Jvm.Free.XT Jvm.Free.ALB Jvm.Free.JM Jvm.Free
open Jvm.Lib.Cold (StaticIs)
/-- the array's cell V codes the n chars f 0 .. f (n - 1) by the coder cd, as the JDK does: coder 1 just where some char is above 255 -/
def Cod (cd : Int32) (n : Nat) (f : Nat → Int32) (V : Cell) : Prop := (cd = 0 ∧ V.slots.size = n ∧ ∀ j, j < n → V.slots[j]? = some (.int (lo8 (f j))) ∧ ¬ 255 < f j) ∨ (cd = 1 ∧ V.slots.size = 2 * n ∧ (∀ j, j < n → V.slots[2 * j]? = some (.int (lo8 (f j))) ∧ V.slots[2 * j + 1]? = some (.int (hi8 (f j)))) ∧ ∃ j, j < n ∧ 255 < f j)
/-- **x is a String of the n chars f 0 .. f (n - 1)**, Latin-1 or UTF-16; its array at t has the cell V -/
def Txt (x t : Addr) (V : Cell) (cd : Int32) (n : Nat) (f : Nat → Int32) (U : State) : Prop := Exact "java/lang/String" x U ∧ Has x "java/lang/String" "value" "[B" (.ref t) U ∧ Has x "java/lang/String" "coder" "B" (.int cd) U ∧ XT.Arr .byte t V U ∧ Cod cd n f V ∧ ∀ j, j < n → ¬ f j < 0 ∧ ¬ 65535 < f j
theorem Txt.mv {x t : Addr} {V : Cell} {cd : Int32} {n : Nat} {f : Nat → Int32} {U U' : State} (h : Txt x t V cd n f U) (hal : U.vm.Alike U'.vm) (hh : U'.heap = U.heap) : Txt x t V cd n f U' := ⟨h.1.mv hal hh, h.2.1.mv hal hh, h.2.2.1.mv hal hh, h.2.2.2.1.mv hal hh, h.2.2.2.2⟩
end StrChars
namespace StrChars.Road
open Jvm Sem ClassFile Op Lib Jvm.Stand Jvm.Free Jvm.Free.XT
open Jvm.Lib.Cold (StaticIs)
theorem consq {a : Array Value} {s : State} {c : Jvm.Cond} {L : List Jvm.Cond} (h0 : c.before a s = true) (h : ∀ w ∈ L, w.before a s = true) : ∀ w ∈ c :: L, w.before a s = true := fun w hw => (List.mem_cons.mp hw).elim (fun e => e ▸ h0) (h w)
/-- the bytes of the chars cs, low before high -/
def wideBytes : List Int32 → List Value
  | [] => []
  | c :: cs => .int (lo8 c) :: .int (hi8 c) :: wideBytes cs
theorem wide_lo (d : Value) : ∀ (cs : List Int32) (j : Nat), j < cs.length → (wideBytes cs).getD (2 * j) d = .int (lo8 (cs.getD j 0))
  | [], j, h => absurd h (Nat.not_lt_zero j)
  | c :: cs, 0, _ => rfl
  | c :: cs, j + 1, h => by
    have q := wide_lo d cs j (by simpa using h)
    rw [show 2 * (j + 1) = 2 * j + 1 + 1 from by omega]
    simpa [wideBytes] using q
theorem wide_hi (d : Value) : ∀ (cs : List Int32) (j : Nat), j < cs.length → (wideBytes cs).getD (2 * j + 1) d = .int (hi8 (cs.getD j 0))
  | [], j, h => absurd h (Nat.not_lt_zero j)
  | c :: cs, 0, _ => rfl
  | c :: cs, j + 1, h => by
    have q := wide_hi d cs j (by simpa using h)
    rw [show 2 * (j + 1) + 1 = 2 * j + 1 + 1 + 1 from by omega]
    simpa [wideBytes] using q
theorem low_at (d : Value) (cs : List Int32) (j : Nat) (h : j < cs.length) : (cs.map fun c => Value.int (lo8 c)).getD j d = .int (lo8 (cs.getD j 0)) := by
  simp [List.getD_eq_getElem?_getD, h]
/-- an array of N2 bytes vs codes the chars cs by the coder cd -/
def CodA (cs : List Int32) (cd N2 : Int32) (vs : List Value) : Prop := (cd = 0 ∧ N2 = Int32.ofNat cs.length ∧ vs = (cs.map fun c => Value.int (lo8 c)) ∧ ∀ c ∈ cs, ¬ 255 < c) ∨ (cd = 1 ∧ N2 = Int32.ofNat (2 * cs.length) ∧ vs = wideBytes cs ∧ ∃ c ∈ cs, 255 < c)
theorem CodA.cod {cs : List Int32} {cd N2 : Int32} {vs : List Value} {V : Cell} (h : CodA cs cd N2 vs) (hn : 2 * cs.length < 2 ^ 31) (hs : V.slots.size = N2.toNatClampNeg) (hv : RoadKit.Has V vs (.int 0)) : Cod cd cs.length (fun j => cs.getD j 0) V := by
  rcases h with ⟨rfl, rfl, rfl, h⟩ | ⟨rfl, rfl, rfl, c, hc, hw⟩
  · rw [n32 (by omega)] at hs
    exact Or.inl ⟨rfl, hs, fun j hj => ⟨by rw [hv j (by omega), low_at _ _ _ hj], by
      have e : cs.getD j 0 = cs[j] := by simp [List.getD_eq_getElem?_getD, hj]
      show ¬ 255 < cs.getD j 0
      rw [e]; exact h _ (List.getElem_mem _)⟩⟩
  · rw [n32 (by omega)] at hs
    obtain ⟨j, hj, rfl⟩ := List.getElem_of_mem hc
    exact Or.inr ⟨rfl, hs, fun j hj => ⟨by rw [hv _ (by omega), wide_lo _ _ _ hj], by rw [hv _ (by omega), wide_hi _ _ _ hj]⟩, j, hj, by
      have e : cs.getD j 0 = cs[j] := by simp [List.getD_eq_getElem?_getD, hj]
      show 255 < cs.getD j 0
      rw [e]; exact hw⟩
/-- an object of exactly java/lang/String, its two fields found: as the laws ask it -/
theorem strObj {Z U : State} {a0 : Array Value} {kI : Nat} (wi : (Jvm.Cond.instantiable ST kI).before a0 Z = true) (al : Z.vm.Alike U.vm) {x : Addr} {v0 c0 : Value} (E : RoadKit.Exa Z U.heap x ST) (V : RoadKit.Fld Z U.heap x ST "value" "[B" v0) (C : RoadKit.Fld Z U.heap x ST "coder" "B" c0) :
    ∃ (D : Cell) (fV fC : Field), Blank ST x D U ∧ Found ST "value" "[B" fV U ∧ Found ST "coder" "B" fC U ∧ D.slots[fV.slot]? = some v0 ∧ D.slots[fC.slot]? = some c0 ∧ RoadKit.slotOf Z ST "value" "[B" = fV.slot ∧ RoadKit.slotOf Z ST "coder" "B" = fC.slot := by
  obtain ⟨D, cfV, kV, iV, fV, hD, gV, stV, knV, obV, asV, slV⟩ := V
  obtain ⟨D', cfC, kC, iC, fC, hD', gC, stC, -, -, asC, slC⟩ := C
  cases hD.symm.trans hD'
  obtain ⟨D2, kD, e1, e2, e3, e4, e5⟩ := E
  cases hD.symm.trans e1
  obtain ⟨c2, k2, i1, i2, i3, -⟩ := Cond.instantiable_spec wi
  cases e2.symm.trans i1
  cases e3.symm.trans i2
  obtain ⟨kU, u1, u2⟩ := al.2.2 _ _ e3
  exact ⟨D, fV, fC, ⟨hD, ⟨knV, fun q hq => by rw [hq] at obV; cases obV⟩, by rw [al.findClass]; exact e2, kU, u1, by rw [u2]; exact i3, by rw [u2]; exact e5 i3⟩, ⟨SBG.found_only al ⟨cfV, kV, iV, gV⟩, stV⟩, ⟨SBG.found_only al ⟨cfC, kC, iC, gC⟩, stC⟩, slV, slC, by simp [RoadKit.slotOf, gV], by simp [RoadKit.slotOf, gC]⟩
theorem sta_is {Z U : State} (al : Z.vm.Alike U.vm) {C n d : String} {v : Value} (S : RoadKit.Sta Z U.heap C n d v) : StaticIs U C n d v := by
  obtain ⟨cfS, iS, kS, fS, st, cS, t1, t2, t3, t4, t5, t6, t7⟩ := S
  exact StaticIs.there (s := { Z with heap := U.heap }) ⟨cfS, iS, kS, fS, st, cS, t1, t2, t3, t4, t5, (fun q => by rw [q] at t6; cases t6), t7⟩ al rfl
end StrChars.Road
namespace StrChars
open Jvm Sem ClassFile Op Lib Jvm.Stand Jvm.Free.XT Jvm.Free.ALB Jvm.Free.JM Jvm.Free
open Jvm.Lib.Cold (StaticIs)
/-- what place i of a byte[]'s cell holds -/
def yv (A : Cell) (i : Nat) : Int32 := match A.slots[i]? with | some (.int x) => x | _ => 0
theorem yv_get {a : Addr} {A : Cell} {U : State} (h : XT.Arr .byte a A U) (ht : Typed .byte A) {i : Nat} (hi : i < A.slots.size) : A.slots[i]? = some (.int (yv A i)) := by
  have e := Array.getElem?_eq_getElem hi
  have f := ht i _ e
  unfold yv; rw [e]
  generalize A.slots[i] = v at f
  cases v <;> simp [fits] at f ⊢
/-- the two arrays are equal, place for place -/
def EqC (A B : Cell) : Prop := A.slots.size = B.slots.size ∧ ∀ i, i < A.slots.size → yv A i = yv B i
/-- a boolean that says whether p -/
def Says01 (q : Prop) (r : Option Value) (s u : State) : Prop := ∃ v : Int32, r = some (.int v) ∧ u.heap = s.heap ∧ ((v = 1 ∧ q) ∨ (v = 0 ∧ ¬ q))
theorem Says01.mv {q : Prop} : ∀ r (U U' V V' : State), U'.heap = U.heap → V.vm.Alike V'.vm → V'.heap = V.heap → Says01 q r U V → Says01 q r U' V' :=
  fun r U U' V V' h1 _ h2 ⟨v, a, b, c⟩ => ⟨v, a, by rw [h1, h2]; exact b, c⟩
namespace LEq
def yN : MethodName := ⟨"java/lang/StringLatin1", "equals", "([B[B)Z"⟩
abbrev yB : ByteArray := jdk_43_method_13_code
theorem d0 : decode yB 0 = .ok (.aload_n 0, 1) := by decide +kernel
theorem d1 : decode yB 1 = .ok (.arraylength, 1) := by decide +kernel
theorem d2 : decode yB 2 = .ok (.aload_n 1, 1) := by decide +kernel
theorem d3 : decode yB 3 = .ok (.arraylength, 1) := by decide +kernel
theorem d4 : decode yB 4 = .ok (.if_icmp (.ne) 30, 3) := by decide +kernel
theorem d7 : decode yB 7 = .ok (.iconst 0, 1) := by decide +kernel
theorem d8 : decode yB 8 = .ok (.istore_n 2, 1) := by decide +kernel
theorem d9 : decode yB 9 = .ok (.iload_n 2, 1) := by decide +kernel
theorem d10 : decode yB 10 = .ok (.aload_n 0, 1) := by decide +kernel
theorem d11 : decode yB 11 = .ok (.arraylength, 1) := by decide +kernel
theorem d12 : decode yB 12 = .ok (.if_icmp (.ge) 20, 3) := by decide +kernel
theorem d15 : decode yB 15 = .ok (.aload_n 0, 1) := by decide +kernel
theorem d16 : decode yB 16 = .ok (.iload_n 2, 1) := by decide +kernel
theorem d17 : decode yB 17 = .ok (.baload, 1) := by decide +kernel
theorem d18 : decode yB 18 = .ok (.aload_n 1, 1) := by decide +kernel
theorem d19 : decode yB 19 = .ok (.iload_n 2, 1) := by decide +kernel
theorem d20 : decode yB 20 = .ok (.baload, 1) := by decide +kernel
theorem d21 : decode yB 21 = .ok (.if_icmp (.eq) 5, 3) := by decide +kernel
theorem d24 : decode yB 24 = .ok (.iconst 0, 1) := by decide +kernel
theorem d25 : decode yB 25 = .ok (.ireturn, 1) := by decide +kernel
theorem d26 : decode yB 26 = .ok (.iinc 2 1, 3) := by decide +kernel
theorem d29 : decode yB 29 = .ok (.goto (-20), 3) := by decide +kernel
theorem d32 : decode yB 32 = .ok (.iconst 1, 1) := by decide +kernel
theorem d33 : decode yB 33 = .ok (.ireturn, 1) := by decide +kernel
theorem d34 : decode yB 34 = .ok (.iconst 0, 1) := by decide +kernel
theorem d35 : decode yB 35 = .ok (.ireturn, 1) := by decide +kernel
def site : List Cond := []
def tab : Cond := tabOf yN yB 3 (some .boolean) site
def P (a : Addr) (A : Cell) (b : Addr) (B : Cell) (args : Array Value) (s : State) : Prop := args = #[.ref a, .ref b] ∧ XT.Arr .byte a A s ∧ Typed .byte A ∧ XT.Arr .byte b B s ∧ Typed .byte B
/-- whether two byte[] are equal, place for place -/
theorem law (l : Launch) (a : Addr) (A : Cell) (b : Addr) (B : Cell) : Law l yN 2 2 0 0 yB 3 (some .boolean) site (P a A b B) (Says01 (EqC A B)) [] 0 0 := by
  refine Law.of_walk (plainFor_of_name (by decide +kernel)) (by decide +kernel) (by decide +kernel) (by decide) (fun _ _ h => by rw [h.1]; rfl) (fun _ U U' hal hh h => ⟨h.1, h.2.1.mv hal hh, h.2.2.1, h.2.2.2.1.mv hal hh, h.2.2.2.2⟩) (fun r U U' V V' h1 hal h2 h => Says01.mv r U U' V V' h1 hal h2 h) ?_
  intro p e s m args below meth c s₁ X0 hexec hbytes hml hret hlk hnm hown hh0 W hP
  obtain ⟨rfl, hA, tA, hB, tB⟩ := hP
  have a31 := hA.2.2.2
  have b31 := hB.2.2.2
  have hA0 := hA.mv X0.warmed.alike hh0
  have hB0 := hB.mv X0.warmed.alike hh0
  have c1 : Steps p.tables e below (s₁.setTop (entryFrame m #[.ref a, .ref b] 3)) (s₁.setTop (mkF m 0 #[.val (.ref a), .val (.ref b), .unset] [])) := entry rfl
  have c2 : Steps p.tables e below (s₁.setTop (entryFrame m #[.ref a, .ref b] 3)) (s₁.setTop (mkF m 4 #[.val (.ref a), .val (.ref b), .unset] [.int (Int32.ofNat B.slots.size), .int (Int32.ofNat A.slots.size)])) := c1.trans (by
    refine XS.aloadN X0.here hexec rfl (hb hbytes d0) rfl rfl ?_
    refine X0.alen hexec hA0 rfl rfl (hb hbytes d1) ?_
    refine XS.aloadN X0.here hexec rfl (hb hbytes d2) rfl rfl ?_
    refine X0.alen hexec hB0 rfl rfl (hb hbytes d3) ?_
    exact Steps.refl _)
  by_cases hs : A.slots.size = B.slots.size
  · have c3 : Steps p.tables e below (s₁.setTop (entryFrame m #[.ref a, .ref b] 3)) (s₁.setTop (mkF m 9 #[.val (.ref a), .val (.ref b), .val (.int 0)] [])) := c2.trans (by
      refine XS.icmpNo X0.here hexec rfl (hb hbytes d4) rfl (ii_ne_f (by rw [hs])) ?_
      refine iconstV X0.here hexec rfl 0 (hb hbytes d7) (by decide) ?_
      refine XS.istoreN X0.here hexec rfl (hb hbytes d8) rfl rfl ?_
      exact Steps.refl _)
    have loop : ∀ (r i : Nat), i + r = A.slots.size → (∀ j, j < i → yv A j = yv B j) → Steps p.tables e below (s₁.setTop (entryFrame m #[.ref a, .ref b] 3)) (s₁.setTop (mkF m 9 #[.val (.ref a), .val (.ref b), .val (.int (Int32.ofNat i))] [])) → ∃ (pc : Nat) (Ls : Array Slot) (v : Int32), (pc = 25 ∨ pc = 33) ∧ ((v = 1 ∧ EqC A B) ∨ (v = 0 ∧ ¬ EqC A B)) ∧ Steps p.tables e below (s₁.setTop (entryFrame m #[.ref a, .ref b] 3)) (s₁.setTop (mkF m pc Ls [.int v])) := by
      intro r
      induction r with
      | zero =>
        intro i hi he cl
        exact ⟨33, _, 1, Or.inr rfl, Or.inl ⟨rfl, hs, fun j hj => he j (by omega)⟩, cl.trans (by
          refine XS.iloadN X0.here hexec rfl (hb hbytes d9) rfl ?_
          refine XS.aloadN X0.here hexec rfl (hb hbytes d10) rfl rfl ?_
          refine X0.alen hexec hA0 rfl rfl (hb hbytes d11) ?_
          refine XS.icmpYes X0.here hexec rfl (pc0 := 12) rfl (hb hbytes d12) rfl (ii_ge_t (nlt32 (by omega) (by omega))) (by decide) rfl ?_
          refine iconstV X0.here hexec rfl 1 (hb hbytes d32) (by decide) ?_
          exact Steps.refl _)⟩
      | succ r ih =>
        intro i hi he cl
        have c4 : Steps p.tables e below (s₁.setTop (entryFrame m #[.ref a, .ref b] 3)) (s₁.setTop (mkF m 21 #[.val (.ref a), .val (.ref b), .val (.int (Int32.ofNat i))] [.int (yv B i), .int (yv A i)])) := cl.trans (by
          refine XS.iloadN X0.here hexec rfl (hb hbytes d9) rfl ?_
          refine XS.aloadN X0.here hexec rfl (hb hbytes d10) rfl rfl ?_
          refine X0.alen hexec hA0 rfl rfl (hb hbytes d11) ?_
          refine XS.icmpNo X0.here hexec rfl (hb hbytes d12) rfl (ii_ge_f (lt32 (by omega) (by omega))) ?_
          refine XS.aloadN X0.here hexec rfl (hb hbytes d15) rfl rfl ?_
          refine XS.iloadN X0.here hexec rfl (hb hbytes d16) rfl ?_
          refine X0.aget hexec hA0 rfl (yv_get hA tA (i := i) (by omega)) rfl rfl (hb hbytes d17) ?_
          refine XS.aloadN X0.here hexec rfl (hb hbytes d18) rfl rfl ?_
          refine XS.iloadN X0.here hexec rfl (hb hbytes d19) rfl ?_
          refine X0.aget hexec hB0 rfl (yv_get hB tB (i := i) (by omega)) rfl rfl (hb hbytes d20) ?_
          exact Steps.refl _)
        by_cases hv : yv A i = yv B i
        · have c5 : Steps p.tables e below (s₁.setTop (entryFrame m #[.ref a, .ref b] 3)) (s₁.setTop (mkF m 9 #[.val (.ref a), .val (.ref b), .val (.int (Int32.ofNat i + 1))] [])) := c4.trans (by
            refine XS.icmpYes X0.here hexec rfl (pc0 := 21) rfl (hb hbytes d21) rfl (ii_eq_t hv) (by decide) rfl ?_
            refine iincV X0.here hexec rfl 1 (hb hbytes d26) (by decide) rfl rfl ?_
            refine XS.goto X0.here hexec rfl (pc0 := 29) rfl (hb hbytes d29) (by decide) rfl ?_
            exact Steps.refl _)
          rw [succ32] at c5
          exact ih (i + 1) (by omega) (fun j hj => by
            by_cases e : j = i
            · rw [e]; exact hv
            · exact he j (by omega)) c5
        · exact ⟨25, _, 0, Or.inl rfl, Or.inr ⟨rfl, fun q => hv (q.2 i (by omega))⟩, c4.trans (by
            refine XS.icmpNo X0.here hexec rfl (hb hbytes d21) rfl (ii_eq_f hv) ?_
            refine iconstV X0.here hexec rfl 0 (hb hbytes d24) (by decide) ?_
            exact Steps.refl _)⟩
    obtain ⟨pc, Ls, v, hpc, hv, cz⟩ := loop A.slots.size 0 (by omega) (fun j hj => absurd hj (Nat.not_lt_zero j)) c3
    have nv : narrow .boolean (.int v) = .int v := by rcases hv with ⟨rfl, -⟩ | ⟨rfl, -⟩ <;> rfl
    rcases hpc with rfl | rfl
    · exact ⟨s₁, some (.int v), _, _, _, X0, rfl, rfl, rfl, (fun h => by cases h), ⟨v, rfl, hh0, hv⟩, fun fs hl => cz.trans (X0.ireturnOut hexec hret nv (Or.inr (Or.inl rfl)) (hb hbytes d25) hl)⟩
    · exact ⟨s₁, some (.int v), _, _, _, X0, rfl, rfl, rfl, (fun h => by cases h), ⟨v, rfl, hh0, hv⟩, fun fs hl => cz.trans (X0.ireturnOut hexec hret nv (Or.inr (Or.inl rfl)) (hb hbytes d33) hl)⟩
  · have c3 : Steps p.tables e below (s₁.setTop (entryFrame m #[.ref a, .ref b] 3)) (s₁.setTop (mkF m 35 #[.val (.ref a), .val (.ref b), .unset] [.int 0])) := c2.trans (by
      refine XS.icmpYes X0.here hexec rfl (pc0 := 4) rfl (hb hbytes d4) rfl (ii_ne_t (ne32 a31 b31 hs)) (by decide) rfl ?_
      refine iconstV X0.here hexec rfl 0 (hb hbytes d34) (by decide) ?_
      exact Steps.refl _)
    exact ⟨s₁, some (.int 0), _, _, _, X0, rfl, rfl, rfl, (fun h => by cases h), ⟨0, rfl, hh0, Or.inr ⟨rfl, fun q => hs q.1⟩⟩, fun fs hl => c3.trans (X0.ireturnOut hexec hret rfl (Or.inr (Or.inl rfl)) (hb hbytes d35) hl)⟩
end LEq
theorem Cod.ty {cd : Int32} {n : Nat} {f : Nat → Int32} {V : Cell} (h : Cod cd n f V) : Typed .byte V := fun i v hv => by
  have hi : i < V.slots.size := (Array.getElem?_eq_some_iff.mp hv).1
  rcases h with ⟨-, k1, k2⟩ | ⟨-, k1, k2, -⟩
  · rw [(k2 i (by omega)).1] at hv; cases hv; exact fits_lo8 _
  · rcases Nat.mod_two_eq_zero_or_one i with e | e
    · obtain ⟨j, rfl⟩ : ∃ j, i = 2 * j := ⟨i / 2, by omega⟩
      rw [(k2 j (by omega)).1] at hv; cases hv; exact fits_lo8 _
    · obtain ⟨j, rfl⟩ : ∃ j, i = 2 * j + 1 := ⟨i / 2, by omega⟩
      rw [(k2 j (by omega)).2] at hv; cases hv; exact fits_lo8 _
/-- the same text -/
def SameT (n : Nat) (f : Nat → Int32) (k : Nat) (g : Nat → Int32) : Prop := n = k ∧ ∀ j, j < n → f j = g j
theorem lo8_inj {x y : Int32} (h0 : ¬ x < 0) (h1 : ¬ 255 < x) (k0 : ¬ y < 0) (k1 : ¬ 255 < y) (h : lo8 x = lo8 y) : x = y := by
  rw [← lo8_mask h0 h1, ← lo8_mask k0 k1, h]
/-- arrays coded by one coder are equal just where the texts are -/
theorem Cod.eqv {cd : Int32} {n k : Nat} {f g : Nat → Int32} {V V' : Cell} (h : Cod cd n f V) (h' : Cod cd k g V') (hf : ∀ j, j < n → ¬ f j < 0 ∧ ¬ 65535 < f j) (hg : ∀ j, j < k → ¬ g j < 0 ∧ ¬ 65535 < g j) : EqC V V' ↔ SameT n f k g := by
  have yvv : ∀ {W : Cell} {i : Nat} {x : Int32}, W.slots[i]? = some (.int x) → yv W i = x := fun q => by unfold yv; rw [q]
  rcases h with ⟨rfl, k1, k2⟩ | ⟨rfl, k1, k2, -⟩
  · rcases h' with ⟨-, m1, m2⟩ | ⟨e, -⟩
    · constructor
      · rintro ⟨e1, e2⟩
        refine ⟨by omega, fun j hj => ?_⟩
        have q := e2 j (by omega)
        rw [yvv (k2 j hj).1, yvv (m2 j (by omega)).1] at q
        exact lo8_inj (hf j hj).1 (k2 j hj).2 (hg j (by omega)).1 (m2 j (by omega)).2 q
      · rintro ⟨rfl, e2⟩
        refine ⟨by omega, fun j hj => ?_⟩
        rw [yvv (k2 j (by omega)).1, yvv (m2 j (by omega)).1, e2 j (by omega)]
    · exact absurd e (by decide)
  · rcases h' with ⟨e, -⟩ | ⟨-, m1, m2, -⟩
    · exact absurd e (by decide)
    · constructor
      · rintro ⟨e1, e2⟩
        refine ⟨by omega, fun j hj => ?_⟩
        have q1 := e2 (2 * j) (by omega)
        have q2 := e2 (2 * j + 1) (by omega)
        rw [yvv (k2 j hj).1, yvv (m2 j (by omega)).1] at q1
        rw [yvv (k2 j hj).2, yvv (m2 j (by omega)).2] at q2
        rw [← pair_says (hf j hj).1 (hf j hj).2, ← pair_says (hg j (by omega)).1 (hg j (by omega)).2, q1, q2]
      · rintro ⟨rfl, e2⟩
        refine ⟨by omega, fun i hi => ?_⟩
        rcases Nat.mod_two_eq_zero_or_one i with e | e
        · obtain ⟨j, rfl⟩ : ∃ j, i = 2 * j := ⟨i / 2, by omega⟩
          rw [yvv (k2 j (by omega)).1, yvv (m2 j (by omega)).1, e2 j (by omega)]
        · obtain ⟨j, rfl⟩ : ∃ j, i = 2 * j + 1 := ⟨i / 2, by omega⟩
          rw [yvv (k2 j (by omega)).2, yvv (m2 j (by omega)).2, e2 j (by omega)]
/-- two codings differ: so do the texts -/
theorem Cod.dif {cd cd' : Int32} {n k : Nat} {f g : Nat → Int32} {V V' : Cell} (h : Cod cd n f V) (h' : Cod cd' k g V') (hne : ¬ cd = cd') : ¬ SameT n f k g := by
  rintro ⟨rfl, e⟩
  rcases h with ⟨rfl, -, k2⟩ | ⟨rfl, -, -, j, hj, hw⟩
  · rcases h' with ⟨rfl, -⟩ | ⟨-, -, -, j, hj, hw⟩
    · exact hne rfl
    · exact (k2 j hj).2 (by rw [e j hj]; exact hw)
  · rcases h' with ⟨-, -, m2⟩ | ⟨rfl, -⟩
    · exact (m2 j hj).2 (by rw [← e j hj]; exact hw)
    · exact hne rfl
/-- an object of exactly C is an instance of C -/
theorem cinst {p : Program} {l : Launch} {e : Env} {R : Room} {s : State} {m : MethodId} {args : Array Value} {below : List Frame} {meth : Method} {c : Code} {T : State} {locs : List Loc} {cells slots : Nat} (X : Stand p l e R s m args below meth c T locs cells slots) (hexec : p.tables.exec = Jvm.exec) {own C : String} {index : Nat} (hown : s.vm.findClass own = some m.cls) (hlink : (Cond.classLink own index C).before args s = true) {a : Addr} (hE : Exact C a T)
    {g : JFrame} (hg : g.method = m) {rest : List Value} (hstack : g.stack = .ref a :: rest) (hdg : decode c.code g.pc = .ok (.instanceof index, 3)) :
    ∃ T', Stand p l e R s m args below meth c T' locs cells slots ∧ T'.heap = T.heap ∧ ∀ target, Steps p.tables e below (T'.setTop { g with pc := g.pc + 3, stack := .int 1 :: rest }) target → Steps p.tables e below (T.setTop g) target := by
  obtain ⟨cB, h1, D, h2, h3, h4⟩ := hE
  have h1' : s.vm.findClass C = some cB := by rw [← X.warmed.alike.findClass]; exact h1
  obtain ⟨vm', X', st⟩ := X.instanceofYes hexec hown hlink h2 h4 h1' (by rw [h3]; exact Jvm.Free.SB.assignable_self _ _) hg hstack hdg
  exact ⟨_, X', rfl, st⟩
theorem cself {p : Program} {l : Launch} {e : Env} {R : Room} {s : State} {m : MethodId} {args : Array Value} {below : List Frame} {meth : Method} {c : Code} {T : State} {locs : List Loc} {cells slots : Nat} (X : Stand p l e R s m args below meth c T locs cells slots) (hexec : p.tables.exec = Jvm.exec) {own C : String} {index : Nat} (hown : s.vm.findClass own = some m.cls) (hlink : (Cond.classLink own index C).before args s = true) {a : Addr} (hE : Exact C a T)
    {g : JFrame} (hg : g.method = m) {rest : List Value} (hstack : g.stack = .ref a :: rest) (hdg : decode c.code g.pc = .ok (.checkcast index, 3)) :
    ∃ T', Stand p l e R s m args below meth c T' locs cells slots ∧ T'.heap = T.heap ∧ ∀ target, Steps p.tables e below (T'.setTop { g with pc := g.pc + 3, stack := .ref a :: rest }) target → Steps p.tables e below (T.setTop g) target := by
  obtain ⟨cB, h1, D, h2, h3, h4⟩ := hE
  have h1' : s.vm.findClass C = some cB := by rw [← X.warmed.alike.findClass]; exact h1
  obtain ⟨vm', X', st⟩ := X.checkcastYes hexec hown hlink h2 h4 h1' (by rw [h3]; exact Jvm.Free.SB.assignable_self _ _) hg hstack hdg
  exact ⟨_, X', rfl, fun t h => st t (by rw [← hstack] at h; exact h)⟩
namespace SEq
def yN : MethodName := ⟨"java/lang/String", "equals", "(Ljava/lang/Object;)Z"⟩
abbrev yB : ByteArray := jdk_42_method_66_code
theorem d0 : decode yB 0 = .ok (.aload_n 0, 1) := by decide +kernel
theorem d1 : decode yB 1 = .ok (.aload_n 1, 1) := by decide +kernel
theorem d2 : decode yB 2 = .ok (.if_acmp (.ne) 5, 3) := by decide +kernel
theorem d5 : decode yB 5 = .ok (.iconst 1, 1) := by decide +kernel
theorem d6 : decode yB 6 = .ok (.ireturn, 1) := by decide +kernel
theorem d7 : decode yB 7 = .ok (.aload_n 1, 1) := by decide +kernel
theorem d8 : decode yB 8 = .ok (.instanceof 10, 3) := by decide +kernel
theorem d11 : decode yB 11 = .ok (.ifCond (.eq) 43, 3) := by decide +kernel
theorem d14 : decode yB 14 = .ok (.aload_n 1, 1) := by decide +kernel
theorem d15 : decode yB 15 = .ok (.checkcast 10, 3) := by decide +kernel
theorem d18 : decode yB 18 = .ok (.astore_n 2, 1) := by decide +kernel
theorem d19 : decode yB 19 = .ok (.getstatic 38, 3) := by decide +kernel
theorem d22 : decode yB 22 = .ok (.ifCond (.eq) 14, 3) := by decide +kernel
theorem d25 : decode yB 25 = .ok (.aload_n 0, 1) := by decide +kernel
theorem d26 : decode yB 26 = .ok (.getfield 15, 3) := by decide +kernel
theorem d29 : decode yB 29 = .ok (.aload_n 2, 1) := by decide +kernel
theorem d30 : decode yB 30 = .ok (.getfield 15, 3) := by decide +kernel
theorem d33 : decode yB 33 = .ok (.if_icmp (.ne) 21, 3) := by decide +kernel
theorem d36 : decode yB 36 = .ok (.aload_n 0, 1) := by decide +kernel
theorem d37 : decode yB 37 = .ok (.getfield 9, 3) := by decide +kernel
theorem d40 : decode yB 40 = .ok (.aload_n 2, 1) := by decide +kernel
theorem d41 : decode yB 41 = .ok (.getfield 9, 3) := by decide +kernel
theorem d44 : decode yB 44 = .ok (.invokestatic 541, 3) := by decide +kernel
theorem d47 : decode yB 47 = .ok (.ifCond (.eq) 7, 3) := by decide +kernel
theorem d50 : decode yB 50 = .ok (.iconst 1, 1) := by decide +kernel
theorem d51 : decode yB 51 = .ok (.goto 4, 3) := by decide +kernel
theorem d54 : decode yB 54 = .ok (.iconst 0, 1) := by decide +kernel
theorem d55 : decode yB 55 = .ok (.ireturn, 1) := by decide +kernel
def site : List Cond := [.classLink "java/lang/String" 10 "java/lang/String", .fieldLink "java/lang/String" 38 "java/lang/String" "COMPACT_STRINGS" "Z", .fieldLink "java/lang/String" 15 "java/lang/String" "coder" "B", .fieldLink "java/lang/String" 9 "java/lang/String" "value" "[B", LEq.tab] ++ staticW "java/lang/String" 541 LEq.yN
def tab : Cond := tabOf yN yB 3 (some .boolean) site
def P (x t : Addr) (V : Cell) (cd : Int32) (n : Nat) (f : Nat → Int32) (y t' : Addr) (V' : Cell) (cd' : Int32) (k : Nat) (g : Nat → Int32) (z : Int32) (args : Array Value) (s : State) : Prop := args = #[.ref x, .ref y] ∧ Txt x t V cd n f s ∧ Txt y t' V' cd' k g s ∧ StaticIs s "java/lang/String" "COMPACT_STRINGS" "Z" (.int z) ∧ ¬ z = 0
/-- equals(Object) of two Strings: whether the texts are the same -/
theorem law (l : Launch) (x t : Addr) (V : Cell) (cd : Int32) (n : Nat) (f : Nat → Int32) (y t' : Addr) (V' : Cell) (cd' : Int32) (k : Nat) (g : Nat → Int32) (z : Int32) : Law l yN 2 1 1 14 yB 3 (some .boolean) site (P x t V cd n f y t' V' cd' k g z) (Says01 (SameT n f k g)) [] 0 0 := by
  refine Law.of_walk (plainFor_of_name (by decide +kernel)) (by decide +kernel) (by decide +kernel) (by decide) (fun _ _ h => by rw [h.1]; rfl) (fun _ U U' hal hh h => ⟨h.1, h.2.1.mv hal hh, h.2.2.1.mv hal hh, h.2.2.2.1.there hal hh, h.2.2.2.2⟩) (fun r U U' V V' h1 hal h2 h => Says01.mv r U U' V V' h1 hal h2 h) ?_
  intro p e s m args below meth c s₁ X0 hexec hbytes hml hret hlk hnm hown hh0 W hP
  obtain ⟨rfl, hx, hy, s1, hz⟩ := hP
  have c1 : Steps p.tables e below (s₁.setTop (entryFrame m #[.ref x, .ref y] 3)) (s₁.setTop (mkF m 2 #[.val (.ref x), .val (.ref y), .unset] [.ref y, .ref x])) := Steps.trans (entry rfl) (by
    show Steps p.tables e below (s₁.setTop (mkF m 0 #[.val (.ref x), .val (.ref y), .unset] [])) _
    refine XS.aloadN X0.here hexec rfl (hb hbytes d0) rfl rfl ?_
    refine XS.aloadN X0.here hexec rfl (hb hbytes d1) rfl rfl ?_
    exact Steps.refl _)
  by_cases hxy : x = y
  · have c2 : Steps p.tables e below (s₁.setTop (entryFrame m #[.ref x, .ref y] 3)) (s₁.setTop (mkF m 6 #[.val (.ref x), .val (.ref y), .unset] [.int 1])) := c1.trans (by
      refine acmpNo X0.here hexec rfl (hb hbytes d2) rfl rfl rfl (by simp [acmp, hxy]) ?_
      refine iconstV X0.here hexec rfl 1 (hb hbytes d5) (by decide) ?_
      exact Steps.refl _)
    subst hxy
    have ec : cd = cd' := by
      obtain ⟨D, fd, a1, a2, a3⟩ := hx.2.2.1
      obtain ⟨D', fd', b1, b2, b3⟩ := hy.2.2.1
      cases a1.symm.trans b1
      obtain ⟨q1, q2, q3, q4⟩ := a2.1
      obtain ⟨r1, r2, r3, r4⟩ := b2.1
      cases q4.symm.trans r4
      cases a3.symm.trans b3; rfl
    have et : t = t' := by
      obtain ⟨D, fd, a1, a2, a3⟩ := hx.2.1
      obtain ⟨D', fd', b1, b2, b3⟩ := hy.2.1
      cases a1.symm.trans b1
      obtain ⟨q1, q2, q3, q4⟩ := a2.1
      obtain ⟨r1, r2, r3, r4⟩ := b2.1
      cases q4.symm.trans r4
      cases a3.symm.trans b3; rfl
    subst ec et
    have ev : V = V' := by cases hx.2.2.2.1.1.symm.trans hy.2.2.2.1.1; rfl
    subst ev
    have hs : SameT n f k g := (Cod.eqv hx.2.2.2.2.1 hy.2.2.2.2.1 hx.2.2.2.2.2 hy.2.2.2.2.2).mp ⟨rfl, fun _ _ => rfl⟩
    exact ⟨s₁, some (.int 1), _, _, _, X0, rfl, rfl, rfl, (fun h => by cases h), ⟨1, rfl, hh0, Or.inl ⟨rfl, hs⟩⟩, fun fs hl => c2.trans (X0.ireturnOut hexec hret rfl (Or.inr (Or.inl rfl)) (hb hbytes d6) hl)⟩
  · have c2 : Steps p.tables e below (s₁.setTop (entryFrame m #[.ref x, .ref y] 3)) (s₁.setTop (mkF m 8 #[.val (.ref x), .val (.ref y), .unset] [.ref y])) := c1.trans (by
      refine acmpYes X0.here hexec rfl (pc0 := 2) rfl (hb hbytes d2) rfl rfl rfl (by simp [acmp, hxy]) (by decide) rfl ?_
      refine XS.aloadN X0.here hexec rfl (hb hbytes d7) rfl rfl ?_
      exact Steps.refl _)
    obtain ⟨T3, X3, q3, st3⟩ := cinst X0 hexec hown (wk W (.classLink "java/lang/String" 10 "java/lang/String")) (hy.mv X0.warmed.alike hh0).1 (g := (mkF m 8 #[.val (.ref x), .val (.ref y), .unset] [.ref y])) rfl (rest := []) rfl (hb hbytes d8)
    have hh3 := q3.trans hh0
    have c4 : Steps p.tables e below (s₁.setTop (entryFrame m #[.ref x, .ref y] 3)) (T3.setTop (mkF m 15 #[.val (.ref x), .val (.ref y), .unset] [.ref y])) := (c2.trans (st3 _ (Steps.refl _))).trans (by
      refine XS.ifNo X3.here hexec rfl (hb hbytes d11) rfl (i0_eq_f (by decide)) ?_
      refine XS.aloadN X3.here hexec rfl (hb hbytes d14) rfl rfl ?_
      exact Steps.refl _)
    obtain ⟨T5, X5, q5, st5⟩ := cself X3 hexec hown (wk W (.classLink "java/lang/String" 10 "java/lang/String")) (hy.mv X3.warmed.alike hh3).1 (g := (mkF m 15 #[.val (.ref x), .val (.ref y), .unset] [.ref y])) rfl (rest := []) rfl (hb hbytes d15)
    have hh5 := q5.trans hh3
    have c6 : Steps p.tables e below (s₁.setTop (entryFrame m #[.ref x, .ref y] 3)) (T5.setTop (mkF m 19 #[.val (.ref x), .val (.ref y), .val (.ref y)] [])) := (c4.trans (st5 _ (Steps.refl _))).trans (by
      refine XS.astoreN X5.here hexec rfl (hb hbytes d18) rfl rfl rfl ?_
      exact Steps.refl _)
    obtain ⟨T7, X7, q7, st7⟩ := X5.sget hexec hown (wk W (.fieldLink "java/lang/String" 38 "java/lang/String" "COMPACT_STRINGS" "Z")) s1 (fun _ _ h => by rw [hh5]; exact h) (g := (mkF m 19 #[.val (.ref x), .val (.ref y), .val (.ref y)] [])) rfl (hb hbytes d19)
    have hh7 := q7.trans hh5
    have c8 : Steps p.tables e below (s₁.setTop (entryFrame m #[.ref x, .ref y] 3)) (T7.setTop (mkF m 26 #[.val (.ref x), .val (.ref y), .val (.ref y)] [.ref x])) := (c6.trans (st7 _ (Steps.refl _))).trans (by
      refine XS.ifNo X7.here hexec rfl (hb hbytes d22) rfl (i0_eq_f hz) ?_
      refine XS.aloadN X7.here hexec rfl (hb hbytes d25) rfl rfl ?_
      exact Steps.refl _)
    obtain ⟨T9, X9, q9, st9⟩ := X7.hget hexec hown (wk W (.fieldLink "java/lang/String" 15 "java/lang/String" "coder" "B")) (hx.mv X7.warmed.alike hh7).2.2.1 (g := (mkF m 26 #[.val (.ref x), .val (.ref y), .val (.ref y)] [.ref x])) rfl (rest := []) rfl (hb hbytes d26)
    have hh9 := q9.trans hh7
    have c10 : Steps p.tables e below (s₁.setTop (entryFrame m #[.ref x, .ref y] 3)) (T9.setTop (mkF m 30 #[.val (.ref x), .val (.ref y), .val (.ref y)] [.ref y, .int cd])) := (c8.trans (st9 _ (Steps.refl _))).trans (by
      refine XS.aloadN X9.here hexec rfl (hb hbytes d29) rfl rfl ?_
      exact Steps.refl _)
    obtain ⟨T11, X11, q11, st11⟩ := X9.hget hexec hown (wk W (.fieldLink "java/lang/String" 15 "java/lang/String" "coder" "B")) (hy.mv X9.warmed.alike hh9).2.2.1 (g := (mkF m 30 #[.val (.ref x), .val (.ref y), .val (.ref y)] [.ref y, .int cd])) rfl (rest := [.int cd]) rfl (hb hbytes d30)
    have hh11 := q11.trans hh9
    have c12 : Steps p.tables e below (s₁.setTop (entryFrame m #[.ref x, .ref y] 3)) (T11.setTop (mkF m 33 #[.val (.ref x), .val (.ref y), .val (.ref y)] [.int cd', .int cd])) := c10.trans (st11 _ (Steps.refl _))
    by_cases hcd : cd = cd'
    · subst hcd
      have c13 : Steps p.tables e below (s₁.setTop (entryFrame m #[.ref x, .ref y] 3)) (T11.setTop (mkF m 37 #[.val (.ref x), .val (.ref y), .val (.ref y)] [.ref x])) := c12.trans (by
        refine XS.icmpNo X11.here hexec rfl (hb hbytes d33) rfl (ii_ne_f rfl) ?_
        refine XS.aloadN X11.here hexec rfl (hb hbytes d36) rfl rfl ?_
        exact Steps.refl _)
      obtain ⟨T14, X14, q14, st14⟩ := X11.hget hexec hown (wk W (.fieldLink "java/lang/String" 9 "java/lang/String" "value" "[B")) (hx.mv X11.warmed.alike hh11).2.1 (g := (mkF m 37 #[.val (.ref x), .val (.ref y), .val (.ref y)] [.ref x])) rfl (rest := []) rfl (hb hbytes d37)
      have hh14 := q14.trans hh11
      have c15 : Steps p.tables e below (s₁.setTop (entryFrame m #[.ref x, .ref y] 3)) (T14.setTop (mkF m 41 #[.val (.ref x), .val (.ref y), .val (.ref y)] [.ref y, .ref t])) := (c13.trans (st14 _ (Steps.refl _))).trans (by
        refine XS.aloadN X14.here hexec rfl (hb hbytes d40) rfl rfl ?_
        exact Steps.refl _)
      obtain ⟨T16, X16, q16, st16⟩ := X14.hget hexec hown (wk W (.fieldLink "java/lang/String" 9 "java/lang/String" "value" "[B")) (hy.mv X14.warmed.alike hh14).2.1 (g := (mkF m 41 #[.val (.ref x), .val (.ref y), .val (.ref y)] [.ref y, .ref t])) rfl (rest := [.ref t]) rfl (hb hbytes d41)
      have hh16 := q16.trans hh14
      have c17 : Steps p.tables e below (s₁.setTop (entryFrame m #[.ref x, .ref y] 3)) (T16.setTop (mkF m 44 #[.val (.ref x), .val (.ref y), .val (.ref y)] [.ref t', .ref t])) := c15.trans (st16 _ (Steps.refl _))
      obtain ⟨v18, T18, X18, E18, g18⟩ := X16.callS hexec (LEq.law l t V t' V') hown (wks W (staticW "java/lang/String" 541 LEq.yN)) (wk W LEq.tab) (W := 0) (Nat.le_of_ble_eq_true rfl) (Nat.le_of_ble_eq_true rfl) (Nat.le_refl _) (Nat.le_refl _) (g := (mkF m 44 #[.val (.ref x), .val (.ref y), .val (.ref y)] [.ref t', .ref t])) rfl (by rw [hml]; rfl) c17 (argsL := [.ref t, .ref t']) (rest := []) rfl rfl (by show 2 * 0 + 0 ≤ _; decide) (hb hbytes d44) (⟨rfl, hx.2.2.2.1.mv X16.warmed.alike hh16, hx.2.2.2.2.1.ty, hy.2.2.2.1.mv X16.warmed.alike hh16, hy.2.2.2.2.1.ty⟩)
      obtain ⟨v, rfl, q18, hv⟩ := E18
      have iff := Cod.eqv hx.2.2.2.2.1 hy.2.2.2.2.1 hx.2.2.2.2.2 hy.2.2.2.2.2
      rcases hv with ⟨rfl, he⟩ | ⟨rfl, he⟩
      · have c19 : Steps p.tables e below (s₁.setTop (entryFrame m #[.ref x, .ref y] 3)) (T18.setTop (mkF m 55 #[.val (.ref x), .val (.ref y), .val (.ref y)] [.int 1])) := Steps.trans g18 (by
          refine XS.ifNo X18.here hexec rfl (hb hbytes d47) rfl (i0_eq_f (by decide)) ?_
          refine iconstV X18.here hexec rfl 1 (hb hbytes d50) (by decide) ?_
          refine XS.goto X18.here hexec rfl (pc0 := 51) rfl (hb hbytes d51) (by decide) rfl ?_
          exact Steps.refl _)
        exact ⟨T18, some (.int 1), _, _, _, X18, rfl, rfl, rfl, (fun h => by cases h), ⟨1, rfl, q18.trans hh16, Or.inl ⟨rfl, iff.mp he⟩⟩, fun fs hl => c19.trans (X18.ireturnOut hexec hret rfl (Or.inr (Or.inl rfl)) (hb hbytes d55) hl)⟩
      · have c19 : Steps p.tables e below (s₁.setTop (entryFrame m #[.ref x, .ref y] 3)) (T18.setTop (mkF m 55 #[.val (.ref x), .val (.ref y), .val (.ref y)] [.int 0])) := Steps.trans g18 (by
          refine XS.ifYes X18.here hexec rfl (pc0 := 47) rfl (hb hbytes d47) rfl (i0_eq_t rfl) (by decide) rfl ?_
          refine iconstV X18.here hexec rfl 0 (hb hbytes d54) (by decide) ?_
          exact Steps.refl _)
        exact ⟨T18, some (.int 0), _, _, _, X18, rfl, rfl, rfl, (fun h => by cases h), ⟨0, rfl, q18.trans hh16, Or.inr ⟨rfl, fun q => he (iff.mpr q)⟩⟩, fun fs hl => c19.trans (X18.ireturnOut hexec hret rfl (Or.inr (Or.inl rfl)) (hb hbytes d55) hl)⟩
    · have c13 : Steps p.tables e below (s₁.setTop (entryFrame m #[.ref x, .ref y] 3)) (T11.setTop (mkF m 55 #[.val (.ref x), .val (.ref y), .val (.ref y)] [.int 0])) := c12.trans (by
        refine XS.icmpYes X11.here hexec rfl (pc0 := 33) rfl (hb hbytes d33) rfl (ii_ne_t hcd) (by decide) rfl ?_
        refine iconstV X11.here hexec rfl 0 (hb hbytes d54) (by decide) ?_
        exact Steps.refl _)
      exact ⟨T11, some (.int 0), _, _, _, X11, rfl, rfl, rfl, (fun h => by cases h), ⟨0, rfl, hh11, Or.inr ⟨rfl, Cod.dif hx.2.2.2.2.1 hy.2.2.2.2.1 hcd⟩⟩, fun fs hl => c13.trans (X11.ireturnOut hexec hret rfl (Or.inr (Or.inl rfl)) (hb hbytes d55) hl)⟩
theorem pays {l : Launch} {R : Room} {p : Program} {e : Env} {below : List Frame} {s : State} {sargs : Array Value} {len W : Nat} (x t : Addr) (V : Cell) (cd : Int32) (n : Nat) (f : Nat → Int32) (y t' : Addr) (V' : Cell) (cd' : Int32) (k : Nat) (g : Nat → Int32) (z : Int32) (htab : tab.before sargs s = true) (hfr : 2 ≤ R.frames) (hlo : W + 28 ≤ R.locals) :
    Back l R p e below s sargs yN len W (fun A₁ a₁ => A₁.cells + 0 ≤ R.cells ∧ A₁.slots + 0 ≤ R.slots ∧ P x t V cd n f y t' V' cd' k g z a₁ A₁.U) (fun A₁ _ v₁ B₁ => Says01 (SameT n f k g) v₁ A₁.U B₁.U ∧ B₁.locs = A₁.locs ++ [] ∧ B₁.cells = A₁.cells + 0 ∧ B₁.slots = A₁.slots + 0) :=
  (law l x t V cd n f y t' V' cd' k g z).pays htab hfr (by omega)
end SEq
end StrChars
namespace StrChars.Road
open Jvm Sem ClassFile Op Lib Jvm.Stand Jvm.Free Jvm.Free.XT
open Jvm.Lib.Cold (StaticIs)
/-- the words of String.equals(Object) -/
abbrev wordsEq : List Jvm.Cond := [.code SEq.yN SEq.yB 3 (some .boolean), .initialized ST, .classLink ST 10 ST, .fieldLink ST 38 ST "COMPACT_STRINGS" "Z", .fieldLink ST 15 ST "coder" "B", .fieldLink ST 9 ST "value" "[B", .methodLink ST 541 LEq.yN, .static LEq.yN, .code LEq.yN LEq.yB 3 (some .boolean), .initialized "java/lang/StringLatin1"]
theorem tabEq_of {a : Array Value} {s : State} (h : ∀ w ∈ wordsEq, w.before a s = true) : SEq.tab.before a s = true := by
  have hl : LEq.tab.before a s = true := unparts (wk h (.code LEq.yN LEq.yB 3 (some .boolean))) (wks h (.initialized LEq.yN.cls :: LEq.site))
  have q := consq hl h
  exact unparts (wk q (.code SEq.yN SEq.yB 3 (some .boolean))) (wks q (.initialized SEq.yN.cls :: SEq.site))
theorem movedEq {Z s : State} {a0 args : Array Value} (hZ : Z.Warmed39 s.vm) (hw : ∀ d ∈ wordsEq, d.before a0 Z = true) : ∀ d ∈ wordsEq, d.before args s = true := fun d hd => by
  have t : ∀ d ∈ wordsEq, (d.onTables && d.keepsFace) = true := by decide +kernel
  exact RoadKit.mv hZ (hw d hd) (t d hd)
/-- the road's facts of a String, as the laws ask it -/
theorem txt_of {Z U : State} {a0 : Array Value} {kI : Nat} (wi : (Jvm.Cond.instantiable ST kI).before a0 Z = true) (al : Z.vm.Alike U.vm) {x t : Addr} {kb : ClassId} {cs : List Int32} {cd N2 : Int32} {vs : List Value} (E : RoadKit.Exa Z U.heap x ST) (V : RoadKit.Fld Z U.heap x ST "value" "[B" (.ref t)) (C : RoadKit.Fld Z U.heap x ST "coder" "B" (.int cd)) (K : RoadKit.Arv Z U.heap t kb .byte N2 vs (.int 0)) (hc : CodA cs cd N2 vs) (hb : ∀ c ∈ cs, ¬ c < 0 ∧ ¬ (65535 : Int32) < c) (l2 : cs.length ≤ 4000) :
    ∃ A, Txt x t A cd cs.length (fun j => cs.getD j 0) U := by
  obtain ⟨A, K1, K2, K3, K4, K5, K6⟩ := K
  have hcod := hc.cod (by omega) K3 K5
  obtain ⟨D, fV, fC, hB, F1, F2, g1, g2, -, -⟩ := strObj wi al E V C
  exact ⟨A, ⟨_, hB.2.2.1, D, hB.1, rfl, by cases q : D.vm <;> first | rfl | exact absurd q (hB.2.1.2 _)⟩, Has.of hB F1 g1, Has.of hB F2 g2, ⟨K1.1, State.isArrayOf_alike al K1.2.1, K1.2.2, by rcases hcod with ⟨-, q, -⟩ | ⟨-, q, -⟩ <;> omega⟩, hcod, fun j hj => by
    have e : cs.getD j 0 = cs[j] := by simp [List.getD_eq_getElem?_getD, hj]
    show ¬ cs.getD j 0 < 0 ∧ ¬ 65535 < cs.getD j 0
    rw [e]; exact hb _ (List.getElem_mem _)⟩
theorem same_list (cs ds : List Int32) : SameT cs.length (fun j => cs.getD j 0) ds.length (fun j => ds.getD j 0) ↔ cs = ds := by
  constructor
  · rintro ⟨e, q⟩
    refine List.ext_getElem e fun j h1 h2 => ?_
    have := q j h1
    simpa [List.getD_eq_getElem?_getD, h1, h2] using this
  · rintro rfl
    exact ⟨rfl, fun _ _ => rfl⟩
/-- **equals(Object) OF TWO SUCH STRINGS**: 1 just where the chars are the same -/
theorem eqW {p : Program} {l : Launch} {e : Env} {R : Room} {s : State} {args : Array Value} {below : List Frame} {len W : Nat} {Z : State} {a0 : Array Value} {h : Heap} (hZ : Z.Warmed39 s.vm) (hw : ∀ d ∈ wordsEq, d.before a0 Z = true) {kI : Nat} (wi : (Jvm.Cond.instantiable ST kI).before a0 Z = true)
    {x t : Addr} {kb : ClassId} {cs : List Int32} {cd N2 : Int32} {vs : List Value} (E : RoadKit.Exa Z h x ST) (V : RoadKit.Fld Z h x ST "value" "[B" (.ref t)) (C : RoadKit.Fld Z h x ST "coder" "B" (.int cd)) (K : RoadKit.Arv Z h t kb .byte N2 vs (.int 0)) (hc : CodA cs cd N2 vs) (hb : ∀ c ∈ cs, ¬ c < 0 ∧ ¬ (65535 : Int32) < c) (l2 : cs.length ≤ 4000)
    {y t' : Addr} {kb' : ClassId} {ds : List Int32} {cd' N2' : Int32} {vs' : List Value} (E' : RoadKit.Exa Z h y ST) (V' : RoadKit.Fld Z h y ST "value" "[B" (.ref t')) (C' : RoadKit.Fld Z h y ST "coder" "B" (.int cd')) (K' : RoadKit.Arv Z h t' kb' .byte N2' vs' (.int 0)) (hc' : CodA ds cd' N2' vs') (hb' : ∀ c ∈ ds, ¬ c < 0 ∧ ¬ (65535 : Int32) < c) (l2' : ds.length ≤ 4000)
    {z : Int32} (S : RoadKit.Sta Z h ST "COMPACT_STRINGS" "Z" (.int z)) (hz : ¬ z = 0) (hfr : 2 ≤ R.frames) (hlo : W + 28 ≤ R.locals) :
    Back l R p e below s args (⟨"java/lang/String", "equals", "(Ljava/lang/Object;)Z"⟩ : MethodName) len W (fun P a => a = #[.ref x, .ref y] ∧ P.U.heap = h ∧ P.cells + 0 ≤ R.cells ∧ P.slots + 0 ≤ R.slots)
      (fun P _ v B => ∃ L, (((v = some (.int 1) ∧ cs = ds) ∨ (v = some (.int 0) ∧ ¬ cs = ds)) ∧ L = [] ∧ B.U.heap = h) ∧ B.locs = P.locs ++ L ∧ B.cells = P.cells + 0 ∧ B.slots = P.slots + 0) := by
  intro m meth c P g ig mk a X hg hsize hdg hW hn hp'
  obtain ⟨rfl, rfl, r1, r2⟩ := hp'
  have al : Z.vm.Alike P.U.vm := hZ.alike.trans X.warmed.alike
  obtain ⟨A, hx⟩ := txt_of wi al E V C K hc hb l2
  obtain ⟨A', hy⟩ := txt_of wi al E' V' C' K' hc' hb' l2'
  obtain ⟨v, B, X', ⟨⟨w, hv, hh, hq⟩, hl, hk, hs⟩, st⟩ := SEq.pays x t A cd cs.length (fun j => cs.getD j 0) y t' A' cd' ds.length (fun j => ds.getD j 0) z (tabEq_of (movedEq hZ hw)) hfr hlo m meth c P g ig mk _ X hg hsize hdg hW hn ⟨r1, r2, rfl, hx, hy, sta_is al S, hz⟩
  refine ⟨v, B, X', ⟨[], ⟨?_, rfl, hh⟩, hl, hk, hs⟩, st⟩
  rcases hq with ⟨rfl, q⟩ | ⟨rfl, q⟩
  · exact Or.inl ⟨hv, (same_list cs ds).mp q⟩
  · exact Or.inr ⟨hv, fun e => q ((same_list cs ds).mpr e)⟩
end StrChars.Road
end Jvm.Pilot.@@N@@
namespace Jvm.Pilot.@@N@@
open Jvm Jvm.ClassFile Sem Op Lib Jvm.Free Jvm.Stand Jvm.LawKit Jvm.RoadKit Bundle Jvm.Pilot.@@N@@.Jvm.D
/-! the rest of a walk, from a state on: it returns, and what it leaves -/
def OwnGo (p : Program) (e : Env) (below : List Frame) (s : State) (Q : Option Value → Heap → List Loc → Prop) (K N : Nat) (U : State) : Prop :=
  ∃ t o, Steps p.tables e below U t ∧ t.status = .running ∧ Ended t below o ∧ ∃ v L, o = .returned v ∧ Q v t.heap L ∧ FrameEnd s o t L K N
section OwnKit
variable {p : Program} {l : Launch} {e : Env} {R : Room} {s : State} {m : MethodId} {args : Array Value} {below : List Frame} {meth : Method} {c : Code} {T : State} {locs : List Loc} {cells slots : Nat} {Q : Option Value → Heap → List Loc → Prop} {K N : Nat} {U U' : State} {h : Heap}
theorem own_on (st : ∀ t, Steps p.tables e below U' t → Steps p.tables e below U t) (k : OwnGo p e below s Q K N U') : OwnGo p e below s Q K N U := by
  obtain ⟨t, o, h1, r⟩ := k; exact ⟨t, o, st t h1, r⟩
theorem own_tr (st : Steps p.tables e below U U') (k : OwnGo p e below s Q K N U') : OwnGo p e below s Q K N U := own_on (fun _ q => st.trans q) k
theorem own_num {c' n' : Nat} {l' : List Loc} (X : Stand p l e R s m args below meth c T locs cells slots) (h0 : locs = l') (h1 : cells = c') (h2 : slots = n') : Stand p l e R s m args below meth c T l' c' n' := by
  subst h0 h1 h2; exact X
theorem own_cast {g g' : JFrame} (q : g = g') (k : OwnGo p e below s Q K N (T.setTop g')) : OwnGo p e below s Q K N (T.setTop g) := q ▸ k
theorem own_end (X : Stand p l e R s m args below meth c T locs cells slots) (hlk : meth.locks = false) {v : Option Value} (hv : meth.sig.returnType = none → v = none) (eT : T.heap = h) (q : Q v h locs) (hk : cells ≤ K) (hn : slots ≤ N)
    (st : ∀ fs, (∀ (f : JFrame) (acts : List Action), f.method = m → f.locked = none → f.entered = [] → (doReturn e (T.setTop f) acts v).1 = T.setFrames fs) → Steps p.tables e below U (T.setFrames fs)) : OwnGo p e below s Q K N U := by
  obtain ⟨fs, hr, hrun, hended, hW, hsame⟩ := X.leave (v := v) hv hlk
  refine ⟨_, _, st fs hr, hrun, hended, v, locs, rfl, ?_, ⟨_, rfl⟩, hW, hsame.mono hk hn⟩
  have : (T.setFrames fs).heap = h := eT
  rw [this]; exact q
theorem own_retN (X : Stand p l e R s m args below meth c T locs cells slots) (hx : p.tables.exec = Jvm.exec) (hlk : meth.locks = false) {pc : Nat} {Ls : Array Slot} {z : Int32} {t : FieldType} {rest : List Value} (hret : meth.sig.returnType = some t) (ht : t = .boolean ∨ t = .byte ∨ t = .char ∨ t = .short)
    (hd : decode c.code pc = .ok (.ireturn, 1)) (eT : T.heap = h) (q : Q (some (.int (nar t z))) h locs) (hk : cells ≤ K) (hn : slots ≤ N) : OwnGo p e below s Q K N (T.setTop (mkF m pc Ls (.int z :: rest))) :=
  own_end X hlk (fun h => by rw [hret] at h; cases h) eT q hk hn fun fs hr => retN X hx hret ht hd hr
theorem own_retI (X : Stand p l e R s m args below meth c T locs cells slots) (hx : p.tables.exec = Jvm.exec) (hlk : meth.locks = false) {pc : Nat} {Ls : Array Slot} {z : Int32} {rest : List Value} (hret : meth.sig.returnType = some .int)
    (hd : decode c.code pc = .ok (.ireturn, 1)) (eT : T.heap = h) (q : Q (some (.int z)) h locs) (hk : cells ≤ K) (hn : slots ≤ N) : OwnGo p e below s Q K N (T.setTop (mkF m pc Ls (.int z :: rest))) :=
  own_end X hlk (fun h => by rw [hret] at h; cases h) eT q hk hn fun fs hr => retI X hx hret hd hr
theorem own_retA (X : Stand p l e R s m args below meth c T locs cells slots) (hx : p.tables.exec = Jvm.exec) (hlk : meth.locks = false) {pc : Nat} {Ls : Array Slot} {w : Value} {t : FieldType} {rest : List Value} (hret : meth.sig.returnType = some t) (ht : t.isReference = true) (hw : w.isRef = true)
    (hd : decode c.code pc = .ok (.areturn, 1)) (eT : T.heap = h) (q : Q (some w) h locs) (hk : cells ≤ K) (hn : slots ≤ N) : OwnGo p e below s Q K N (T.setTop (mkF m pc Ls (w :: rest))) :=
  own_end X hlk (fun h => by rw [hret] at h; cases h) eT q hk hn fun fs hr => retOut X hx hret (by rcases ref_cases hw with rfl | ⟨a, rfl⟩ <;> cases t <;> rfl) (Or.inr (Or.inr (Or.inr (Or.inr ⟨rfl, ht, hw⟩)))) hd hr
theorem own_retV (X : Stand p l e R s m args below meth c T locs cells slots) (hx : p.tables.exec = Jvm.exec) (hlk : meth.locks = false) {pc : Nat} {Ls : Array Slot} (hret : meth.sig.returnType = none)
    (hd : decode c.code pc = .ok (.return_, 1)) (eT : T.heap = h) (q : Q none h locs) (hk : cells ≤ K) (hn : slots ≤ N) : OwnGo p e below s Q K N (T.setTop (mkF m pc Ls [])) :=
  own_end X hlk (fun _ => rfl) eT q hk hn fun fs hr => X.returnOut hx hret hd hr
end OwnKit

theorem w0 {a0 : Array Value} {Z : State} (hw : ∀ d ∈ tables_1, d.before a0 Z = true) : ((Jvm.Cond.classLink "org/pathbind/MediaTypeIncludesPinLaw" (12 : Nat) "org/pathbind/MediaType") : Jvm.Cond).before a0 Z = true := hw _ (List.mem_of_getElem? (i := 0) rfl)
theorem w1 {a0 : Array Value} {Z : State} (hw : ∀ d ∈ tables_1, d.before a0 Z = true) : ((Jvm.Cond.instantiable "org/pathbind/MediaType" (4 : Nat)) : Jvm.Cond).before a0 Z = true := hw _ (List.mem_of_getElem? (i := 1) rfl)
theorem w2 {a0 : Array Value} {Z : State} (hw : ∀ d ∈ tables_1, d.before a0 Z = true) : ((Jvm.Cond.initialized "org/pathbind/MediaType") : Jvm.Cond).before a0 Z = true := hw _ (List.mem_of_getElem? (i := 2) rfl)
theorem w3 {a0 : Array Value} {Z : State} (hw : ∀ d ∈ tables_1, d.before a0 Z = true) : ((Jvm.Cond.methodLink "org/pathbind/MediaTypeIncludesPinLaw" (14 : Nat) ({ cls := "org/pathbind/MediaTypeIncludesPinLaw", name := "pick", desc := "(IC)Ljava/lang/String;" } : Jvm.MethodName)) : Jvm.Cond).before a0 Z = true := hw _ (List.mem_of_getElem? (i := 3) rfl)
theorem w4 {a0 : Array Value} {Z : State} (hw : ∀ d ∈ tables_1, d.before a0 Z = true) : ((Jvm.Cond.static ({ cls := "org/pathbind/MediaTypeIncludesPinLaw", name := "pick", desc := "(IC)Ljava/lang/String;" } : Jvm.MethodName)) : Jvm.Cond).before a0 Z = true := hw _ (List.mem_of_getElem? (i := 4) rfl)
theorem w5 {a0 : Array Value} {Z : State} (hw : ∀ d ∈ tables_1, d.before a0 Z = true) : ((Jvm.Cond.initialized "org/pathbind/MediaTypeIncludesPinLaw") : Jvm.Cond).before a0 Z = true := hw _ (List.mem_of_getElem? (i := 5) rfl)
theorem w6 {a0 : Array Value} {Z : State} (hw : ∀ d ∈ tables_1, d.before a0 Z = true) : ((Jvm.Cond.code ({ cls := "org/pathbind/MediaTypeIncludesPinLaw", name := "pick", desc := "(IC)Ljava/lang/String;" } : Jvm.MethodName) method_2_code (3 : Nat) (Option.some (Jvm.ClassFile.FieldType.object "java/lang/String"))) : Jvm.Cond).before a0 Z = true := hw _ (List.mem_of_getElem? (i := 6) rfl)
theorem w7 {a0 : Array Value} {Z : State} (hw : ∀ d ∈ tables_1, d.before a0 Z = true) : ((Jvm.Cond.arrayClass Jvm.ClassFile.FieldType.char) : Jvm.Cond).before a0 Z = true := hw _ (List.mem_of_getElem? (i := 7) rfl)
theorem w8 {a0 : Array Value} {Z : State} (hw : ∀ d ∈ tables_1, d.before a0 Z = true) : ((Jvm.Cond.classLink "org/pathbind/MediaTypeIncludesPinLaw" (7 : Nat) "java/lang/String") : Jvm.Cond).before a0 Z = true := hw _ (List.mem_of_getElem? (i := 8) rfl)
theorem w9 {a0 : Array Value} {Z : State} (hw : ∀ d ∈ tables_1, d.before a0 Z = true) : ((Jvm.Cond.instantiable "java/lang/String" (4 : Nat)) : Jvm.Cond).before a0 Z = true := hw _ (List.mem_of_getElem? (i := 9) rfl)
theorem w10 {a0 : Array Value} {Z : State} (hw : ∀ d ∈ tables_1, d.before a0 Z = true) : ((Jvm.Cond.initialized "java/lang/String") : Jvm.Cond).before a0 Z = true := hw _ (List.mem_of_getElem? (i := 10) rfl)
theorem w11 {a0 : Array Value} {Z : State} (hw : ∀ d ∈ tables_1, d.before a0 Z = true) : ((Jvm.Cond.methodLink "org/pathbind/MediaTypeIncludesPinLaw" (9 : Nat) ({ cls := "java/lang/String", name := "<init>", desc := "([C)V" } : Jvm.MethodName)) : Jvm.Cond).before a0 Z = true := hw _ (List.mem_of_getElem? (i := 11) rfl)
theorem w12 {a0 : Array Value} {Z : State} (hw : ∀ d ∈ tables_1, d.before a0 Z = true) : ((Jvm.Cond.instanceMethod ({ cls := "java/lang/String", name := "<init>", desc := "([C)V" } : Jvm.MethodName)) : Jvm.Cond).before a0 Z = true := hw _ (List.mem_of_getElem? (i := 12) rfl)
theorem w13 {a0 : Array Value} {Z : State} (hw : ∀ d ∈ tables_1, d.before a0 Z = true) : ((Jvm.Cond.code ({ cls := "java/lang/String", name := "<init>", desc := "([C)V" } : Jvm.MethodName) jdk_42_method_3_code (2 : Nat) (Option.none : Option Jvm.ClassFile.FieldType)) : Jvm.Cond).before a0 Z = true := hw _ (List.mem_of_getElem? (i := 13) rfl)
theorem w19 {a0 : Array Value} {Z : State} (hw : ∀ d ∈ tables_1, d.before a0 Z = true) : ((Jvm.Cond.instanceMethod ({ cls := "java/lang/Object", name := "<init>", desc := "()V" } : Jvm.MethodName)) : Jvm.Cond).before a0 Z = true := hw _ (List.mem_of_getElem? (i := 19) rfl)
theorem w20 {a0 : Array Value} {Z : State} (hw : ∀ d ∈ tables_1, d.before a0 Z = true) : ((Jvm.Cond.code ({ cls := "java/lang/Object", name := "<init>", desc := "()V" } : Jvm.MethodName) object_method_1_code (1 : Nat) (Option.none : Option Jvm.ClassFile.FieldType)) : Jvm.Cond).before a0 Z = true := hw _ (List.mem_of_getElem? (i := 20) rfl)
theorem w34 {a0 : Array Value} {Z : State} (hw : ∀ d ∈ tables_1, d.before a0 Z = true) : ((Jvm.Cond.laysFinal "java/lang/String" "java/lang/String" "coder" "B") : Jvm.Cond).before a0 Z = true := hw _ (List.mem_of_getElem? (i := 34) rfl)
theorem w36 {a0 : Array Value} {Z : State} (hw : ∀ d ∈ tables_1, d.before a0 Z = true) : ((Jvm.Cond.laysFinal "java/lang/String" "java/lang/String" "value" "[B") : Jvm.Cond).before a0 Z = true := hw _ (List.mem_of_getElem? (i := 36) rfl)
theorem w37 {a0 : Array Value} {Z : State} (hw : ∀ d ∈ tables_1, d.before a0 Z = true) : ((Jvm.Cond.methodLink "org/pathbind/MediaTypeIncludesPinLaw" (20 : Nat) ({ cls := "org/pathbind/MediaType", name := "<init>", desc := "(Ljava/lang/String;Ljava/lang/String;Ljava/util/Map;Ljava/lang/String;)V" } : Jvm.MethodName)) : Jvm.Cond).before a0 Z = true := hw _ (List.mem_of_getElem? (i := 37) rfl)
theorem w38 {a0 : Array Value} {Z : State} (hw : ∀ d ∈ tables_1, d.before a0 Z = true) : ((Jvm.Cond.instanceMethod ({ cls := "org/pathbind/MediaType", name := "<init>", desc := "(Ljava/lang/String;Ljava/lang/String;Ljava/util/Map;Ljava/lang/String;)V" } : Jvm.MethodName)) : Jvm.Cond).before a0 Z = true := hw _ (List.mem_of_getElem? (i := 38) rfl)
theorem w39 {a0 : Array Value} {Z : State} (hw : ∀ d ∈ tables_1, d.before a0 Z = true) : ((Jvm.Cond.code ({ cls := "org/pathbind/MediaType", name := "<init>", desc := "(Ljava/lang/String;Ljava/lang/String;Ljava/util/Map;Ljava/lang/String;)V" } : Jvm.MethodName) prog_30_method_1_code (5 : Nat) (Option.none : Option Jvm.ClassFile.FieldType)) : Jvm.Cond).before a0 Z = true := hw _ (List.mem_of_getElem? (i := 39) rfl)
theorem w40 {a0 : Array Value} {Z : State} (hw : ∀ d ∈ tables_1, d.before a0 Z = true) : ((Jvm.Cond.methodLink "org/pathbind/MediaType" (1 : Nat) ({ cls := "java/lang/Record", name := "<init>", desc := "()V" } : Jvm.MethodName)) : Jvm.Cond).before a0 Z = true := hw _ (List.mem_of_getElem? (i := 40) rfl)
theorem w41 {a0 : Array Value} {Z : State} (hw : ∀ d ∈ tables_1, d.before a0 Z = true) : ((Jvm.Cond.instanceMethod ({ cls := "java/lang/Record", name := "<init>", desc := "()V" } : Jvm.MethodName)) : Jvm.Cond).before a0 Z = true := hw _ (List.mem_of_getElem? (i := 41) rfl)
theorem w43 {a0 : Array Value} {Z : State} (hw : ∀ d ∈ tables_1, d.before a0 Z = true) : ((Jvm.Cond.initialized "java/lang/Record") : Jvm.Cond).before a0 Z = true := hw _ (List.mem_of_getElem? (i := 43) rfl)
theorem w44 {a0 : Array Value} {Z : State} (hw : ∀ d ∈ tables_1, d.before a0 Z = true) : ((Jvm.Cond.code ({ cls := "java/lang/Record", name := "<init>", desc := "()V" } : Jvm.MethodName) jdk_30_method_1_code (1 : Nat) (Option.none : Option Jvm.ClassFile.FieldType)) : Jvm.Cond).before a0 Z = true := hw _ (List.mem_of_getElem? (i := 44) rfl)
theorem w45 {a0 : Array Value} {Z : State} (hw : ∀ d ∈ tables_1, d.before a0 Z = true) : ((Jvm.Cond.methodLink "java/lang/Record" (1 : Nat) ({ cls := "java/lang/Object", name := "<init>", desc := "()V" } : Jvm.MethodName)) : Jvm.Cond).before a0 Z = true := hw _ (List.mem_of_getElem? (i := 45) rfl)
theorem w46 {a0 : Array Value} {Z : State} (hw : ∀ d ∈ tables_1, d.before a0 Z = true) : ((Jvm.Cond.fieldLink "org/pathbind/MediaType" (7 : Nat) "org/pathbind/MediaType" "type" "Ljava/lang/String;") : Jvm.Cond).before a0 Z = true := hw _ (List.mem_of_getElem? (i := 46) rfl)
theorem w47 {a0 : Array Value} {Z : State} (hw : ∀ d ∈ tables_1, d.before a0 Z = true) : ((Jvm.Cond.laysFinal "org/pathbind/MediaType" "org/pathbind/MediaType" "type" "Ljava/lang/String;") : Jvm.Cond).before a0 Z = true := hw _ (List.mem_of_getElem? (i := 47) rfl)
theorem w48 {a0 : Array Value} {Z : State} (hw : ∀ d ∈ tables_1, d.before a0 Z = true) : ((Jvm.Cond.fieldLink "org/pathbind/MediaType" (13 : Nat) "org/pathbind/MediaType" "subtype" "Ljava/lang/String;") : Jvm.Cond).before a0 Z = true := hw _ (List.mem_of_getElem? (i := 48) rfl)
theorem w49 {a0 : Array Value} {Z : State} (hw : ∀ d ∈ tables_1, d.before a0 Z = true) : ((Jvm.Cond.laysFinal "org/pathbind/MediaType" "org/pathbind/MediaType" "subtype" "Ljava/lang/String;") : Jvm.Cond).before a0 Z = true := hw _ (List.mem_of_getElem? (i := 49) rfl)
theorem w50 {a0 : Array Value} {Z : State} (hw : ∀ d ∈ tables_1, d.before a0 Z = true) : ((Jvm.Cond.fieldLink "org/pathbind/MediaType" (16 : Nat) "org/pathbind/MediaType" "parameters" "Ljava/util/Map;") : Jvm.Cond).before a0 Z = true := hw _ (List.mem_of_getElem? (i := 50) rfl)
theorem w51 {a0 : Array Value} {Z : State} (hw : ∀ d ∈ tables_1, d.before a0 Z = true) : ((Jvm.Cond.laysFinal "org/pathbind/MediaType" "org/pathbind/MediaType" "parameters" "Ljava/util/Map;") : Jvm.Cond).before a0 Z = true := hw _ (List.mem_of_getElem? (i := 51) rfl)
theorem w52 {a0 : Array Value} {Z : State} (hw : ∀ d ∈ tables_1, d.before a0 Z = true) : ((Jvm.Cond.fieldLink "org/pathbind/MediaType" (20 : Nat) "org/pathbind/MediaType" "text" "Ljava/lang/String;") : Jvm.Cond).before a0 Z = true := hw _ (List.mem_of_getElem? (i := 52) rfl)
theorem w53 {a0 : Array Value} {Z : State} (hw : ∀ d ∈ tables_1, d.before a0 Z = true) : ((Jvm.Cond.laysFinal "org/pathbind/MediaType" "org/pathbind/MediaType" "text" "Ljava/lang/String;") : Jvm.Cond).before a0 Z = true := hw _ (List.mem_of_getElem? (i := 53) rfl)
theorem w54 {a0 : Array Value} {Z : State} (hw : ∀ d ∈ tables_1, d.before a0 Z = true) : ((Jvm.Cond.methodLink "org/pathbind/MediaTypeIncludesPinLaw" (23 : Nat) ({ cls := "org/pathbind/MediaType", name := "includes", desc := "(Lorg/pathbind/MediaType;)Z" } : Jvm.MethodName)) : Jvm.Cond).before a0 Z = true := hw _ (List.mem_of_getElem? (i := 54) rfl)
theorem w55 {a0 : Array Value} {Z : State} (hw : ∀ d ∈ tables_1, d.before a0 Z = true) : ((Jvm.Cond.declares ({ cls := "org/pathbind/MediaType", name := "includes", desc := "(Lorg/pathbind/MediaType;)Z" } : Jvm.MethodName)) : Jvm.Cond).before a0 Z = true := hw _ (List.mem_of_getElem? (i := 55) rfl)
theorem w56 {a0 : Array Value} {Z : State} (hw : ∀ d ∈ tables_1, d.before a0 Z = true) : ((Jvm.Cond.instanceMethod ({ cls := "org/pathbind/MediaType", name := "includes", desc := "(Lorg/pathbind/MediaType;)Z" } : Jvm.MethodName)) : Jvm.Cond).before a0 Z = true := hw _ (List.mem_of_getElem? (i := 56) rfl)
theorem w57 {a0 : Array Value} {Z : State} (hw : ∀ d ∈ tables_1, d.before a0 Z = true) : ((Jvm.Cond.selects "org/pathbind/MediaType" ({ cls := "org/pathbind/MediaType", name := "includes", desc := "(Lorg/pathbind/MediaType;)Z" } : Jvm.MethodName) ({ cls := "org/pathbind/MediaType", name := "includes", desc := "(Lorg/pathbind/MediaType;)Z" } : Jvm.MethodName)) : Jvm.Cond).before a0 Z = true := hw _ (List.mem_of_getElem? (i := 57) rfl)
theorem w58 {a0 : Array Value} {Z : State} (hw : ∀ d ∈ tables_1, d.before a0 Z = true) : ((Jvm.Cond.code ({ cls := "org/pathbind/MediaType", name := "includes", desc := "(Lorg/pathbind/MediaType;)Z" } : Jvm.MethodName) prog_30_method_6_code (2 : Nat) (Option.some Jvm.ClassFile.FieldType.boolean)) : Jvm.Cond).before a0 Z = true := hw _ (List.mem_of_getElem? (i := 58) rfl)
theorem w59 {a0 : Array Value} {Z : State} (hw : ∀ d ∈ tables_1, d.before a0 Z = true) : ((Jvm.Cond.stringLink "org/pathbind/MediaType" (52 : Nat) "*") : Jvm.Cond).before a0 Z = true := hw _ (List.mem_of_getElem? (i := 59) rfl)
theorem w62 {a0 : Array Value} {Z : State} (hw : ∀ d ∈ tables_1, d.before a0 Z = true) : ((Jvm.Cond.methodLink "org/pathbind/MediaType" (54 : Nat) ({ cls := "java/lang/String", name := "equals", desc := "(Ljava/lang/Object;)Z" } : Jvm.MethodName)) : Jvm.Cond).before a0 Z = true := hw _ (List.mem_of_getElem? (i := 62) rfl)
theorem w63 {a0 : Array Value} {Z : State} (hw : ∀ d ∈ tables_1, d.before a0 Z = true) : ((Jvm.Cond.declares ({ cls := "java/lang/String", name := "equals", desc := "(Ljava/lang/Object;)Z" } : Jvm.MethodName)) : Jvm.Cond).before a0 Z = true := hw _ (List.mem_of_getElem? (i := 63) rfl)
theorem w64 {a0 : Array Value} {Z : State} (hw : ∀ d ∈ tables_1, d.before a0 Z = true) : ((Jvm.Cond.instanceMethod ({ cls := "java/lang/String", name := "equals", desc := "(Ljava/lang/Object;)Z" } : Jvm.MethodName)) : Jvm.Cond).before a0 Z = true := hw _ (List.mem_of_getElem? (i := 64) rfl)
theorem w65 {a0 : Array Value} {Z : State} (hw : ∀ d ∈ tables_1, d.before a0 Z = true) : ((Jvm.Cond.selects "java/lang/String" ({ cls := "java/lang/String", name := "equals", desc := "(Ljava/lang/Object;)Z" } : Jvm.MethodName) ({ cls := "java/lang/String", name := "equals", desc := "(Ljava/lang/Object;)Z" } : Jvm.MethodName)) : Jvm.Cond).before a0 Z = true := hw _ (List.mem_of_getElem? (i := 65) rfl)
theorem w66 {a0 : Array Value} {Z : State} (hw : ∀ d ∈ tables_1, d.before a0 Z = true) : ((Jvm.Cond.code ({ cls := "java/lang/String", name := "equals", desc := "(Ljava/lang/Object;)Z" } : Jvm.MethodName) jdk_42_method_66_code (3 : Nat) (Option.some Jvm.ClassFile.FieldType.boolean)) : Jvm.Cond).before a0 Z = true := hw _ (List.mem_of_getElem? (i := 66) rfl)
def OwnGoW (p : Program) (e : Env) (below : List Frame) (s : State) (Q : Option Value → Heap → List Loc → Prop) (K N : Nat) (U : State) : Prop :=
  ∃ t o, Steps p.tables e below U t ∧ t.status = .running ∧ Ended t below o ∧ ∃ v L, o = .returned v ∧ Q v t.heap L ∧ ReturnedEndW s o t L K N
section OwnKitW
variable {p : Program} {l : Launch} {e : Env} {R : Room} {s : State} {vm0 : Vm} {m : MethodId} {args : Array Value} {below : List Frame} {meth : Method} {c : Code} {T : State} {locs : List Loc} {cells slots : Nat} {Q : Option Value → Heap → List Loc → Prop} {K N k0 : Nat} {U U' : State} {h : Heap}
theorem own_onW (st : ∀ t, Steps p.tables e below U' t → Steps p.tables e below U t) (k : OwnGoW p e below s Q K N U') : OwnGoW p e below s Q K N U := by
  obtain ⟨t, o, h1, r⟩ := k; exact ⟨t, o, st t h1, r⟩
theorem own_trW (st : Steps p.tables e below U U') (k : OwnGoW p e below s Q K N U') : OwnGoW p e below s Q K N U := own_onW (fun _ q => st.trans q) k
theorem own_castW {g g' : JFrame} (q : g = g') (k : OwnGoW p e below s Q K N (T.setTop g')) : OwnGoW p e below s Q K N (T.setTop g) := q ▸ k
theorem own_endW (X : Stand p l e R (s.setVm vm0) m args below meth c T locs cells slots) (hlk : meth.locks = false) {v : Option Value} (hv : meth.sig.returnType = none → v = none) (eT : T.heap = h) (q : Q v h locs) (hk : cells ≤ K) (hn : slots ≤ N) (hS : s.Since vm0 k0) (hk0 : k0 ≤ T.heap.size)
    (st : ∀ fs, (∀ (f : JFrame) (acts : List Action), f.method = m → f.locked = none → f.entered = [] → (doReturn e (T.setTop f) acts v).1 = T.setFrames fs) → Steps p.tables e below U (T.setFrames fs)) : OwnGoW p e below s Q K N U := by
  obtain ⟨fs, hr, hrun, hended, ⟨h1, h2, h3, h4⟩⟩ := X.leaveW hS hk0 (v := v) hv hlk
  refine ⟨_, _, st fs hr, hrun, hended, v, locs, rfl, ?_, h1, h2, h3, h4.mono hk hn⟩
  have : (T.setFrames fs).heap = h := eT
  rw [this]; exact q
theorem own_retNW (X : Stand p l e R (s.setVm vm0) m args below meth c T locs cells slots) (hx : p.tables.exec = Jvm.exec) (hlk : meth.locks = false) {pc : Nat} {Ls : Array Slot} {z : Int32} {t : FieldType} {rest : List Value} (hret : meth.sig.returnType = some t) (ht : t = .boolean ∨ t = .byte ∨ t = .char ∨ t = .short)
    (hd : decode c.code pc = .ok (.ireturn, 1)) (eT : T.heap = h) (q : Q (some (.int (nar t z))) h locs) (hk : cells ≤ K) (hn : slots ≤ N) (hS : s.Since vm0 k0) (hk0 : k0 ≤ T.heap.size) : OwnGoW p e below s Q K N (T.setTop (mkF m pc Ls (.int z :: rest))) :=
  own_endW X hlk (fun h => by rw [hret] at h; cases h) eT q hk hn hS hk0 fun fs hr => retN X hx hret ht hd hr
theorem own_retIW (X : Stand p l e R (s.setVm vm0) m args below meth c T locs cells slots) (hx : p.tables.exec = Jvm.exec) (hlk : meth.locks = false) {pc : Nat} {Ls : Array Slot} {z : Int32} {rest : List Value} (hret : meth.sig.returnType = some .int)
    (hd : decode c.code pc = .ok (.ireturn, 1)) (eT : T.heap = h) (q : Q (some (.int z)) h locs) (hk : cells ≤ K) (hn : slots ≤ N) (hS : s.Since vm0 k0) (hk0 : k0 ≤ T.heap.size) : OwnGoW p e below s Q K N (T.setTop (mkF m pc Ls (.int z :: rest))) :=
  own_endW X hlk (fun h => by rw [hret] at h; cases h) eT q hk hn hS hk0 fun fs hr => retI X hx hret hd hr
theorem own_retAW (X : Stand p l e R (s.setVm vm0) m args below meth c T locs cells slots) (hx : p.tables.exec = Jvm.exec) (hlk : meth.locks = false) {pc : Nat} {Ls : Array Slot} {w : Value} {t : FieldType} {rest : List Value} (hret : meth.sig.returnType = some t) (ht : t.isReference = true) (hw : w.isRef = true)
    (hd : decode c.code pc = .ok (.areturn, 1)) (eT : T.heap = h) (q : Q (some w) h locs) (hk : cells ≤ K) (hn : slots ≤ N) (hS : s.Since vm0 k0) (hk0 : k0 ≤ T.heap.size) : OwnGoW p e below s Q K N (T.setTop (mkF m pc Ls (w :: rest))) :=
  own_endW X hlk (fun h => by rw [hret] at h; cases h) eT q hk hn hS hk0 fun fs hr => retOut X hx hret (by rcases ref_cases hw with rfl | ⟨a, rfl⟩ <;> cases t <;> rfl) (Or.inr (Or.inr (Or.inr (Or.inr ⟨rfl, ht, hw⟩)))) hd hr
theorem own_retVW (X : Stand p l e R (s.setVm vm0) m args below meth c T locs cells slots) (hx : p.tables.exec = Jvm.exec) (hlk : meth.locks = false) {pc : Nat} {Ls : Array Slot} (hret : meth.sig.returnType = none)
    (hd : decode c.code pc = .ok (.return_, 1)) (eT : T.heap = h) (q : Q none h locs) (hk : cells ≤ K) (hn : slots ≤ N) (hS : s.Since vm0 k0) (hk0 : k0 ≤ T.heap.size) : OwnGoW p e below s Q K N (T.setTop (mkF m pc Ls [])) :=
  own_endW X hlk (fun _ => rfl) eT q hk hn hS hk0 fun fs hr => X.returnOut hx hret hd hr
end OwnKitW

def OwnGoJ (p : Program) (e : Env) (below : List Frame) (s : State) (Q : Option Value → Vm → Heap → List Loc → Prop) (K N : Nat) (U : State) : Prop :=
  ∃ t o, Steps p.tables e below U t ∧ t.status = .running ∧ Ended t below o ∧ ∃ v L, o = .returned v ∧ Q v t.vm t.heap L ∧ ReturnedEndW s o t L K N
section OwnKitJ
variable {p : Program} {l : Launch} {e : Env} {R : Room} {s Z : State} {a0 : Array Value} {vm0 : Vm} {m : MethodId} {args : Array Value} {below : List Frame} {meth : Method} {c : Code} {T : State} {locs : List Loc} {cells slots : Nat} {Q : Option Value → Vm → Heap → List Loc → Prop} {K N k0 : Nat} {U U' : State} {h : Heap}
theorem own_onJ (st : ∀ t, Steps p.tables e below U' t → Steps p.tables e below U t) (k : OwnGoJ p e below s Q K N U') : OwnGoJ p e below s Q K N U := by
  obtain ⟨t, o, h1, r⟩ := k; exact ⟨t, o, st t h1, r⟩
theorem own_trJ (st : Steps p.tables e below U U') (k : OwnGoJ p e below s Q K N U') : OwnGoJ p e below s Q K N U := own_onJ (fun _ q => st.trans q) k
theorem own_castJ {g g' : JFrame} (q : g = g') (k : OwnGoJ p e below s Q K N (T.setTop g')) : OwnGoJ p e below s Q K N (T.setTop g) := q ▸ k
theorem own_endJ (X : Stand p l e R (s.setVm vm0) m args below meth c T locs cells slots) (hlk : meth.locks = false) {v : Option Value} (hv : meth.sig.returnType = none → v = none) (eT : T.heap = h) (q : Q v T.vm h locs) (hk : cells ≤ K) (hn : slots ≤ N) (hS : s.Since vm0 k0) (hk0 : k0 ≤ T.heap.size)
    (st : ∀ fs, (∀ (f : JFrame) (acts : List Action), f.method = m → f.locked = none → f.entered = [] → (doReturn e (T.setTop f) acts v).1 = T.setFrames fs) → Steps p.tables e below U (T.setFrames fs)) : OwnGoJ p e below s Q K N U := by
  obtain ⟨fs, hr, hrun, hended, ⟨h1, h2, h3, h4⟩⟩ := X.leaveW hS hk0 (v := v) hv hlk
  refine ⟨_, _, st fs hr, hrun, hended, v, locs, rfl, ?_, h1, h2, h3, h4.mono hk hn⟩
  have : (T.setFrames fs).heap = h := eT
  rw [this]; exact q
theorem own_retNJ (X : Stand p l e R (s.setVm vm0) m args below meth c T locs cells slots) (hx : p.tables.exec = Jvm.exec) (hlk : meth.locks = false) {pc : Nat} {Ls : Array Slot} {z : Int32} {t : FieldType} {rest : List Value} (hret : meth.sig.returnType = some t) (ht : t = .boolean ∨ t = .byte ∨ t = .char ∨ t = .short)
    (hd : decode c.code pc = .ok (.ireturn, 1)) (eT : T.heap = h) (q : Q (some (.int (nar t z))) T.vm h locs) (hk : cells ≤ K) (hn : slots ≤ N) (hS : s.Since vm0 k0) (hk0 : k0 ≤ T.heap.size) : OwnGoJ p e below s Q K N (T.setTop (mkF m pc Ls (.int z :: rest))) :=
  own_endJ X hlk (fun h => by rw [hret] at h; cases h) eT q hk hn hS hk0 fun fs hr => retN X hx hret ht hd hr
theorem own_retAJ (X : Stand p l e R (s.setVm vm0) m args below meth c T locs cells slots) (hx : p.tables.exec = Jvm.exec) (hlk : meth.locks = false) {pc : Nat} {Ls : Array Slot} {w : Value} {t : FieldType} {rest : List Value} (hret : meth.sig.returnType = some t) (ht : t.isReference = true) (hw : w.isRef = true)
    (hd : decode c.code pc = .ok (.areturn, 1)) (eT : T.heap = h) (q : Q (some w) T.vm h locs) (hk : cells ≤ K) (hn : slots ≤ N) (hS : s.Since vm0 k0) (hk0 : k0 ≤ T.heap.size) : OwnGoJ p e below s Q K N (T.setTop (mkF m pc Ls (w :: rest))) :=
  own_endJ X hlk (fun h => by rw [hret] at h; cases h) eT q hk hn hS hk0 fun fs hr => retOut X hx hret (by rcases ref_cases hw with rfl | ⟨a, rfl⟩ <;> cases t <;> rfl) (Or.inr (Or.inr (Or.inr (Or.inr ⟨rfl, ht, hw⟩)))) hd hr
theorem own_retVJ (X : Stand p l e R (s.setVm vm0) m args below meth c T locs cells slots) (hx : p.tables.exec = Jvm.exec) (hlk : meth.locks = false) {pc : Nat} {Ls : Array Slot} (hret : meth.sig.returnType = none)
    (hd : decode c.code pc = .ok (.return_, 1)) (eT : T.heap = h) (q : Q none T.vm h locs) (hk : cells ≤ K) (hn : slots ≤ N) (hS : s.Since vm0 k0) (hk0 : k0 ≤ T.heap.size) : OwnGoJ p e below s Q K N (T.setTop (mkF m pc Ls [])) :=
  own_endJ X hlk (fun _ => rfl) eT q hk hn hS hk0 fun fs hr => X.returnOut hx hret hd hr
theorem own_backJ {J : Vm → Prop} {y : MethodName} {bytes : ByteArray} {maxL : Nat} {ret : Option FieldType} {rm : Room} {len W : Nat} {as' : Array Value}
    (hM : MetFree l y (head1 [Cond.code y bytes maxL ret] rm) (fun a U => a = as' ∧ Z.Warmed39 U.vm ∧ U.heap = h ∧ J U.vm) (fun _ _ _ _ _ => True) (fun _ U o U' => ∃ v L, o = .returned v ∧ Q v U'.vm U'.heap L ∧ ReturnedEndW U o U' L rm.cells rm.slots))
    (hZ : Z.Warmed39 s.vm) (wc : (Cond.code y bytes maxL ret).before a0 Z = true) (wz : (Cond.initialized y.cls).before a0 Z = true) (hf : rm.frames + 1 ≤ R.frames) (hl : W + (maxL + 11) + rm.locals ≤ R.locals) :
    BackS l R p e below s args y len W (fun A a => a = as' ∧ A.U.heap = h ∧ J A.U.vm ∧ A.cells + rm.cells ≤ R.cells ∧ A.slots + rm.slots ≤ R.slots)
      (fun A _ v B => ∃ L, Q v B.U.vm B.U.heap L ∧ B.locs = A.locs ++ L ∧ B.cells = A.cells + rm.cells ∧ B.slots = A.slots + rm.slots) := by
  refine BackS.of_freeW (bytes := bytes) (maxL := maxL) (ret := ret) (E := fun _ _ o t L k n => k = rm.cells ∧ n = rm.slots ∧ ∃ v, o = .returned v ∧ Q v t.vm t.heap L) hM hf hl ?_ ?_ ?_ ?_ ?_
  · intro m meth c A a Y hp
    have hU : Z.Warmed39 A.U.vm := wtrans hZ Y.warmed
    refine ⟨?_, mv hU wc, mv hU wz, hp.2.2.2.1, hp.2.2.2.2⟩
    show (Cond.and _ .tt).before a A.U = true
    rw [Cond.before_and, mv hU wc]; rfl
  · intro m meth c A a g mk Y hp; exact ⟨hp.1, wtrans hZ Y.warmed, hp.2.1, hp.2.2.1⟩
  · intros; trivial
  · rintro _ _ _ _ ⟨v, L, h1, h2, h3⟩; exact ⟨L, _, _, h3, rfl, rfl, v, h1, h2⟩
  · rintro m meth c A a g mk v t L k n Y hp _ _ ⟨e1, e2, v', e3, e4⟩
    cases e3; subst e1 e2; exact ⟨L, e4, rfl, rfl, rfl⟩
end OwnKitJ

theorem own_ib {Z s : State} {vm1 : Vm} {Ts : List String} (I : IB Z s.vm Ts) (h : s.WarmedH vm1) : IB Z vm1 Ts := by
  obtain ⟨more, e, r⟩ := I; exact ⟨more, by rw [h.interned_eq]; exact e, r⟩
theorem own_i2c (x : Int32) : (x &&& (255 : Int32)).toUInt32.toUInt16.toUInt32.toInt32 = x &&& (255 : Int32) := by
  apply Int32.toBitVec_inj.mp
  simp only [UInt32.toBitVec_toInt32, UInt16.toBitVec_toUInt32, UInt32.toBitVec_toUInt16, Int32.toBitVec_toUInt32, Int32.toBitVec_and]
  have e : (255 : Int32).toBitVec = 255#32 := rfl
  rw [e]; generalize x.toBitVec = y
  apply BitVec.eq_of_toNat_eq
  have : (y &&& 255#32).toNat ≤ 255 := by rw [BitVec.toNat_and]; exact Nat.and_le_right
  simp only [BitVec.toNat_setWidth]; omega
theorem own_chr (x : Int32) : nar .char ((x &&& (255 : Int32)).toUInt32.toUInt16.toUInt32.toInt32) = x &&& (255 : Int32) ∧ nar .char (x &&& (255 : Int32)) = x &&& (255 : Int32) :=
  ⟨by simp only [nar, own_i2c], by simp only [nar, own_i2c]⟩
theorem own_shr0 (z : Int32) : z >>> ((0 : Int32) &&& 31) = z := by
  have : ((0 : Int32) &&& 31) = 0 := by decide
  rw [this]; simp
def own_isz (z : Int32) : Int32 := if z = 0 then 1 else 0
def OwnS (Z : State) (h : Heap) (x : Addr) (cs : List Int32) : Prop := ∃ (t : Addr) (kb : ClassId) (N2 : Int32) (vs : List Value), Exa Z h x "java/lang/String" ∧ Fld Z h x "java/lang/String" "coder" "B" (.int (0 : Int32)) ∧ Fld Z h x "java/lang/String" "value" "[B" (.ref t) ∧ Arv Z h t kb .byte N2 vs (.int (0 : Int32)) ∧ StrChars.Road.CodA cs 0 N2 vs ∧ (∀ c ∈ cs, ¬ c < 0 ∧ ¬ (65535 : Int32) < c) ∧ cs.length ≤ 4000
def OwnObj (Z : State) (a0 : Array Value) (h : Heap) (w : Addr) : Prop := ∃ (C : String) (n : Nat), Exa Z h w C ∧ (Cond.instantiable C n).before a0 Z = true
section OwnStr
variable {Z : State} {a0 : Array Value} {h h' : Heap} {x a : Addr} {cs : List Int32} {sl : Nat} {v : Value} {ws : List Addr}
theorem OwnS.exa (F : OwnS Z h x cs) : Exa Z h x "java/lang/String" := by obtain ⟨t, kb, N2, vs, h1, -⟩ := F; exact h1
theorem OwnS.ext (F : OwnS Z h x cs) (E : Ext h h') : OwnS Z h' x cs := by obtain ⟨t, kb, N2, vs, h1, h2, h3, h4, r⟩ := F; exact ⟨t, kb, N2, vs, h1.ext E, h2.ext E, h3.ext E, h4.ext E, r⟩
theorem OwnS.keep (F : OwnS Z h x cs) (K : Keep h h' ws) (q : x ∉ ws) (o : ∀ w ∈ ws, OwnObj Z a0 h w) : OwnS Z h' x cs := by
  obtain ⟨t, kb, N2, vs, h1, h2, h3, h4, r⟩ := F
  have ht : t ∉ ws := fun z => by obtain ⟨C, n, e, w⟩ := o t z; exact Exa.neArv e h4 w rfl
  exact ⟨t, kb, N2, vs, h1.keep K, h2.keep K q, h3.keep K q, h4.keep K ht, r⟩
theorem OwnS.other (F : OwnS Z h x cs) (W : Wr h h' a sl v) (q : x ≠ a) (o : OwnObj Z a0 h a) : OwnS Z h' x cs :=
  F.keep (Keep.of_wr W) (ninS q nin0) (allS o all0)
end OwnStr
def own_e (cs ds : List Int32) : Int32 := if cs = ds then 1 else 0
theorem own_weq {Z : State} {a0 : Array Value} (hw : ∀ d ∈ tables_1, d.before a0 Z = true) : ∀ d ∈ StrChars.Road.wordsEq, d.before a0 Z = true := fun d hd => hw d ((by decide +kernel : ∀ d ∈ StrChars.Road.wordsEq, d ∈ tables_1) d hd)
theorem own_eqS {p : Program} {l : Launch} {e : Env} {R : Room} {s : State} {args : Array Value} {below : List Frame} {W : Nat} {Z : State} {a0 : Array Value} {h : Heap} {n0 : Nat} (hZ : Z.Warmed39 s.vm) (hw : ∀ d ∈ tables_1, d.before a0 Z = true) {x y : Addr} {cs ds : List Int32} {z : Int32}
    (A : OwnS Z h x cs) (B : OwnS Z h y ds) (O : Old Z n0 h) (S : Sta Z Z.heap "java/lang/String" "COMPACT_STRINGS" "Z" (.int z)) (hz : ¬ z = 0) (hfr : 2 ≤ R.frames) (hlo : W + 28 ≤ R.locals) :
    Back l R p e below s args (⟨"java/lang/String", "equals", "(Ljava/lang/Object;)Z"⟩ : MethodName) 3 W (fun P a => a = #[.ref x, .ref y] ∧ P.U.heap = h ∧ P.cells + 0 ≤ R.cells ∧ P.slots + 0 ≤ R.slots)
      (fun P _ v B => ∃ L, (v = some (.int (own_e cs ds)) ∧ Fr n0 L ∧ B.U.heap = h) ∧ B.locs = P.locs ++ L ∧ B.cells = P.cells + 0 ∧ B.slots = P.slots + 0) := by
  obtain ⟨t, kb, N2, vs, a1, a2, a3, a4, a5, a6, a7⟩ := A
  obtain ⟨t', kb', N2', vs', b1, b2, b3, b4, b5, b6, b7⟩ := B
  refine Back.mono (StrChars.Road.eqW hZ (own_weq hw) (kI := 4) (w9 hw) a1 a3 a2 a4 a5 a6 a7 b1 b3 b2 b4 b5 b6 b7 (S.ext O.2) hz hfr hlo) (fun P a hp => hp) (fun P a v B hp hq => ?_)
  obtain ⟨L, ⟨q, rfl, qh⟩, r⟩ := hq
  refine ⟨[], ⟨?_, Fr.nil _, qh⟩, r⟩
  rcases q with ⟨q1, q2⟩ | ⟨q1, q2⟩
  · rw [q1, own_e, if_pos q2]
  · rw [q1, own_e, if_neg q2]
theorem own_lt {c : Int32} (h : (65535 : Int32) < c) : (255 : Int32) < c := by
  rw [Int32.lt_iff_toInt_lt] at h ⊢; simp only [Int32.reduceToInt] at h ⊢; omega
theorem own_wnew {Z : State} {a0 : Array Value} (hw : ∀ d ∈ tables_1, d.before a0 Z = true) : ∀ d ∈ StrChars.Road.words, d.before a0 Z = true := fun d hd => hw d ((by decide +kernel : ∀ d ∈ StrChars.Road.words, d ∈ tables_1) d hd)
theorem own_newS {p : Program} {l : Launch} {e : Env} {R : Room} {s : State} {args : Array Value} {below : List Frame} {W : Nat} {Z : State} {a0 : Array Value} {h : Heap} {n0 : Nat} (hZ : Z.Warmed39 s.vm) (hw : ∀ d ∈ tables_1, d.before a0 Z = true) {x b : Addr} {kC : ClassId} {cs : List Int32} {d v0 c0 : Value} {z N : Int32} {n : Nat}
    (hx0 : n0 ≤ x) (hh0 : n0 ≤ h.size) (E : Exa Z h x "java/lang/String") (V : Fld Z h x "java/lang/String" "value" "[B" v0) (C : Fld Z h x "java/lang/String" "coder" "B" c0) (K : Arv Z h b kC .char N (cs.map Value.int) d) (O : Old Z n0 h) (S : Sta Z Z.heap "java/lang/String" "COMPACT_STRINGS" "Z" (.int z)) (hz : ¬ z = 0)
    (hn : cs.length = n) (hN : N = Int32.ofNat n) (l0 : 0 < n) (l2 : n ≤ 4000) (hp : ∀ c ∈ cs, ¬ c < 0 ∧ ¬ (255 : Int32) < c) (hfr : 4 ≤ R.frames) (hlo : W + 65 ≤ R.locals) :
    Back l R p e below s args (⟨"java/lang/String", "<init>", "([C)V"⟩ : MethodName) 3 W (fun P a => a = #[.ref x, .ref b] ∧ P.U.heap = h ∧ P.cells + 1 ≤ R.cells ∧ P.slots + n ≤ R.slots)
      (fun P _ v B => ∃ L, (v = none ∧ Fr n0 L ∧ Keep h B.U.heap [x] ∧ Exa Z B.U.heap x "java/lang/String" ∧ OwnS Z B.U.heap x cs) ∧ B.locs = P.locs ++ L ∧ B.cells = P.cells + 1 ∧ B.slots = P.slots + n) := by
  refine Back.mono (StrChars.Road.backV hZ (own_wnew hw) (kI := 4) (w9 hw) hx0 hh0 E V C K (S.ext O.2) hz hn hN l0 l2 hp rfl hfr hlo) (fun P a hp => hp) (fun P a v B hq' hq => ?_)
  obtain ⟨L, ⟨q1, q2, q3, q4, q5, t, kb, q6, q7, q8, q9, q10⟩, r⟩ := hq
  refine ⟨L, ⟨q1, q2, q3, q4, t, kb, N, _, q4, q5, q9, q10, ?_, fun c hc => ⟨(hp c hc).1, fun q => (hp c hc).2 (own_lt q)⟩, by omega⟩, r⟩
  exact Or.inl ⟨rfl, by rw [hn]; exact hN, by rw [List.map_map]; rfl, fun c hc => (hp c hc).2⟩

theorem own_str {Z : State} {a0 : Array Value} (hw : ∀ d ∈ tables_1, d.before a0 Z = true) : ∀ a ∈ Bundle.stringAtoms, a.before a0 Z = true := fun d hd => hw d (by
  simp only [Bundle.stringAtoms, Bundle.sN, List.mem_cons, List.not_mem_nil, or_false] at hd
  rcases hd with rfl | rfl | rfl | rfl | rfl | rfl | rfl <;> (simp [tables_1]))
theorem own_nz {t : Term} {args : Array Value} {s : State} {z : Int32} (ev : t.eval args s none [] s = some (.int z)) (h : (Cond.not (Cond.eq t (.int 0))).value args s none s [] = some true) : ¬ (z = (0 : Int32)) := by
  have h1 := not_v h
  rintro rfl
  simp [Cond.value, Term.eval, ev] at h1
def OwnI (Z : State) (vm : Vm) (_ : Heap) : Prop := IB Z vm []
theorem OwnI.warm {Z s : State} {vm1 : Vm} {h : Heap} (F : OwnI Z s.vm h) (hW : s.WarmedH vm1) : OwnI Z vm1 h := own_ib F hW
theorem own_ge0 (x : Int32) : ¬ ((x &&& (255 : Int32)).toUInt32.toUInt16.toUInt32.toInt32) < (0 : Int32) := by
  rw [own_i2c, Int32.lt_iff_toInt_lt]; have := c_and x 255 (by decide); simp only [Int32.reduceToInt] at this ⊢; omega
theorem own_le255 (x : Int32) : ¬ (255 : Int32) < ((x &&& (255 : Int32)).toUInt32.toUInt16.toUInt32.toInt32) := by
  rw [own_i2c, Int32.lt_iff_toInt_lt]; have := c_and x 255 (by decide); simp only [Int32.reduceToInt] at this ⊢; omega
theorem own_narc (k : Int32) (h0 : ¬ k < (0 : Int32)) (h1 : ¬ (255 : Int32) < k) : nar .char k = k := by
  have := c_i2c k; rw [Int32.lt_iff_toInt_lt] at h0 h1; simp only [Int32.reduceToInt] at h0 h1
  simp only [nar]; apply Int32.toInt_inj.mp; omega
def own_r3 (z : Int32) : Prop := z = 0 ∨ z = 1 ∨ z = 2 ∨ z = 3
theorem own_m3 (x : Int32) : own_r3 (x &&& (3 : Int32)) := by
  have := c_and x 3 (by decide)
  simp only [own_r3, ← Int32.toInt_inj]; simp only [Int32.reduceToInt] at this ⊢; omega
def own_pick (i a : Int32) : List Int32 := if i = 0 then [42] else if i = 1 then [a, 120] else if i = 2 then [a, 121] else [42, a]
def own_inc (T1 S1 T2 S2 : List Int32) : Int32 := if own_e T1 [42] = 0 then (if own_e T1 T2 = 0 then 0 else if own_e S1 [42] = 0 then (if own_e S1 S2 = 0 then 0 else 1) else 1) else 1
theorem own_pk0 (x a : Int32) (hx : own_r3 x) : own_e (own_pick x a) [42] = if x = 0 then 1 else 0 := by
  rcases hx with rfl | rfl | rfl | rfl <;> simp [own_pick, own_e]
theorem own_pk (x y a : Int32) (hx : own_r3 x) (hy : own_r3 y) : own_e (own_pick x a) (own_pick y a) = if x = y then 1 else 0 := by
  rcases hx with rfl | rfl | rfl | rfl <;> rcases hy with rfl | rfl | rfl | rfl <;> simp [own_pick, own_e] <;> (intro h; subst h; decide)
theorem own_fin (t1 s1 t2 s2 a : Int32) (h1 : own_r3 t1) (h2 : own_r3 s1) (h3 : own_r3 t2) (h4 : own_r3 s2) : own_inc (own_pick t1 a) (own_pick s1 a) (own_pick t2 a) (own_pick s2 a) = if t1 = 0 then 1 else if t1 = t2 then (if s1 = 0 then 1 else if s1 = s2 then 1 else 0) else 0 := by
  simp only [own_inc, own_pk0 _ _ h1, own_pk0 _ _ h2, own_pk _ _ _ h1 h3, own_pk _ _ _ h2 h4]
  by_cases a1 : t1 = 0 <;> by_cases a2 : t1 = t2 <;> by_cases a3 : s1 = 0 <;> by_cases a4 : s1 = s2 <;> simp [a1, a2, a3, a4] <;> simp_all
theorem d9_0 : decode jdk_30_method_1_code 0 = .ok (.aload_n 0, 1) := by decide +kernel
theorem d9_1 : decode jdk_30_method_1_code 1 = .ok (.invokespecial 1, 3) := by decide +kernel
theorem d9_4 : decode jdk_30_method_1_code 4 = .ok (.return_, 1) := by decide +kernel
theorem pn_0 : plainName "java/lang/Record" = true := by first | (simp [plainName, overriddenIn]; done) | decide +kernel
theorem d1_0 : decode method_2_code 0 = .ok (.iload_n 0, 1) := by decide +kernel
theorem d1_1 : decode method_2_code 1 = .ok (.ifCond .ne 15, 3) := by decide +kernel
theorem d1_4 : decode method_2_code 4 = .ok (.iconst 1, 1) := by decide +kernel
theorem d1_5 : decode method_2_code 5 = .ok (.newarray .char, 2) := by decide +kernel
theorem d1_7 : decode method_2_code 7 = .ok (.dup, 1) := by decide +kernel
theorem d1_8 : decode method_2_code 8 = .ok (.iconst 0, 1) := by decide +kernel
theorem d1_9 : decode method_2_code 9 = .ok (.bipush 42, 2) := by decide +kernel
theorem d1_11 : decode method_2_code 11 = .ok (.castore, 1) := by decide +kernel
theorem d1_12 : decode method_2_code 12 = .ok (.astore_n 2, 1) := by decide +kernel
theorem d1_13 : decode method_2_code 13 = .ok (.goto 58, 3) := by decide +kernel
theorem d1_71 : decode method_2_code 71 = .ok (.new 7, 3) := by decide +kernel
theorem d1_74 : decode method_2_code 74 = .ok (.dup, 1) := by decide +kernel
theorem d1_75 : decode method_2_code 75 = .ok (.aload_n 2, 1) := by decide +kernel
theorem d1_76 : decode method_2_code 76 = .ok (.invokespecial 9, 3) := by decide +kernel
theorem pd_0 : parseMethodDescriptor "([C)V" = some ⟨[(.array .char)], none⟩ := by decide +kernel
theorem d1_79 : decode method_2_code 79 = .ok (.areturn, 1) := by decide +kernel
theorem d1_16 : decode method_2_code 16 = .ok (.iload_n 0, 1) := by decide +kernel
theorem d1_17 : decode method_2_code 17 = .ok (.iconst 1, 1) := by decide +kernel
theorem d1_18 : decode method_2_code 18 = .ok (.if_icmp .ne 19, 3) := by decide +kernel
theorem d1_21 : decode method_2_code 21 = .ok (.iconst 2, 1) := by decide +kernel
theorem d1_22 : decode method_2_code 22 = .ok (.newarray .char, 2) := by decide +kernel
theorem d1_24 : decode method_2_code 24 = .ok (.dup, 1) := by decide +kernel
theorem d1_25 : decode method_2_code 25 = .ok (.iconst 0, 1) := by decide +kernel
theorem d1_26 : decode method_2_code 26 = .ok (.iload_n 1, 1) := by decide +kernel
theorem d1_27 : decode method_2_code 27 = .ok (.castore, 1) := by decide +kernel
theorem d1_28 : decode method_2_code 28 = .ok (.dup, 1) := by decide +kernel
theorem d1_29 : decode method_2_code 29 = .ok (.iconst 1, 1) := by decide +kernel
theorem d1_30 : decode method_2_code 30 = .ok (.bipush 120, 2) := by decide +kernel
theorem d1_32 : decode method_2_code 32 = .ok (.castore, 1) := by decide +kernel
theorem d1_33 : decode method_2_code 33 = .ok (.astore_n 2, 1) := by decide +kernel
theorem d1_34 : decode method_2_code 34 = .ok (.goto 37, 3) := by decide +kernel
theorem d1_37 : decode method_2_code 37 = .ok (.iload_n 0, 1) := by decide +kernel
theorem d1_38 : decode method_2_code 38 = .ok (.iconst 2, 1) := by decide +kernel
theorem d1_39 : decode method_2_code 39 = .ok (.if_icmp .ne 19, 3) := by decide +kernel
theorem d1_42 : decode method_2_code 42 = .ok (.iconst 2, 1) := by decide +kernel
theorem d1_43 : decode method_2_code 43 = .ok (.newarray .char, 2) := by decide +kernel
theorem d1_45 : decode method_2_code 45 = .ok (.dup, 1) := by decide +kernel
theorem d1_46 : decode method_2_code 46 = .ok (.iconst 0, 1) := by decide +kernel
theorem d1_47 : decode method_2_code 47 = .ok (.iload_n 1, 1) := by decide +kernel
theorem d1_48 : decode method_2_code 48 = .ok (.castore, 1) := by decide +kernel
theorem d1_49 : decode method_2_code 49 = .ok (.dup, 1) := by decide +kernel
theorem d1_50 : decode method_2_code 50 = .ok (.iconst 1, 1) := by decide +kernel
theorem d1_51 : decode method_2_code 51 = .ok (.bipush 121, 2) := by decide +kernel
theorem d1_53 : decode method_2_code 53 = .ok (.castore, 1) := by decide +kernel
theorem d1_54 : decode method_2_code 54 = .ok (.astore_n 2, 1) := by decide +kernel
theorem d1_55 : decode method_2_code 55 = .ok (.goto 16, 3) := by decide +kernel
theorem d1_58 : decode method_2_code 58 = .ok (.iconst 2, 1) := by decide +kernel
theorem d1_59 : decode method_2_code 59 = .ok (.newarray .char, 2) := by decide +kernel
theorem d1_61 : decode method_2_code 61 = .ok (.dup, 1) := by decide +kernel
theorem d1_62 : decode method_2_code 62 = .ok (.iconst 0, 1) := by decide +kernel
theorem d1_63 : decode method_2_code 63 = .ok (.bipush 42, 2) := by decide +kernel
theorem d1_65 : decode method_2_code 65 = .ok (.castore, 1) := by decide +kernel
theorem d1_66 : decode method_2_code 66 = .ok (.dup, 1) := by decide +kernel
theorem d1_67 : decode method_2_code 67 = .ok (.iconst 1, 1) := by decide +kernel
theorem d1_68 : decode method_2_code 68 = .ok (.iload_n 1, 1) := by decide +kernel
theorem d1_69 : decode method_2_code 69 = .ok (.castore, 1) := by decide +kernel
theorem d1_70 : decode method_2_code 70 = .ok (.astore_n 2, 1) := by decide +kernel
theorem pn_1 : plainName "org/pathbind/MediaTypeIncludesPinLaw" = true := by first | (simp [plainName, overriddenIn]; done) | decide +kernel
theorem d8_0 : decode prog_30_method_1_code 0 = .ok (.aload_n 0, 1) := by decide +kernel
theorem d8_1 : decode prog_30_method_1_code 1 = .ok (.invokespecial 1, 3) := by decide +kernel
theorem pd_1 : parseMethodDescriptor "()V" = some ⟨[], none⟩ := by decide +kernel
theorem d8_4 : decode prog_30_method_1_code 4 = .ok (.aload_n 0, 1) := by decide +kernel
theorem d8_5 : decode prog_30_method_1_code 5 = .ok (.aload_n 1, 1) := by decide +kernel
theorem d8_6 : decode prog_30_method_1_code 6 = .ok (.putfield 7, 3) := by decide +kernel
theorem d8_9 : decode prog_30_method_1_code 9 = .ok (.aload_n 0, 1) := by decide +kernel
theorem d8_10 : decode prog_30_method_1_code 10 = .ok (.aload_n 2, 1) := by decide +kernel
theorem d8_11 : decode prog_30_method_1_code 11 = .ok (.putfield 13, 3) := by decide +kernel
theorem d8_14 : decode prog_30_method_1_code 14 = .ok (.aload_n 0, 1) := by decide +kernel
theorem d8_15 : decode prog_30_method_1_code 15 = .ok (.aload_n 3, 1) := by decide +kernel
theorem d8_16 : decode prog_30_method_1_code 16 = .ok (.putfield 16, 3) := by decide +kernel
theorem d8_19 : decode prog_30_method_1_code 19 = .ok (.aload_n 0, 1) := by decide +kernel
theorem d8_20 : decode prog_30_method_1_code 20 = .ok (.aload 4, 2) := by decide +kernel
theorem d8_22 : decode prog_30_method_1_code 22 = .ok (.putfield 20, 3) := by decide +kernel
theorem d8_25 : decode prog_30_method_1_code 25 = .ok (.return_, 1) := by decide +kernel
theorem pn_2 : plainName "org/pathbind/MediaType" = true := by first | (simp [plainName, overriddenIn]; done) | decide +kernel
theorem d10_0 : decode prog_30_method_6_code 0 = .ok (.aload_n 0, 1) := by decide +kernel
theorem d10_1 : decode prog_30_method_6_code 1 = .ok (.getfield 7, 3) := by decide +kernel
theorem d10_4 : decode prog_30_method_6_code 4 = .ok (.ldc 52, 2) := by decide +kernel
theorem d10_6 : decode prog_30_method_6_code 6 = .ok (.invokevirtual 54, 3) := by decide +kernel
theorem pd_2 : parseMethodDescriptor "(Ljava/lang/Object;)Z" = some ⟨[(.object "java/lang/Object")], some .boolean⟩ := by decide +kernel
theorem d10_9 : decode prog_30_method_6_code 9 = .ok (.ifCond .ne 43, 3) := by decide +kernel
theorem d10_12 : decode prog_30_method_6_code 12 = .ok (.aload_n 0, 1) := by decide +kernel
theorem d10_13 : decode prog_30_method_6_code 13 = .ok (.getfield 7, 3) := by decide +kernel
theorem d10_16 : decode prog_30_method_6_code 16 = .ok (.aload_n 1, 1) := by decide +kernel
theorem d10_17 : decode prog_30_method_6_code 17 = .ok (.getfield 7, 3) := by decide +kernel
theorem d10_20 : decode prog_30_method_6_code 20 = .ok (.invokevirtual 54, 3) := by decide +kernel
theorem d10_23 : decode prog_30_method_6_code 23 = .ok (.ifCond .eq 33, 3) := by decide +kernel
theorem d10_56 : decode prog_30_method_6_code 56 = .ok (.iconst 0, 1) := by decide +kernel
theorem d10_57 : decode prog_30_method_6_code 57 = .ok (.ireturn, 1) := by decide +kernel
theorem d10_26 : decode prog_30_method_6_code 26 = .ok (.aload_n 0, 1) := by decide +kernel
theorem d10_27 : decode prog_30_method_6_code 27 = .ok (.getfield 13, 3) := by decide +kernel
theorem d10_30 : decode prog_30_method_6_code 30 = .ok (.ldc 52, 2) := by decide +kernel
theorem d10_32 : decode prog_30_method_6_code 32 = .ok (.invokevirtual 54, 3) := by decide +kernel
theorem d10_35 : decode prog_30_method_6_code 35 = .ok (.ifCond .ne 17, 3) := by decide +kernel
theorem d10_38 : decode prog_30_method_6_code 38 = .ok (.aload_n 0, 1) := by decide +kernel
theorem d10_39 : decode prog_30_method_6_code 39 = .ok (.getfield 13, 3) := by decide +kernel
theorem d10_42 : decode prog_30_method_6_code 42 = .ok (.aload_n 1, 1) := by decide +kernel
theorem d10_43 : decode prog_30_method_6_code 43 = .ok (.getfield 13, 3) := by decide +kernel
theorem d10_46 : decode prog_30_method_6_code 46 = .ok (.invokevirtual 54, 3) := by decide +kernel
theorem d10_49 : decode prog_30_method_6_code 49 = .ok (.ifCond .eq 7, 3) := by decide +kernel
theorem d10_52 : decode prog_30_method_6_code 52 = .ok (.iconst 1, 1) := by decide +kernel
theorem d10_53 : decode prog_30_method_6_code 53 = .ok (.goto 4, 3) := by decide +kernel
theorem pd_3 : parseMethodDescriptor "(IC)Ljava/lang/String;" = some ⟨[.int, .char], some (.object "java/lang/String")⟩ := by decide +kernel
theorem pd_4 : parseMethodDescriptor "(Ljava/lang/String;Ljava/lang/String;Ljava/util/Map;Ljava/lang/String;)V" = some ⟨[(.object "java/lang/String"), (.object "java/lang/String"), (.object "java/util/Map"), (.object "java/lang/String")], none⟩ := by decide +kernel
theorem pd_5 : parseMethodDescriptor "(Lorg/pathbind/MediaType;)Z" = some ⟨[(.object "org/pathbind/MediaType")], some .boolean⟩ := by decide +kernel
theorem ef_9 (m : MethodId) (a : Addr)  : entryFrame m #[(.ref a)] 1 = mkF m 0 #[.val (.ref a)] [] := by first | (simp [entryFrame, mkF, argsToLocals, Value.category]; done) | rfl
def Q9 (Z : State) (a : Addr) (h0 : Heap) (n0 : Nat) (v_ : Option Value) (h_ : Heap) (L_ : List Loc) : Prop := v_ = none ∧ Fr n0 L_ ∧ h_ = h0
set_option maxRecDepth 65536 in
set_option maxHeartbeats 40000000 in
theorem rm9 (l : Launch) (Z : State) (a0 : Array Value) (hw : ∀ d ∈ tables_1, d.before a0 Z = true) (ws : List Jvm.Cond) (a : Addr) (h0 : Heap) (n0 : Nat) (Z0 : n0 ≤ h0.size)  :
    MetFree l (⟨"java/lang/Record", "<init>", "()V"⟩ : MethodName) (head1 (Jvm.Cond.code (⟨"java/lang/Record", "<init>", "()V"⟩ : MethodName) jdk_30_method_1_code 1 none :: ws) ({ frames := 1, cells := 0, slots := 0, locals := 12 } : Room)) (fun A_ U => A_ = #[(.ref a)] ∧ Z.Warmed39 U.vm ∧ U.heap = h0) (fun _ _ _ _ _ => True) (fun _ U_ o_ U'_ => ∃ v_ L_, o_ = .returned v_ ∧ Q9 Z a h0 n0 v_ U'_.heap L_ ∧ FrameEnd U_ o_ U'_ L_ ({ frames := 1, cells := 0, slots := 0, locals := 12 } : Room).cells ({ frames := 1, cells := 0, slots := 0, locals := 12 } : Room).slots) := by
  refine MetFree.of_bodySF (plainFor_of_name pn_0) hisR ?_
  intro p e s m args below meth c s₁ Bd hml0 hP hK
  obtain ⟨rfl, hZ, hh⟩ := hP
  have hx := Bd.exec
  have hby := Bd.bytes
  have hml : c.maxLocals = 1 := hml0
  have hown : s.vm.findClass "java/lang/Record" = some m.cls := findClass_of_methodNamed Bd.named
  have hnm := (name_of_methodNamed Bd.named Bd.method).1
  have hlk : meth.locks = false := Bd.notSynchronized
  have X0 : Stand p l e ({ frames := 1, cells := 0, slots := 0, locals := 12 } : Room) s m #[(.ref a)] below meth c s₁ [] 0 0 := Stand.of_body Bd
  have e0 : s₁.heap = h0 := by rw [← hh, Bd.state]; rfl
  have N0 := Fr.nil n0
  have K0 : Keep h0 h0 [] := Keep.refl _ _
  refine own_cast (ef_9 m a) ?_
  show OwnGo p e below s (Q9 Z a h0 n0) ({ frames := 1, cells := 0, slots := 0, locals := 12 } : Room).cells ({ frames := 1, cells := 0, slots := 0, locals := 12 } : Room).slots (s₁.setTop (mkF m 0 #[.val (.ref a)] []))
  refine own_on (fun t_ k_ => XS.aloadN X0.here hx rfl (hb hby d9_0) rfl rfl k_) ?_
  show OwnGo p e below s _ _ _ (s₁.setTop (mkF m 1 #[.val (.ref a)] [(.ref a)]))
  obtain ⟨T1, X1, e1, st1⟩ := initO X0 hx hZ hown (w45 hw) (w19 hw) (w20 hw) e0 (g := (mkF m 1 #[.val (.ref a)] [(.ref a)])) rfl (by rw [hml]; rfl) rfl (hb hby d9_1) (by decide) (W := 0) (by show 2 * 0 + _ ≤ _; exact Nat.le_of_eq rfl) (by decide)
  refine own_on st1 ?_
  show OwnGo p e below s _ _ _ (T1.setTop (mkF m 4 #[.val (.ref a)] []))
  exact own_retV X1 hx hlk Bd.returns (hb hby d9_4) e1 ⟨rfl, N0, rfl⟩ (by decide) (by decide)
theorem ef_1 (m : MethodId) (ii : Int32) (ch : Int32)  : entryFrame m #[(.int ii), (.int ch)] 3 = mkF m 0 #[.val (.int ii), .val (.int ch), .unset] [] := by first | (simp [entryFrame, mkF, argsToLocals, Value.category]; done) | rfl
def Q1 (Z : State) (ii : Int32) (ch : Int32) (cs : Int32) (h0 : Heap) (n0 : Nat) (v_ : Option Value) (h_ : Heap) (L_ : List Loc) : Prop := ∃ r : Addr, v_ = some (.ref r) ∧ Fr n0 L_ ∧ Keep h0 h_ [] ∧ (Exa Z h_ r "java/lang/String") ∧ (OwnS Z h_ r (own_pick ii ch)) ∧ (n0 ≤ r) ∧ (h0.size ≤ r) ∧ (Old Z n0 h_)
set_option maxRecDepth 65536 in
set_option maxHeartbeats 40000000 in
theorem rm1 (l : Launch) (Z : State) (a0 : Array Value) (hw : ∀ d ∈ tables_1, d.before a0 Z = true) (ws : List Jvm.Cond) (ii : Int32) (ch : Int32) (cs : Int32) (h0 : Heap) (n0 : Nat) (Z0 : n0 ≤ h0.size) (P0 : Old Z n0 h0) (P1 : Sta Z Z.heap "java/lang/String" "COMPACT_STRINGS" "Z" (.int cs)) (P2 : ¬ (cs = (0 : Int32))) (P3 : ¬ ch < (0 : Int32)) (P4 : ¬ (255 : Int32) < ch) :
    MetFree l (⟨"org/pathbind/MediaTypeIncludesPinLaw", "pick", "(IC)Ljava/lang/String;"⟩ : MethodName) (head1 (Jvm.Cond.code (⟨"org/pathbind/MediaTypeIncludesPinLaw", "pick", "(IC)Ljava/lang/String;"⟩ : MethodName) method_2_code 3 (some (.object "java/lang/String")) :: ws) ({ frames := 4, cells := 3, slots := 8, locals := 66 } : Room)) (fun A_ U => A_ = #[(.int ii), (.int ch)] ∧ Z.Warmed39 U.vm ∧ U.heap = h0) (fun _ _ _ _ _ => True) (fun _ U_ o_ U'_ => ∃ v_ L_, o_ = .returned v_ ∧ Q1 Z ii ch cs h0 n0 v_ U'_.heap L_ ∧ FrameEnd U_ o_ U'_ L_ ({ frames := 4, cells := 3, slots := 8, locals := 66 } : Room).cells ({ frames := 4, cells := 3, slots := 8, locals := 66 } : Room).slots) := by
  refine MetFree.of_bodySF (plainFor_of_name pn_1) hisR ?_
  intro p e s m args below meth c s₁ Bd hml0 hP hK
  obtain ⟨rfl, hZ, hh⟩ := hP
  have hx := Bd.exec
  have hby := Bd.bytes
  have hml : c.maxLocals = 3 := hml0
  have hown : s.vm.findClass "org/pathbind/MediaTypeIncludesPinLaw" = some m.cls := findClass_of_methodNamed Bd.named
  have hnm := (name_of_methodNamed Bd.named Bd.method).1
  have hlk : meth.locks = false := Bd.notSynchronized
  have X0 : Stand p l e ({ frames := 4, cells := 3, slots := 8, locals := 66 } : Room) s m #[(.int ii), (.int ch)] below meth c s₁ [] 0 0 := Stand.of_body Bd
  have e0 : s₁.heap = h0 := by rw [← hh, Bd.state]; rfl
  have N0 := Fr.nil n0
  have K0 : Keep h0 h0 [] := Keep.refl _ _
  refine own_cast (ef_1 m ii ch) ?_
  show OwnGo p e below s (Q1 Z ii ch cs h0 n0) ({ frames := 4, cells := 3, slots := 8, locals := 66 } : Room).cells ({ frames := 4, cells := 3, slots := 8, locals := 66 } : Room).slots (s₁.setTop (mkF m 0 #[.val (.int ii), .val (.int ch), .unset] []))
  refine own_on (fun t_ k_ => XS.iloadN X0.here hx rfl (hb hby d1_0) rfl k_) ?_
  show OwnGo p e below s _ _ _ (s₁.setTop (mkF m 1 #[.val (.int ii), .val (.int ch), .unset] [(.int ii)]))
  by_cases q0 : ii = (0 : Int32)
  · refine own_on (fun t_ k_ => XS.ifNo X0.here hx rfl (hb hby d1_1) rfl ((if0 _ _).trans (teq q0).2) k_) ?_
    show OwnGo p e below s _ _ _ (s₁.setTop (mkF m 4 #[.val (.int ii), .val (.int ch), .unset] []))
    refine own_on (fun t_ k_ => XS.iconst X0.here hx rfl (hb hby d1_4) k_) ?_
    show OwnGo p e below s _ _ _ (s₁.setTop (mkF m 5 #[.val (.int ii), .val (.int ch), .unset] [(.int (1 : Int32))]))
    obtain ⟨T1, h1, k1, X1, e1, E1, A1, st1⟩ := newP (aty := .char) X0 hx hZ (w7 hw) e0 (g := (mkF m 5 #[.val (.int ii), .val (.int ch), .unset] [(.int (1 : Int32))])) rfl (hb hby d1_5) rfl (by decide) (cap := 1) (by decide) (by decide) (by decide) (by decide)
    obtain ⟨b1, g1⟩ : ∃ z, z = h0.size := ⟨_, rfl⟩
    rw [← g1] at A1 st1
    have g2 : n0 ≤ b1 := Nat.le_trans Z0 (Nat.le_of_eq g1.symm)
    have z3 : h0.size ≤ b1 := Nat.le_trans K0.1 (Nat.le_of_eq g1.symm)
    have V1 : Arv Z h1 b1 k1 .char (1 : Int32) [(.int (0 : Int32))] (.int (0 : Int32)) := (Arv.new A1 (by decide)).pad (pad_rep [] (.int (0 : Int32)) 1)
    have Z1 : n0 ≤ h1.size := Nat.le_trans Z0 E1.1
    have K1 : Keep h0 h1 [] := K0.ext E1
    refine own_on st1 ?_
    show OwnGo p e below s _ _ _ (T1.setTop (mkF m 7 #[.val (.int ii), .val (.int ch), .unset] [(.ref b1)]))
    refine own_on (fun t_ k_ => XS.dup X1.here hx rfl (hb hby d1_7) rfl rfl k_) ?_
    show OwnGo p e below s _ _ _ (T1.setTop (mkF m 8 #[.val (.int ii), .val (.int ch), .unset] [(.ref b1), (.ref b1)]))
    refine own_on (fun t_ k_ => XS.iconst X1.here hx rfl (hb hby d1_8) k_) ?_
    show OwnGo p e below s _ _ _ (T1.setTop (mkF m 9 #[.val (.int ii), .val (.int ch), .unset] [(.int (0 : Int32)), (.ref b1), (.ref b1)]))
    refine own_on (fun t_ k_ => XS.bipush X1.here hx rfl (hb hby d1_9) k_) ?_
    show OwnGo p e below s _ _ _ (T1.setTop (mkF m 11 #[.val (.int ii), .val (.int ch), .unset] [(.int (42 : Int32)), (.int (0 : Int32)), (.ref b1), (.ref b1)]))
    obtain ⟨cl4, Ar4, q4, S4, M4, H4, G4⟩ := id V1
    have hin4 : ¬ ((0 : Int32) < 0 ∨ cl4.slots.size ≤ ((0 : Int32)).toNatClampNeg) := inb_of S4 ⟨by decide, by decide⟩
    obtain ⟨T5, h5, X5, e5, W5, st5⟩ := stC X1 hx hZ e1 Ar4 (j := (0 : Int32)) hin4 (g := (mkF m 11 #[.val (.int ii), .val (.int ch), .unset] [(.int (42 : Int32)), (.int (0 : Int32)), (.ref b1), (.ref b1)])) rfl rfl (hb hby d1_11)
    have V5 : Arv Z h5 b1 k1 .char (1 : Int32) [(.int (42 : Int32))] (.int (0 : Int32)) :=  Arv.set Ar4 q4 S4 M4 H4 G4 (fits_nar_char _) W5 0 rfl (Nat.le_of_ble_eq_true rfl)
    have N5 := Fr.snoc X5 N0 g2
    have Z5 : n0 ≤ h5.size := Nat.le_trans Z1 (Keep.of_wr W5).1
    have K5 : Keep h0 h5 [] := K1.wr W5 (Or.inr z3)
    refine own_on st5 ?_
    show OwnGo p e below s _ _ _ (T5.setTop (mkF m 12 #[.val (.int ii), .val (.int ch), .unset] [(.ref b1)]))
    refine own_on (fun t_ k_ => XS.astoreN X5.here hx rfl (hb hby d1_12) rfl rfl (l' := #[.val (.int ii), .val (.int ch), .val (.ref b1)]) rfl k_) ?_
    show OwnGo p e below s _ _ _ (T5.setTop (mkF m 13 #[.val (.int ii), .val (.int ch), .val (.ref b1)] []))
    refine own_on (fun t_ k_ => XS.goto X5.here hx rfl (pc0 := 13) (pc' := 71) rfl (hb hby d1_13) (by decide) (by decide) k_) ?_
    show OwnGo p e below s _ _ _ (T5.setTop (mkF m 71 #[.val (.int ii), .val (.int ch), .val (.ref b1)] []))
    obtain ⟨T6, h6, X6, e6, E6, A6, D6, u6, st6⟩ := newO X5 hx hZ hown (w8 hw) (w9 hw) (w10 hw) e5 (g := (mkF m 71 #[.val (.int ii), .val (.int ch), .val (.ref b1)] [])) rfl (hb hby d1_71) (by decide) (by decide)
    obtain ⟨b6, g6⟩ : ∃ z, z = h5.size := ⟨_, rfl⟩
    rw [← g6] at A6 D6 st6
    have ne7 : b1 ≠ b6 := Nat.ne_of_lt (Nat.lt_of_lt_of_le V5.lt (Nat.le_of_eq g6.symm))
    have g8 : n0 ≤ b6 := Nat.le_trans Z5 (Nat.le_of_eq g6.symm)
    have z9 : h0.size ≤ b6 := Nat.le_trans K5.1 (Nat.le_of_eq g6.symm)
    have Z6 : n0 ≤ h6.size := Nat.le_trans Z5 E6.1
    have K6 : Keep h0 h6 [] := K5.ext E6
    have F6_coder : Fld Z h6 b6 "java/lang/String" "coder" "B" (.int (0 : Int32)) := D6 (Or.inr (w34 hw)) (ty := .byte) (by decide)
    have F6_value : Fld Z h6 b6 "java/lang/String" "value" "[B" .null := D6 (Or.inr (w36 hw)) (ty := (.array .byte)) (by decide)
    refine own_on st6 ?_
    show OwnGo p e below s _ _ _ (T6.setTop (mkF m 74 #[.val (.int ii), .val (.int ch), .val (.ref b1)] [(.ref b6)]))
    refine own_on (fun t_ k_ => XS.dup X6.here hx rfl (hb hby d1_74) rfl rfl k_) ?_
    show OwnGo p e below s _ _ _ (T6.setTop (mkF m 75 #[.val (.int ii), .val (.int ch), .val (.ref b1)] [(.ref b6), (.ref b6)]))
    refine own_on (fun t_ k_ => XS.aloadN X6.here hx rfl (hb hby d1_75) rfl rfl k_) ?_
    show OwnGo p e below s _ _ _ (T6.setTop (mkF m 76 #[.val (.int ii), .val (.int ch), .val (.ref b1)] [(.ref b1), (.ref b6), (.ref b6)]))
    have f10 : Arv Z h6 b1 k1 .char (1 : Int32) [(.int (42 : Int32))] (.int (0 : Int32)) := V5.ext E6
    have f11 : Old Z n0 h1 := P0.ext E1
    have f12 : Old Z n0 h5 := f11.wr W5 g2
    have f13 : Old Z n0 h6 := f12.ext E6
    obtain ⟨_, _, ⟨T14, L14, k14, n14⟩, -, X14, ⟨Lc14, hQ14, l14, y14, z14⟩, st14⟩ := X6.specialBack hx (y := (⟨"java/lang/String", "<init>", "([C)V"⟩ : MethodName)) rfl hown (mvT hZ (w11 hw)) (mvT hZ (w12 hw)) (mvT hZ (w13 hw)) (by decide) (own_newS (n0 := n0) (W := 1) (cs := [(42 : Int32)]) (n := 1) hZ hw g8 Z6 A6 F6_value F6_coder f10 f13 P1 P2 rfl rfl (by decide) (by decide) (by intro c hc; simp only [List.mem_cons, List.not_mem_nil, or_false] at hc; rcases hc with rfl <;> first | exact ⟨P3, P4⟩ | decide) (by decide) (by decide)) (g := (mkF m 76 #[.val (.int ii), .val (.int ch), .val (.ref b1)] [(.ref b1), (.ref b6), (.ref b6)])) rfl (by rw [hml]; rfl) (Steps.refl _) (a := b6) (argsL := [(.ref b1)]) (rest := [(.ref b6)]) (lenOf pd_0 rfl) rfl (by show 2 * 0 + _ ≤ _; exact Nat.le_of_eq rfl) (hb hby d1_76) (fun _ hWx => ⟨rfl, e6, (by decide : 2 + 1 ≤ _), (by decide : 5 + 1 ≤ _)⟩)
    dsimp only [Pt.U, Pt.locs, Pt.cells, Pt.slots] at X14 l14 y14 z14 st14 hQ14
    replace X14 := own_num (c' := 3) (n' := 6) X14 l14 (y14.trans rfl) (z14.trans rfl)
    obtain ⟨rfl, N14q, K14q, c14_0, c14_1⟩ := hQ14
    have N14 := Fr.app N5 N14q
    have Z14 : n0 ≤ T14.heap.size := Nat.le_trans Z6 K14q.1
    have K14 : Keep h0 T14.heap [] := K6.trans K14q (allS (P := fun x => x ∈ [] ∨ h0.size ≤ x) (Or.inr z9) all0)
    refine own_tr st14 ?_
    show OwnGo p e below s _ _ _ (T14.setTop (mkF m 79 #[.val (.int ii), .val (.int ch), .val (.ref b1)] [(.ref b6)]))
    have sp15 : OwnS Z T14.heap b6 (own_pick ii ch) := by rw [show own_pick ii ch = [(42 : Int32)] from by simp [own_pick, *]]; exact c14_1
    have f16 : Old Z n0 T14.heap := f13.keep K14q (allS g8 all0)
    exact own_retA X14 hx hlk Bd.returns rfl rfl (hb hby d1_79) rfl ⟨b6, rfl, N14, K14, c14_0, sp15, g8, z9, f16⟩ (by decide) (by decide)
  · refine own_on (fun t_ k_ => XS.ifYes X0.here hx rfl (pc0 := 1) (pc' := 16) rfl (hb hby d1_1) rfl ((if0 _ _).trans (feq q0).2) (by decide) (by decide) k_) ?_
    show OwnGo p e below s _ _ _ (s₁.setTop (mkF m 16 #[.val (.int ii), .val (.int ch), .unset] []))
    refine own_on (fun t_ k_ => XS.iloadN X0.here hx rfl (hb hby d1_16) rfl k_) ?_
    show OwnGo p e below s _ _ _ (s₁.setTop (mkF m 17 #[.val (.int ii), .val (.int ch), .unset] [(.int ii)]))
    refine own_on (fun t_ k_ => XS.iconst X0.here hx rfl (hb hby d1_17) k_) ?_
    show OwnGo p e below s _ _ _ (s₁.setTop (mkF m 18 #[.val (.int ii), .val (.int ch), .unset] [(.int (1 : Int32)), (.int ii)]))
    by_cases q1 : ii = (1 : Int32)
    · refine own_on (fun t_ k_ => XS.icmpNo X0.here hx rfl (hb hby d1_18) rfl (teq q1).2 k_) ?_
      show OwnGo p e below s _ _ _ (s₁.setTop (mkF m 21 #[.val (.int ii), .val (.int ch), .unset] []))
      refine own_on (fun t_ k_ => XS.iconst X0.here hx rfl (hb hby d1_21) k_) ?_
      show OwnGo p e below s _ _ _ (s₁.setTop (mkF m 22 #[.val (.int ii), .val (.int ch), .unset] [(.int (2 : Int32))]))
      obtain ⟨T17, h17, k17, X17, e17, E17, A17, st17⟩ := newP (aty := .char) X0 hx hZ (w7 hw) e0 (g := (mkF m 22 #[.val (.int ii), .val (.int ch), .unset] [(.int (2 : Int32))])) rfl (hb hby d1_22) rfl (by decide) (cap := 2) (by decide) (by decide) (by decide) (by decide)
      obtain ⟨b17, g17⟩ : ∃ z, z = h0.size := ⟨_, rfl⟩
      rw [← g17] at A17 st17
      have g18 : n0 ≤ b17 := Nat.le_trans Z0 (Nat.le_of_eq g17.symm)
      have z19 : h0.size ≤ b17 := Nat.le_trans K0.1 (Nat.le_of_eq g17.symm)
      have V17 : Arv Z h17 b17 k17 .char (2 : Int32) [(.int (0 : Int32)), (.int (0 : Int32))] (.int (0 : Int32)) := (Arv.new A17 (by decide)).pad (pad_rep [] (.int (0 : Int32)) 2)
      have Z17 : n0 ≤ h17.size := Nat.le_trans Z0 E17.1
      have K17 : Keep h0 h17 [] := K0.ext E17
      refine own_on st17 ?_
      show OwnGo p e below s _ _ _ (T17.setTop (mkF m 24 #[.val (.int ii), .val (.int ch), .unset] [(.ref b17)]))
      refine own_on (fun t_ k_ => XS.dup X17.here hx rfl (hb hby d1_24) rfl rfl k_) ?_
      show OwnGo p e below s _ _ _ (T17.setTop (mkF m 25 #[.val (.int ii), .val (.int ch), .unset] [(.ref b17), (.ref b17)]))
      refine own_on (fun t_ k_ => XS.iconst X17.here hx rfl (hb hby d1_25) k_) ?_
      show OwnGo p e below s _ _ _ (T17.setTop (mkF m 26 #[.val (.int ii), .val (.int ch), .unset] [(.int (0 : Int32)), (.ref b17), (.ref b17)]))
      refine own_on (fun t_ k_ => XS.iloadN X17.here hx rfl (hb hby d1_26) rfl k_) ?_
      show OwnGo p e below s _ _ _ (T17.setTop (mkF m 27 #[.val (.int ii), .val (.int ch), .unset] [(.int ch), (.int (0 : Int32)), (.ref b17), (.ref b17)]))
      obtain ⟨cl20, Ar20, q20, S20, M20, H20, G20⟩ := id V17
      have hin20 : ¬ ((0 : Int32) < 0 ∨ cl20.slots.size ≤ ((0 : Int32)).toNatClampNeg) := inb_of S20 ⟨by decide, by decide⟩
      obtain ⟨T21, h21, X21, e21, W21, st21⟩ := stC X17 hx hZ e17 Ar20 (j := (0 : Int32)) hin20 (g := (mkF m 27 #[.val (.int ii), .val (.int ch), .unset] [(.int ch), (.int (0 : Int32)), (.ref b17), (.ref b17)])) rfl rfl (hb hby d1_27)
      have V21 : Arv Z h21 b17 k17 .char (2 : Int32) [(.int (nar .char ch)), (.int (0 : Int32))] (.int (0 : Int32)) :=  Arv.set Ar20 q20 S20 M20 H20 G20 (fits_nar_char _) W21 0 rfl (Nat.le_of_ble_eq_true rfl)
      have N21 := Fr.snoc X21 N0 g18
      have Z21 : n0 ≤ h21.size := Nat.le_trans Z17 (Keep.of_wr W21).1
      have K21 : Keep h0 h21 [] := K17.wr W21 (Or.inr z19)
      refine own_on st21 ?_
      show OwnGo p e below s _ _ _ (T21.setTop (mkF m 28 #[.val (.int ii), .val (.int ch), .unset] [(.ref b17)]))
      refine own_on (fun t_ k_ => XS.dup X21.here hx rfl (hb hby d1_28) rfl rfl k_) ?_
      show OwnGo p e below s _ _ _ (T21.setTop (mkF m 29 #[.val (.int ii), .val (.int ch), .unset] [(.ref b17), (.ref b17)]))
      refine own_on (fun t_ k_ => XS.iconst X21.here hx rfl (hb hby d1_29) k_) ?_
      show OwnGo p e below s _ _ _ (T21.setTop (mkF m 30 #[.val (.int ii), .val (.int ch), .unset] [(.int (1 : Int32)), (.ref b17), (.ref b17)]))
      refine own_on (fun t_ k_ => XS.bipush X21.here hx rfl (hb hby d1_30) k_) ?_
      show OwnGo p e below s _ _ _ (T21.setTop (mkF m 32 #[.val (.int ii), .val (.int ch), .unset] [(.int (120 : Int32)), (.int (1 : Int32)), (.ref b17), (.ref b17)]))
      obtain ⟨cl22, Ar22, q22, S22, M22, H22, G22⟩ := id V21
      have hin22 : ¬ ((1 : Int32) < 0 ∨ cl22.slots.size ≤ ((1 : Int32)).toNatClampNeg) := inb_of S22 ⟨by decide, by decide⟩
      obtain ⟨T23, h23, X23, e23, W23, st23⟩ := stC X21 hx hZ e21 Ar22 (j := (1 : Int32)) hin22 (g := (mkF m 32 #[.val (.int ii), .val (.int ch), .unset] [(.int (120 : Int32)), (.int (1 : Int32)), (.ref b17), (.ref b17)])) rfl rfl (hb hby d1_32)
      have V23 : Arv Z h23 b17 k17 .char (2 : Int32) [(.int (nar .char ch)), (.int (120 : Int32))] (.int (0 : Int32)) :=  Arv.set Ar22 q22 S22 M22 H22 G22 (fits_nar_char _) W23 1 rfl (Nat.le_of_ble_eq_true rfl)
      have N23 := Fr.snoc X23 N21 g18
      have Z23 : n0 ≤ h23.size := Nat.le_trans Z21 (Keep.of_wr W23).1
      have K23 : Keep h0 h23 [] := K21.wr W23 (Or.inr z19)
      refine own_on st23 ?_
      show OwnGo p e below s _ _ _ (T23.setTop (mkF m 33 #[.val (.int ii), .val (.int ch), .unset] [(.ref b17)]))
      rw [own_narc ch P3 P4] at V23
      refine own_on (fun t_ k_ => XS.astoreN X23.here hx rfl (hb hby d1_33) rfl rfl (l' := #[.val (.int ii), .val (.int ch), .val (.ref b17)]) rfl k_) ?_
      show OwnGo p e below s _ _ _ (T23.setTop (mkF m 34 #[.val (.int ii), .val (.int ch), .val (.ref b17)] []))
      refine own_on (fun t_ k_ => XS.goto X23.here hx rfl (pc0 := 34) (pc' := 71) rfl (hb hby d1_34) (by decide) (by decide) k_) ?_
      show OwnGo p e below s _ _ _ (T23.setTop (mkF m 71 #[.val (.int ii), .val (.int ch), .val (.ref b17)] []))
      obtain ⟨T24, h24, X24, e24, E24, A24, D24, u24, st24⟩ := newO X23 hx hZ hown (w8 hw) (w9 hw) (w10 hw) e23 (g := (mkF m 71 #[.val (.int ii), .val (.int ch), .val (.ref b17)] [])) rfl (hb hby d1_71) (by decide) (by decide)
      obtain ⟨b24, g24⟩ : ∃ z, z = h23.size := ⟨_, rfl⟩
      rw [← g24] at A24 D24 st24
      have ne25 : b17 ≠ b24 := Nat.ne_of_lt (Nat.lt_of_lt_of_le V23.lt (Nat.le_of_eq g24.symm))
      have g26 : n0 ≤ b24 := Nat.le_trans Z23 (Nat.le_of_eq g24.symm)
      have z27 : h0.size ≤ b24 := Nat.le_trans K23.1 (Nat.le_of_eq g24.symm)
      have Z24 : n0 ≤ h24.size := Nat.le_trans Z23 E24.1
      have K24 : Keep h0 h24 [] := K23.ext E24
      have F24_coder : Fld Z h24 b24 "java/lang/String" "coder" "B" (.int (0 : Int32)) := D24 (Or.inr (w34 hw)) (ty := .byte) (by decide)
      have F24_value : Fld Z h24 b24 "java/lang/String" "value" "[B" .null := D24 (Or.inr (w36 hw)) (ty := (.array .byte)) (by decide)
      refine own_on st24 ?_
      show OwnGo p e below s _ _ _ (T24.setTop (mkF m 74 #[.val (.int ii), .val (.int ch), .val (.ref b17)] [(.ref b24)]))
      refine own_on (fun t_ k_ => XS.dup X24.here hx rfl (hb hby d1_74) rfl rfl k_) ?_
      show OwnGo p e below s _ _ _ (T24.setTop (mkF m 75 #[.val (.int ii), .val (.int ch), .val (.ref b17)] [(.ref b24), (.ref b24)]))
      refine own_on (fun t_ k_ => XS.aloadN X24.here hx rfl (hb hby d1_75) rfl rfl k_) ?_
      show OwnGo p e below s _ _ _ (T24.setTop (mkF m 76 #[.val (.int ii), .val (.int ch), .val (.ref b17)] [(.ref b17), (.ref b24), (.ref b24)]))
      have f28 : Arv Z h24 b17 k17 .char (2 : Int32) [(.int ch), (.int (120 : Int32))] (.int (0 : Int32)) := V23.ext E24
      have f29 : Old Z n0 h17 := P0.ext E17
      have f30 : Old Z n0 h21 := f29.wr W21 g18
      have f31 : Old Z n0 h23 := f30.wr W23 g18
      have f32 : Old Z n0 h24 := f31.ext E24
      obtain ⟨_, _, ⟨T33, L33, k33, n33⟩, -, X33, ⟨Lc33, hQ33, l33, y33, z33⟩, st33⟩ := X24.specialBack hx (y := (⟨"java/lang/String", "<init>", "([C)V"⟩ : MethodName)) rfl hown (mvT hZ (w11 hw)) (mvT hZ (w12 hw)) (mvT hZ (w13 hw)) (by decide) (own_newS (n0 := n0) (W := 1) (cs := [ch, (120 : Int32)]) (n := 2) hZ hw g26 Z24 A24 F24_value F24_coder f28 f32 P1 P2 rfl rfl (by decide) (by decide) (by intro c hc; simp only [List.mem_cons, List.not_mem_nil, or_false] at hc; rcases hc with rfl | rfl <;> first | exact ⟨P3, P4⟩ | decide) (by decide) (by decide)) (g := (mkF m 76 #[.val (.int ii), .val (.int ch), .val (.ref b17)] [(.ref b17), (.ref b24), (.ref b24)])) rfl (by rw [hml]; rfl) (Steps.refl _) (a := b24) (argsL := [(.ref b17)]) (rest := [(.ref b24)]) (lenOf pd_0 rfl) rfl (by show 2 * 0 + _ ≤ _; exact Nat.le_of_eq rfl) (hb hby d1_76) (fun _ hWx => ⟨rfl, e24, (by decide : 2 + 1 ≤ _), (by decide : 6 + 2 ≤ _)⟩)
      dsimp only [Pt.U, Pt.locs, Pt.cells, Pt.slots] at X33 l33 y33 z33 st33 hQ33
      replace X33 := own_num (c' := 3) (n' := 8) X33 l33 (y33.trans rfl) (z33.trans rfl)
      obtain ⟨rfl, N33q, K33q, c33_0, c33_1⟩ := hQ33
      have N33 := Fr.app N23 N33q
      have Z33 : n0 ≤ T33.heap.size := Nat.le_trans Z24 K33q.1
      have K33 : Keep h0 T33.heap [] := K24.trans K33q (allS (P := fun x => x ∈ [] ∨ h0.size ≤ x) (Or.inr z27) all0)
      refine own_tr st33 ?_
      show OwnGo p e below s _ _ _ (T33.setTop (mkF m 79 #[.val (.int ii), .val (.int ch), .val (.ref b17)] [(.ref b24)]))
      have sp34 : OwnS Z T33.heap b24 (own_pick ii ch) := by rw [show own_pick ii ch = [ch, (120 : Int32)] from by simp [own_pick, *]]; exact c33_1
      have f35 : Old Z n0 T33.heap := f32.keep K33q (allS g26 all0)
      exact own_retA X33 hx hlk Bd.returns rfl rfl (hb hby d1_79) rfl ⟨b24, rfl, N33, K33, c33_0, sp34, g26, z27, f35⟩ (by decide) (by decide)
    · refine own_on (fun t_ k_ => XS.icmpYes X0.here hx rfl (pc0 := 18) (pc' := 37) rfl (hb hby d1_18) rfl (feq q1).2 (by decide) (by decide) k_) ?_
      show OwnGo p e below s _ _ _ (s₁.setTop (mkF m 37 #[.val (.int ii), .val (.int ch), .unset] []))
      refine own_on (fun t_ k_ => XS.iloadN X0.here hx rfl (hb hby d1_37) rfl k_) ?_
      show OwnGo p e below s _ _ _ (s₁.setTop (mkF m 38 #[.val (.int ii), .val (.int ch), .unset] [(.int ii)]))
      refine own_on (fun t_ k_ => XS.iconst X0.here hx rfl (hb hby d1_38) k_) ?_
      show OwnGo p e below s _ _ _ (s₁.setTop (mkF m 39 #[.val (.int ii), .val (.int ch), .unset] [(.int (2 : Int32)), (.int ii)]))
      by_cases q2 : ii = (2 : Int32)
      · refine own_on (fun t_ k_ => XS.icmpNo X0.here hx rfl (hb hby d1_39) rfl (teq q2).2 k_) ?_
        show OwnGo p e below s _ _ _ (s₁.setTop (mkF m 42 #[.val (.int ii), .val (.int ch), .unset] []))
        refine own_on (fun t_ k_ => XS.iconst X0.here hx rfl (hb hby d1_42) k_) ?_
        show OwnGo p e below s _ _ _ (s₁.setTop (mkF m 43 #[.val (.int ii), .val (.int ch), .unset] [(.int (2 : Int32))]))
        obtain ⟨T36, h36, k36, X36, e36, E36, A36, st36⟩ := newP (aty := .char) X0 hx hZ (w7 hw) e0 (g := (mkF m 43 #[.val (.int ii), .val (.int ch), .unset] [(.int (2 : Int32))])) rfl (hb hby d1_43) rfl (by decide) (cap := 2) (by decide) (by decide) (by decide) (by decide)
        obtain ⟨b36, g36⟩ : ∃ z, z = h0.size := ⟨_, rfl⟩
        rw [← g36] at A36 st36
        have g37 : n0 ≤ b36 := Nat.le_trans Z0 (Nat.le_of_eq g36.symm)
        have z38 : h0.size ≤ b36 := Nat.le_trans K0.1 (Nat.le_of_eq g36.symm)
        have V36 : Arv Z h36 b36 k36 .char (2 : Int32) [(.int (0 : Int32)), (.int (0 : Int32))] (.int (0 : Int32)) := (Arv.new A36 (by decide)).pad (pad_rep [] (.int (0 : Int32)) 2)
        have Z36 : n0 ≤ h36.size := Nat.le_trans Z0 E36.1
        have K36 : Keep h0 h36 [] := K0.ext E36
        refine own_on st36 ?_
        show OwnGo p e below s _ _ _ (T36.setTop (mkF m 45 #[.val (.int ii), .val (.int ch), .unset] [(.ref b36)]))
        refine own_on (fun t_ k_ => XS.dup X36.here hx rfl (hb hby d1_45) rfl rfl k_) ?_
        show OwnGo p e below s _ _ _ (T36.setTop (mkF m 46 #[.val (.int ii), .val (.int ch), .unset] [(.ref b36), (.ref b36)]))
        refine own_on (fun t_ k_ => XS.iconst X36.here hx rfl (hb hby d1_46) k_) ?_
        show OwnGo p e below s _ _ _ (T36.setTop (mkF m 47 #[.val (.int ii), .val (.int ch), .unset] [(.int (0 : Int32)), (.ref b36), (.ref b36)]))
        refine own_on (fun t_ k_ => XS.iloadN X36.here hx rfl (hb hby d1_47) rfl k_) ?_
        show OwnGo p e below s _ _ _ (T36.setTop (mkF m 48 #[.val (.int ii), .val (.int ch), .unset] [(.int ch), (.int (0 : Int32)), (.ref b36), (.ref b36)]))
        obtain ⟨cl39, Ar39, q39, S39, M39, H39, G39⟩ := id V36
        have hin39 : ¬ ((0 : Int32) < 0 ∨ cl39.slots.size ≤ ((0 : Int32)).toNatClampNeg) := inb_of S39 ⟨by decide, by decide⟩
        obtain ⟨T40, h40, X40, e40, W40, st40⟩ := stC X36 hx hZ e36 Ar39 (j := (0 : Int32)) hin39 (g := (mkF m 48 #[.val (.int ii), .val (.int ch), .unset] [(.int ch), (.int (0 : Int32)), (.ref b36), (.ref b36)])) rfl rfl (hb hby d1_48)
        have V40 : Arv Z h40 b36 k36 .char (2 : Int32) [(.int (nar .char ch)), (.int (0 : Int32))] (.int (0 : Int32)) :=  Arv.set Ar39 q39 S39 M39 H39 G39 (fits_nar_char _) W40 0 rfl (Nat.le_of_ble_eq_true rfl)
        have N40 := Fr.snoc X40 N0 g37
        have Z40 : n0 ≤ h40.size := Nat.le_trans Z36 (Keep.of_wr W40).1
        have K40 : Keep h0 h40 [] := K36.wr W40 (Or.inr z38)
        refine own_on st40 ?_
        show OwnGo p e below s _ _ _ (T40.setTop (mkF m 49 #[.val (.int ii), .val (.int ch), .unset] [(.ref b36)]))
        refine own_on (fun t_ k_ => XS.dup X40.here hx rfl (hb hby d1_49) rfl rfl k_) ?_
        show OwnGo p e below s _ _ _ (T40.setTop (mkF m 50 #[.val (.int ii), .val (.int ch), .unset] [(.ref b36), (.ref b36)]))
        refine own_on (fun t_ k_ => XS.iconst X40.here hx rfl (hb hby d1_50) k_) ?_
        show OwnGo p e below s _ _ _ (T40.setTop (mkF m 51 #[.val (.int ii), .val (.int ch), .unset] [(.int (1 : Int32)), (.ref b36), (.ref b36)]))
        refine own_on (fun t_ k_ => XS.bipush X40.here hx rfl (hb hby d1_51) k_) ?_
        show OwnGo p e below s _ _ _ (T40.setTop (mkF m 53 #[.val (.int ii), .val (.int ch), .unset] [(.int (121 : Int32)), (.int (1 : Int32)), (.ref b36), (.ref b36)]))
        obtain ⟨cl41, Ar41, q41, S41, M41, H41, G41⟩ := id V40
        have hin41 : ¬ ((1 : Int32) < 0 ∨ cl41.slots.size ≤ ((1 : Int32)).toNatClampNeg) := inb_of S41 ⟨by decide, by decide⟩
        obtain ⟨T42, h42, X42, e42, W42, st42⟩ := stC X40 hx hZ e40 Ar41 (j := (1 : Int32)) hin41 (g := (mkF m 53 #[.val (.int ii), .val (.int ch), .unset] [(.int (121 : Int32)), (.int (1 : Int32)), (.ref b36), (.ref b36)])) rfl rfl (hb hby d1_53)
        have V42 : Arv Z h42 b36 k36 .char (2 : Int32) [(.int (nar .char ch)), (.int (121 : Int32))] (.int (0 : Int32)) :=  Arv.set Ar41 q41 S41 M41 H41 G41 (fits_nar_char _) W42 1 rfl (Nat.le_of_ble_eq_true rfl)
        have N42 := Fr.snoc X42 N40 g37
        have Z42 : n0 ≤ h42.size := Nat.le_trans Z40 (Keep.of_wr W42).1
        have K42 : Keep h0 h42 [] := K40.wr W42 (Or.inr z38)
        refine own_on st42 ?_
        show OwnGo p e below s _ _ _ (T42.setTop (mkF m 54 #[.val (.int ii), .val (.int ch), .unset] [(.ref b36)]))
        rw [own_narc ch P3 P4] at V42
        refine own_on (fun t_ k_ => XS.astoreN X42.here hx rfl (hb hby d1_54) rfl rfl (l' := #[.val (.int ii), .val (.int ch), .val (.ref b36)]) rfl k_) ?_
        show OwnGo p e below s _ _ _ (T42.setTop (mkF m 55 #[.val (.int ii), .val (.int ch), .val (.ref b36)] []))
        refine own_on (fun t_ k_ => XS.goto X42.here hx rfl (pc0 := 55) (pc' := 71) rfl (hb hby d1_55) (by decide) (by decide) k_) ?_
        show OwnGo p e below s _ _ _ (T42.setTop (mkF m 71 #[.val (.int ii), .val (.int ch), .val (.ref b36)] []))
        obtain ⟨T43, h43, X43, e43, E43, A43, D43, u43, st43⟩ := newO X42 hx hZ hown (w8 hw) (w9 hw) (w10 hw) e42 (g := (mkF m 71 #[.val (.int ii), .val (.int ch), .val (.ref b36)] [])) rfl (hb hby d1_71) (by decide) (by decide)
        obtain ⟨b43, g43⟩ : ∃ z, z = h42.size := ⟨_, rfl⟩
        rw [← g43] at A43 D43 st43
        have ne44 : b36 ≠ b43 := Nat.ne_of_lt (Nat.lt_of_lt_of_le V42.lt (Nat.le_of_eq g43.symm))
        have g45 : n0 ≤ b43 := Nat.le_trans Z42 (Nat.le_of_eq g43.symm)
        have z46 : h0.size ≤ b43 := Nat.le_trans K42.1 (Nat.le_of_eq g43.symm)
        have Z43 : n0 ≤ h43.size := Nat.le_trans Z42 E43.1
        have K43 : Keep h0 h43 [] := K42.ext E43
        have F43_coder : Fld Z h43 b43 "java/lang/String" "coder" "B" (.int (0 : Int32)) := D43 (Or.inr (w34 hw)) (ty := .byte) (by decide)
        have F43_value : Fld Z h43 b43 "java/lang/String" "value" "[B" .null := D43 (Or.inr (w36 hw)) (ty := (.array .byte)) (by decide)
        refine own_on st43 ?_
        show OwnGo p e below s _ _ _ (T43.setTop (mkF m 74 #[.val (.int ii), .val (.int ch), .val (.ref b36)] [(.ref b43)]))
        refine own_on (fun t_ k_ => XS.dup X43.here hx rfl (hb hby d1_74) rfl rfl k_) ?_
        show OwnGo p e below s _ _ _ (T43.setTop (mkF m 75 #[.val (.int ii), .val (.int ch), .val (.ref b36)] [(.ref b43), (.ref b43)]))
        refine own_on (fun t_ k_ => XS.aloadN X43.here hx rfl (hb hby d1_75) rfl rfl k_) ?_
        show OwnGo p e below s _ _ _ (T43.setTop (mkF m 76 #[.val (.int ii), .val (.int ch), .val (.ref b36)] [(.ref b36), (.ref b43), (.ref b43)]))
        have f47 : Arv Z h43 b36 k36 .char (2 : Int32) [(.int ch), (.int (121 : Int32))] (.int (0 : Int32)) := V42.ext E43
        have f48 : Old Z n0 h36 := P0.ext E36
        have f49 : Old Z n0 h40 := f48.wr W40 g37
        have f50 : Old Z n0 h42 := f49.wr W42 g37
        have f51 : Old Z n0 h43 := f50.ext E43
        obtain ⟨_, _, ⟨T52, L52, k52, n52⟩, -, X52, ⟨Lc52, hQ52, l52, y52, z52⟩, st52⟩ := X43.specialBack hx (y := (⟨"java/lang/String", "<init>", "([C)V"⟩ : MethodName)) rfl hown (mvT hZ (w11 hw)) (mvT hZ (w12 hw)) (mvT hZ (w13 hw)) (by decide) (own_newS (n0 := n0) (W := 1) (cs := [ch, (121 : Int32)]) (n := 2) hZ hw g45 Z43 A43 F43_value F43_coder f47 f51 P1 P2 rfl rfl (by decide) (by decide) (by intro c hc; simp only [List.mem_cons, List.not_mem_nil, or_false] at hc; rcases hc with rfl | rfl <;> first | exact ⟨P3, P4⟩ | decide) (by decide) (by decide)) (g := (mkF m 76 #[.val (.int ii), .val (.int ch), .val (.ref b36)] [(.ref b36), (.ref b43), (.ref b43)])) rfl (by rw [hml]; rfl) (Steps.refl _) (a := b43) (argsL := [(.ref b36)]) (rest := [(.ref b43)]) (lenOf pd_0 rfl) rfl (by show 2 * 0 + _ ≤ _; exact Nat.le_of_eq rfl) (hb hby d1_76) (fun _ hWx => ⟨rfl, e43, (by decide : 2 + 1 ≤ _), (by decide : 6 + 2 ≤ _)⟩)
        dsimp only [Pt.U, Pt.locs, Pt.cells, Pt.slots] at X52 l52 y52 z52 st52 hQ52
        replace X52 := own_num (c' := 3) (n' := 8) X52 l52 (y52.trans rfl) (z52.trans rfl)
        obtain ⟨rfl, N52q, K52q, c52_0, c52_1⟩ := hQ52
        have N52 := Fr.app N42 N52q
        have Z52 : n0 ≤ T52.heap.size := Nat.le_trans Z43 K52q.1
        have K52 : Keep h0 T52.heap [] := K43.trans K52q (allS (P := fun x => x ∈ [] ∨ h0.size ≤ x) (Or.inr z46) all0)
        refine own_tr st52 ?_
        show OwnGo p e below s _ _ _ (T52.setTop (mkF m 79 #[.val (.int ii), .val (.int ch), .val (.ref b36)] [(.ref b43)]))
        have sp53 : OwnS Z T52.heap b43 (own_pick ii ch) := by rw [show own_pick ii ch = [ch, (121 : Int32)] from by simp [own_pick, *]]; exact c52_1
        have f54 : Old Z n0 T52.heap := f51.keep K52q (allS g45 all0)
        exact own_retA X52 hx hlk Bd.returns rfl rfl (hb hby d1_79) rfl ⟨b43, rfl, N52, K52, c52_0, sp53, g45, z46, f54⟩ (by decide) (by decide)
      · refine own_on (fun t_ k_ => XS.icmpYes X0.here hx rfl (pc0 := 39) (pc' := 58) rfl (hb hby d1_39) rfl (feq q2).2 (by decide) (by decide) k_) ?_
        show OwnGo p e below s _ _ _ (s₁.setTop (mkF m 58 #[.val (.int ii), .val (.int ch), .unset] []))
        refine own_on (fun t_ k_ => XS.iconst X0.here hx rfl (hb hby d1_58) k_) ?_
        show OwnGo p e below s _ _ _ (s₁.setTop (mkF m 59 #[.val (.int ii), .val (.int ch), .unset] [(.int (2 : Int32))]))
        obtain ⟨T55, h55, k55, X55, e55, E55, A55, st55⟩ := newP (aty := .char) X0 hx hZ (w7 hw) e0 (g := (mkF m 59 #[.val (.int ii), .val (.int ch), .unset] [(.int (2 : Int32))])) rfl (hb hby d1_59) rfl (by decide) (cap := 2) (by decide) (by decide) (by decide) (by decide)
        obtain ⟨b55, g55⟩ : ∃ z, z = h0.size := ⟨_, rfl⟩
        rw [← g55] at A55 st55
        have g56 : n0 ≤ b55 := Nat.le_trans Z0 (Nat.le_of_eq g55.symm)
        have z57 : h0.size ≤ b55 := Nat.le_trans K0.1 (Nat.le_of_eq g55.symm)
        have V55 : Arv Z h55 b55 k55 .char (2 : Int32) [(.int (0 : Int32)), (.int (0 : Int32))] (.int (0 : Int32)) := (Arv.new A55 (by decide)).pad (pad_rep [] (.int (0 : Int32)) 2)
        have Z55 : n0 ≤ h55.size := Nat.le_trans Z0 E55.1
        have K55 : Keep h0 h55 [] := K0.ext E55
        refine own_on st55 ?_
        show OwnGo p e below s _ _ _ (T55.setTop (mkF m 61 #[.val (.int ii), .val (.int ch), .unset] [(.ref b55)]))
        refine own_on (fun t_ k_ => XS.dup X55.here hx rfl (hb hby d1_61) rfl rfl k_) ?_
        show OwnGo p e below s _ _ _ (T55.setTop (mkF m 62 #[.val (.int ii), .val (.int ch), .unset] [(.ref b55), (.ref b55)]))
        refine own_on (fun t_ k_ => XS.iconst X55.here hx rfl (hb hby d1_62) k_) ?_
        show OwnGo p e below s _ _ _ (T55.setTop (mkF m 63 #[.val (.int ii), .val (.int ch), .unset] [(.int (0 : Int32)), (.ref b55), (.ref b55)]))
        refine own_on (fun t_ k_ => XS.bipush X55.here hx rfl (hb hby d1_63) k_) ?_
        show OwnGo p e below s _ _ _ (T55.setTop (mkF m 65 #[.val (.int ii), .val (.int ch), .unset] [(.int (42 : Int32)), (.int (0 : Int32)), (.ref b55), (.ref b55)]))
        obtain ⟨cl58, Ar58, q58, S58, M58, H58, G58⟩ := id V55
        have hin58 : ¬ ((0 : Int32) < 0 ∨ cl58.slots.size ≤ ((0 : Int32)).toNatClampNeg) := inb_of S58 ⟨by decide, by decide⟩
        obtain ⟨T59, h59, X59, e59, W59, st59⟩ := stC X55 hx hZ e55 Ar58 (j := (0 : Int32)) hin58 (g := (mkF m 65 #[.val (.int ii), .val (.int ch), .unset] [(.int (42 : Int32)), (.int (0 : Int32)), (.ref b55), (.ref b55)])) rfl rfl (hb hby d1_65)
        have V59 : Arv Z h59 b55 k55 .char (2 : Int32) [(.int (42 : Int32)), (.int (0 : Int32))] (.int (0 : Int32)) :=  Arv.set Ar58 q58 S58 M58 H58 G58 (fits_nar_char _) W59 0 rfl (Nat.le_of_ble_eq_true rfl)
        have N59 := Fr.snoc X59 N0 g56
        have Z59 : n0 ≤ h59.size := Nat.le_trans Z55 (Keep.of_wr W59).1
        have K59 : Keep h0 h59 [] := K55.wr W59 (Or.inr z57)
        refine own_on st59 ?_
        show OwnGo p e below s _ _ _ (T59.setTop (mkF m 66 #[.val (.int ii), .val (.int ch), .unset] [(.ref b55)]))
        refine own_on (fun t_ k_ => XS.dup X59.here hx rfl (hb hby d1_66) rfl rfl k_) ?_
        show OwnGo p e below s _ _ _ (T59.setTop (mkF m 67 #[.val (.int ii), .val (.int ch), .unset] [(.ref b55), (.ref b55)]))
        refine own_on (fun t_ k_ => XS.iconst X59.here hx rfl (hb hby d1_67) k_) ?_
        show OwnGo p e below s _ _ _ (T59.setTop (mkF m 68 #[.val (.int ii), .val (.int ch), .unset] [(.int (1 : Int32)), (.ref b55), (.ref b55)]))
        refine own_on (fun t_ k_ => XS.iloadN X59.here hx rfl (hb hby d1_68) rfl k_) ?_
        show OwnGo p e below s _ _ _ (T59.setTop (mkF m 69 #[.val (.int ii), .val (.int ch), .unset] [(.int ch), (.int (1 : Int32)), (.ref b55), (.ref b55)]))
        obtain ⟨cl60, Ar60, q60, S60, M60, H60, G60⟩ := id V59
        have hin60 : ¬ ((1 : Int32) < 0 ∨ cl60.slots.size ≤ ((1 : Int32)).toNatClampNeg) := inb_of S60 ⟨by decide, by decide⟩
        obtain ⟨T61, h61, X61, e61, W61, st61⟩ := stC X59 hx hZ e59 Ar60 (j := (1 : Int32)) hin60 (g := (mkF m 69 #[.val (.int ii), .val (.int ch), .unset] [(.int ch), (.int (1 : Int32)), (.ref b55), (.ref b55)])) rfl rfl (hb hby d1_69)
        have V61 : Arv Z h61 b55 k55 .char (2 : Int32) [(.int (42 : Int32)), (.int (nar .char ch))] (.int (0 : Int32)) :=  Arv.set Ar60 q60 S60 M60 H60 G60 (fits_nar_char _) W61 1 rfl (Nat.le_of_ble_eq_true rfl)
        have N61 := Fr.snoc X61 N59 g56
        have Z61 : n0 ≤ h61.size := Nat.le_trans Z59 (Keep.of_wr W61).1
        have K61 : Keep h0 h61 [] := K59.wr W61 (Or.inr z57)
        refine own_on st61 ?_
        show OwnGo p e below s _ _ _ (T61.setTop (mkF m 70 #[.val (.int ii), .val (.int ch), .unset] [(.ref b55)]))
        rw [own_narc ch P3 P4] at V61
        refine own_on (fun t_ k_ => XS.astoreN X61.here hx rfl (hb hby d1_70) rfl rfl (l' := #[.val (.int ii), .val (.int ch), .val (.ref b55)]) rfl k_) ?_
        show OwnGo p e below s _ _ _ (T61.setTop (mkF m 71 #[.val (.int ii), .val (.int ch), .val (.ref b55)] []))
        obtain ⟨T62, h62, X62, e62, E62, A62, D62, u62, st62⟩ := newO X61 hx hZ hown (w8 hw) (w9 hw) (w10 hw) e61 (g := (mkF m 71 #[.val (.int ii), .val (.int ch), .val (.ref b55)] [])) rfl (hb hby d1_71) (by decide) (by decide)
        obtain ⟨b62, g62⟩ : ∃ z, z = h61.size := ⟨_, rfl⟩
        rw [← g62] at A62 D62 st62
        have ne63 : b55 ≠ b62 := Nat.ne_of_lt (Nat.lt_of_lt_of_le V61.lt (Nat.le_of_eq g62.symm))
        have g64 : n0 ≤ b62 := Nat.le_trans Z61 (Nat.le_of_eq g62.symm)
        have z65 : h0.size ≤ b62 := Nat.le_trans K61.1 (Nat.le_of_eq g62.symm)
        have Z62 : n0 ≤ h62.size := Nat.le_trans Z61 E62.1
        have K62 : Keep h0 h62 [] := K61.ext E62
        have F62_coder : Fld Z h62 b62 "java/lang/String" "coder" "B" (.int (0 : Int32)) := D62 (Or.inr (w34 hw)) (ty := .byte) (by decide)
        have F62_value : Fld Z h62 b62 "java/lang/String" "value" "[B" .null := D62 (Or.inr (w36 hw)) (ty := (.array .byte)) (by decide)
        refine own_on st62 ?_
        show OwnGo p e below s _ _ _ (T62.setTop (mkF m 74 #[.val (.int ii), .val (.int ch), .val (.ref b55)] [(.ref b62)]))
        refine own_on (fun t_ k_ => XS.dup X62.here hx rfl (hb hby d1_74) rfl rfl k_) ?_
        show OwnGo p e below s _ _ _ (T62.setTop (mkF m 75 #[.val (.int ii), .val (.int ch), .val (.ref b55)] [(.ref b62), (.ref b62)]))
        refine own_on (fun t_ k_ => XS.aloadN X62.here hx rfl (hb hby d1_75) rfl rfl k_) ?_
        show OwnGo p e below s _ _ _ (T62.setTop (mkF m 76 #[.val (.int ii), .val (.int ch), .val (.ref b55)] [(.ref b55), (.ref b62), (.ref b62)]))
        have f66 : Arv Z h62 b55 k55 .char (2 : Int32) [(.int (42 : Int32)), (.int ch)] (.int (0 : Int32)) := V61.ext E62
        have f67 : Old Z n0 h55 := P0.ext E55
        have f68 : Old Z n0 h59 := f67.wr W59 g56
        have f69 : Old Z n0 h61 := f68.wr W61 g56
        have f70 : Old Z n0 h62 := f69.ext E62
        obtain ⟨_, _, ⟨T71, L71, k71, n71⟩, -, X71, ⟨Lc71, hQ71, l71, y71, z71⟩, st71⟩ := X62.specialBack hx (y := (⟨"java/lang/String", "<init>", "([C)V"⟩ : MethodName)) rfl hown (mvT hZ (w11 hw)) (mvT hZ (w12 hw)) (mvT hZ (w13 hw)) (by decide) (own_newS (n0 := n0) (W := 1) (cs := [(42 : Int32), ch]) (n := 2) hZ hw g64 Z62 A62 F62_value F62_coder f66 f70 P1 P2 rfl rfl (by decide) (by decide) (by intro c hc; simp only [List.mem_cons, List.not_mem_nil, or_false] at hc; rcases hc with rfl | rfl <;> first | exact ⟨P3, P4⟩ | decide) (by decide) (by decide)) (g := (mkF m 76 #[.val (.int ii), .val (.int ch), .val (.ref b55)] [(.ref b55), (.ref b62), (.ref b62)])) rfl (by rw [hml]; rfl) (Steps.refl _) (a := b62) (argsL := [(.ref b55)]) (rest := [(.ref b62)]) (lenOf pd_0 rfl) rfl (by show 2 * 0 + _ ≤ _; exact Nat.le_of_eq rfl) (hb hby d1_76) (fun _ hWx => ⟨rfl, e62, (by decide : 2 + 1 ≤ _), (by decide : 6 + 2 ≤ _)⟩)
        dsimp only [Pt.U, Pt.locs, Pt.cells, Pt.slots] at X71 l71 y71 z71 st71 hQ71
        replace X71 := own_num (c' := 3) (n' := 8) X71 l71 (y71.trans rfl) (z71.trans rfl)
        obtain ⟨rfl, N71q, K71q, c71_0, c71_1⟩ := hQ71
        have N71 := Fr.app N61 N71q
        have Z71 : n0 ≤ T71.heap.size := Nat.le_trans Z62 K71q.1
        have K71 : Keep h0 T71.heap [] := K62.trans K71q (allS (P := fun x => x ∈ [] ∨ h0.size ≤ x) (Or.inr z65) all0)
        refine own_tr st71 ?_
        show OwnGo p e below s _ _ _ (T71.setTop (mkF m 79 #[.val (.int ii), .val (.int ch), .val (.ref b55)] [(.ref b62)]))
        have sp72 : OwnS Z T71.heap b62 (own_pick ii ch) := by rw [show own_pick ii ch = [(42 : Int32), ch] from by simp [own_pick, *]]; exact c71_1
        have f73 : Old Z n0 T71.heap := f70.keep K71q (allS g64 all0)
        exact own_retA X71 hx hlk Bd.returns rfl rfl (hb hby d1_79) rfl ⟨b62, rfl, N71, K71, c71_0, sp72, g64, z65, f73⟩ (by decide) (by decide)
theorem ef_8 (m : MethodId) (a : Addr) (ty : Addr) (st : Addr)  : entryFrame m #[(.ref a), (.ref ty), (.ref st), .null, .null] 5 = mkF m 0 #[.val (.ref a), .val (.ref ty), .val (.ref st), .val .null, .val .null] [] := by first | (simp [entryFrame, mkF, argsToLocals, Value.category]; done) | rfl
def Q8 (Z : State) (a : Addr) (ty : Addr) (st : Addr) (u0 : Value) (u1 : Value) (u2 : Value) (u3 : Value) (h0 : Heap) (n0 : Nat) (v_ : Option Value) (h_ : Heap) (L_ : List Loc) : Prop := v_ = none ∧ Fr n0 L_ ∧ Keep h0 h_ [a] ∧ (Exa Z h_ a "org/pathbind/MediaType") ∧ (Fld Z h_ a "org/pathbind/MediaType" "type" "Ljava/lang/String;" (.ref ty)) ∧ (Fld Z h_ a "org/pathbind/MediaType" "subtype" "Ljava/lang/String;" (.ref st))
set_option maxRecDepth 65536 in
set_option maxHeartbeats 40000000 in
theorem rm8 (l : Launch) (Z : State) (a0 : Array Value) (hw : ∀ d ∈ tables_1, d.before a0 Z = true) (ws : List Jvm.Cond) (a : Addr) (ty : Addr) (st : Addr) (u0 : Value) (u1 : Value) (u2 : Value) (u3 : Value) (h0 : Heap) (n0 : Nat) (Z0 : n0 ≤ h0.size) (P0 : Exa Z h0 a "org/pathbind/MediaType") (P1 : Fld Z h0 a "org/pathbind/MediaType" "type" "Ljava/lang/String;" u0) (P2 : Fld Z h0 a "org/pathbind/MediaType" "subtype" "Ljava/lang/String;" u1) (P3 : Fld Z h0 a "org/pathbind/MediaType" "parameters" "Ljava/util/Map;" u2) (P4 : Fld Z h0 a "org/pathbind/MediaType" "text" "Ljava/lang/String;" u3) (P5 : n0 ≤ a) :
    MetFree l (⟨"org/pathbind/MediaType", "<init>", "(Ljava/lang/String;Ljava/lang/String;Ljava/util/Map;Ljava/lang/String;)V"⟩ : MethodName) (head1 (Jvm.Cond.code (⟨"org/pathbind/MediaType", "<init>", "(Ljava/lang/String;Ljava/lang/String;Ljava/util/Map;Ljava/lang/String;)V"⟩ : MethodName) prog_30_method_1_code 5 none :: ws) ({ frames := 2, cells := 0, slots := 0, locals := 24 } : Room)) (fun A_ U => A_ = #[(.ref a), (.ref ty), (.ref st), .null, .null] ∧ Z.Warmed39 U.vm ∧ U.heap = h0) (fun _ _ _ _ _ => True) (fun _ U_ o_ U'_ => ∃ v_ L_, o_ = .returned v_ ∧ Q8 Z a ty st u0 u1 u2 u3 h0 n0 v_ U'_.heap L_ ∧ FrameEnd U_ o_ U'_ L_ ({ frames := 2, cells := 0, slots := 0, locals := 24 } : Room).cells ({ frames := 2, cells := 0, slots := 0, locals := 24 } : Room).slots) := by
  refine MetFree.of_bodySF (plainFor_of_name pn_2) hisR ?_
  intro p e s m args below meth c s₁ Bd hml0 hP hK
  obtain ⟨rfl, hZ, hh⟩ := hP
  have hx := Bd.exec
  have hby := Bd.bytes
  have hml : c.maxLocals = 5 := hml0
  have hown : s.vm.findClass "org/pathbind/MediaType" = some m.cls := findClass_of_methodNamed Bd.named
  have hnm := (name_of_methodNamed Bd.named Bd.method).1
  have hlk : meth.locks = false := Bd.notSynchronized
  have X0 : Stand p l e ({ frames := 2, cells := 0, slots := 0, locals := 24 } : Room) s m #[(.ref a), (.ref ty), (.ref st), .null, .null] below meth c s₁ [] 0 0 := Stand.of_body Bd
  have e0 : s₁.heap = h0 := by rw [← hh, Bd.state]; rfl
  have N0 := Fr.nil n0
  have K0 : Keep h0 h0 [a] := Keep.refl _ _
  refine own_cast (ef_8 m a ty st) ?_
  show OwnGo p e below s (Q8 Z a ty st u0 u1 u2 u3 h0 n0) ({ frames := 2, cells := 0, slots := 0, locals := 24 } : Room).cells ({ frames := 2, cells := 0, slots := 0, locals := 24 } : Room).slots (s₁.setTop (mkF m 0 #[.val (.ref a), .val (.ref ty), .val (.ref st), .val .null, .val .null] []))
  refine own_on (fun t_ k_ => XS.aloadN X0.here hx rfl (hb hby d8_0) rfl rfl k_) ?_
  show OwnGo p e below s _ _ _ (s₁.setTop (mkF m 1 #[.val (.ref a), .val (.ref ty), .val (.ref st), .val .null, .val .null] [(.ref a)]))
  obtain ⟨_, _, ⟨T1, L1, k1, n1⟩, -, X1, ⟨Lc1, hQ1, l1, y1, z1⟩, st1⟩ := X0.specialBack hx (y := (⟨"java/lang/Record", "<init>", "()V"⟩ : MethodName)) rfl hown (mvT hZ (w40 hw)) (mvT hZ (w41 hw)) (mvT hZ (w44 hw)) (by decide) (backOf (W := 0) (rm9 l Z a0 hw [] a h0 n0 Z0 ) hZ (w44 hw) (w43 hw) (by decide) (by decide)) (g := (mkF m 1 #[.val (.ref a), .val (.ref ty), .val (.ref st), .val .null, .val .null] [(.ref a)])) rfl (by rw [hml]; rfl) (Steps.refl _) (a := a) (argsL := []) (rest := []) (lenOf pd_1 rfl) rfl (by show 2 * 0 + _ ≤ _; exact Nat.le_of_eq rfl) (hb hby d8_1) (fun _ hWx => ⟨rfl, e0, (by decide : 0 + 0 ≤ _), (by decide : 0 + 0 ≤ _)⟩)
  dsimp only [Pt.U, Pt.locs, Pt.cells, Pt.slots] at X1 l1 y1 z1 st1 hQ1
  replace X1 := own_num (c' := 0) (n' := 0) X1 l1 (y1.trans rfl) (z1.trans rfl)
  obtain ⟨rfl, N1q, e1⟩ := hQ1
  have N1 := Fr.app N0 N1q
  refine own_tr st1 ?_
  show OwnGo p e below s _ _ _ (T1.setTop (mkF m 4 #[.val (.ref a), .val (.ref ty), .val (.ref st), .val .null, .val .null] []))
  refine own_on (fun t_ k_ => XS.aloadN X1.here hx rfl (hb hby d8_4) rfl rfl k_) ?_
  show OwnGo p e below s _ _ _ (T1.setTop (mkF m 5 #[.val (.ref a), .val (.ref ty), .val (.ref st), .val .null, .val .null] [(.ref a)]))
  refine own_on (fun t_ k_ => XS.aloadN X1.here hx rfl (hb hby d8_5) rfl rfl k_) ?_
  show OwnGo p e below s _ _ _ (T1.setTop (mkF m 6 #[.val (.ref a), .val (.ref ty), .val (.ref st), .val .null, .val .null] [(.ref ty), (.ref a)]))
  obtain ⟨T2, h2, X2, e2, W2, st2⟩ := putF X1 hx hZ hown (host := "") (Or.inl (w46 hw)) Via.refl e1 P1 P0 (Or.inr ⟨(w47 hw), rfl, hnm⟩) (w1 hw) (ty := (.object "java/lang/String")) (by decide) rfl rfl (g := (mkF m 6 #[.val (.ref a), .val (.ref ty), .val (.ref st), .val .null, .val .null] [(.ref ty), (.ref a)])) rfl rfl (hb hby d8_6)
  have F2 := P1.same W2
  have N2 := Fr.snoc X2 N1 P5
  have Z2 : n0 ≤ h2.size := Nat.le_trans Z0 (Keep.of_wr W2).1
  have K2 : Keep h0 h2 [a] := K0.wr W2 (Or.inl (List.mem_of_getElem? (i := 0) rfl))
  refine own_on st2 ?_
  show OwnGo p e below s _ _ _ (T2.setTop (mkF m 9 #[.val (.ref a), .val (.ref ty), .val (.ref st), .val .null, .val .null] []))
  refine own_on (fun t_ k_ => XS.aloadN X2.here hx rfl (hb hby d8_9) rfl rfl k_) ?_
  show OwnGo p e below s _ _ _ (T2.setTop (mkF m 10 #[.val (.ref a), .val (.ref ty), .val (.ref st), .val .null, .val .null] [(.ref a)]))
  refine own_on (fun t_ k_ => XS.aloadN X2.here hx rfl (hb hby d8_10) rfl rfl k_) ?_
  show OwnGo p e below s _ _ _ (T2.setTop (mkF m 11 #[.val (.ref a), .val (.ref ty), .val (.ref st), .val .null, .val .null] [(.ref st), (.ref a)]))
  have f3 : Fld Z h2 a "org/pathbind/MediaType" "subtype" "Ljava/lang/String;" u1 := P2.other W2 (Or.inr (slot_ne (Or.inr (w49 hw)) (Or.inr (w47 hw)) (by decide) (t := (.object "java/lang/String")) (t' := (.object "java/lang/String")) (by decide) (by decide)))
  have f4 : Exa Z h2 a "org/pathbind/MediaType" := P0.wr W2
  obtain ⟨T5, h5, X5, e5, W5, st5⟩ := putF X2 hx hZ hown (host := "") (Or.inl (w48 hw)) Via.refl e2 f3 f4 (Or.inr ⟨(w49 hw), rfl, hnm⟩) (w1 hw) (ty := (.object "java/lang/String")) (by decide) rfl rfl (g := (mkF m 11 #[.val (.ref a), .val (.ref ty), .val (.ref st), .val .null, .val .null] [(.ref st), (.ref a)])) rfl rfl (hb hby d8_11)
  have F5 := f3.same W5
  have N5 := Fr.snoc X5 N2 P5
  have Z5 : n0 ≤ h5.size := Nat.le_trans Z2 (Keep.of_wr W5).1
  have K5 : Keep h0 h5 [a] := K2.wr W5 (Or.inl (List.mem_of_getElem? (i := 0) rfl))
  refine own_on st5 ?_
  show OwnGo p e below s _ _ _ (T5.setTop (mkF m 14 #[.val (.ref a), .val (.ref ty), .val (.ref st), .val .null, .val .null] []))
  refine own_on (fun t_ k_ => XS.aloadN X5.here hx rfl (hb hby d8_14) rfl rfl k_) ?_
  show OwnGo p e below s _ _ _ (T5.setTop (mkF m 15 #[.val (.ref a), .val (.ref ty), .val (.ref st), .val .null, .val .null] [(.ref a)]))
  refine own_on (fun t_ k_ => XS.aloadN X5.here hx rfl (hb hby d8_15) rfl rfl k_) ?_
  show OwnGo p e below s _ _ _ (T5.setTop (mkF m 16 #[.val (.ref a), .val (.ref ty), .val (.ref st), .val .null, .val .null] [.null, (.ref a)]))
  have f6 : Fld Z h2 a "org/pathbind/MediaType" "parameters" "Ljava/util/Map;" u2 := P3.other W2 (Or.inr (slot_ne (Or.inr (w51 hw)) (Or.inr (w47 hw)) (by decide) (t := (.object "java/util/Map")) (t' := (.object "java/lang/String")) (by decide) (by decide)))
  have f7 : Fld Z h5 a "org/pathbind/MediaType" "parameters" "Ljava/util/Map;" u2 := f6.other W5 (Or.inr (slot_ne (Or.inr (w51 hw)) (Or.inr (w49 hw)) (by decide) (t := (.object "java/util/Map")) (t' := (.object "java/lang/String")) (by decide) (by decide)))
  have f8 : Exa Z h5 a "org/pathbind/MediaType" := f4.wr W5
  obtain ⟨T9, h9, X9, e9, W9, st9⟩ := putF X5 hx hZ hown (host := "") (Or.inl (w50 hw)) Via.refl e5 f7 f8 (Or.inr ⟨(w51 hw), rfl, hnm⟩) (w1 hw) (ty := (.object "java/util/Map")) (by decide) rfl rfl (g := (mkF m 16 #[.val (.ref a), .val (.ref ty), .val (.ref st), .val .null, .val .null] [.null, (.ref a)])) rfl rfl (hb hby d8_16)
  have F9 := f7.same W9
  have N9 := Fr.snoc X9 N5 P5
  have Z9 : n0 ≤ h9.size := Nat.le_trans Z5 (Keep.of_wr W9).1
  have K9 : Keep h0 h9 [a] := K5.wr W9 (Or.inl (List.mem_of_getElem? (i := 0) rfl))
  refine own_on st9 ?_
  show OwnGo p e below s _ _ _ (T9.setTop (mkF m 19 #[.val (.ref a), .val (.ref ty), .val (.ref st), .val .null, .val .null] []))
  refine own_on (fun t_ k_ => XS.aloadN X9.here hx rfl (hb hby d8_19) rfl rfl k_) ?_
  show OwnGo p e below s _ _ _ (T9.setTop (mkF m 20 #[.val (.ref a), .val (.ref ty), .val (.ref st), .val .null, .val .null] [(.ref a)]))
  refine own_on (fun t_ k_ => XS.aload X9.here hx rfl (hb hby d8_20) rfl rfl k_) ?_
  show OwnGo p e below s _ _ _ (T9.setTop (mkF m 22 #[.val (.ref a), .val (.ref ty), .val (.ref st), .val .null, .val .null] [.null, (.ref a)]))
  have f10 : Fld Z h2 a "org/pathbind/MediaType" "text" "Ljava/lang/String;" u3 := P4.other W2 (Or.inr (slot_ne (Or.inr (w53 hw)) (Or.inr (w47 hw)) (by decide) (t := (.object "java/lang/String")) (t' := (.object "java/lang/String")) (by decide) (by decide)))
  have f11 : Fld Z h5 a "org/pathbind/MediaType" "text" "Ljava/lang/String;" u3 := f10.other W5 (Or.inr (slot_ne (Or.inr (w53 hw)) (Or.inr (w49 hw)) (by decide) (t := (.object "java/lang/String")) (t' := (.object "java/lang/String")) (by decide) (by decide)))
  have f12 : Fld Z h9 a "org/pathbind/MediaType" "text" "Ljava/lang/String;" u3 := f11.other W9 (Or.inr (slot_ne (Or.inr (w53 hw)) (Or.inr (w51 hw)) (by decide) (t := (.object "java/lang/String")) (t' := (.object "java/util/Map")) (by decide) (by decide)))
  have f13 : Exa Z h9 a "org/pathbind/MediaType" := f8.wr W9
  obtain ⟨T14, h14, X14, e14, W14, st14⟩ := putF X9 hx hZ hown (host := "") (Or.inl (w52 hw)) Via.refl e9 f12 f13 (Or.inr ⟨(w53 hw), rfl, hnm⟩) (w1 hw) (ty := (.object "java/lang/String")) (by decide) rfl rfl (g := (mkF m 22 #[.val (.ref a), .val (.ref ty), .val (.ref st), .val .null, .val .null] [.null, (.ref a)])) rfl rfl (hb hby d8_22)
  have F14 := f12.same W14
  have N14 := Fr.snoc X14 N9 P5
  have Z14 : n0 ≤ h14.size := Nat.le_trans Z9 (Keep.of_wr W14).1
  have K14 : Keep h0 h14 [a] := K9.wr W14 (Or.inl (List.mem_of_getElem? (i := 0) rfl))
  refine own_on st14 ?_
  show OwnGo p e below s _ _ _ (T14.setTop (mkF m 25 #[.val (.ref a), .val (.ref ty), .val (.ref st), .val .null, .val .null] []))
  have f15 : Exa Z h14 a "org/pathbind/MediaType" := f13.wr W14
  have f16 : Fld Z h5 a "org/pathbind/MediaType" "type" "Ljava/lang/String;" (.ref ty) := F2.other W5 (Or.inr (slot_ne (Or.inr (w47 hw)) (Or.inr (w49 hw)) (by decide) (t := (.object "java/lang/String")) (t' := (.object "java/lang/String")) (by decide) (by decide)))
  have f17 : Fld Z h9 a "org/pathbind/MediaType" "type" "Ljava/lang/String;" (.ref ty) := f16.other W9 (Or.inr (slot_ne (Or.inr (w47 hw)) (Or.inr (w51 hw)) (by decide) (t := (.object "java/lang/String")) (t' := (.object "java/util/Map")) (by decide) (by decide)))
  have f18 : Fld Z h14 a "org/pathbind/MediaType" "type" "Ljava/lang/String;" (.ref ty) := f17.other W14 (Or.inr (slot_ne (Or.inr (w47 hw)) (Or.inr (w53 hw)) (by decide) (t := (.object "java/lang/String")) (t' := (.object "java/lang/String")) (by decide) (by decide)))
  have f19 : Fld Z h9 a "org/pathbind/MediaType" "subtype" "Ljava/lang/String;" (.ref st) := F5.other W9 (Or.inr (slot_ne (Or.inr (w49 hw)) (Or.inr (w51 hw)) (by decide) (t := (.object "java/lang/String")) (t' := (.object "java/util/Map")) (by decide) (by decide)))
  have f20 : Fld Z h14 a "org/pathbind/MediaType" "subtype" "Ljava/lang/String;" (.ref st) := f19.other W14 (Or.inr (slot_ne (Or.inr (w49 hw)) (Or.inr (w53 hw)) (by decide) (t := (.object "java/lang/String")) (t' := (.object "java/lang/String")) (by decide) (by decide)))
  exact own_retV X14 hx hlk Bd.returns (hb hby d8_25) e14 ⟨rfl, N14, K14, f15, f18, f20⟩ (by decide) (by decide)
theorem ef_10 (m : MethodId) (a : Addr) (b : Addr)  : entryFrame m #[(.ref a), (.ref b)] 2 = mkF m 0 #[.val (.ref a), .val (.ref b)] [] := by first | (simp [entryFrame, mkF, argsToLocals, Value.category]; done) | rfl
def Q10 (Z : State) (a : Addr) (b : Addr) (cs : Int32) (ga : Addr) (gb : Addr) (gc : Addr) (gd : Addr) (tA : List Int32) (sA : List Int32) (tB : List Int32) (sB : List Int32) (h0 : Heap) (n0 : Nat) (v_ : Option Value) (vm_ : Vm) (h_ : Heap) (L_ : List Loc) : Prop := v_ = some (.int (own_inc tA sA tB sB)) ∧ Fr n0 L_ ∧ Keep h0 h_ []
set_option maxRecDepth 65536 in
set_option maxHeartbeats 40000000 in
theorem rm10 (l : Launch) (Z : State) (a0 : Array Value) (hw : ∀ d ∈ tables_1, d.before a0 Z = true) (ws : List Jvm.Cond) (a : Addr) (b : Addr) (cs : Int32) (ga : Addr) (gb : Addr) (gc : Addr) (gd : Addr) (tA : List Int32) (sA : List Int32) (tB : List Int32) (sB : List Int32) (h0 : Heap) (n0 : Nat) (Z0 : n0 ≤ h0.size) (P0 : Old Z n0 h0) (P1 : Sta Z Z.heap "java/lang/String" "COMPACT_STRINGS" "Z" (.int cs)) (P2 : ¬ (cs = (0 : Int32))) (P3 : Exa Z h0 a "org/pathbind/MediaType") (P4 : Exa Z h0 b "org/pathbind/MediaType") (P5 : Fld Z h0 a "org/pathbind/MediaType" "type" "Ljava/lang/String;" (.ref ga)) (P6 : Fld Z h0 a "org/pathbind/MediaType" "subtype" "Ljava/lang/String;" (.ref gb)) (P7 : Fld Z h0 b "org/pathbind/MediaType" "type" "Ljava/lang/String;" (.ref gc)) (P8 : Fld Z h0 b "org/pathbind/MediaType" "subtype" "Ljava/lang/String;" (.ref gd)) (P9 : OwnS Z h0 ga tA) (P10 : OwnS Z h0 gb sA) (P11 : OwnS Z h0 gc tB) (P12 : OwnS Z h0 gd sB) (P13 : Jvm.Lit.constHeld Z "org/pathbind/MediaType" 52) (P14 : Jvm.Lit.compactW.before a0 Z = true) :
    MetFree l (⟨"org/pathbind/MediaType", "includes", "(Lorg/pathbind/MediaType;)Z"⟩ : MethodName) (head1 (Jvm.Cond.code (⟨"org/pathbind/MediaType", "includes", "(Lorg/pathbind/MediaType;)Z"⟩ : MethodName) prog_30_method_6_code 2 (some .boolean) :: ws) ({ frames := 2, cells := 2, slots := 8, locals := 28 } : Room)) (fun A_ U => A_ = #[(.ref a), (.ref b)] ∧ Z.Warmed39 U.vm ∧ U.heap = h0 ∧ OwnI Z U.vm h0) (fun _ _ _ _ _ => True) (fun _ U_ o_ U'_ => ∃ v_ L_, o_ = .returned v_ ∧ Q10 Z a b cs ga gb gc gd tA sA tB sB h0 n0 v_ U'_.vm U'_.heap L_ ∧ ReturnedEndW U_ o_ U'_ L_ ({ frames := 2, cells := 2, slots := 8, locals := 28 } : Room).cells ({ frames := 2, cells := 2, slots := 8, locals := 28 } : Room).slots) := by
  refine MetFree.of_bodySF (plainFor_of_name pn_2) hisR ?_
  intro p e s m args below meth c s₁ Bd hml0 hP hK
  obtain ⟨rfl, hZ, hh, hJ⟩ := hP
  have hx := Bd.exec
  have hby := Bd.bytes
  have hml : c.maxLocals = 2 := hml0
  have hown : s.vm.findClass "org/pathbind/MediaType" = some m.cls := findClass_of_methodNamed Bd.named
  have hnm := (name_of_methodNamed Bd.named Bd.method).1
  have hlk : meth.locks = false := Bd.notSynchronized
  have X0 : Stand p l e ({ frames := 2, cells := 2, slots := 8, locals := 28 } : Room) s m #[(.ref a), (.ref b)] below meth c s₁ [] 0 0 := Stand.of_body Bd
  have e0 : s₁.heap = h0 := by rw [← hh, Bd.state]; rfl
  have N0 := Fr.nil n0
  have K0 : Keep h0 h0 [] := Keep.refl _ _
  have hJ0 : OwnI Z (s.setVm s₁.vm).vm h0 := hJ.warm X0.warmed
  have hS0 : s.Since s₁.vm 0 := X0.warmed.since _
  have hZ : Z.Warmed39 (s.setVm s₁.vm).vm := wtrans hZ X0.warmed
  have hown : (s.setVm s₁.vm).vm.findClass "org/pathbind/MediaType" = some m.cls := (X0.warmed.alike.findClass _ _).trans hown
  have X0 := X0.retabled X0.warmed.wide
  have hml : c.maxLocals = 2 := hml
  refine own_castJ (ef_10 m a b) ?_
  show OwnGoJ p e below s (Q10 Z a b cs ga gb gc gd tA sA tB sB h0 n0) ({ frames := 2, cells := 2, slots := 8, locals := 28 } : Room).cells ({ frames := 2, cells := 2, slots := 8, locals := 28 } : Room).slots (s₁.setTop (mkF m 0 #[.val (.ref a), .val (.ref b)] []))
  refine own_onJ (fun t_ k_ => XS.aloadN X0.here hx rfl (hb hby d10_0) rfl rfl k_) ?_
  show OwnGoJ p e below s _ _ _ (s₁.setTop (mkF m 1 #[.val (.ref a), .val (.ref b)] [(.ref a)]))
  obtain ⟨T1, X1, e1, st1⟩ := getF X0 hx hZ hown (host := "") (Or.inl (w46 hw)) Via.refl e0 P5 (g := (mkF m 1 #[.val (.ref a), .val (.ref b)] [(.ref a)])) rfl rfl (hb hby d10_1)
  refine own_onJ st1 ?_
  show OwnGoJ p e below s _ _ _ (T1.setTop (mkF m 4 #[.val (.ref a), .val (.ref b)] [(.ref ga)]))
  obtain ⟨b2, T2, h2, k2, c2, d2, X2, e2, E2, hS2, hk2, hZ, hown, xE2, xC2, xV2, xA2, xl2, xm2, IB2, hL2, st2⟩ := ldcSVL (Ts := []) X1 hx hZ hown (w59 hw) (own_str hw) e1 hS0 (Nat.zero_le _) (Fr.nil _) (fun b cl q => by rw [hh]; exact P0.2.2 b cl q) hJ0 (by decide) P13 P14 (vs := [(.int (42 : Int32))]) (z := 1) (by decide) (by decide) (by decide) (g := (mkF m 4 #[.val (.ref a), .val (.ref b)] [(.ref ga)])) rfl (hb hby d10_4) (n := 4) (by decide) (by decide) (by decide) (by decide)
  have Z2 : n0 ≤ h2.size := Nat.le_trans Z0 E2.1
  have K2 : Keep h0 h2 [] := K0.ext E2
  have f3 : Exa Z h2 a "org/pathbind/MediaType" := P3.ext E2
  have ne4 : a ≠ b2 := Exa.ne f3 xE2 (by decide)
  have ne5 : a ≠ c2 := Exa.neArv f3 xA2 (w1 hw)
  have f6 : Exa Z h2 b "org/pathbind/MediaType" := P4.ext E2
  have ne7 : b ≠ b2 := Exa.ne f6 xE2 (by decide)
  have ne8 : b ≠ c2 := Exa.neArv f6 xA2 (w1 hw)
  refine own_onJ st2 ?_
  show OwnGoJ p e below s _ _ _ (T2.setTop (mkF m 6 #[.val (.ref a), .val (.ref b)] [(.ref b2), (.ref ga)]))
  have ss : OwnS Z h2 b2 [(42 : Int32)] := ⟨c2, d2, 1, [.int 42], xE2, xC2, xV2, xA2, Or.inl ⟨rfl, rfl, rfl, by decide⟩, by decide, by decide⟩
  have f10 : OwnS Z h2 ga tA := P9.ext E2
  have f9 : Exa Z h2 ga "java/lang/String" := f10.exa
  have f11 : Old Z n0 h2 := P0.ext E2
  obtain ⟨cq12, kq12, q12a, q12b, q12c⟩ := isOf hZ e2 f9
  obtain ⟨_, _, ⟨T12, L12, k12, n12⟩, -, X12, ⟨Lc12, hQ12, l12, y12, z12⟩, st12⟩ := X2.virtualBack hx (y := (⟨"java/lang/String", "equals", "(Ljava/lang/Object;)Z"⟩ : MethodName)) (z := (⟨"java/lang/String", "equals", "(Ljava/lang/Object;)Z"⟩ : MethodName)) hown (mvT hZ (w62 hw)) (mvT hZ (w63 hw)) (notFace_of_selects (args := #[]) (mvT hZ (w65 hw))) (mvT hZ (w65 hw)) (mvT hZ (w64 hw)) (by decide) (own_eqS (n0 := n0) (W := 0) hZ hw f10 ss f11 P1 P2 (by decide) (by decide)) q12a q12c (g := (mkF m 6 #[.val (.ref a), .val (.ref b)] [(.ref b2), (.ref ga)])) rfl (by rw [hml]; rfl) (Steps.refl _) (argsL := [(.ref b2)]) (rest := []) (lenOf pd_2 rfl) rfl (by show 2 * 0 + _ ≤ _; exact Nat.le_of_eq rfl) (hb hby d10_6) (fun _ hWx => ⟨rfl, e2, (by decide : 2 + 0 ≤ _), (by decide : 8 + 0 ≤ _)⟩)
  dsimp only [Pt.U, Pt.locs, Pt.cells, Pt.slots] at X12 l12 y12 z12 st12 hQ12
  replace X12 := own_num (c' := 2) (n' := 8) X12 l12 (y12.trans rfl) (z12.trans rfl)
  obtain ⟨rfl, N12q, e12⟩ := hQ12
  have N12 := Fr.app N0 N12q
  refine own_trJ st12 ?_
  show OwnGoJ p e below s _ _ _ (T12.setTop (mkF m 9 #[.val (.ref a), .val (.ref b)] [(.int (own_e tA [(42 : Int32)]))]))
  by_cases q0 : (own_e tA [(42 : Int32)]) = (0 : Int32)
  · refine own_onJ (fun t_ k_ => XS.ifNo X12.here hx rfl (hb hby d10_9) rfl ((if0 _ _).trans (teq q0).2) k_) ?_
    show OwnGoJ p e below s _ _ _ (T12.setTop (mkF m 12 #[.val (.ref a), .val (.ref b)] []))
    refine own_onJ (fun t_ k_ => XS.aloadN X12.here hx rfl (hb hby d10_12) rfl rfl k_) ?_
    show OwnGoJ p e below s _ _ _ (T12.setTop (mkF m 13 #[.val (.ref a), .val (.ref b)] [(.ref a)]))
    have f13 : Fld Z h2 a "org/pathbind/MediaType" "type" "Ljava/lang/String;" (.ref ga) := P5.ext E2
    obtain ⟨T14, X14, e14, st14⟩ := getF X12 hx hZ hown (host := "") (Or.inl (w46 hw)) Via.refl e12 f13 (g := (mkF m 13 #[.val (.ref a), .val (.ref b)] [(.ref a)])) rfl rfl (hb hby d10_13)
    refine own_onJ st14 ?_
    show OwnGoJ p e below s _ _ _ (T14.setTop (mkF m 16 #[.val (.ref a), .val (.ref b)] [(.ref ga)]))
    refine own_onJ (fun t_ k_ => XS.aloadN X14.here hx rfl (hb hby d10_16) rfl rfl k_) ?_
    show OwnGoJ p e below s _ _ _ (T14.setTop (mkF m 17 #[.val (.ref a), .val (.ref b)] [(.ref b), (.ref ga)]))
    have f15 : Fld Z h2 b "org/pathbind/MediaType" "type" "Ljava/lang/String;" (.ref gc) := P7.ext E2
    obtain ⟨T16, X16, e16, st16⟩ := getF X14 hx hZ hown (host := "") (Or.inl (w46 hw)) Via.refl e14 f15 (g := (mkF m 17 #[.val (.ref a), .val (.ref b)] [(.ref b), (.ref ga)])) rfl rfl (hb hby d10_17)
    refine own_onJ st16 ?_
    show OwnGoJ p e below s _ _ _ (T16.setTop (mkF m 20 #[.val (.ref a), .val (.ref b)] [(.ref gc), (.ref ga)]))
    have f17 : OwnS Z h2 gc tB := P11.ext E2
    obtain ⟨cq18, kq18, q18a, q18b, q18c⟩ := isOf hZ e16 f9
    obtain ⟨_, _, ⟨T18, L18, k18, n18⟩, -, X18, ⟨Lc18, hQ18, l18, y18, z18⟩, st18⟩ := X16.virtualBack hx (y := (⟨"java/lang/String", "equals", "(Ljava/lang/Object;)Z"⟩ : MethodName)) (z := (⟨"java/lang/String", "equals", "(Ljava/lang/Object;)Z"⟩ : MethodName)) hown (mvT hZ (w62 hw)) (mvT hZ (w63 hw)) (notFace_of_selects (args := #[]) (mvT hZ (w65 hw))) (mvT hZ (w65 hw)) (mvT hZ (w64 hw)) (by decide) (own_eqS (n0 := n0) (W := 0) hZ hw f10 f17 f11 P1 P2 (by decide) (by decide)) q18a q18c (g := (mkF m 20 #[.val (.ref a), .val (.ref b)] [(.ref gc), (.ref ga)])) rfl (by rw [hml]; rfl) (Steps.refl _) (argsL := [(.ref gc)]) (rest := []) (lenOf pd_2 rfl) rfl (by show 2 * 0 + _ ≤ _; exact Nat.le_of_eq rfl) (hb hby d10_20) (fun _ hWx => ⟨rfl, e16, (by decide : 2 + 0 ≤ _), (by decide : 8 + 0 ≤ _)⟩)
    dsimp only [Pt.U, Pt.locs, Pt.cells, Pt.slots] at X18 l18 y18 z18 st18 hQ18
    replace X18 := own_num (c' := 2) (n' := 8) X18 l18 (y18.trans rfl) (z18.trans rfl)
    obtain ⟨rfl, N18q, e18⟩ := hQ18
    have N18 := Fr.app N12 N18q
    refine own_trJ st18 ?_
    show OwnGoJ p e below s _ _ _ (T18.setTop (mkF m 23 #[.val (.ref a), .val (.ref b)] [(.int (own_e tA tB))]))
    by_cases q1 : (own_e tA tB) = (0 : Int32)
    · refine own_onJ (fun t_ k_ => XS.ifYes X18.here hx rfl (pc0 := 23) (pc' := 56) rfl (hb hby d10_23) rfl ((if0 _ _).trans (teq q1).1) (by decide) (by decide) k_) ?_
      show OwnGoJ p e below s _ _ _ (T18.setTop (mkF m 56 #[.val (.ref a), .val (.ref b)] []))
      refine own_onJ (fun t_ k_ => XS.iconst X18.here hx rfl (hb hby d10_56) k_) ?_
      show OwnGoJ p e below s _ _ _ (T18.setTop (mkF m 57 #[.val (.ref a), .val (.ref b)] [(.int (0 : Int32))]))
      exact own_retNJ X18 hx hlk (t := .boolean) Bd.returns (by simp) (hb hby d10_57) e18 ⟨(congrArg (fun z => some (Value.int z)) (by simp [own_inc, nar, *])), N18, K2⟩ (by decide) (by decide) hS2 (Nat.le_trans hk2 (Nat.le_of_eq (congrArg Array.size e18.symm)))
    · refine own_onJ (fun t_ k_ => XS.ifNo X18.here hx rfl (hb hby d10_23) rfl ((if0 _ _).trans (feq q1).1) k_) ?_
      show OwnGoJ p e below s _ _ _ (T18.setTop (mkF m 26 #[.val (.ref a), .val (.ref b)] []))
      refine own_onJ (fun t_ k_ => XS.aloadN X18.here hx rfl (hb hby d10_26) rfl rfl k_) ?_
      show OwnGoJ p e below s _ _ _ (T18.setTop (mkF m 27 #[.val (.ref a), .val (.ref b)] [(.ref a)]))
      have f19 : Fld Z h2 a "org/pathbind/MediaType" "subtype" "Ljava/lang/String;" (.ref gb) := P6.ext E2
      obtain ⟨T20, X20, e20, st20⟩ := getF X18 hx hZ hown (host := "") (Or.inl (w48 hw)) Via.refl e18 f19 (g := (mkF m 27 #[.val (.ref a), .val (.ref b)] [(.ref a)])) rfl rfl (hb hby d10_27)
      refine own_onJ st20 ?_
      show OwnGoJ p e below s _ _ _ (T20.setTop (mkF m 30 #[.val (.ref a), .val (.ref b)] [(.ref gb)]))
      refine own_onJ (ldcAgain X20 hx hZ hown (w59 hw) hL2 (g := (mkF m 30 #[.val (.ref a), .val (.ref b)] [(.ref gb)])) rfl (hb hby d10_30)) ?_
      show OwnGoJ p e below s _ _ _ (T20.setTop (mkF m 32 #[.val (.ref a), .val (.ref b)] [(.ref b2), (.ref gb)]))
      have f22 : OwnS Z h2 gb sA := P10.ext E2
      have f21 : Exa Z h2 gb "java/lang/String" := f22.exa
      obtain ⟨cq23, kq23, q23a, q23b, q23c⟩ := isOf hZ e20 f21
      obtain ⟨_, _, ⟨T23, L23, k23, n23⟩, -, X23, ⟨Lc23, hQ23, l23, y23, z23⟩, st23⟩ := X20.virtualBack hx (y := (⟨"java/lang/String", "equals", "(Ljava/lang/Object;)Z"⟩ : MethodName)) (z := (⟨"java/lang/String", "equals", "(Ljava/lang/Object;)Z"⟩ : MethodName)) hown (mvT hZ (w62 hw)) (mvT hZ (w63 hw)) (notFace_of_selects (args := #[]) (mvT hZ (w65 hw))) (mvT hZ (w65 hw)) (mvT hZ (w64 hw)) (by decide) (own_eqS (n0 := n0) (W := 0) hZ hw f22 ss f11 P1 P2 (by decide) (by decide)) q23a q23c (g := (mkF m 32 #[.val (.ref a), .val (.ref b)] [(.ref b2), (.ref gb)])) rfl (by rw [hml]; rfl) (Steps.refl _) (argsL := [(.ref b2)]) (rest := []) (lenOf pd_2 rfl) rfl (by show 2 * 0 + _ ≤ _; exact Nat.le_of_eq rfl) (hb hby d10_32) (fun _ hWx => ⟨rfl, e20, (by decide : 2 + 0 ≤ _), (by decide : 8 + 0 ≤ _)⟩)
      dsimp only [Pt.U, Pt.locs, Pt.cells, Pt.slots] at X23 l23 y23 z23 st23 hQ23
      replace X23 := own_num (c' := 2) (n' := 8) X23 l23 (y23.trans rfl) (z23.trans rfl)
      obtain ⟨rfl, N23q, e23⟩ := hQ23
      have N23 := Fr.app N18 N23q
      refine own_trJ st23 ?_
      show OwnGoJ p e below s _ _ _ (T23.setTop (mkF m 35 #[.val (.ref a), .val (.ref b)] [(.int (own_e sA [(42 : Int32)]))]))
      by_cases q2 : (own_e sA [(42 : Int32)]) = (0 : Int32)
      · refine own_onJ (fun t_ k_ => XS.ifNo X23.here hx rfl (hb hby d10_35) rfl ((if0 _ _).trans (teq q2).2) k_) ?_
        show OwnGoJ p e below s _ _ _ (T23.setTop (mkF m 38 #[.val (.ref a), .val (.ref b)] []))
        refine own_onJ (fun t_ k_ => XS.aloadN X23.here hx rfl (hb hby d10_38) rfl rfl k_) ?_
        show OwnGoJ p e below s _ _ _ (T23.setTop (mkF m 39 #[.val (.ref a), .val (.ref b)] [(.ref a)]))
        obtain ⟨T24, X24, e24, st24⟩ := getF X23 hx hZ hown (host := "") (Or.inl (w48 hw)) Via.refl e23 f19 (g := (mkF m 39 #[.val (.ref a), .val (.ref b)] [(.ref a)])) rfl rfl (hb hby d10_39)
        refine own_onJ st24 ?_
        show OwnGoJ p e below s _ _ _ (T24.setTop (mkF m 42 #[.val (.ref a), .val (.ref b)] [(.ref gb)]))
        refine own_onJ (fun t_ k_ => XS.aloadN X24.here hx rfl (hb hby d10_42) rfl rfl k_) ?_
        show OwnGoJ p e below s _ _ _ (T24.setTop (mkF m 43 #[.val (.ref a), .val (.ref b)] [(.ref b), (.ref gb)]))
        have f25 : Fld Z h2 b "org/pathbind/MediaType" "subtype" "Ljava/lang/String;" (.ref gd) := P8.ext E2
        obtain ⟨T26, X26, e26, st26⟩ := getF X24 hx hZ hown (host := "") (Or.inl (w48 hw)) Via.refl e24 f25 (g := (mkF m 43 #[.val (.ref a), .val (.ref b)] [(.ref b), (.ref gb)])) rfl rfl (hb hby d10_43)
        refine own_onJ st26 ?_
        show OwnGoJ p e below s _ _ _ (T26.setTop (mkF m 46 #[.val (.ref a), .val (.ref b)] [(.ref gd), (.ref gb)]))
        have f27 : OwnS Z h2 gd sB := P12.ext E2
        obtain ⟨cq28, kq28, q28a, q28b, q28c⟩ := isOf hZ e26 f21
        obtain ⟨_, _, ⟨T28, L28, k28, n28⟩, -, X28, ⟨Lc28, hQ28, l28, y28, z28⟩, st28⟩ := X26.virtualBack hx (y := (⟨"java/lang/String", "equals", "(Ljava/lang/Object;)Z"⟩ : MethodName)) (z := (⟨"java/lang/String", "equals", "(Ljava/lang/Object;)Z"⟩ : MethodName)) hown (mvT hZ (w62 hw)) (mvT hZ (w63 hw)) (notFace_of_selects (args := #[]) (mvT hZ (w65 hw))) (mvT hZ (w65 hw)) (mvT hZ (w64 hw)) (by decide) (own_eqS (n0 := n0) (W := 0) hZ hw f22 f27 f11 P1 P2 (by decide) (by decide)) q28a q28c (g := (mkF m 46 #[.val (.ref a), .val (.ref b)] [(.ref gd), (.ref gb)])) rfl (by rw [hml]; rfl) (Steps.refl _) (argsL := [(.ref gd)]) (rest := []) (lenOf pd_2 rfl) rfl (by show 2 * 0 + _ ≤ _; exact Nat.le_of_eq rfl) (hb hby d10_46) (fun _ hWx => ⟨rfl, e26, (by decide : 2 + 0 ≤ _), (by decide : 8 + 0 ≤ _)⟩)
        dsimp only [Pt.U, Pt.locs, Pt.cells, Pt.slots] at X28 l28 y28 z28 st28 hQ28
        replace X28 := own_num (c' := 2) (n' := 8) X28 l28 (y28.trans rfl) (z28.trans rfl)
        obtain ⟨rfl, N28q, e28⟩ := hQ28
        have N28 := Fr.app N23 N28q
        refine own_trJ st28 ?_
        show OwnGoJ p e below s _ _ _ (T28.setTop (mkF m 49 #[.val (.ref a), .val (.ref b)] [(.int (own_e sA sB))]))
        by_cases q3 : (own_e sA sB) = (0 : Int32)
        · refine own_onJ (fun t_ k_ => XS.ifYes X28.here hx rfl (pc0 := 49) (pc' := 56) rfl (hb hby d10_49) rfl ((if0 _ _).trans (teq q3).1) (by decide) (by decide) k_) ?_
          show OwnGoJ p e below s _ _ _ (T28.setTop (mkF m 56 #[.val (.ref a), .val (.ref b)] []))
          refine own_onJ (fun t_ k_ => XS.iconst X28.here hx rfl (hb hby d10_56) k_) ?_
          show OwnGoJ p e below s _ _ _ (T28.setTop (mkF m 57 #[.val (.ref a), .val (.ref b)] [(.int (0 : Int32))]))
          exact own_retNJ X28 hx hlk (t := .boolean) Bd.returns (by simp) (hb hby d10_57) e28 ⟨(congrArg (fun z => some (Value.int z)) (by simp [own_inc, nar, *])), N28, K2⟩ (by decide) (by decide) hS2 (Nat.le_trans hk2 (Nat.le_of_eq (congrArg Array.size e28.symm)))
        · refine own_onJ (fun t_ k_ => XS.ifNo X28.here hx rfl (hb hby d10_49) rfl ((if0 _ _).trans (feq q3).1) k_) ?_
          show OwnGoJ p e below s _ _ _ (T28.setTop (mkF m 52 #[.val (.ref a), .val (.ref b)] []))
          refine own_onJ (fun t_ k_ => XS.iconst X28.here hx rfl (hb hby d10_52) k_) ?_
          show OwnGoJ p e below s _ _ _ (T28.setTop (mkF m 53 #[.val (.ref a), .val (.ref b)] [(.int (1 : Int32))]))
          refine own_onJ (fun t_ k_ => XS.goto X28.here hx rfl (pc0 := 53) (pc' := 57) rfl (hb hby d10_53) (by decide) (by decide) k_) ?_
          show OwnGoJ p e below s _ _ _ (T28.setTop (mkF m 57 #[.val (.ref a), .val (.ref b)] [(.int (1 : Int32))]))
          exact own_retNJ X28 hx hlk (t := .boolean) Bd.returns (by simp) (hb hby d10_57) e28 ⟨(congrArg (fun z => some (Value.int z)) (by simp [own_inc, nar, *])), N28, K2⟩ (by decide) (by decide) hS2 (Nat.le_trans hk2 (Nat.le_of_eq (congrArg Array.size e28.symm)))
      · refine own_onJ (fun t_ k_ => XS.ifYes X23.here hx rfl (pc0 := 35) (pc' := 52) rfl (hb hby d10_35) rfl ((if0 _ _).trans (feq q2).2) (by decide) (by decide) k_) ?_
        show OwnGoJ p e below s _ _ _ (T23.setTop (mkF m 52 #[.val (.ref a), .val (.ref b)] []))
        refine own_onJ (fun t_ k_ => XS.iconst X23.here hx rfl (hb hby d10_52) k_) ?_
        show OwnGoJ p e below s _ _ _ (T23.setTop (mkF m 53 #[.val (.ref a), .val (.ref b)] [(.int (1 : Int32))]))
        refine own_onJ (fun t_ k_ => XS.goto X23.here hx rfl (pc0 := 53) (pc' := 57) rfl (hb hby d10_53) (by decide) (by decide) k_) ?_
        show OwnGoJ p e below s _ _ _ (T23.setTop (mkF m 57 #[.val (.ref a), .val (.ref b)] [(.int (1 : Int32))]))
        exact own_retNJ X23 hx hlk (t := .boolean) Bd.returns (by simp) (hb hby d10_57) e23 ⟨(congrArg (fun z => some (Value.int z)) (by simp [own_inc, nar, *])), N23, K2⟩ (by decide) (by decide) hS2 (Nat.le_trans hk2 (Nat.le_of_eq (congrArg Array.size e23.symm)))
  · refine own_onJ (fun t_ k_ => XS.ifYes X12.here hx rfl (pc0 := 9) (pc' := 52) rfl (hb hby d10_9) rfl ((if0 _ _).trans (feq q0).2) (by decide) (by decide) k_) ?_
    show OwnGoJ p e below s _ _ _ (T12.setTop (mkF m 52 #[.val (.ref a), .val (.ref b)] []))
    refine own_onJ (fun t_ k_ => XS.iconst X12.here hx rfl (hb hby d10_52) k_) ?_
    show OwnGoJ p e below s _ _ _ (T12.setTop (mkF m 53 #[.val (.ref a), .val (.ref b)] [(.int (1 : Int32))]))
    refine own_onJ (fun t_ k_ => XS.goto X12.here hx rfl (pc0 := 53) (pc' := 57) rfl (hb hby d10_53) (by decide) (by decide) k_) ?_
    show OwnGoJ p e below s _ _ _ (T12.setTop (mkF m 57 #[.val (.ref a), .val (.ref b)] [(.int (1 : Int32))]))
    exact own_retNJ X12 hx hlk (t := .boolean) Bd.returns (by simp) (hb hby d10_57) e12 ⟨(congrArg (fun z => some (Value.int z)) (by simp [own_inc, nar, *])), N12, K2⟩ (by decide) (by decide) hS2 (Nat.le_trans hk2 (Nat.le_of_eq (congrArg Array.size e12.symm)))
theorem ef_0 (m : MethodId) (cc : Int32) (sel : Int32)  : entryFrame m #[(.int cc), (.int sel)] maxLocals = mkF m 0 #[.val (.int cc), .val (.int sel), .unset, .unset, .unset, .unset, .unset, .unset, .unset, .unset] [] := by first | (simp [entryFrame, mkF, argsToLocals, Value.category, maxLocals]; done) | rfl
def Q0 (Z : State) (cc : Int32) (sel : Int32) (cs : Int32) (h0 : Heap) (n0 : Nat) (v_ : Option Value) (vm_ : Vm) (h_ : Heap) (L_ : List Loc) : Prop := v_ = some (.int (1 : Int32)) ∧ Fr n0 L_ ∧ Keep h0 h_ []
set_option maxRecDepth 65536 in
set_option maxHeartbeats 40000000 in
theorem rm0 (l : Launch) (Z : State) (a0 : Array Value) (hw : ∀ d ∈ tables_1, d.before a0 Z = true) (ws : List Jvm.Cond) (cc : Int32) (sel : Int32) (cs : Int32) (h0 : Heap) (n0 : Nat) (Z0 : n0 ≤ h0.size) (P0 : Old Z n0 h0) (P1 : Sta Z Z.heap "java/lang/String" "COMPACT_STRINGS" "Z" (.int cs)) (P2 : ¬ (cs = (0 : Int32))) (P3 : Jvm.Lit.constHeld Z "org/pathbind/MediaType" 52) (P4 : Jvm.Lit.compactW.before a0 Z = true) :
    MetFree l x (head1 (Jvm.Cond.code x code maxLocals ret :: ws) room_1) (fun A_ U => A_ = #[(.int cc), (.int sel)] ∧ Z.Warmed39 U.vm ∧ U.heap = h0 ∧ OwnI Z U.vm h0) (fun _ _ _ _ _ => True) (fun _ U_ o_ U'_ => ∃ v_ L_, o_ = .returned v_ ∧ Q0 Z cc sel cs h0 n0 v_ U'_.vm U'_.heap L_ ∧ ReturnedEndW U_ o_ U'_ L_ room_1.cells room_1.slots) := by
  refine MetFree.of_bodySF (plainFor_of_name pn_1) hisR ?_
  intro p e s m args below meth c s₁ Bd hml0 hP hK
  obtain ⟨rfl, hZ, hh, hJ⟩ := hP
  have hx := Bd.exec
  have hby := Bd.bytes
  have hml : c.maxLocals = 10 := hml0
  have hown : s.vm.findClass "org/pathbind/MediaTypeIncludesPinLaw" = some m.cls := findClass_of_methodNamed Bd.named
  have hnm := (name_of_methodNamed Bd.named Bd.method).1
  have hlk : meth.locks = false := Bd.notSynchronized
  have X0 : Stand p l e room_1 s m #[(.int cc), (.int sel)] below meth c s₁ [] 0 0 := Stand.of_body Bd
  have e0 : s₁.heap = h0 := by rw [← hh, Bd.state]; rfl
  have N0 := Fr.nil n0
  have K0 : Keep h0 h0 [] := Keep.refl _ _
  have hJ0 : OwnI Z (s.setVm s₁.vm).vm h0 := hJ.warm X0.warmed
  have hS0 : s.Since s₁.vm 0 := X0.warmed.since _
  have hZ : Z.Warmed39 (s.setVm s₁.vm).vm := wtrans hZ X0.warmed
  have hown : (s.setVm s₁.vm).vm.findClass "org/pathbind/MediaTypeIncludesPinLaw" = some m.cls := (X0.warmed.alike.findClass _ _).trans hown
  have X0 := X0.retabled X0.warmed.wide
  have hml : c.maxLocals = 10 := hml
  refine own_castJ (ef_0 m cc sel) ?_
  show OwnGoJ p e below s (Q0 Z cc sel cs h0 n0) room_1.cells room_1.slots (s₁.setTop (mkF m 0 #[.val (.int cc), .val (.int sel), .unset, .unset, .unset, .unset, .unset, .unset, .unset, .unset] []))
  refine own_onJ (fun t_ k_ => XS.iloadN X0.here hx rfl (hb hby at_0) rfl k_) ?_
  show OwnGoJ p e below s _ _ _ (s₁.setTop (mkF m 1 #[.val (.int cc), .val (.int sel), .unset, .unset, .unset, .unset, .unset, .unset, .unset, .unset] [(.int cc)]))
  refine own_onJ (fun t_ k_ => XS.sipush X0.here hx rfl (hb hby at_1) k_) ?_
  show OwnGoJ p e below s _ _ _ (s₁.setTop (mkF m 4 #[.val (.int cc), .val (.int sel), .unset, .unset, .unset, .unset, .unset, .unset, .unset, .unset] [(.int (255 : Int32)), (.int cc)]))
  refine own_onJ (fun t_ k_ => XS.iand X0.here hx rfl (hb hby at_4) rfl k_) ?_
  show OwnGoJ p e below s _ _ _ (s₁.setTop (mkF m 5 #[.val (.int cc), .val (.int sel), .unset, .unset, .unset, .unset, .unset, .unset, .unset, .unset] [(.int (cc &&& (255 : Int32)))]))
  refine own_onJ (fun t_ k_ => XS.i2c X0.here hx rfl (hb hby at_5) rfl k_) ?_
  show OwnGoJ p e below s _ _ _ (s₁.setTop (mkF m 6 #[.val (.int cc), .val (.int sel), .unset, .unset, .unset, .unset, .unset, .unset, .unset, .unset] [(.int ((cc &&& (255 : Int32)).toUInt32.toUInt16.toUInt32.toInt32))]))
  refine own_onJ (fun t_ k_ => XS.istoreN X0.here hx rfl (hb hby at_6) rfl (l' := #[.val (.int cc), .val (.int sel), .val (.int ((cc &&& (255 : Int32)).toUInt32.toUInt16.toUInt32.toInt32)), .unset, .unset, .unset, .unset, .unset, .unset, .unset]) rfl k_) ?_
  show OwnGoJ p e below s _ _ _ (s₁.setTop (mkF m 7 #[.val (.int cc), .val (.int sel), .val (.int ((cc &&& (255 : Int32)).toUInt32.toUInt16.toUInt32.toInt32)), .unset, .unset, .unset, .unset, .unset, .unset, .unset] []))
  refine own_onJ (fun t_ k_ => XS.iloadN X0.here hx rfl (hb hby at_7) rfl k_) ?_
  show OwnGoJ p e below s _ _ _ (s₁.setTop (mkF m 8 #[.val (.int cc), .val (.int sel), .val (.int ((cc &&& (255 : Int32)).toUInt32.toUInt16.toUInt32.toInt32)), .unset, .unset, .unset, .unset, .unset, .unset, .unset] [(.int sel)]))
  refine own_onJ (fun t_ k_ => XS.iconst X0.here hx rfl (hb hby at_8) k_) ?_
  show OwnGoJ p e below s _ _ _ (s₁.setTop (mkF m 9 #[.val (.int cc), .val (.int sel), .val (.int ((cc &&& (255 : Int32)).toUInt32.toUInt16.toUInt32.toInt32)), .unset, .unset, .unset, .unset, .unset, .unset, .unset] [(.int (3 : Int32)), (.int sel)]))
  refine own_onJ (fun t_ k_ => XS.iand X0.here hx rfl (hb hby at_9) rfl k_) ?_
  show OwnGoJ p e below s _ _ _ (s₁.setTop (mkF m 10 #[.val (.int cc), .val (.int sel), .val (.int ((cc &&& (255 : Int32)).toUInt32.toUInt16.toUInt32.toInt32)), .unset, .unset, .unset, .unset, .unset, .unset, .unset] [(.int (sel &&& (3 : Int32)))]))
  refine own_onJ (fun t_ k_ => XS.istoreN X0.here hx rfl (hb hby at_10) rfl (l' := #[.val (.int cc), .val (.int sel), .val (.int ((cc &&& (255 : Int32)).toUInt32.toUInt16.toUInt32.toInt32)), .val (.int (sel &&& (3 : Int32))), .unset, .unset, .unset, .unset, .unset, .unset]) rfl k_) ?_
  show OwnGoJ p e below s _ _ _ (s₁.setTop (mkF m 11 #[.val (.int cc), .val (.int sel), .val (.int ((cc &&& (255 : Int32)).toUInt32.toUInt16.toUInt32.toInt32)), .val (.int (sel &&& (3 : Int32))), .unset, .unset, .unset, .unset, .unset, .unset] []))
  refine own_onJ (fun t_ k_ => XS.iloadN X0.here hx rfl (hb hby at_11) rfl k_) ?_
  show OwnGoJ p e below s _ _ _ (s₁.setTop (mkF m 12 #[.val (.int cc), .val (.int sel), .val (.int ((cc &&& (255 : Int32)).toUInt32.toUInt16.toUInt32.toInt32)), .val (.int (sel &&& (3 : Int32))), .unset, .unset, .unset, .unset, .unset, .unset] [(.int sel)]))
  refine own_onJ (fun t_ k_ => XS.iconst X0.here hx rfl (hb hby at_12) k_) ?_
  show OwnGoJ p e below s _ _ _ (s₁.setTop (mkF m 13 #[.val (.int cc), .val (.int sel), .val (.int ((cc &&& (255 : Int32)).toUInt32.toUInt16.toUInt32.toInt32)), .val (.int (sel &&& (3 : Int32))), .unset, .unset, .unset, .unset, .unset, .unset] [(.int (2 : Int32)), (.int sel)]))
  refine own_onJ (fun t_ k_ => XS.iushr X0.here hx rfl (hb hby at_13) rfl k_) ?_
  show OwnGoJ p e below s _ _ _ (s₁.setTop (mkF m 14 #[.val (.int cc), .val (.int sel), .val (.int ((cc &&& (255 : Int32)).toUInt32.toUInt16.toUInt32.toInt32)), .val (.int (sel &&& (3 : Int32))), .unset, .unset, .unset, .unset, .unset, .unset] [(.int ((sel.toUInt32 >>> ((2 : Int32) &&& 31).toUInt32).toInt32))]))
  refine own_onJ (fun t_ k_ => XS.iconst X0.here hx rfl (hb hby at_14) k_) ?_
  show OwnGoJ p e below s _ _ _ (s₁.setTop (mkF m 15 #[.val (.int cc), .val (.int sel), .val (.int ((cc &&& (255 : Int32)).toUInt32.toUInt16.toUInt32.toInt32)), .val (.int (sel &&& (3 : Int32))), .unset, .unset, .unset, .unset, .unset, .unset] [(.int (3 : Int32)), (.int ((sel.toUInt32 >>> ((2 : Int32) &&& 31).toUInt32).toInt32))]))
  refine own_onJ (fun t_ k_ => XS.iand X0.here hx rfl (hb hby at_15) rfl k_) ?_
  show OwnGoJ p e below s _ _ _ (s₁.setTop (mkF m 16 #[.val (.int cc), .val (.int sel), .val (.int ((cc &&& (255 : Int32)).toUInt32.toUInt16.toUInt32.toInt32)), .val (.int (sel &&& (3 : Int32))), .unset, .unset, .unset, .unset, .unset, .unset] [(.int (((sel.toUInt32 >>> ((2 : Int32) &&& 31).toUInt32).toInt32) &&& (3 : Int32)))]))
  refine own_onJ (fun t_ k_ => XS.istore X0.here hx rfl (hb hby at_16) rfl (l' := #[.val (.int cc), .val (.int sel), .val (.int ((cc &&& (255 : Int32)).toUInt32.toUInt16.toUInt32.toInt32)), .val (.int (sel &&& (3 : Int32))), .val (.int (((sel.toUInt32 >>> ((2 : Int32) &&& 31).toUInt32).toInt32) &&& (3 : Int32))), .unset, .unset, .unset, .unset, .unset]) rfl k_) ?_
  show OwnGoJ p e below s _ _ _ (s₁.setTop (mkF m 18 #[.val (.int cc), .val (.int sel), .val (.int ((cc &&& (255 : Int32)).toUInt32.toUInt16.toUInt32.toInt32)), .val (.int (sel &&& (3 : Int32))), .val (.int (((sel.toUInt32 >>> ((2 : Int32) &&& 31).toUInt32).toInt32) &&& (3 : Int32))), .unset, .unset, .unset, .unset, .unset] []))
  refine own_onJ (fun t_ k_ => XS.iloadN X0.here hx rfl (hb hby at_18) rfl k_) ?_
  show OwnGoJ p e below s _ _ _ (s₁.setTop (mkF m 19 #[.val (.int cc), .val (.int sel), .val (.int ((cc &&& (255 : Int32)).toUInt32.toUInt16.toUInt32.toInt32)), .val (.int (sel &&& (3 : Int32))), .val (.int (((sel.toUInt32 >>> ((2 : Int32) &&& 31).toUInt32).toInt32) &&& (3 : Int32))), .unset, .unset, .unset, .unset, .unset] [(.int sel)]))
  refine own_onJ (fun t_ k_ => XS.iconst X0.here hx rfl (hb hby at_19) k_) ?_
  show OwnGoJ p e below s _ _ _ (s₁.setTop (mkF m 20 #[.val (.int cc), .val (.int sel), .val (.int ((cc &&& (255 : Int32)).toUInt32.toUInt16.toUInt32.toInt32)), .val (.int (sel &&& (3 : Int32))), .val (.int (((sel.toUInt32 >>> ((2 : Int32) &&& 31).toUInt32).toInt32) &&& (3 : Int32))), .unset, .unset, .unset, .unset, .unset] [(.int (4 : Int32)), (.int sel)]))
  refine own_onJ (fun t_ k_ => XS.iushr X0.here hx rfl (hb hby at_20) rfl k_) ?_
  show OwnGoJ p e below s _ _ _ (s₁.setTop (mkF m 21 #[.val (.int cc), .val (.int sel), .val (.int ((cc &&& (255 : Int32)).toUInt32.toUInt16.toUInt32.toInt32)), .val (.int (sel &&& (3 : Int32))), .val (.int (((sel.toUInt32 >>> ((2 : Int32) &&& 31).toUInt32).toInt32) &&& (3 : Int32))), .unset, .unset, .unset, .unset, .unset] [(.int ((sel.toUInt32 >>> ((4 : Int32) &&& 31).toUInt32).toInt32))]))
  refine own_onJ (fun t_ k_ => XS.iconst X0.here hx rfl (hb hby at_21) k_) ?_
  show OwnGoJ p e below s _ _ _ (s₁.setTop (mkF m 22 #[.val (.int cc), .val (.int sel), .val (.int ((cc &&& (255 : Int32)).toUInt32.toUInt16.toUInt32.toInt32)), .val (.int (sel &&& (3 : Int32))), .val (.int (((sel.toUInt32 >>> ((2 : Int32) &&& 31).toUInt32).toInt32) &&& (3 : Int32))), .unset, .unset, .unset, .unset, .unset] [(.int (3 : Int32)), (.int ((sel.toUInt32 >>> ((4 : Int32) &&& 31).toUInt32).toInt32))]))
  refine own_onJ (fun t_ k_ => XS.iand X0.here hx rfl (hb hby at_22) rfl k_) ?_
  show OwnGoJ p e below s _ _ _ (s₁.setTop (mkF m 23 #[.val (.int cc), .val (.int sel), .val (.int ((cc &&& (255 : Int32)).toUInt32.toUInt16.toUInt32.toInt32)), .val (.int (sel &&& (3 : Int32))), .val (.int (((sel.toUInt32 >>> ((2 : Int32) &&& 31).toUInt32).toInt32) &&& (3 : Int32))), .unset, .unset, .unset, .unset, .unset] [(.int (((sel.toUInt32 >>> ((4 : Int32) &&& 31).toUInt32).toInt32) &&& (3 : Int32)))]))
  refine own_onJ (fun t_ k_ => XS.istore X0.here hx rfl (hb hby at_23) rfl (l' := #[.val (.int cc), .val (.int sel), .val (.int ((cc &&& (255 : Int32)).toUInt32.toUInt16.toUInt32.toInt32)), .val (.int (sel &&& (3 : Int32))), .val (.int (((sel.toUInt32 >>> ((2 : Int32) &&& 31).toUInt32).toInt32) &&& (3 : Int32))), .val (.int (((sel.toUInt32 >>> ((4 : Int32) &&& 31).toUInt32).toInt32) &&& (3 : Int32))), .unset, .unset, .unset, .unset]) rfl k_) ?_
  show OwnGoJ p e below s _ _ _ (s₁.setTop (mkF m 25 #[.val (.int cc), .val (.int sel), .val (.int ((cc &&& (255 : Int32)).toUInt32.toUInt16.toUInt32.toInt32)), .val (.int (sel &&& (3 : Int32))), .val (.int (((sel.toUInt32 >>> ((2 : Int32) &&& 31).toUInt32).toInt32) &&& (3 : Int32))), .val (.int (((sel.toUInt32 >>> ((4 : Int32) &&& 31).toUInt32).toInt32) &&& (3 : Int32))), .unset, .unset, .unset, .unset] []))
  refine own_onJ (fun t_ k_ => XS.iloadN X0.here hx rfl (hb hby at_25) rfl k_) ?_
  show OwnGoJ p e below s _ _ _ (s₁.setTop (mkF m 26 #[.val (.int cc), .val (.int sel), .val (.int ((cc &&& (255 : Int32)).toUInt32.toUInt16.toUInt32.toInt32)), .val (.int (sel &&& (3 : Int32))), .val (.int (((sel.toUInt32 >>> ((2 : Int32) &&& 31).toUInt32).toInt32) &&& (3 : Int32))), .val (.int (((sel.toUInt32 >>> ((4 : Int32) &&& 31).toUInt32).toInt32) &&& (3 : Int32))), .unset, .unset, .unset, .unset] [(.int sel)]))
  refine own_onJ (fun t_ k_ => XS.bipush X0.here hx rfl (hb hby at_26) k_) ?_
  show OwnGoJ p e below s _ _ _ (s₁.setTop (mkF m 28 #[.val (.int cc), .val (.int sel), .val (.int ((cc &&& (255 : Int32)).toUInt32.toUInt16.toUInt32.toInt32)), .val (.int (sel &&& (3 : Int32))), .val (.int (((sel.toUInt32 >>> ((2 : Int32) &&& 31).toUInt32).toInt32) &&& (3 : Int32))), .val (.int (((sel.toUInt32 >>> ((4 : Int32) &&& 31).toUInt32).toInt32) &&& (3 : Int32))), .unset, .unset, .unset, .unset] [(.int (6 : Int32)), (.int sel)]))
  refine own_onJ (fun t_ k_ => XS.iushr X0.here hx rfl (hb hby at_28) rfl k_) ?_
  show OwnGoJ p e below s _ _ _ (s₁.setTop (mkF m 29 #[.val (.int cc), .val (.int sel), .val (.int ((cc &&& (255 : Int32)).toUInt32.toUInt16.toUInt32.toInt32)), .val (.int (sel &&& (3 : Int32))), .val (.int (((sel.toUInt32 >>> ((2 : Int32) &&& 31).toUInt32).toInt32) &&& (3 : Int32))), .val (.int (((sel.toUInt32 >>> ((4 : Int32) &&& 31).toUInt32).toInt32) &&& (3 : Int32))), .unset, .unset, .unset, .unset] [(.int ((sel.toUInt32 >>> ((6 : Int32) &&& 31).toUInt32).toInt32))]))
  refine own_onJ (fun t_ k_ => XS.iconst X0.here hx rfl (hb hby at_29) k_) ?_
  show OwnGoJ p e below s _ _ _ (s₁.setTop (mkF m 30 #[.val (.int cc), .val (.int sel), .val (.int ((cc &&& (255 : Int32)).toUInt32.toUInt16.toUInt32.toInt32)), .val (.int (sel &&& (3 : Int32))), .val (.int (((sel.toUInt32 >>> ((2 : Int32) &&& 31).toUInt32).toInt32) &&& (3 : Int32))), .val (.int (((sel.toUInt32 >>> ((4 : Int32) &&& 31).toUInt32).toInt32) &&& (3 : Int32))), .unset, .unset, .unset, .unset] [(.int (3 : Int32)), (.int ((sel.toUInt32 >>> ((6 : Int32) &&& 31).toUInt32).toInt32))]))
  refine own_onJ (fun t_ k_ => XS.iand X0.here hx rfl (hb hby at_30) rfl k_) ?_
  show OwnGoJ p e below s _ _ _ (s₁.setTop (mkF m 31 #[.val (.int cc), .val (.int sel), .val (.int ((cc &&& (255 : Int32)).toUInt32.toUInt16.toUInt32.toInt32)), .val (.int (sel &&& (3 : Int32))), .val (.int (((sel.toUInt32 >>> ((2 : Int32) &&& 31).toUInt32).toInt32) &&& (3 : Int32))), .val (.int (((sel.toUInt32 >>> ((4 : Int32) &&& 31).toUInt32).toInt32) &&& (3 : Int32))), .unset, .unset, .unset, .unset] [(.int (((sel.toUInt32 >>> ((6 : Int32) &&& 31).toUInt32).toInt32) &&& (3 : Int32)))]))
  refine own_onJ (fun t_ k_ => XS.istore X0.here hx rfl (hb hby at_31) rfl (l' := #[.val (.int cc), .val (.int sel), .val (.int ((cc &&& (255 : Int32)).toUInt32.toUInt16.toUInt32.toInt32)), .val (.int (sel &&& (3 : Int32))), .val (.int (((sel.toUInt32 >>> ((2 : Int32) &&& 31).toUInt32).toInt32) &&& (3 : Int32))), .val (.int (((sel.toUInt32 >>> ((4 : Int32) &&& 31).toUInt32).toInt32) &&& (3 : Int32))), .val (.int (((sel.toUInt32 >>> ((6 : Int32) &&& 31).toUInt32).toInt32) &&& (3 : Int32))), .unset, .unset, .unset]) rfl k_) ?_
  show OwnGoJ p e below s _ _ _ (s₁.setTop (mkF m 33 #[.val (.int cc), .val (.int sel), .val (.int ((cc &&& (255 : Int32)).toUInt32.toUInt16.toUInt32.toInt32)), .val (.int (sel &&& (3 : Int32))), .val (.int (((sel.toUInt32 >>> ((2 : Int32) &&& 31).toUInt32).toInt32) &&& (3 : Int32))), .val (.int (((sel.toUInt32 >>> ((4 : Int32) &&& 31).toUInt32).toInt32) &&& (3 : Int32))), .val (.int (((sel.toUInt32 >>> ((6 : Int32) &&& 31).toUInt32).toInt32) &&& (3 : Int32))), .unset, .unset, .unset] []))
  have J48 : ∀ (s1 s2 : Int32) (hs1 : own_r3 s1) (hs2 : own_r3 s2), OwnGoJ p e below s (Q0 Z cc sel cs h0 n0) room_1.cells room_1.slots (s₁.setTop (mkF m 48 #[.val (.int cc), .val (.int sel), .val (.int ((cc &&& (255 : Int32)).toUInt32.toUInt16.toUInt32.toInt32)), .val (.int (sel &&& (3 : Int32))), .val (.int s1), .val (.int (((sel.toUInt32 >>> ((4 : Int32) &&& 31).toUInt32).toInt32) &&& (3 : Int32))), .val (.int s2), .unset, .unset, .unset] [])) := by
    intro s1 s2 hs1 hs2
    have hc0 : ¬ ((cc &&& (255 : Int32)).toUInt32.toUInt16.toUInt32.toInt32) < (0 : Int32) := own_ge0 _
    have hc1 : ¬ (255 : Int32) < ((cc &&& (255 : Int32)).toUInt32.toUInt16.toUInt32.toInt32) := own_le255 _
    have ht1 : own_r3 (sel &&& (3 : Int32)) := own_m3 _
    have ht2 : own_r3 (((sel.toUInt32 >>> ((4 : Int32) &&& 31).toUInt32).toInt32) &&& (3 : Int32)) := own_m3 _
    obtain ⟨T1, h1, X1, e1, E1, A1, D1, u1, st1⟩ := newO X0 hx hZ hown (w0 hw) (w1 hw) (w2 hw) e0 (g := (mkF m 48 #[.val (.int cc), .val (.int sel), .val (.int ((cc &&& (255 : Int32)).toUInt32.toUInt16.toUInt32.toInt32)), .val (.int (sel &&& (3 : Int32))), .val (.int s1), .val (.int (((sel.toUInt32 >>> ((4 : Int32) &&& 31).toUInt32).toInt32) &&& (3 : Int32))), .val (.int s2), .unset, .unset, .unset] [])) rfl (hb hby at_48) (by decide) (by decide)
    obtain ⟨b1, g1⟩ : ∃ z, z = h0.size := ⟨_, rfl⟩
    rw [← g1] at A1 D1 st1
    have g2 : n0 ≤ b1 := Nat.le_trans Z0 (Nat.le_of_eq g1.symm)
    have z3 : h0.size ≤ b1 := Nat.le_trans K0.1 (Nat.le_of_eq g1.symm)
    have Z1 : n0 ≤ h1.size := Nat.le_trans Z0 E1.1
    have K1 : Keep h0 h1 [] := K0.ext E1
    have F1_type : Fld Z h1 b1 "org/pathbind/MediaType" "type" "Ljava/lang/String;" .null := D1 (Or.inr (w47 hw)) (ty := (.object "java/lang/String")) (by decide)
    have F1_subtype : Fld Z h1 b1 "org/pathbind/MediaType" "subtype" "Ljava/lang/String;" .null := D1 (Or.inr (w49 hw)) (ty := (.object "java/lang/String")) (by decide)
    have F1_parameters : Fld Z h1 b1 "org/pathbind/MediaType" "parameters" "Ljava/util/Map;" .null := D1 (Or.inr (w51 hw)) (ty := (.object "java/util/Map")) (by decide)
    have F1_text : Fld Z h1 b1 "org/pathbind/MediaType" "text" "Ljava/lang/String;" .null := D1 (Or.inr (w53 hw)) (ty := (.object "java/lang/String")) (by decide)
    refine own_onJ st1 ?_
    show OwnGoJ p e below s _ _ _ (T1.setTop (mkF m 51 #[.val (.int cc), .val (.int sel), .val (.int ((cc &&& (255 : Int32)).toUInt32.toUInt16.toUInt32.toInt32)), .val (.int (sel &&& (3 : Int32))), .val (.int s1), .val (.int (((sel.toUInt32 >>> ((4 : Int32) &&& 31).toUInt32).toInt32) &&& (3 : Int32))), .val (.int s2), .unset, .unset, .unset] [(.ref b1)]))
    refine own_onJ (fun t_ k_ => XS.dup X1.here hx rfl (hb hby at_51) rfl rfl k_) ?_
    show OwnGoJ p e below s _ _ _ (T1.setTop (mkF m 52 #[.val (.int cc), .val (.int sel), .val (.int ((cc &&& (255 : Int32)).toUInt32.toUInt16.toUInt32.toInt32)), .val (.int (sel &&& (3 : Int32))), .val (.int s1), .val (.int (((sel.toUInt32 >>> ((4 : Int32) &&& 31).toUInt32).toInt32) &&& (3 : Int32))), .val (.int s2), .unset, .unset, .unset] [(.ref b1), (.ref b1)]))
    refine own_onJ (fun t_ k_ => XS.iloadN X1.here hx rfl (hb hby at_52) rfl k_) ?_
    show OwnGoJ p e below s _ _ _ (T1.setTop (mkF m 53 #[.val (.int cc), .val (.int sel), .val (.int ((cc &&& (255 : Int32)).toUInt32.toUInt16.toUInt32.toInt32)), .val (.int (sel &&& (3 : Int32))), .val (.int s1), .val (.int (((sel.toUInt32 >>> ((4 : Int32) &&& 31).toUInt32).toInt32) &&& (3 : Int32))), .val (.int s2), .unset, .unset, .unset] [(.int (sel &&& (3 : Int32))), (.ref b1), (.ref b1)]))
    refine own_onJ (fun t_ k_ => XS.iloadN X1.here hx rfl (hb hby at_53) rfl k_) ?_
    show OwnGoJ p e below s _ _ _ (T1.setTop (mkF m 54 #[.val (.int cc), .val (.int sel), .val (.int ((cc &&& (255 : Int32)).toUInt32.toUInt16.toUInt32.toInt32)), .val (.int (sel &&& (3 : Int32))), .val (.int s1), .val (.int (((sel.toUInt32 >>> ((4 : Int32) &&& 31).toUInt32).toInt32) &&& (3 : Int32))), .val (.int s2), .unset, .unset, .unset] [(.int ((cc &&& (255 : Int32)).toUInt32.toUInt16.toUInt32.toInt32)), (.int (sel &&& (3 : Int32))), (.ref b1), (.ref b1)]))
    have f4 : Old Z n0 h1 := P0.ext E1
    obtain ⟨_, _, ⟨T5, L5, k5, n5⟩, -, X5, ⟨Lc5, hQ5, l5, y5, z5⟩, st5⟩ := Jvm.LawKit.callS X1 hx (y := (⟨"org/pathbind/MediaTypeIncludesPinLaw", "pick", "(IC)Ljava/lang/String;"⟩ : MethodName)) hown (mvT hZ (w3 hw)) (mvT hZ (w4 hw)) (mvT hZ (w5 hw)) (mvT hZ (w6 hw)) (by decide) (backOf (W := 2) (rm1 l Z a0 hw [] (sel &&& (3 : Int32)) ((cc &&& (255 : Int32)).toUInt32.toUInt16.toUInt32.toInt32) cs h1 n0 Z1 f4 P1 P2 hc0 hc1) hZ (w6 hw) (w5 hw) (by decide) (by decide)) (g := (mkF m 54 #[.val (.int cc), .val (.int sel), .val (.int ((cc &&& (255 : Int32)).toUInt32.toUInt16.toUInt32.toInt32)), .val (.int (sel &&& (3 : Int32))), .val (.int s1), .val (.int (((sel.toUInt32 >>> ((4 : Int32) &&& 31).toUInt32).toInt32) &&& (3 : Int32))), .val (.int s2), .unset, .unset, .unset] [(.int ((cc &&& (255 : Int32)).toUInt32.toUInt16.toUInt32.toInt32)), (.int (sel &&& (3 : Int32))), (.ref b1), (.ref b1)])) rfl (by rw [hml]; rfl) (argsL := [(.int (sel &&& (3 : Int32))), (.int ((cc &&& (255 : Int32)).toUInt32.toUInt16.toUInt32.toInt32))]) (rest := [(.ref b1), (.ref b1)]) (lenOf pd_3 rfl) rfl (by show 2 * 0 + _ ≤ _; exact Nat.le_of_eq rfl) (hb hby at_54) (fun _ hWx => ⟨rfl, e1, (by decide : 1 + 3 ≤ _), (by decide : 4 + 8 ≤ _)⟩)
    dsimp only [Pt.U, Pt.locs, Pt.cells, Pt.slots] at X5 l5 y5 z5 st5 hQ5
    replace X5 := own_num (c' := 4) (n' := 12) X5 l5 (y5.trans rfl) (z5.trans rfl)
    obtain ⟨r_5, rfl, N5q, K5q, c5_0, c5_1, c5_2, c5_3, c5_4⟩ := hQ5
    have N5 := Fr.app N0 N5q
    have Z5 : n0 ≤ T5.heap.size := Nat.le_trans Z1 K5q.1
    have K5 : Keep h0 T5.heap [] := K1.trans K5q all0
    have ne6 : b1 ≠ r_5 := Nat.ne_of_lt (Nat.lt_of_lt_of_le A1.lt c5_3)
    have z7 : h0.size ≤ r_5 := Nat.le_trans K1.1 c5_3
    refine own_onJ st5 ?_
    show OwnGoJ p e below s _ _ _ (T5.setTop (mkF m 57 #[.val (.int cc), .val (.int sel), .val (.int ((cc &&& (255 : Int32)).toUInt32.toUInt16.toUInt32.toInt32)), .val (.int (sel &&& (3 : Int32))), .val (.int s1), .val (.int (((sel.toUInt32 >>> ((4 : Int32) &&& 31).toUInt32).toInt32) &&& (3 : Int32))), .val (.int s2), .unset, .unset, .unset] [(.ref r_5), (.ref b1), (.ref b1)]))
    refine own_onJ (fun t_ k_ => XS.iload X5.here hx rfl (hb hby at_57) rfl k_) ?_
    show OwnGoJ p e below s _ _ _ (T5.setTop (mkF m 59 #[.val (.int cc), .val (.int sel), .val (.int ((cc &&& (255 : Int32)).toUInt32.toUInt16.toUInt32.toInt32)), .val (.int (sel &&& (3 : Int32))), .val (.int s1), .val (.int (((sel.toUInt32 >>> ((4 : Int32) &&& 31).toUInt32).toInt32) &&& (3 : Int32))), .val (.int s2), .unset, .unset, .unset] [(.int s1), (.ref r_5), (.ref b1), (.ref b1)]))
    refine own_onJ (fun t_ k_ => XS.iloadN X5.here hx rfl (hb hby at_59) rfl k_) ?_
    show OwnGoJ p e below s _ _ _ (T5.setTop (mkF m 60 #[.val (.int cc), .val (.int sel), .val (.int ((cc &&& (255 : Int32)).toUInt32.toUInt16.toUInt32.toInt32)), .val (.int (sel &&& (3 : Int32))), .val (.int s1), .val (.int (((sel.toUInt32 >>> ((4 : Int32) &&& 31).toUInt32).toInt32) &&& (3 : Int32))), .val (.int s2), .unset, .unset, .unset] [(.int ((cc &&& (255 : Int32)).toUInt32.toUInt16.toUInt32.toInt32)), (.int s1), (.ref r_5), (.ref b1), (.ref b1)]))
    obtain ⟨_, _, ⟨T8, L8, k8, n8⟩, -, X8, ⟨Lc8, hQ8, l8, y8, z8⟩, st8⟩ := Jvm.LawKit.callS X5 hx (y := (⟨"org/pathbind/MediaTypeIncludesPinLaw", "pick", "(IC)Ljava/lang/String;"⟩ : MethodName)) hown (mvT hZ (w3 hw)) (mvT hZ (w4 hw)) (mvT hZ (w5 hw)) (mvT hZ (w6 hw)) (by decide) (backOf (W := 3) (rm1 l Z a0 hw [] s1 ((cc &&& (255 : Int32)).toUInt32.toUInt16.toUInt32.toInt32) cs T5.heap n0 Z5 c5_4 P1 P2 hc0 hc1) hZ (w6 hw) (w5 hw) (by decide) (by decide)) (g := (mkF m 60 #[.val (.int cc), .val (.int sel), .val (.int ((cc &&& (255 : Int32)).toUInt32.toUInt16.toUInt32.toInt32)), .val (.int (sel &&& (3 : Int32))), .val (.int s1), .val (.int (((sel.toUInt32 >>> ((4 : Int32) &&& 31).toUInt32).toInt32) &&& (3 : Int32))), .val (.int s2), .unset, .unset, .unset] [(.int ((cc &&& (255 : Int32)).toUInt32.toUInt16.toUInt32.toInt32)), (.int s1), (.ref r_5), (.ref b1), (.ref b1)])) rfl (by rw [hml]; rfl) (argsL := [(.int s1), (.int ((cc &&& (255 : Int32)).toUInt32.toUInt16.toUInt32.toInt32))]) (rest := [(.ref r_5), (.ref b1), (.ref b1)]) (lenOf pd_3 rfl) rfl (by show 2 * 0 + _ ≤ _; exact Nat.le_of_eq rfl) (hb hby at_60) (fun _ hWx => ⟨rfl, rfl, (by decide : 4 + 3 ≤ _), (by decide : 12 + 8 ≤ _)⟩)
    have f9 : Exa Z T5.heap b1 "org/pathbind/MediaType" := A1.keep K5q
    dsimp only [Pt.U, Pt.locs, Pt.cells, Pt.slots] at X8 l8 y8 z8 st8 hQ8
    replace X8 := own_num (c' := 7) (n' := 20) X8 l8 (y8.trans rfl) (z8.trans rfl)
    obtain ⟨r_8, rfl, N8q, K8q, c8_0, c8_1, c8_2, c8_3, c8_4⟩ := hQ8
    have N8 := Fr.app N5 N8q
    have Z8 : n0 ≤ T8.heap.size := Nat.le_trans Z5 K8q.1
    have K8 : Keep h0 T8.heap [] := K5.trans K8q all0
    have ne10 : b1 ≠ r_8 := Nat.ne_of_lt (Nat.lt_of_lt_of_le f9.lt c8_3)
    have ne11 : r_5 ≠ r_8 := Nat.ne_of_lt (Nat.lt_of_lt_of_le c5_0.lt c8_3)
    have z12 : h0.size ≤ r_8 := Nat.le_trans K5.1 c8_3
    refine own_onJ st8 ?_
    show OwnGoJ p e below s _ _ _ (T8.setTop (mkF m 63 #[.val (.int cc), .val (.int sel), .val (.int ((cc &&& (255 : Int32)).toUInt32.toUInt16.toUInt32.toInt32)), .val (.int (sel &&& (3 : Int32))), .val (.int s1), .val (.int (((sel.toUInt32 >>> ((4 : Int32) &&& 31).toUInt32).toInt32) &&& (3 : Int32))), .val (.int s2), .unset, .unset, .unset] [(.ref r_8), (.ref r_5), (.ref b1), (.ref b1)]))
    refine own_onJ (fun t_ k_ => XS.aconstNull X8.here hx rfl (hb hby at_63) k_) ?_
    show OwnGoJ p e below s _ _ _ (T8.setTop (mkF m 64 #[.val (.int cc), .val (.int sel), .val (.int ((cc &&& (255 : Int32)).toUInt32.toUInt16.toUInt32.toInt32)), .val (.int (sel &&& (3 : Int32))), .val (.int s1), .val (.int (((sel.toUInt32 >>> ((4 : Int32) &&& 31).toUInt32).toInt32) &&& (3 : Int32))), .val (.int s2), .unset, .unset, .unset] [.null, (.ref r_8), (.ref r_5), (.ref b1), (.ref b1)]))
    refine own_onJ (fun t_ k_ => XS.aconstNull X8.here hx rfl (hb hby at_64) k_) ?_
    show OwnGoJ p e below s _ _ _ (T8.setTop (mkF m 65 #[.val (.int cc), .val (.int sel), .val (.int ((cc &&& (255 : Int32)).toUInt32.toUInt16.toUInt32.toInt32)), .val (.int (sel &&& (3 : Int32))), .val (.int s1), .val (.int (((sel.toUInt32 >>> ((4 : Int32) &&& 31).toUInt32).toInt32) &&& (3 : Int32))), .val (.int s2), .unset, .unset, .unset] [.null, .null, (.ref r_8), (.ref r_5), (.ref b1), (.ref b1)]))
    have f13 : Exa Z T8.heap b1 "org/pathbind/MediaType" := f9.keep K8q
    have f14 : Fld Z T5.heap b1 "org/pathbind/MediaType" "type" "Ljava/lang/String;" .null := F1_type.keep K5q nin0
    have f15 : Fld Z T8.heap b1 "org/pathbind/MediaType" "type" "Ljava/lang/String;" .null := f14.keep K8q nin0
    have f16 : Fld Z T5.heap b1 "org/pathbind/MediaType" "subtype" "Ljava/lang/String;" .null := F1_subtype.keep K5q nin0
    have f17 : Fld Z T8.heap b1 "org/pathbind/MediaType" "subtype" "Ljava/lang/String;" .null := f16.keep K8q nin0
    have f18 : Fld Z T5.heap b1 "org/pathbind/MediaType" "parameters" "Ljava/util/Map;" .null := F1_parameters.keep K5q nin0
    have f19 : Fld Z T8.heap b1 "org/pathbind/MediaType" "parameters" "Ljava/util/Map;" .null := f18.keep K8q nin0
    have f20 : Fld Z T5.heap b1 "org/pathbind/MediaType" "text" "Ljava/lang/String;" .null := F1_text.keep K5q nin0
    have f21 : Fld Z T8.heap b1 "org/pathbind/MediaType" "text" "Ljava/lang/String;" .null := f20.keep K8q nin0
    obtain ⟨_, _, ⟨T22, L22, k22, n22⟩, -, X22, ⟨Lc22, hQ22, l22, y22, z22⟩, st22⟩ := X8.specialBack hx (y := (⟨"org/pathbind/MediaType", "<init>", "(Ljava/lang/String;Ljava/lang/String;Ljava/util/Map;Ljava/lang/String;)V"⟩ : MethodName)) rfl hown (mvT hZ (w37 hw)) (mvT hZ (w38 hw)) (mvT hZ (w39 hw)) (by decide) (backOf (W := 1) (rm8 l Z a0 hw [] b1 r_5 r_8 .null .null .null .null T8.heap n0 Z8 f13 f15 f17 f19 f21 g2) hZ (w39 hw) (w2 hw) (by decide) (by decide)) (g := (mkF m 65 #[.val (.int cc), .val (.int sel), .val (.int ((cc &&& (255 : Int32)).toUInt32.toUInt16.toUInt32.toInt32)), .val (.int (sel &&& (3 : Int32))), .val (.int s1), .val (.int (((sel.toUInt32 >>> ((4 : Int32) &&& 31).toUInt32).toInt32) &&& (3 : Int32))), .val (.int s2), .unset, .unset, .unset] [.null, .null, (.ref r_8), (.ref r_5), (.ref b1), (.ref b1)])) rfl (by rw [hml]; rfl) (Steps.refl _) (a := b1) (argsL := [(.ref r_5), (.ref r_8), .null, .null]) (rest := [(.ref b1)]) (lenOf pd_4 rfl) rfl (by show 2 * 0 + _ ≤ _; exact Nat.le_of_eq rfl) (hb hby at_65) (fun _ hWx => ⟨rfl, rfl, (by decide : 7 + 0 ≤ _), (by decide : 20 + 0 ≤ _)⟩)
    dsimp only [Pt.U, Pt.locs, Pt.cells, Pt.slots] at X22 l22 y22 z22 st22 hQ22
    replace X22 := own_num (c' := 7) (n' := 20) X22 l22 (y22.trans rfl) (z22.trans rfl)
    obtain ⟨rfl, N22q, K22q, c22_0, c22_1, c22_2⟩ := hQ22
    have N22 := Fr.app N8 N22q
    have Z22 : n0 ≤ T22.heap.size := Nat.le_trans Z8 K22q.1
    have K22 : Keep h0 T22.heap [] := K8.trans K22q (allS (P := fun x => x ∈ [] ∨ h0.size ≤ x) (Or.inr z3) all0)
    refine own_trJ st22 ?_
    show OwnGoJ p e below s _ _ _ (T22.setTop (mkF m 68 #[.val (.int cc), .val (.int sel), .val (.int ((cc &&& (255 : Int32)).toUInt32.toUInt16.toUInt32.toInt32)), .val (.int (sel &&& (3 : Int32))), .val (.int s1), .val (.int (((sel.toUInt32 >>> ((4 : Int32) &&& 31).toUInt32).toInt32) &&& (3 : Int32))), .val (.int s2), .unset, .unset, .unset] [(.ref b1)]))
    refine own_onJ (fun t_ k_ => XS.astore X22.here hx rfl (hb hby at_68) rfl rfl (l' := #[.val (.int cc), .val (.int sel), .val (.int ((cc &&& (255 : Int32)).toUInt32.toUInt16.toUInt32.toInt32)), .val (.int (sel &&& (3 : Int32))), .val (.int s1), .val (.int (((sel.toUInt32 >>> ((4 : Int32) &&& 31).toUInt32).toInt32) &&& (3 : Int32))), .val (.int s2), .val (.ref b1), .unset, .unset]) rfl k_) ?_
    show OwnGoJ p e below s _ _ _ (T22.setTop (mkF m 70 #[.val (.int cc), .val (.int sel), .val (.int ((cc &&& (255 : Int32)).toUInt32.toUInt16.toUInt32.toInt32)), .val (.int (sel &&& (3 : Int32))), .val (.int s1), .val (.int (((sel.toUInt32 >>> ((4 : Int32) &&& 31).toUInt32).toInt32) &&& (3 : Int32))), .val (.int s2), .val (.ref b1), .unset, .unset] []))
    obtain ⟨T23, h23, X23, e23, E23, A23, D23, u23, st23⟩ := newO X22 hx hZ hown (w0 hw) (w1 hw) (w2 hw) rfl (g := (mkF m 70 #[.val (.int cc), .val (.int sel), .val (.int ((cc &&& (255 : Int32)).toUInt32.toUInt16.toUInt32.toInt32)), .val (.int (sel &&& (3 : Int32))), .val (.int s1), .val (.int (((sel.toUInt32 >>> ((4 : Int32) &&& 31).toUInt32).toInt32) &&& (3 : Int32))), .val (.int s2), .val (.ref b1), .unset, .unset] [])) rfl (hb hby at_70) (by decide) (by decide)
    obtain ⟨b23, g23⟩ : ∃ z, z = T22.heap.size := ⟨_, rfl⟩
    rw [← g23] at A23 D23 st23
    have f24 : Exa Z T22.heap b1 "org/pathbind/MediaType" := f13.keep K22q
    have ne25 : b1 ≠ b23 := Nat.ne_of_lt (Nat.lt_of_lt_of_le f24.lt (Nat.le_of_eq g23.symm))
    have f26 : Exa Z T8.heap r_5 "java/lang/String" := c5_0.keep K8q
    have f27 : Exa Z T22.heap r_5 "java/lang/String" := f26.keep K22q
    have ne28 : r_5 ≠ b23 := Nat.ne_of_lt (Nat.lt_of_lt_of_le f27.lt (Nat.le_of_eq g23.symm))
    have f29 : Exa Z T22.heap r_8 "java/lang/String" := c8_0.keep K22q
    have ne30 : r_8 ≠ b23 := Nat.ne_of_lt (Nat.lt_of_lt_of_le f29.lt (Nat.le_of_eq g23.symm))
    have g31 : n0 ≤ b23 := Nat.le_trans Z22 (Nat.le_of_eq g23.symm)
    have z32 : h0.size ≤ b23 := Nat.le_trans K22.1 (Nat.le_of_eq g23.symm)
    have Z23 : n0 ≤ h23.size := Nat.le_trans Z22 E23.1
    have K23 : Keep h0 h23 [] := K22.ext E23
    have F23_type : Fld Z h23 b23 "org/pathbind/MediaType" "type" "Ljava/lang/String;" .null := D23 (Or.inr (w47 hw)) (ty := (.object "java/lang/String")) (by decide)
    have F23_subtype : Fld Z h23 b23 "org/pathbind/MediaType" "subtype" "Ljava/lang/String;" .null := D23 (Or.inr (w49 hw)) (ty := (.object "java/lang/String")) (by decide)
    have F23_parameters : Fld Z h23 b23 "org/pathbind/MediaType" "parameters" "Ljava/util/Map;" .null := D23 (Or.inr (w51 hw)) (ty := (.object "java/util/Map")) (by decide)
    have F23_text : Fld Z h23 b23 "org/pathbind/MediaType" "text" "Ljava/lang/String;" .null := D23 (Or.inr (w53 hw)) (ty := (.object "java/lang/String")) (by decide)
    refine own_onJ st23 ?_
    show OwnGoJ p e below s _ _ _ (T23.setTop (mkF m 73 #[.val (.int cc), .val (.int sel), .val (.int ((cc &&& (255 : Int32)).toUInt32.toUInt16.toUInt32.toInt32)), .val (.int (sel &&& (3 : Int32))), .val (.int s1), .val (.int (((sel.toUInt32 >>> ((4 : Int32) &&& 31).toUInt32).toInt32) &&& (3 : Int32))), .val (.int s2), .val (.ref b1), .unset, .unset] [(.ref b23)]))
    refine own_onJ (fun t_ k_ => XS.dup X23.here hx rfl (hb hby at_73) rfl rfl k_) ?_
    show OwnGoJ p e below s _ _ _ (T23.setTop (mkF m 74 #[.val (.int cc), .val (.int sel), .val (.int ((cc &&& (255 : Int32)).toUInt32.toUInt16.toUInt32.toInt32)), .val (.int (sel &&& (3 : Int32))), .val (.int s1), .val (.int (((sel.toUInt32 >>> ((4 : Int32) &&& 31).toUInt32).toInt32) &&& (3 : Int32))), .val (.int s2), .val (.ref b1), .unset, .unset] [(.ref b23), (.ref b23)]))
    refine own_onJ (fun t_ k_ => XS.iload X23.here hx rfl (hb hby at_74) rfl k_) ?_
    show OwnGoJ p e below s _ _ _ (T23.setTop (mkF m 76 #[.val (.int cc), .val (.int sel), .val (.int ((cc &&& (255 : Int32)).toUInt32.toUInt16.toUInt32.toInt32)), .val (.int (sel &&& (3 : Int32))), .val (.int s1), .val (.int (((sel.toUInt32 >>> ((4 : Int32) &&& 31).toUInt32).toInt32) &&& (3 : Int32))), .val (.int s2), .val (.ref b1), .unset, .unset] [(.int (((sel.toUInt32 >>> ((4 : Int32) &&& 31).toUInt32).toInt32) &&& (3 : Int32))), (.ref b23), (.ref b23)]))
    refine own_onJ (fun t_ k_ => XS.iloadN X23.here hx rfl (hb hby at_76) rfl k_) ?_
    show OwnGoJ p e below s _ _ _ (T23.setTop (mkF m 77 #[.val (.int cc), .val (.int sel), .val (.int ((cc &&& (255 : Int32)).toUInt32.toUInt16.toUInt32.toInt32)), .val (.int (sel &&& (3 : Int32))), .val (.int s1), .val (.int (((sel.toUInt32 >>> ((4 : Int32) &&& 31).toUInt32).toInt32) &&& (3 : Int32))), .val (.int s2), .val (.ref b1), .unset, .unset] [(.int ((cc &&& (255 : Int32)).toUInt32.toUInt16.toUInt32.toInt32)), (.int (((sel.toUInt32 >>> ((4 : Int32) &&& 31).toUInt32).toInt32) &&& (3 : Int32))), (.ref b23), (.ref b23)]))
    have f33 : Old Z n0 T22.heap := c8_4.keep K22q (allS g2 all0)
    have f34 : Old Z n0 h23 := f33.ext E23
    obtain ⟨_, _, ⟨T35, L35, k35, n35⟩, -, X35, ⟨Lc35, hQ35, l35, y35, z35⟩, st35⟩ := Jvm.LawKit.callS X23 hx (y := (⟨"org/pathbind/MediaTypeIncludesPinLaw", "pick", "(IC)Ljava/lang/String;"⟩ : MethodName)) hown (mvT hZ (w3 hw)) (mvT hZ (w4 hw)) (mvT hZ (w5 hw)) (mvT hZ (w6 hw)) (by decide) (backOf (W := 2) (rm1 l Z a0 hw [] (((sel.toUInt32 >>> ((4 : Int32) &&& 31).toUInt32).toInt32) &&& (3 : Int32)) ((cc &&& (255 : Int32)).toUInt32.toUInt16.toUInt32.toInt32) cs h23 n0 Z23 f34 P1 P2 hc0 hc1) hZ (w6 hw) (w5 hw) (by decide) (by decide)) (g := (mkF m 77 #[.val (.int cc), .val (.int sel), .val (.int ((cc &&& (255 : Int32)).toUInt32.toUInt16.toUInt32.toInt32)), .val (.int (sel &&& (3 : Int32))), .val (.int s1), .val (.int (((sel.toUInt32 >>> ((4 : Int32) &&& 31).toUInt32).toInt32) &&& (3 : Int32))), .val (.int s2), .val (.ref b1), .unset, .unset] [(.int ((cc &&& (255 : Int32)).toUInt32.toUInt16.toUInt32.toInt32)), (.int (((sel.toUInt32 >>> ((4 : Int32) &&& 31).toUInt32).toInt32) &&& (3 : Int32))), (.ref b23), (.ref b23)])) rfl (by rw [hml]; rfl) (argsL := [(.int (((sel.toUInt32 >>> ((4 : Int32) &&& 31).toUInt32).toInt32) &&& (3 : Int32))), (.int ((cc &&& (255 : Int32)).toUInt32.toUInt16.toUInt32.toInt32))]) (rest := [(.ref b23), (.ref b23)]) (lenOf pd_3 rfl) rfl (by show 2 * 0 + _ ≤ _; exact Nat.le_of_eq rfl) (hb hby at_77) (fun _ hWx => ⟨rfl, e23, (by decide : 8 + 3 ≤ _), (by decide : 24 + 8 ≤ _)⟩)
    have f36 : Exa Z h23 b1 "org/pathbind/MediaType" := f24.ext E23
    have f37 : Exa Z h23 r_5 "java/lang/String" := f27.ext E23
    have f38 : Exa Z h23 r_8 "java/lang/String" := f29.ext E23
    dsimp only [Pt.U, Pt.locs, Pt.cells, Pt.slots] at X35 l35 y35 z35 st35 hQ35
    replace X35 := own_num (c' := 11) (n' := 32) X35 l35 (y35.trans rfl) (z35.trans rfl)
    obtain ⟨r_35, rfl, N35q, K35q, c35_0, c35_1, c35_2, c35_3, c35_4⟩ := hQ35
    have N35 := Fr.app N22 N35q
    have Z35 : n0 ≤ T35.heap.size := Nat.le_trans Z23 K35q.1
    have K35 : Keep h0 T35.heap [] := K23.trans K35q all0
    have ne39 : b1 ≠ r_35 := Nat.ne_of_lt (Nat.lt_of_lt_of_le f36.lt c35_3)
    have ne40 : r_5 ≠ r_35 := Nat.ne_of_lt (Nat.lt_of_lt_of_le f37.lt c35_3)
    have ne41 : r_8 ≠ r_35 := Nat.ne_of_lt (Nat.lt_of_lt_of_le f38.lt c35_3)
    have ne42 : b23 ≠ r_35 := Nat.ne_of_lt (Nat.lt_of_lt_of_le A23.lt c35_3)
    have z43 : h0.size ≤ r_35 := Nat.le_trans K23.1 c35_3
    refine own_onJ st35 ?_
    show OwnGoJ p e below s _ _ _ (T35.setTop (mkF m 80 #[.val (.int cc), .val (.int sel), .val (.int ((cc &&& (255 : Int32)).toUInt32.toUInt16.toUInt32.toInt32)), .val (.int (sel &&& (3 : Int32))), .val (.int s1), .val (.int (((sel.toUInt32 >>> ((4 : Int32) &&& 31).toUInt32).toInt32) &&& (3 : Int32))), .val (.int s2), .val (.ref b1), .unset, .unset] [(.ref r_35), (.ref b23), (.ref b23)]))
    refine own_onJ (fun t_ k_ => XS.iload X35.here hx rfl (hb hby at_80) rfl k_) ?_
    show OwnGoJ p e below s _ _ _ (T35.setTop (mkF m 82 #[.val (.int cc), .val (.int sel), .val (.int ((cc &&& (255 : Int32)).toUInt32.toUInt16.toUInt32.toInt32)), .val (.int (sel &&& (3 : Int32))), .val (.int s1), .val (.int (((sel.toUInt32 >>> ((4 : Int32) &&& 31).toUInt32).toInt32) &&& (3 : Int32))), .val (.int s2), .val (.ref b1), .unset, .unset] [(.int s2), (.ref r_35), (.ref b23), (.ref b23)]))
    refine own_onJ (fun t_ k_ => XS.iloadN X35.here hx rfl (hb hby at_82) rfl k_) ?_
    show OwnGoJ p e below s _ _ _ (T35.setTop (mkF m 83 #[.val (.int cc), .val (.int sel), .val (.int ((cc &&& (255 : Int32)).toUInt32.toUInt16.toUInt32.toInt32)), .val (.int (sel &&& (3 : Int32))), .val (.int s1), .val (.int (((sel.toUInt32 >>> ((4 : Int32) &&& 31).toUInt32).toInt32) &&& (3 : Int32))), .val (.int s2), .val (.ref b1), .unset, .unset] [(.int ((cc &&& (255 : Int32)).toUInt32.toUInt16.toUInt32.toInt32)), (.int s2), (.ref r_35), (.ref b23), (.ref b23)]))
    obtain ⟨_, _, ⟨T44, L44, k44, n44⟩, -, X44, ⟨Lc44, hQ44, l44, y44, z44⟩, st44⟩ := Jvm.LawKit.callS X35 hx (y := (⟨"org/pathbind/MediaTypeIncludesPinLaw", "pick", "(IC)Ljava/lang/String;"⟩ : MethodName)) hown (mvT hZ (w3 hw)) (mvT hZ (w4 hw)) (mvT hZ (w5 hw)) (mvT hZ (w6 hw)) (by decide) (backOf (W := 3) (rm1 l Z a0 hw [] s2 ((cc &&& (255 : Int32)).toUInt32.toUInt16.toUInt32.toInt32) cs T35.heap n0 Z35 c35_4 P1 P2 hc0 hc1) hZ (w6 hw) (w5 hw) (by decide) (by decide)) (g := (mkF m 83 #[.val (.int cc), .val (.int sel), .val (.int ((cc &&& (255 : Int32)).toUInt32.toUInt16.toUInt32.toInt32)), .val (.int (sel &&& (3 : Int32))), .val (.int s1), .val (.int (((sel.toUInt32 >>> ((4 : Int32) &&& 31).toUInt32).toInt32) &&& (3 : Int32))), .val (.int s2), .val (.ref b1), .unset, .unset] [(.int ((cc &&& (255 : Int32)).toUInt32.toUInt16.toUInt32.toInt32)), (.int s2), (.ref r_35), (.ref b23), (.ref b23)])) rfl (by rw [hml]; rfl) (argsL := [(.int s2), (.int ((cc &&& (255 : Int32)).toUInt32.toUInt16.toUInt32.toInt32))]) (rest := [(.ref r_35), (.ref b23), (.ref b23)]) (lenOf pd_3 rfl) rfl (by show 2 * 0 + _ ≤ _; exact Nat.le_of_eq rfl) (hb hby at_83) (fun _ hWx => ⟨rfl, rfl, (by decide : 11 + 3 ≤ _), (by decide : 32 + 8 ≤ _)⟩)
    have f45 : Exa Z T35.heap b1 "org/pathbind/MediaType" := f36.keep K35q
    have f46 : Exa Z T35.heap r_5 "java/lang/String" := f37.keep K35q
    have f47 : Exa Z T35.heap r_8 "java/lang/String" := f38.keep K35q
    have f48 : Exa Z T35.heap b23 "org/pathbind/MediaType" := A23.keep K35q
    dsimp only [Pt.U, Pt.locs, Pt.cells, Pt.slots] at X44 l44 y44 z44 st44 hQ44
    replace X44 := own_num (c' := 14) (n' := 40) X44 l44 (y44.trans rfl) (z44.trans rfl)
    obtain ⟨r_44, rfl, N44q, K44q, c44_0, c44_1, c44_2, c44_3, c44_4⟩ := hQ44
    have N44 := Fr.app N35 N44q
    have Z44 : n0 ≤ T44.heap.size := Nat.le_trans Z35 K44q.1
    have K44 : Keep h0 T44.heap [] := K35.trans K44q all0
    have ne49 : b1 ≠ r_44 := Nat.ne_of_lt (Nat.lt_of_lt_of_le f45.lt c44_3)
    have ne50 : r_5 ≠ r_44 := Nat.ne_of_lt (Nat.lt_of_lt_of_le f46.lt c44_3)
    have ne51 : r_8 ≠ r_44 := Nat.ne_of_lt (Nat.lt_of_lt_of_le f47.lt c44_3)
    have ne52 : b23 ≠ r_44 := Nat.ne_of_lt (Nat.lt_of_lt_of_le f48.lt c44_3)
    have ne53 : r_35 ≠ r_44 := Nat.ne_of_lt (Nat.lt_of_lt_of_le c35_0.lt c44_3)
    have z54 : h0.size ≤ r_44 := Nat.le_trans K35.1 c44_3
    refine own_onJ st44 ?_
    show OwnGoJ p e below s _ _ _ (T44.setTop (mkF m 86 #[.val (.int cc), .val (.int sel), .val (.int ((cc &&& (255 : Int32)).toUInt32.toUInt16.toUInt32.toInt32)), .val (.int (sel &&& (3 : Int32))), .val (.int s1), .val (.int (((sel.toUInt32 >>> ((4 : Int32) &&& 31).toUInt32).toInt32) &&& (3 : Int32))), .val (.int s2), .val (.ref b1), .unset, .unset] [(.ref r_44), (.ref r_35), (.ref b23), (.ref b23)]))
    refine own_onJ (fun t_ k_ => XS.aconstNull X44.here hx rfl (hb hby at_86) k_) ?_
    show OwnGoJ p e below s _ _ _ (T44.setTop (mkF m 87 #[.val (.int cc), .val (.int sel), .val (.int ((cc &&& (255 : Int32)).toUInt32.toUInt16.toUInt32.toInt32)), .val (.int (sel &&& (3 : Int32))), .val (.int s1), .val (.int (((sel.toUInt32 >>> ((4 : Int32) &&& 31).toUInt32).toInt32) &&& (3 : Int32))), .val (.int s2), .val (.ref b1), .unset, .unset] [.null, (.ref r_44), (.ref r_35), (.ref b23), (.ref b23)]))
    refine own_onJ (fun t_ k_ => XS.aconstNull X44.here hx rfl (hb hby at_87) k_) ?_
    show OwnGoJ p e below s _ _ _ (T44.setTop (mkF m 88 #[.val (.int cc), .val (.int sel), .val (.int ((cc &&& (255 : Int32)).toUInt32.toUInt16.toUInt32.toInt32)), .val (.int (sel &&& (3 : Int32))), .val (.int s1), .val (.int (((sel.toUInt32 >>> ((4 : Int32) &&& 31).toUInt32).toInt32) &&& (3 : Int32))), .val (.int s2), .val (.ref b1), .unset, .unset] [.null, .null, (.ref r_44), (.ref r_35), (.ref b23), (.ref b23)]))
    have f55 : Exa Z T44.heap b23 "org/pathbind/MediaType" := f48.keep K44q
    have f56 : Fld Z T35.heap b23 "org/pathbind/MediaType" "type" "Ljava/lang/String;" .null := F23_type.keep K35q nin0
    have f57 : Fld Z T44.heap b23 "org/pathbind/MediaType" "type" "Ljava/lang/String;" .null := f56.keep K44q nin0
    have f58 : Fld Z T35.heap b23 "org/pathbind/MediaType" "subtype" "Ljava/lang/String;" .null := F23_subtype.keep K35q nin0
    have f59 : Fld Z T44.heap b23 "org/pathbind/MediaType" "subtype" "Ljava/lang/String;" .null := f58.keep K44q nin0
    have f60 : Fld Z T35.heap b23 "org/pathbind/MediaType" "parameters" "Ljava/util/Map;" .null := F23_parameters.keep K35q nin0
    have f61 : Fld Z T44.heap b23 "org/pathbind/MediaType" "parameters" "Ljava/util/Map;" .null := f60.keep K44q nin0
    have f62 : Fld Z T35.heap b23 "org/pathbind/MediaType" "text" "Ljava/lang/String;" .null := F23_text.keep K35q nin0
    have f63 : Fld Z T44.heap b23 "org/pathbind/MediaType" "text" "Ljava/lang/String;" .null := f62.keep K44q nin0
    obtain ⟨_, _, ⟨T64, L64, k64, n64⟩, -, X64, ⟨Lc64, hQ64, l64, y64, z64⟩, st64⟩ := X44.specialBack hx (y := (⟨"org/pathbind/MediaType", "<init>", "(Ljava/lang/String;Ljava/lang/String;Ljava/util/Map;Ljava/lang/String;)V"⟩ : MethodName)) rfl hown (mvT hZ (w37 hw)) (mvT hZ (w38 hw)) (mvT hZ (w39 hw)) (by decide) (backOf (W := 1) (rm8 l Z a0 hw [] b23 r_35 r_44 .null .null .null .null T44.heap n0 Z44 f55 f57 f59 f61 f63 g31) hZ (w39 hw) (w2 hw) (by decide) (by decide)) (g := (mkF m 88 #[.val (.int cc), .val (.int sel), .val (.int ((cc &&& (255 : Int32)).toUInt32.toUInt16.toUInt32.toInt32)), .val (.int (sel &&& (3 : Int32))), .val (.int s1), .val (.int (((sel.toUInt32 >>> ((4 : Int32) &&& 31).toUInt32).toInt32) &&& (3 : Int32))), .val (.int s2), .val (.ref b1), .unset, .unset] [.null, .null, (.ref r_44), (.ref r_35), (.ref b23), (.ref b23)])) rfl (by rw [hml]; rfl) (Steps.refl _) (a := b23) (argsL := [(.ref r_35), (.ref r_44), .null, .null]) (rest := [(.ref b23)]) (lenOf pd_4 rfl) rfl (by show 2 * 0 + _ ≤ _; exact Nat.le_of_eq rfl) (hb hby at_88) (fun _ hWx => ⟨rfl, rfl, (by decide : 14 + 0 ≤ _), (by decide : 40 + 0 ≤ _)⟩)
    dsimp only [Pt.U, Pt.locs, Pt.cells, Pt.slots] at X64 l64 y64 z64 st64 hQ64
    replace X64 := own_num (c' := 14) (n' := 40) X64 l64 (y64.trans rfl) (z64.trans rfl)
    obtain ⟨rfl, N64q, K64q, c64_0, c64_1, c64_2⟩ := hQ64
    have N64 := Fr.app N44 N64q
    have Z64 : n0 ≤ T64.heap.size := Nat.le_trans Z44 K64q.1
    have K64 : Keep h0 T64.heap [] := K44.trans K64q (allS (P := fun x => x ∈ [] ∨ h0.size ≤ x) (Or.inr z32) all0)
    refine own_trJ st64 ?_
    show OwnGoJ p e below s _ _ _ (T64.setTop (mkF m 91 #[.val (.int cc), .val (.int sel), .val (.int ((cc &&& (255 : Int32)).toUInt32.toUInt16.toUInt32.toInt32)), .val (.int (sel &&& (3 : Int32))), .val (.int s1), .val (.int (((sel.toUInt32 >>> ((4 : Int32) &&& 31).toUInt32).toInt32) &&& (3 : Int32))), .val (.int s2), .val (.ref b1), .unset, .unset] [(.ref b23)]))
    refine own_onJ (fun t_ k_ => XS.astore X64.here hx rfl (hb hby at_91) rfl rfl (l' := #[.val (.int cc), .val (.int sel), .val (.int ((cc &&& (255 : Int32)).toUInt32.toUInt16.toUInt32.toInt32)), .val (.int (sel &&& (3 : Int32))), .val (.int s1), .val (.int (((sel.toUInt32 >>> ((4 : Int32) &&& 31).toUInt32).toInt32) &&& (3 : Int32))), .val (.int s2), .val (.ref b1), .val (.ref b23), .unset]) rfl k_) ?_
    show OwnGoJ p e below s _ _ _ (T64.setTop (mkF m 93 #[.val (.int cc), .val (.int sel), .val (.int ((cc &&& (255 : Int32)).toUInt32.toUInt16.toUInt32.toInt32)), .val (.int (sel &&& (3 : Int32))), .val (.int s1), .val (.int (((sel.toUInt32 >>> ((4 : Int32) &&& 31).toUInt32).toInt32) &&& (3 : Int32))), .val (.int s2), .val (.ref b1), .val (.ref b23), .unset] []))
    refine own_onJ (fun t_ k_ => XS.iloadN X64.here hx rfl (hb hby at_93) rfl k_) ?_
    show OwnGoJ p e below s _ _ _ (T64.setTop (mkF m 94 #[.val (.int cc), .val (.int sel), .val (.int ((cc &&& (255 : Int32)).toUInt32.toUInt16.toUInt32.toInt32)), .val (.int (sel &&& (3 : Int32))), .val (.int s1), .val (.int (((sel.toUInt32 >>> ((4 : Int32) &&& 31).toUInt32).toInt32) &&& (3 : Int32))), .val (.int s2), .val (.ref b1), .val (.ref b23), .unset] [(.int (sel &&& (3 : Int32)))]))
    by_cases q0 : (sel &&& (3 : Int32)) = (0 : Int32)
    · refine own_onJ (fun t_ k_ => XS.ifYes X64.here hx rfl (pc0 := 94) (pc' := 115) rfl (hb hby at_94) rfl ((if0 _ _).trans (teq q0).1) (by decide) (by decide) k_) ?_
      show OwnGoJ p e below s _ _ _ (T64.setTop (mkF m 115 #[.val (.int cc), .val (.int sel), .val (.int ((cc &&& (255 : Int32)).toUInt32.toUInt16.toUInt32.toInt32)), .val (.int (sel &&& (3 : Int32))), .val (.int s1), .val (.int (((sel.toUInt32 >>> ((4 : Int32) &&& 31).toUInt32).toInt32) &&& (3 : Int32))), .val (.int s2), .val (.ref b1), .val (.ref b23), .unset] []))
      refine own_onJ (fun t_ k_ => XS.iconst X64.here hx rfl (hb hby at_115) k_) ?_
      show OwnGoJ p e below s _ _ _ (T64.setTop (mkF m 116 #[.val (.int cc), .val (.int sel), .val (.int ((cc &&& (255 : Int32)).toUInt32.toUInt16.toUInt32.toInt32)), .val (.int (sel &&& (3 : Int32))), .val (.int s1), .val (.int (((sel.toUInt32 >>> ((4 : Int32) &&& 31).toUInt32).toInt32) &&& (3 : Int32))), .val (.int s2), .val (.ref b1), .val (.ref b23), .unset] [(.int (1 : Int32))]))
      refine own_onJ (fun t_ k_ => XS.goto X64.here hx rfl (pc0 := 116) (pc' := 120) rfl (hb hby at_116) (by decide) (by decide) k_) ?_
      show OwnGoJ p e below s _ _ _ (T64.setTop (mkF m 120 #[.val (.int cc), .val (.int sel), .val (.int ((cc &&& (255 : Int32)).toUInt32.toUInt16.toUInt32.toInt32)), .val (.int (sel &&& (3 : Int32))), .val (.int s1), .val (.int (((sel.toUInt32 >>> ((4 : Int32) &&& 31).toUInt32).toInt32) &&& (3 : Int32))), .val (.int s2), .val (.ref b1), .val (.ref b23), .unset] [(.int (1 : Int32))]))
      refine own_onJ (fun t_ k_ => XS.istore X64.here hx rfl (hb hby at_120) rfl (l' := #[.val (.int cc), .val (.int sel), .val (.int ((cc &&& (255 : Int32)).toUInt32.toUInt16.toUInt32.toInt32)), .val (.int (sel &&& (3 : Int32))), .val (.int s1), .val (.int (((sel.toUInt32 >>> ((4 : Int32) &&& 31).toUInt32).toInt32) &&& (3 : Int32))), .val (.int s2), .val (.ref b1), .val (.ref b23), .val (.int (1 : Int32))]) rfl k_) ?_
      show OwnGoJ p e below s _ _ _ (T64.setTop (mkF m 122 #[.val (.int cc), .val (.int sel), .val (.int ((cc &&& (255 : Int32)).toUInt32.toUInt16.toUInt32.toInt32)), .val (.int (sel &&& (3 : Int32))), .val (.int s1), .val (.int (((sel.toUInt32 >>> ((4 : Int32) &&& 31).toUInt32).toInt32) &&& (3 : Int32))), .val (.int s2), .val (.ref b1), .val (.ref b23), .val (.int (1 : Int32))] []))
      refine own_onJ (fun t_ k_ => XS.aload X64.here hx rfl (hb hby at_122) rfl rfl k_) ?_
      show OwnGoJ p e below s _ _ _ (T64.setTop (mkF m 124 #[.val (.int cc), .val (.int sel), .val (.int ((cc &&& (255 : Int32)).toUInt32.toUInt16.toUInt32.toInt32)), .val (.int (sel &&& (3 : Int32))), .val (.int s1), .val (.int (((sel.toUInt32 >>> ((4 : Int32) &&& 31).toUInt32).toInt32) &&& (3 : Int32))), .val (.int s2), .val (.ref b1), .val (.ref b23), .val (.int (1 : Int32))] [(.ref b1)]))
      refine own_onJ (fun t_ k_ => XS.aload X64.here hx rfl (hb hby at_124) rfl rfl k_) ?_
      show OwnGoJ p e below s _ _ _ (T64.setTop (mkF m 126 #[.val (.int cc), .val (.int sel), .val (.int ((cc &&& (255 : Int32)).toUInt32.toUInt16.toUInt32.toInt32)), .val (.int (sel &&& (3 : Int32))), .val (.int s1), .val (.int (((sel.toUInt32 >>> ((4 : Int32) &&& 31).toUInt32).toInt32) &&& (3 : Int32))), .val (.int s2), .val (.ref b1), .val (.ref b23), .val (.int (1 : Int32))] [(.ref b23), (.ref b1)]))
      have f65 : Old Z n0 T64.heap := c44_4.keep K64q (allS g31 all0)
      have f66 : Exa Z h23 b1 "org/pathbind/MediaType" := c22_0.ext E23
      have f67 : Exa Z T35.heap b1 "org/pathbind/MediaType" := f66.keep K35q
      have f68 : Exa Z T44.heap b1 "org/pathbind/MediaType" := f67.keep K44q
      have f69 : Exa Z T64.heap b1 "org/pathbind/MediaType" := f68.keep K64q
      have f70 : Fld Z h23 b1 "org/pathbind/MediaType" "type" "Ljava/lang/String;" (.ref r_5) := c22_1.ext E23
      have f71 : Fld Z T35.heap b1 "org/pathbind/MediaType" "type" "Ljava/lang/String;" (.ref r_5) := f70.keep K35q nin0
      have f72 : Fld Z T44.heap b1 "org/pathbind/MediaType" "type" "Ljava/lang/String;" (.ref r_5) := f71.keep K44q nin0
      have f73 : Fld Z T64.heap b1 "org/pathbind/MediaType" "type" "Ljava/lang/String;" (.ref r_5) := f72.keep K64q (ninS ne25 nin0)
      have f74 : Fld Z h23 b1 "org/pathbind/MediaType" "subtype" "Ljava/lang/String;" (.ref r_8) := c22_2.ext E23
      have f75 : Fld Z T35.heap b1 "org/pathbind/MediaType" "subtype" "Ljava/lang/String;" (.ref r_8) := f74.keep K35q nin0
      have f76 : Fld Z T44.heap b1 "org/pathbind/MediaType" "subtype" "Ljava/lang/String;" (.ref r_8) := f75.keep K44q nin0
      have f77 : Fld Z T64.heap b1 "org/pathbind/MediaType" "subtype" "Ljava/lang/String;" (.ref r_8) := f76.keep K64q (ninS ne25 nin0)
      have f78 : OwnS Z T8.heap r_5 (own_pick (sel &&& (3 : Int32)) ((cc &&& (255 : Int32)).toUInt32.toUInt16.toUInt32.toInt32)) := c5_1.keep (a0 := a0) K8q nin0 all0
      have f79 : OwnS Z T22.heap r_5 (own_pick (sel &&& (3 : Int32)) ((cc &&& (255 : Int32)).toUInt32.toUInt16.toUInt32.toInt32)) := f78.keep (a0 := a0) K22q (ninS (Ne.symm ne6) nin0) (allS ⟨_, _, f13, (w1 hw)⟩ all0)
      have f80 : OwnS Z h23 r_5 (own_pick (sel &&& (3 : Int32)) ((cc &&& (255 : Int32)).toUInt32.toUInt16.toUInt32.toInt32)) := f79.ext E23
      have f81 : OwnS Z T35.heap r_5 (own_pick (sel &&& (3 : Int32)) ((cc &&& (255 : Int32)).toUInt32.toUInt16.toUInt32.toInt32)) := f80.keep (a0 := a0) K35q nin0 all0
      have f82 : OwnS Z T44.heap r_5 (own_pick (sel &&& (3 : Int32)) ((cc &&& (255 : Int32)).toUInt32.toUInt16.toUInt32.toInt32)) := f81.keep (a0 := a0) K44q nin0 all0
      have f83 : OwnS Z T64.heap r_5 (own_pick (sel &&& (3 : Int32)) ((cc &&& (255 : Int32)).toUInt32.toUInt16.toUInt32.toInt32)) := f82.keep (a0 := a0) K64q (ninS ne28 nin0) (allS ⟨_, _, f55, (w1 hw)⟩ all0)
      have f84 : OwnS Z T22.heap r_8 (own_pick s1 ((cc &&& (255 : Int32)).toUInt32.toUInt16.toUInt32.toInt32)) := c8_1.keep (a0 := a0) K22q (ninS (Ne.symm ne10) nin0) (allS ⟨_, _, f13, (w1 hw)⟩ all0)
      have f85 : OwnS Z h23 r_8 (own_pick s1 ((cc &&& (255 : Int32)).toUInt32.toUInt16.toUInt32.toInt32)) := f84.ext E23
      have f86 : OwnS Z T35.heap r_8 (own_pick s1 ((cc &&& (255 : Int32)).toUInt32.toUInt16.toUInt32.toInt32)) := f85.keep (a0 := a0) K35q nin0 all0
      have f87 : OwnS Z T44.heap r_8 (own_pick s1 ((cc &&& (255 : Int32)).toUInt32.toUInt16.toUInt32.toInt32)) := f86.keep (a0 := a0) K44q nin0 all0
      have f88 : OwnS Z T64.heap r_8 (own_pick s1 ((cc &&& (255 : Int32)).toUInt32.toUInt16.toUInt32.toInt32)) := f87.keep (a0 := a0) K64q (ninS ne30 nin0) (allS ⟨_, _, f55, (w1 hw)⟩ all0)
      have f89 : OwnS Z T44.heap r_35 (own_pick (((sel.toUInt32 >>> ((4 : Int32) &&& 31).toUInt32).toInt32) &&& (3 : Int32)) ((cc &&& (255 : Int32)).toUInt32.toUInt16.toUInt32.toInt32)) := c35_1.keep (a0 := a0) K44q nin0 all0
      have f90 : OwnS Z T64.heap r_35 (own_pick (((sel.toUInt32 >>> ((4 : Int32) &&& 31).toUInt32).toInt32) &&& (3 : Int32)) ((cc &&& (255 : Int32)).toUInt32.toUInt16.toUInt32.toInt32)) := f89.keep (a0 := a0) K64q (ninS (Ne.symm ne42) nin0) (allS ⟨_, _, f55, (w1 hw)⟩ all0)
      have f91 : OwnS Z T64.heap r_44 (own_pick s2 ((cc &&& (255 : Int32)).toUInt32.toUInt16.toUInt32.toInt32)) := c44_1.keep (a0 := a0) K64q (ninS (Ne.symm ne52) nin0) (allS ⟨_, _, f55, (w1 hw)⟩ all0)
      obtain ⟨cq92, kq92, q92a, q92b, q92c⟩ := isOf hZ rfl f69
      obtain ⟨_, _, ⟨T92, L92, k92, n92⟩, -, X92, hS92, hG92, ⟨Lc92, hQ92, l92, y92, z92⟩, st92⟩ := X64.virtualBackS hx (y := (⟨"org/pathbind/MediaType", "includes", "(Lorg/pathbind/MediaType;)Z"⟩ : MethodName)) (z := (⟨"org/pathbind/MediaType", "includes", "(Lorg/pathbind/MediaType;)Z"⟩ : MethodName)) hown (mvT hZ (w54 hw)) (mvT hZ (w55 hw)) (notFace_of_selects (args := #[]) (mvT hZ (w57 hw))) (mvT hZ (w57 hw)) (mvT hZ (w56 hw)) (by decide) (own_backJ (J := fun vm_ => OwnI Z vm_ T64.heap) (Q := Q10 Z b1 b23 cs r_5 r_8 r_35 r_44 (own_pick (sel &&& (3 : Int32)) ((cc &&& (255 : Int32)).toUInt32.toUInt16.toUInt32.toInt32)) (own_pick s1 ((cc &&& (255 : Int32)).toUInt32.toUInt16.toUInt32.toInt32)) (own_pick (((sel.toUInt32 >>> ((4 : Int32) &&& 31).toUInt32).toInt32) &&& (3 : Int32)) ((cc &&& (255 : Int32)).toUInt32.toUInt16.toUInt32.toInt32)) (own_pick s2 ((cc &&& (255 : Int32)).toUInt32.toUInt16.toUInt32.toInt32)) T64.heap n0) (W := 0) (rm10 l Z a0 hw [] b1 b23 cs r_5 r_8 r_35 r_44 (own_pick (sel &&& (3 : Int32)) ((cc &&& (255 : Int32)).toUInt32.toUInt16.toUInt32.toInt32)) (own_pick s1 ((cc &&& (255 : Int32)).toUInt32.toUInt16.toUInt32.toInt32)) (own_pick (((sel.toUInt32 >>> ((4 : Int32) &&& 31).toUInt32).toInt32) &&& (3 : Int32)) ((cc &&& (255 : Int32)).toUInt32.toUInt16.toUInt32.toInt32)) (own_pick s2 ((cc &&& (255 : Int32)).toUInt32.toUInt16.toUInt32.toInt32)) T64.heap n0 Z64 f65 P1 P2 f69 c64_0 f73 f77 c64_1 c64_2 f83 f88 f90 f91 P3 P4) hZ (w58 hw) (w2 hw) (by decide) (by decide)) q92a q92c (g := (mkF m 126 #[.val (.int cc), .val (.int sel), .val (.int ((cc &&& (255 : Int32)).toUInt32.toUInt16.toUInt32.toInt32)), .val (.int (sel &&& (3 : Int32))), .val (.int s1), .val (.int (((sel.toUInt32 >>> ((4 : Int32) &&& 31).toUInt32).toInt32) &&& (3 : Int32))), .val (.int s2), .val (.ref b1), .val (.ref b23), .val (.int (1 : Int32))] [(.ref b23), (.ref b1)])) rfl (by rw [hml]; rfl) (Steps.refl _) (argsL := [(.ref b23)]) (rest := []) (lenOf pd_5 rfl) rfl (by show 2 * 0 + _ ≤ _; exact Nat.le_of_eq rfl) (hb hby at_126) (fun _ hWx => ⟨rfl, rfl, hJ0.warm hWx, (by decide : 14 + 2 ≤ _), (by decide : 40 + 8 ≤ _)⟩)
      dsimp only [Pt.U, Pt.locs, Pt.cells, Pt.slots] at X92 l92 y92 z92 st92 hQ92 hS92 hG92
      have f93 : 0 ≤ h1.size := Nat.le_trans (Nat.zero_le _) E1.1
      have f94 : 0 ≤ T5.heap.size := Nat.le_trans f93 K5q.1
      have f95 : 0 ≤ T8.heap.size := Nat.le_trans f94 K8q.1
      have f96 : 0 ≤ T22.heap.size := Nat.le_trans f95 K22q.1
      have f97 : 0 ≤ h23.size := Nat.le_trans f96 E23.1
      have f98 : 0 ≤ T35.heap.size := Nat.le_trans f97 K35q.1
      have f99 : 0 ≤ T44.heap.size := Nat.le_trans f98 K44q.1
      have f100 : 0 ≤ T64.heap.size := Nat.le_trans f99 K64q.1
      obtain ⟨X92, hS92, hZ, hown⟩ := rebS hS0 f100 X92 hS92 hG92 hZ hown
      replace X92 := own_num (c' := 16) (n' := 48) X92 l92 (y92.trans rfl) (z92.trans rfl)
      obtain ⟨rfl, N92q, K92q⟩ := hQ92
      have N92 := Fr.app N64 N92q
      have Z92 : n0 ≤ T92.heap.size := Nat.le_trans Z64 K92q.1
      have K92 : Keep h0 T92.heap [] := K64.trans K92q all0
      have hk92 : T92.heap.size ≤ T92.heap.size := Nat.le_refl _
      refine own_trJ st92 ?_
      show OwnGoJ p e below s _ _ _ (T92.setTop (mkF m 129 #[.val (.int cc), .val (.int sel), .val (.int ((cc &&& (255 : Int32)).toUInt32.toUInt16.toUInt32.toInt32)), .val (.int (sel &&& (3 : Int32))), .val (.int s1), .val (.int (((sel.toUInt32 >>> ((4 : Int32) &&& 31).toUInt32).toInt32) &&& (3 : Int32))), .val (.int s2), .val (.ref b1), .val (.ref b23), .val (.int (1 : Int32))] [(.int (own_inc (own_pick (sel &&& (3 : Int32)) ((cc &&& (255 : Int32)).toUInt32.toUInt16.toUInt32.toInt32)) (own_pick s1 ((cc &&& (255 : Int32)).toUInt32.toUInt16.toUInt32.toInt32)) (own_pick (((sel.toUInt32 >>> ((4 : Int32) &&& 31).toUInt32).toInt32) &&& (3 : Int32)) ((cc &&& (255 : Int32)).toUInt32.toUInt16.toUInt32.toInt32)) (own_pick s2 ((cc &&& (255 : Int32)).toUInt32.toUInt16.toUInt32.toInt32))))]))
      refine own_onJ (fun t_ k_ => XS.iload X92.here hx rfl (hb hby at_129) rfl k_) ?_
      show OwnGoJ p e below s _ _ _ (T92.setTop (mkF m 131 #[.val (.int cc), .val (.int sel), .val (.int ((cc &&& (255 : Int32)).toUInt32.toUInt16.toUInt32.toInt32)), .val (.int (sel &&& (3 : Int32))), .val (.int s1), .val (.int (((sel.toUInt32 >>> ((4 : Int32) &&& 31).toUInt32).toInt32) &&& (3 : Int32))), .val (.int s2), .val (.ref b1), .val (.ref b23), .val (.int (1 : Int32))] [(.int (1 : Int32)), (.int (own_inc (own_pick (sel &&& (3 : Int32)) ((cc &&& (255 : Int32)).toUInt32.toUInt16.toUInt32.toInt32)) (own_pick s1 ((cc &&& (255 : Int32)).toUInt32.toUInt16.toUInt32.toInt32)) (own_pick (((sel.toUInt32 >>> ((4 : Int32) &&& 31).toUInt32).toInt32) &&& (3 : Int32)) ((cc &&& (255 : Int32)).toUInt32.toUInt16.toUInt32.toInt32)) (own_pick s2 ((cc &&& (255 : Int32)).toUInt32.toUInt16.toUInt32.toInt32))))]))
      refine own_onJ (fun t_ k_ => XS.icmpNo X92.here hx rfl (hb hby at_131) rfl (teq ((own_fin _ _ _ _ _ ht1 hs1 ht2 hs2).trans (by rw [if_pos q0]) : (own_inc (own_pick (sel &&& (3 : Int32)) ((cc &&& (255 : Int32)).toUInt32.toUInt16.toUInt32.toInt32)) (own_pick s1 ((cc &&& (255 : Int32)).toUInt32.toUInt16.toUInt32.toInt32)) (own_pick (((sel.toUInt32 >>> ((4 : Int32) &&& 31).toUInt32).toInt32) &&& (3 : Int32)) ((cc &&& (255 : Int32)).toUInt32.toUInt16.toUInt32.toInt32)) (own_pick s2 ((cc &&& (255 : Int32)).toUInt32.toUInt16.toUInt32.toInt32))) = (1 : Int32))).2 k_) ?_
      show OwnGoJ p e below s _ _ _ (T92.setTop (mkF m 134 #[.val (.int cc), .val (.int sel), .val (.int ((cc &&& (255 : Int32)).toUInt32.toUInt16.toUInt32.toInt32)), .val (.int (sel &&& (3 : Int32))), .val (.int s1), .val (.int (((sel.toUInt32 >>> ((4 : Int32) &&& 31).toUInt32).toInt32) &&& (3 : Int32))), .val (.int s2), .val (.ref b1), .val (.ref b23), .val (.int (1 : Int32))] []))
      refine own_onJ (fun t_ k_ => XS.iconst X92.here hx rfl (hb hby at_134) k_) ?_
      show OwnGoJ p e below s _ _ _ (T92.setTop (mkF m 135 #[.val (.int cc), .val (.int sel), .val (.int ((cc &&& (255 : Int32)).toUInt32.toUInt16.toUInt32.toInt32)), .val (.int (sel &&& (3 : Int32))), .val (.int s1), .val (.int (((sel.toUInt32 >>> ((4 : Int32) &&& 31).toUInt32).toInt32) &&& (3 : Int32))), .val (.int s2), .val (.ref b1), .val (.ref b23), .val (.int (1 : Int32))] [(.int (1 : Int32))]))
      refine own_onJ (fun t_ k_ => XS.goto X92.here hx rfl (pc0 := 135) (pc' := 139) rfl (hb hby at_135) (by decide) (by decide) k_) ?_
      show OwnGoJ p e below s _ _ _ (T92.setTop (mkF m 139 #[.val (.int cc), .val (.int sel), .val (.int ((cc &&& (255 : Int32)).toUInt32.toUInt16.toUInt32.toInt32)), .val (.int (sel &&& (3 : Int32))), .val (.int s1), .val (.int (((sel.toUInt32 >>> ((4 : Int32) &&& 31).toUInt32).toInt32) &&& (3 : Int32))), .val (.int s2), .val (.ref b1), .val (.ref b23), .val (.int (1 : Int32))] [(.int (1 : Int32))]))
      exact own_retNJ X92 hx hlk (t := .boolean) Bd.returns (by simp) (hb hby at_139) rfl ⟨rfl, N92, K92⟩ (by decide) (by decide) hS92 hk92
    · refine own_onJ (fun t_ k_ => XS.ifNo X64.here hx rfl (hb hby at_94) rfl ((if0 _ _).trans (feq q0).1) k_) ?_
      show OwnGoJ p e below s _ _ _ (T64.setTop (mkF m 97 #[.val (.int cc), .val (.int sel), .val (.int ((cc &&& (255 : Int32)).toUInt32.toUInt16.toUInt32.toInt32)), .val (.int (sel &&& (3 : Int32))), .val (.int s1), .val (.int (((sel.toUInt32 >>> ((4 : Int32) &&& 31).toUInt32).toInt32) &&& (3 : Int32))), .val (.int s2), .val (.ref b1), .val (.ref b23), .unset] []))
      refine own_onJ (fun t_ k_ => XS.iloadN X64.here hx rfl (hb hby at_97) rfl k_) ?_
      show OwnGoJ p e below s _ _ _ (T64.setTop (mkF m 98 #[.val (.int cc), .val (.int sel), .val (.int ((cc &&& (255 : Int32)).toUInt32.toUInt16.toUInt32.toInt32)), .val (.int (sel &&& (3 : Int32))), .val (.int s1), .val (.int (((sel.toUInt32 >>> ((4 : Int32) &&& 31).toUInt32).toInt32) &&& (3 : Int32))), .val (.int s2), .val (.ref b1), .val (.ref b23), .unset] [(.int (sel &&& (3 : Int32)))]))
      refine own_onJ (fun t_ k_ => XS.iload X64.here hx rfl (hb hby at_98) rfl k_) ?_
      show OwnGoJ p e below s _ _ _ (T64.setTop (mkF m 100 #[.val (.int cc), .val (.int sel), .val (.int ((cc &&& (255 : Int32)).toUInt32.toUInt16.toUInt32.toInt32)), .val (.int (sel &&& (3 : Int32))), .val (.int s1), .val (.int (((sel.toUInt32 >>> ((4 : Int32) &&& 31).toUInt32).toInt32) &&& (3 : Int32))), .val (.int s2), .val (.ref b1), .val (.ref b23), .unset] [(.int (((sel.toUInt32 >>> ((4 : Int32) &&& 31).toUInt32).toInt32) &&& (3 : Int32))), (.int (sel &&& (3 : Int32)))]))
      by_cases q1 : (sel &&& (3 : Int32)) = (((sel.toUInt32 >>> ((4 : Int32) &&& 31).toUInt32).toInt32) &&& (3 : Int32))
      · refine own_onJ (fun t_ k_ => XS.icmpNo X64.here hx rfl (hb hby at_100) rfl (teq q1).2 k_) ?_
        show OwnGoJ p e below s _ _ _ (T64.setTop (mkF m 103 #[.val (.int cc), .val (.int sel), .val (.int ((cc &&& (255 : Int32)).toUInt32.toUInt16.toUInt32.toInt32)), .val (.int (sel &&& (3 : Int32))), .val (.int s1), .val (.int (((sel.toUInt32 >>> ((4 : Int32) &&& 31).toUInt32).toInt32) &&& (3 : Int32))), .val (.int s2), .val (.ref b1), .val (.ref b23), .unset] []))
        refine own_onJ (fun t_ k_ => XS.iload X64.here hx rfl (hb hby at_103) rfl k_) ?_
        show OwnGoJ p e below s _ _ _ (T64.setTop (mkF m 105 #[.val (.int cc), .val (.int sel), .val (.int ((cc &&& (255 : Int32)).toUInt32.toUInt16.toUInt32.toInt32)), .val (.int (sel &&& (3 : Int32))), .val (.int s1), .val (.int (((sel.toUInt32 >>> ((4 : Int32) &&& 31).toUInt32).toInt32) &&& (3 : Int32))), .val (.int s2), .val (.ref b1), .val (.ref b23), .unset] [(.int s1)]))
        by_cases q2 : s1 = (0 : Int32)
        · refine own_onJ (fun t_ k_ => XS.ifYes X64.here hx rfl (pc0 := 105) (pc' := 115) rfl (hb hby at_105) rfl ((if0 _ _).trans (teq q2).1) (by decide) (by decide) k_) ?_
          show OwnGoJ p e below s _ _ _ (T64.setTop (mkF m 115 #[.val (.int cc), .val (.int sel), .val (.int ((cc &&& (255 : Int32)).toUInt32.toUInt16.toUInt32.toInt32)), .val (.int (sel &&& (3 : Int32))), .val (.int s1), .val (.int (((sel.toUInt32 >>> ((4 : Int32) &&& 31).toUInt32).toInt32) &&& (3 : Int32))), .val (.int s2), .val (.ref b1), .val (.ref b23), .unset] []))
          refine own_onJ (fun t_ k_ => XS.iconst X64.here hx rfl (hb hby at_115) k_) ?_
          show OwnGoJ p e below s _ _ _ (T64.setTop (mkF m 116 #[.val (.int cc), .val (.int sel), .val (.int ((cc &&& (255 : Int32)).toUInt32.toUInt16.toUInt32.toInt32)), .val (.int (sel &&& (3 : Int32))), .val (.int s1), .val (.int (((sel.toUInt32 >>> ((4 : Int32) &&& 31).toUInt32).toInt32) &&& (3 : Int32))), .val (.int s2), .val (.ref b1), .val (.ref b23), .unset] [(.int (1 : Int32))]))
          refine own_onJ (fun t_ k_ => XS.goto X64.here hx rfl (pc0 := 116) (pc' := 120) rfl (hb hby at_116) (by decide) (by decide) k_) ?_
          show OwnGoJ p e below s _ _ _ (T64.setTop (mkF m 120 #[.val (.int cc), .val (.int sel), .val (.int ((cc &&& (255 : Int32)).toUInt32.toUInt16.toUInt32.toInt32)), .val (.int (sel &&& (3 : Int32))), .val (.int s1), .val (.int (((sel.toUInt32 >>> ((4 : Int32) &&& 31).toUInt32).toInt32) &&& (3 : Int32))), .val (.int s2), .val (.ref b1), .val (.ref b23), .unset] [(.int (1 : Int32))]))
          refine own_onJ (fun t_ k_ => XS.istore X64.here hx rfl (hb hby at_120) rfl (l' := #[.val (.int cc), .val (.int sel), .val (.int ((cc &&& (255 : Int32)).toUInt32.toUInt16.toUInt32.toInt32)), .val (.int (sel &&& (3 : Int32))), .val (.int s1), .val (.int (((sel.toUInt32 >>> ((4 : Int32) &&& 31).toUInt32).toInt32) &&& (3 : Int32))), .val (.int s2), .val (.ref b1), .val (.ref b23), .val (.int (1 : Int32))]) rfl k_) ?_
          show OwnGoJ p e below s _ _ _ (T64.setTop (mkF m 122 #[.val (.int cc), .val (.int sel), .val (.int ((cc &&& (255 : Int32)).toUInt32.toUInt16.toUInt32.toInt32)), .val (.int (sel &&& (3 : Int32))), .val (.int s1), .val (.int (((sel.toUInt32 >>> ((4 : Int32) &&& 31).toUInt32).toInt32) &&& (3 : Int32))), .val (.int s2), .val (.ref b1), .val (.ref b23), .val (.int (1 : Int32))] []))
          refine own_onJ (fun t_ k_ => XS.aload X64.here hx rfl (hb hby at_122) rfl rfl k_) ?_
          show OwnGoJ p e below s _ _ _ (T64.setTop (mkF m 124 #[.val (.int cc), .val (.int sel), .val (.int ((cc &&& (255 : Int32)).toUInt32.toUInt16.toUInt32.toInt32)), .val (.int (sel &&& (3 : Int32))), .val (.int s1), .val (.int (((sel.toUInt32 >>> ((4 : Int32) &&& 31).toUInt32).toInt32) &&& (3 : Int32))), .val (.int s2), .val (.ref b1), .val (.ref b23), .val (.int (1 : Int32))] [(.ref b1)]))
          refine own_onJ (fun t_ k_ => XS.aload X64.here hx rfl (hb hby at_124) rfl rfl k_) ?_
          show OwnGoJ p e below s _ _ _ (T64.setTop (mkF m 126 #[.val (.int cc), .val (.int sel), .val (.int ((cc &&& (255 : Int32)).toUInt32.toUInt16.toUInt32.toInt32)), .val (.int (sel &&& (3 : Int32))), .val (.int s1), .val (.int (((sel.toUInt32 >>> ((4 : Int32) &&& 31).toUInt32).toInt32) &&& (3 : Int32))), .val (.int s2), .val (.ref b1), .val (.ref b23), .val (.int (1 : Int32))] [(.ref b23), (.ref b1)]))
          have f101 : Old Z n0 T64.heap := c44_4.keep K64q (allS g31 all0)
          have f102 : Exa Z h23 b1 "org/pathbind/MediaType" := c22_0.ext E23
          have f103 : Exa Z T35.heap b1 "org/pathbind/MediaType" := f102.keep K35q
          have f104 : Exa Z T44.heap b1 "org/pathbind/MediaType" := f103.keep K44q
          have f105 : Exa Z T64.heap b1 "org/pathbind/MediaType" := f104.keep K64q
          have f106 : Fld Z h23 b1 "org/pathbind/MediaType" "type" "Ljava/lang/String;" (.ref r_5) := c22_1.ext E23
          have f107 : Fld Z T35.heap b1 "org/pathbind/MediaType" "type" "Ljava/lang/String;" (.ref r_5) := f106.keep K35q nin0
          have f108 : Fld Z T44.heap b1 "org/pathbind/MediaType" "type" "Ljava/lang/String;" (.ref r_5) := f107.keep K44q nin0
          have f109 : Fld Z T64.heap b1 "org/pathbind/MediaType" "type" "Ljava/lang/String;" (.ref r_5) := f108.keep K64q (ninS ne25 nin0)
          have f110 : Fld Z h23 b1 "org/pathbind/MediaType" "subtype" "Ljava/lang/String;" (.ref r_8) := c22_2.ext E23
          have f111 : Fld Z T35.heap b1 "org/pathbind/MediaType" "subtype" "Ljava/lang/String;" (.ref r_8) := f110.keep K35q nin0
          have f112 : Fld Z T44.heap b1 "org/pathbind/MediaType" "subtype" "Ljava/lang/String;" (.ref r_8) := f111.keep K44q nin0
          have f113 : Fld Z T64.heap b1 "org/pathbind/MediaType" "subtype" "Ljava/lang/String;" (.ref r_8) := f112.keep K64q (ninS ne25 nin0)
          have f114 : OwnS Z T8.heap r_5 (own_pick (sel &&& (3 : Int32)) ((cc &&& (255 : Int32)).toUInt32.toUInt16.toUInt32.toInt32)) := c5_1.keep (a0 := a0) K8q nin0 all0
          have f115 : OwnS Z T22.heap r_5 (own_pick (sel &&& (3 : Int32)) ((cc &&& (255 : Int32)).toUInt32.toUInt16.toUInt32.toInt32)) := f114.keep (a0 := a0) K22q (ninS (Ne.symm ne6) nin0) (allS ⟨_, _, f13, (w1 hw)⟩ all0)
          have f116 : OwnS Z h23 r_5 (own_pick (sel &&& (3 : Int32)) ((cc &&& (255 : Int32)).toUInt32.toUInt16.toUInt32.toInt32)) := f115.ext E23
          have f117 : OwnS Z T35.heap r_5 (own_pick (sel &&& (3 : Int32)) ((cc &&& (255 : Int32)).toUInt32.toUInt16.toUInt32.toInt32)) := f116.keep (a0 := a0) K35q nin0 all0
          have f118 : OwnS Z T44.heap r_5 (own_pick (sel &&& (3 : Int32)) ((cc &&& (255 : Int32)).toUInt32.toUInt16.toUInt32.toInt32)) := f117.keep (a0 := a0) K44q nin0 all0
          have f119 : OwnS Z T64.heap r_5 (own_pick (sel &&& (3 : Int32)) ((cc &&& (255 : Int32)).toUInt32.toUInt16.toUInt32.toInt32)) := f118.keep (a0 := a0) K64q (ninS ne28 nin0) (allS ⟨_, _, f55, (w1 hw)⟩ all0)
          have f120 : OwnS Z T22.heap r_8 (own_pick s1 ((cc &&& (255 : Int32)).toUInt32.toUInt16.toUInt32.toInt32)) := c8_1.keep (a0 := a0) K22q (ninS (Ne.symm ne10) nin0) (allS ⟨_, _, f13, (w1 hw)⟩ all0)
          have f121 : OwnS Z h23 r_8 (own_pick s1 ((cc &&& (255 : Int32)).toUInt32.toUInt16.toUInt32.toInt32)) := f120.ext E23
          have f122 : OwnS Z T35.heap r_8 (own_pick s1 ((cc &&& (255 : Int32)).toUInt32.toUInt16.toUInt32.toInt32)) := f121.keep (a0 := a0) K35q nin0 all0
          have f123 : OwnS Z T44.heap r_8 (own_pick s1 ((cc &&& (255 : Int32)).toUInt32.toUInt16.toUInt32.toInt32)) := f122.keep (a0 := a0) K44q nin0 all0
          have f124 : OwnS Z T64.heap r_8 (own_pick s1 ((cc &&& (255 : Int32)).toUInt32.toUInt16.toUInt32.toInt32)) := f123.keep (a0 := a0) K64q (ninS ne30 nin0) (allS ⟨_, _, f55, (w1 hw)⟩ all0)
          have f125 : OwnS Z T44.heap r_35 (own_pick (((sel.toUInt32 >>> ((4 : Int32) &&& 31).toUInt32).toInt32) &&& (3 : Int32)) ((cc &&& (255 : Int32)).toUInt32.toUInt16.toUInt32.toInt32)) := c35_1.keep (a0 := a0) K44q nin0 all0
          have f126 : OwnS Z T64.heap r_35 (own_pick (((sel.toUInt32 >>> ((4 : Int32) &&& 31).toUInt32).toInt32) &&& (3 : Int32)) ((cc &&& (255 : Int32)).toUInt32.toUInt16.toUInt32.toInt32)) := f125.keep (a0 := a0) K64q (ninS (Ne.symm ne42) nin0) (allS ⟨_, _, f55, (w1 hw)⟩ all0)
          have f127 : OwnS Z T64.heap r_44 (own_pick s2 ((cc &&& (255 : Int32)).toUInt32.toUInt16.toUInt32.toInt32)) := c44_1.keep (a0 := a0) K64q (ninS (Ne.symm ne52) nin0) (allS ⟨_, _, f55, (w1 hw)⟩ all0)
          obtain ⟨cq128, kq128, q128a, q128b, q128c⟩ := isOf hZ rfl f105
          obtain ⟨_, _, ⟨T128, L128, k128, n128⟩, -, X128, hS128, hG128, ⟨Lc128, hQ128, l128, y128, z128⟩, st128⟩ := X64.virtualBackS hx (y := (⟨"org/pathbind/MediaType", "includes", "(Lorg/pathbind/MediaType;)Z"⟩ : MethodName)) (z := (⟨"org/pathbind/MediaType", "includes", "(Lorg/pathbind/MediaType;)Z"⟩ : MethodName)) hown (mvT hZ (w54 hw)) (mvT hZ (w55 hw)) (notFace_of_selects (args := #[]) (mvT hZ (w57 hw))) (mvT hZ (w57 hw)) (mvT hZ (w56 hw)) (by decide) (own_backJ (J := fun vm_ => OwnI Z vm_ T64.heap) (Q := Q10 Z b1 b23 cs r_5 r_8 r_35 r_44 (own_pick (sel &&& (3 : Int32)) ((cc &&& (255 : Int32)).toUInt32.toUInt16.toUInt32.toInt32)) (own_pick s1 ((cc &&& (255 : Int32)).toUInt32.toUInt16.toUInt32.toInt32)) (own_pick (((sel.toUInt32 >>> ((4 : Int32) &&& 31).toUInt32).toInt32) &&& (3 : Int32)) ((cc &&& (255 : Int32)).toUInt32.toUInt16.toUInt32.toInt32)) (own_pick s2 ((cc &&& (255 : Int32)).toUInt32.toUInt16.toUInt32.toInt32)) T64.heap n0) (W := 0) (rm10 l Z a0 hw [] b1 b23 cs r_5 r_8 r_35 r_44 (own_pick (sel &&& (3 : Int32)) ((cc &&& (255 : Int32)).toUInt32.toUInt16.toUInt32.toInt32)) (own_pick s1 ((cc &&& (255 : Int32)).toUInt32.toUInt16.toUInt32.toInt32)) (own_pick (((sel.toUInt32 >>> ((4 : Int32) &&& 31).toUInt32).toInt32) &&& (3 : Int32)) ((cc &&& (255 : Int32)).toUInt32.toUInt16.toUInt32.toInt32)) (own_pick s2 ((cc &&& (255 : Int32)).toUInt32.toUInt16.toUInt32.toInt32)) T64.heap n0 Z64 f101 P1 P2 f105 c64_0 f109 f113 c64_1 c64_2 f119 f124 f126 f127 P3 P4) hZ (w58 hw) (w2 hw) (by decide) (by decide)) q128a q128c (g := (mkF m 126 #[.val (.int cc), .val (.int sel), .val (.int ((cc &&& (255 : Int32)).toUInt32.toUInt16.toUInt32.toInt32)), .val (.int (sel &&& (3 : Int32))), .val (.int s1), .val (.int (((sel.toUInt32 >>> ((4 : Int32) &&& 31).toUInt32).toInt32) &&& (3 : Int32))), .val (.int s2), .val (.ref b1), .val (.ref b23), .val (.int (1 : Int32))] [(.ref b23), (.ref b1)])) rfl (by rw [hml]; rfl) (Steps.refl _) (argsL := [(.ref b23)]) (rest := []) (lenOf pd_5 rfl) rfl (by show 2 * 0 + _ ≤ _; exact Nat.le_of_eq rfl) (hb hby at_126) (fun _ hWx => ⟨rfl, rfl, hJ0.warm hWx, (by decide : 14 + 2 ≤ _), (by decide : 40 + 8 ≤ _)⟩)
          dsimp only [Pt.U, Pt.locs, Pt.cells, Pt.slots] at X128 l128 y128 z128 st128 hQ128 hS128 hG128
          have f129 : 0 ≤ h1.size := Nat.le_trans (Nat.zero_le _) E1.1
          have f130 : 0 ≤ T5.heap.size := Nat.le_trans f129 K5q.1
          have f131 : 0 ≤ T8.heap.size := Nat.le_trans f130 K8q.1
          have f132 : 0 ≤ T22.heap.size := Nat.le_trans f131 K22q.1
          have f133 : 0 ≤ h23.size := Nat.le_trans f132 E23.1
          have f134 : 0 ≤ T35.heap.size := Nat.le_trans f133 K35q.1
          have f135 : 0 ≤ T44.heap.size := Nat.le_trans f134 K44q.1
          have f136 : 0 ≤ T64.heap.size := Nat.le_trans f135 K64q.1
          obtain ⟨X128, hS128, hZ, hown⟩ := rebS hS0 f136 X128 hS128 hG128 hZ hown
          replace X128 := own_num (c' := 16) (n' := 48) X128 l128 (y128.trans rfl) (z128.trans rfl)
          obtain ⟨rfl, N128q, K128q⟩ := hQ128
          have N128 := Fr.app N64 N128q
          have Z128 : n0 ≤ T128.heap.size := Nat.le_trans Z64 K128q.1
          have K128 : Keep h0 T128.heap [] := K64.trans K128q all0
          have hk128 : T128.heap.size ≤ T128.heap.size := Nat.le_refl _
          refine own_trJ st128 ?_
          show OwnGoJ p e below s _ _ _ (T128.setTop (mkF m 129 #[.val (.int cc), .val (.int sel), .val (.int ((cc &&& (255 : Int32)).toUInt32.toUInt16.toUInt32.toInt32)), .val (.int (sel &&& (3 : Int32))), .val (.int s1), .val (.int (((sel.toUInt32 >>> ((4 : Int32) &&& 31).toUInt32).toInt32) &&& (3 : Int32))), .val (.int s2), .val (.ref b1), .val (.ref b23), .val (.int (1 : Int32))] [(.int (own_inc (own_pick (sel &&& (3 : Int32)) ((cc &&& (255 : Int32)).toUInt32.toUInt16.toUInt32.toInt32)) (own_pick s1 ((cc &&& (255 : Int32)).toUInt32.toUInt16.toUInt32.toInt32)) (own_pick (((sel.toUInt32 >>> ((4 : Int32) &&& 31).toUInt32).toInt32) &&& (3 : Int32)) ((cc &&& (255 : Int32)).toUInt32.toUInt16.toUInt32.toInt32)) (own_pick s2 ((cc &&& (255 : Int32)).toUInt32.toUInt16.toUInt32.toInt32))))]))
          refine own_onJ (fun t_ k_ => XS.iload X128.here hx rfl (hb hby at_129) rfl k_) ?_
          show OwnGoJ p e below s _ _ _ (T128.setTop (mkF m 131 #[.val (.int cc), .val (.int sel), .val (.int ((cc &&& (255 : Int32)).toUInt32.toUInt16.toUInt32.toInt32)), .val (.int (sel &&& (3 : Int32))), .val (.int s1), .val (.int (((sel.toUInt32 >>> ((4 : Int32) &&& 31).toUInt32).toInt32) &&& (3 : Int32))), .val (.int s2), .val (.ref b1), .val (.ref b23), .val (.int (1 : Int32))] [(.int (1 : Int32)), (.int (own_inc (own_pick (sel &&& (3 : Int32)) ((cc &&& (255 : Int32)).toUInt32.toUInt16.toUInt32.toInt32)) (own_pick s1 ((cc &&& (255 : Int32)).toUInt32.toUInt16.toUInt32.toInt32)) (own_pick (((sel.toUInt32 >>> ((4 : Int32) &&& 31).toUInt32).toInt32) &&& (3 : Int32)) ((cc &&& (255 : Int32)).toUInt32.toUInt16.toUInt32.toInt32)) (own_pick s2 ((cc &&& (255 : Int32)).toUInt32.toUInt16.toUInt32.toInt32))))]))
          refine own_onJ (fun t_ k_ => XS.icmpNo X128.here hx rfl (hb hby at_131) rfl (teq ((own_fin _ _ _ _ _ ht1 hs1 ht2 hs2).trans (by rw [if_neg q0, if_pos q1, if_pos q2]) : (own_inc (own_pick (sel &&& (3 : Int32)) ((cc &&& (255 : Int32)).toUInt32.toUInt16.toUInt32.toInt32)) (own_pick s1 ((cc &&& (255 : Int32)).toUInt32.toUInt16.toUInt32.toInt32)) (own_pick (((sel.toUInt32 >>> ((4 : Int32) &&& 31).toUInt32).toInt32) &&& (3 : Int32)) ((cc &&& (255 : Int32)).toUInt32.toUInt16.toUInt32.toInt32)) (own_pick s2 ((cc &&& (255 : Int32)).toUInt32.toUInt16.toUInt32.toInt32))) = (1 : Int32))).2 k_) ?_
          show OwnGoJ p e below s _ _ _ (T128.setTop (mkF m 134 #[.val (.int cc), .val (.int sel), .val (.int ((cc &&& (255 : Int32)).toUInt32.toUInt16.toUInt32.toInt32)), .val (.int (sel &&& (3 : Int32))), .val (.int s1), .val (.int (((sel.toUInt32 >>> ((4 : Int32) &&& 31).toUInt32).toInt32) &&& (3 : Int32))), .val (.int s2), .val (.ref b1), .val (.ref b23), .val (.int (1 : Int32))] []))
          refine own_onJ (fun t_ k_ => XS.iconst X128.here hx rfl (hb hby at_134) k_) ?_
          show OwnGoJ p e below s _ _ _ (T128.setTop (mkF m 135 #[.val (.int cc), .val (.int sel), .val (.int ((cc &&& (255 : Int32)).toUInt32.toUInt16.toUInt32.toInt32)), .val (.int (sel &&& (3 : Int32))), .val (.int s1), .val (.int (((sel.toUInt32 >>> ((4 : Int32) &&& 31).toUInt32).toInt32) &&& (3 : Int32))), .val (.int s2), .val (.ref b1), .val (.ref b23), .val (.int (1 : Int32))] [(.int (1 : Int32))]))
          refine own_onJ (fun t_ k_ => XS.goto X128.here hx rfl (pc0 := 135) (pc' := 139) rfl (hb hby at_135) (by decide) (by decide) k_) ?_
          show OwnGoJ p e below s _ _ _ (T128.setTop (mkF m 139 #[.val (.int cc), .val (.int sel), .val (.int ((cc &&& (255 : Int32)).toUInt32.toUInt16.toUInt32.toInt32)), .val (.int (sel &&& (3 : Int32))), .val (.int s1), .val (.int (((sel.toUInt32 >>> ((4 : Int32) &&& 31).toUInt32).toInt32) &&& (3 : Int32))), .val (.int s2), .val (.ref b1), .val (.ref b23), .val (.int (1 : Int32))] [(.int (1 : Int32))]))
          exact own_retNJ X128 hx hlk (t := .boolean) Bd.returns (by simp) (hb hby at_139) rfl ⟨rfl, N128, K128⟩ (by decide) (by decide) hS128 hk128
        · refine own_onJ (fun t_ k_ => XS.ifNo X64.here hx rfl (hb hby at_105) rfl ((if0 _ _).trans (feq q2).1) k_) ?_
          show OwnGoJ p e below s _ _ _ (T64.setTop (mkF m 108 #[.val (.int cc), .val (.int sel), .val (.int ((cc &&& (255 : Int32)).toUInt32.toUInt16.toUInt32.toInt32)), .val (.int (sel &&& (3 : Int32))), .val (.int s1), .val (.int (((sel.toUInt32 >>> ((4 : Int32) &&& 31).toUInt32).toInt32) &&& (3 : Int32))), .val (.int s2), .val (.ref b1), .val (.ref b23), .unset] []))
          refine own_onJ (fun t_ k_ => XS.iload X64.here hx rfl (hb hby at_108) rfl k_) ?_
          show OwnGoJ p e below s _ _ _ (T64.setTop (mkF m 110 #[.val (.int cc), .val (.int sel), .val (.int ((cc &&& (255 : Int32)).toUInt32.toUInt16.toUInt32.toInt32)), .val (.int (sel &&& (3 : Int32))), .val (.int s1), .val (.int (((sel.toUInt32 >>> ((4 : Int32) &&& 31).toUInt32).toInt32) &&& (3 : Int32))), .val (.int s2), .val (.ref b1), .val (.ref b23), .unset] [(.int s1)]))
          refine own_onJ (fun t_ k_ => XS.iload X64.here hx rfl (hb hby at_110) rfl k_) ?_
          show OwnGoJ p e below s _ _ _ (T64.setTop (mkF m 112 #[.val (.int cc), .val (.int sel), .val (.int ((cc &&& (255 : Int32)).toUInt32.toUInt16.toUInt32.toInt32)), .val (.int (sel &&& (3 : Int32))), .val (.int s1), .val (.int (((sel.toUInt32 >>> ((4 : Int32) &&& 31).toUInt32).toInt32) &&& (3 : Int32))), .val (.int s2), .val (.ref b1), .val (.ref b23), .unset] [(.int s2), (.int s1)]))
          by_cases q3 : s1 = s2
          · refine own_onJ (fun t_ k_ => XS.icmpNo X64.here hx rfl (hb hby at_112) rfl (teq q3).2 k_) ?_
            show OwnGoJ p e below s _ _ _ (T64.setTop (mkF m 115 #[.val (.int cc), .val (.int sel), .val (.int ((cc &&& (255 : Int32)).toUInt32.toUInt16.toUInt32.toInt32)), .val (.int (sel &&& (3 : Int32))), .val (.int s1), .val (.int (((sel.toUInt32 >>> ((4 : Int32) &&& 31).toUInt32).toInt32) &&& (3 : Int32))), .val (.int s2), .val (.ref b1), .val (.ref b23), .unset] []))
            refine own_onJ (fun t_ k_ => XS.iconst X64.here hx rfl (hb hby at_115) k_) ?_
            show OwnGoJ p e below s _ _ _ (T64.setTop (mkF m 116 #[.val (.int cc), .val (.int sel), .val (.int ((cc &&& (255 : Int32)).toUInt32.toUInt16.toUInt32.toInt32)), .val (.int (sel &&& (3 : Int32))), .val (.int s1), .val (.int (((sel.toUInt32 >>> ((4 : Int32) &&& 31).toUInt32).toInt32) &&& (3 : Int32))), .val (.int s2), .val (.ref b1), .val (.ref b23), .unset] [(.int (1 : Int32))]))
            refine own_onJ (fun t_ k_ => XS.goto X64.here hx rfl (pc0 := 116) (pc' := 120) rfl (hb hby at_116) (by decide) (by decide) k_) ?_
            show OwnGoJ p e below s _ _ _ (T64.setTop (mkF m 120 #[.val (.int cc), .val (.int sel), .val (.int ((cc &&& (255 : Int32)).toUInt32.toUInt16.toUInt32.toInt32)), .val (.int (sel &&& (3 : Int32))), .val (.int s1), .val (.int (((sel.toUInt32 >>> ((4 : Int32) &&& 31).toUInt32).toInt32) &&& (3 : Int32))), .val (.int s2), .val (.ref b1), .val (.ref b23), .unset] [(.int (1 : Int32))]))
            refine own_onJ (fun t_ k_ => XS.istore X64.here hx rfl (hb hby at_120) rfl (l' := #[.val (.int cc), .val (.int sel), .val (.int ((cc &&& (255 : Int32)).toUInt32.toUInt16.toUInt32.toInt32)), .val (.int (sel &&& (3 : Int32))), .val (.int s1), .val (.int (((sel.toUInt32 >>> ((4 : Int32) &&& 31).toUInt32).toInt32) &&& (3 : Int32))), .val (.int s2), .val (.ref b1), .val (.ref b23), .val (.int (1 : Int32))]) rfl k_) ?_
            show OwnGoJ p e below s _ _ _ (T64.setTop (mkF m 122 #[.val (.int cc), .val (.int sel), .val (.int ((cc &&& (255 : Int32)).toUInt32.toUInt16.toUInt32.toInt32)), .val (.int (sel &&& (3 : Int32))), .val (.int s1), .val (.int (((sel.toUInt32 >>> ((4 : Int32) &&& 31).toUInt32).toInt32) &&& (3 : Int32))), .val (.int s2), .val (.ref b1), .val (.ref b23), .val (.int (1 : Int32))] []))
            refine own_onJ (fun t_ k_ => XS.aload X64.here hx rfl (hb hby at_122) rfl rfl k_) ?_
            show OwnGoJ p e below s _ _ _ (T64.setTop (mkF m 124 #[.val (.int cc), .val (.int sel), .val (.int ((cc &&& (255 : Int32)).toUInt32.toUInt16.toUInt32.toInt32)), .val (.int (sel &&& (3 : Int32))), .val (.int s1), .val (.int (((sel.toUInt32 >>> ((4 : Int32) &&& 31).toUInt32).toInt32) &&& (3 : Int32))), .val (.int s2), .val (.ref b1), .val (.ref b23), .val (.int (1 : Int32))] [(.ref b1)]))
            refine own_onJ (fun t_ k_ => XS.aload X64.here hx rfl (hb hby at_124) rfl rfl k_) ?_
            show OwnGoJ p e below s _ _ _ (T64.setTop (mkF m 126 #[.val (.int cc), .val (.int sel), .val (.int ((cc &&& (255 : Int32)).toUInt32.toUInt16.toUInt32.toInt32)), .val (.int (sel &&& (3 : Int32))), .val (.int s1), .val (.int (((sel.toUInt32 >>> ((4 : Int32) &&& 31).toUInt32).toInt32) &&& (3 : Int32))), .val (.int s2), .val (.ref b1), .val (.ref b23), .val (.int (1 : Int32))] [(.ref b23), (.ref b1)]))
            have f137 : Old Z n0 T64.heap := c44_4.keep K64q (allS g31 all0)
            have f138 : Exa Z h23 b1 "org/pathbind/MediaType" := c22_0.ext E23
            have f139 : Exa Z T35.heap b1 "org/pathbind/MediaType" := f138.keep K35q
            have f140 : Exa Z T44.heap b1 "org/pathbind/MediaType" := f139.keep K44q
            have f141 : Exa Z T64.heap b1 "org/pathbind/MediaType" := f140.keep K64q
            have f142 : Fld Z h23 b1 "org/pathbind/MediaType" "type" "Ljava/lang/String;" (.ref r_5) := c22_1.ext E23
            have f143 : Fld Z T35.heap b1 "org/pathbind/MediaType" "type" "Ljava/lang/String;" (.ref r_5) := f142.keep K35q nin0
            have f144 : Fld Z T44.heap b1 "org/pathbind/MediaType" "type" "Ljava/lang/String;" (.ref r_5) := f143.keep K44q nin0
            have f145 : Fld Z T64.heap b1 "org/pathbind/MediaType" "type" "Ljava/lang/String;" (.ref r_5) := f144.keep K64q (ninS ne25 nin0)
            have f146 : Fld Z h23 b1 "org/pathbind/MediaType" "subtype" "Ljava/lang/String;" (.ref r_8) := c22_2.ext E23
            have f147 : Fld Z T35.heap b1 "org/pathbind/MediaType" "subtype" "Ljava/lang/String;" (.ref r_8) := f146.keep K35q nin0
            have f148 : Fld Z T44.heap b1 "org/pathbind/MediaType" "subtype" "Ljava/lang/String;" (.ref r_8) := f147.keep K44q nin0
            have f149 : Fld Z T64.heap b1 "org/pathbind/MediaType" "subtype" "Ljava/lang/String;" (.ref r_8) := f148.keep K64q (ninS ne25 nin0)
            have f150 : OwnS Z T8.heap r_5 (own_pick (sel &&& (3 : Int32)) ((cc &&& (255 : Int32)).toUInt32.toUInt16.toUInt32.toInt32)) := c5_1.keep (a0 := a0) K8q nin0 all0
            have f151 : OwnS Z T22.heap r_5 (own_pick (sel &&& (3 : Int32)) ((cc &&& (255 : Int32)).toUInt32.toUInt16.toUInt32.toInt32)) := f150.keep (a0 := a0) K22q (ninS (Ne.symm ne6) nin0) (allS ⟨_, _, f13, (w1 hw)⟩ all0)
            have f152 : OwnS Z h23 r_5 (own_pick (sel &&& (3 : Int32)) ((cc &&& (255 : Int32)).toUInt32.toUInt16.toUInt32.toInt32)) := f151.ext E23
            have f153 : OwnS Z T35.heap r_5 (own_pick (sel &&& (3 : Int32)) ((cc &&& (255 : Int32)).toUInt32.toUInt16.toUInt32.toInt32)) := f152.keep (a0 := a0) K35q nin0 all0
            have f154 : OwnS Z T44.heap r_5 (own_pick (sel &&& (3 : Int32)) ((cc &&& (255 : Int32)).toUInt32.toUInt16.toUInt32.toInt32)) := f153.keep (a0 := a0) K44q nin0 all0
            have f155 : OwnS Z T64.heap r_5 (own_pick (sel &&& (3 : Int32)) ((cc &&& (255 : Int32)).toUInt32.toUInt16.toUInt32.toInt32)) := f154.keep (a0 := a0) K64q (ninS ne28 nin0) (allS ⟨_, _, f55, (w1 hw)⟩ all0)
            have f156 : OwnS Z T22.heap r_8 (own_pick s1 ((cc &&& (255 : Int32)).toUInt32.toUInt16.toUInt32.toInt32)) := c8_1.keep (a0 := a0) K22q (ninS (Ne.symm ne10) nin0) (allS ⟨_, _, f13, (w1 hw)⟩ all0)
            have f157 : OwnS Z h23 r_8 (own_pick s1 ((cc &&& (255 : Int32)).toUInt32.toUInt16.toUInt32.toInt32)) := f156.ext E23
            have f158 : OwnS Z T35.heap r_8 (own_pick s1 ((cc &&& (255 : Int32)).toUInt32.toUInt16.toUInt32.toInt32)) := f157.keep (a0 := a0) K35q nin0 all0
            have f159 : OwnS Z T44.heap r_8 (own_pick s1 ((cc &&& (255 : Int32)).toUInt32.toUInt16.toUInt32.toInt32)) := f158.keep (a0 := a0) K44q nin0 all0
            have f160 : OwnS Z T64.heap r_8 (own_pick s1 ((cc &&& (255 : Int32)).toUInt32.toUInt16.toUInt32.toInt32)) := f159.keep (a0 := a0) K64q (ninS ne30 nin0) (allS ⟨_, _, f55, (w1 hw)⟩ all0)
            have f161 : OwnS Z T44.heap r_35 (own_pick (((sel.toUInt32 >>> ((4 : Int32) &&& 31).toUInt32).toInt32) &&& (3 : Int32)) ((cc &&& (255 : Int32)).toUInt32.toUInt16.toUInt32.toInt32)) := c35_1.keep (a0 := a0) K44q nin0 all0
            have f162 : OwnS Z T64.heap r_35 (own_pick (((sel.toUInt32 >>> ((4 : Int32) &&& 31).toUInt32).toInt32) &&& (3 : Int32)) ((cc &&& (255 : Int32)).toUInt32.toUInt16.toUInt32.toInt32)) := f161.keep (a0 := a0) K64q (ninS (Ne.symm ne42) nin0) (allS ⟨_, _, f55, (w1 hw)⟩ all0)
            have f163 : OwnS Z T64.heap r_44 (own_pick s2 ((cc &&& (255 : Int32)).toUInt32.toUInt16.toUInt32.toInt32)) := c44_1.keep (a0 := a0) K64q (ninS (Ne.symm ne52) nin0) (allS ⟨_, _, f55, (w1 hw)⟩ all0)
            obtain ⟨cq164, kq164, q164a, q164b, q164c⟩ := isOf hZ rfl f141
            obtain ⟨_, _, ⟨T164, L164, k164, n164⟩, -, X164, hS164, hG164, ⟨Lc164, hQ164, l164, y164, z164⟩, st164⟩ := X64.virtualBackS hx (y := (⟨"org/pathbind/MediaType", "includes", "(Lorg/pathbind/MediaType;)Z"⟩ : MethodName)) (z := (⟨"org/pathbind/MediaType", "includes", "(Lorg/pathbind/MediaType;)Z"⟩ : MethodName)) hown (mvT hZ (w54 hw)) (mvT hZ (w55 hw)) (notFace_of_selects (args := #[]) (mvT hZ (w57 hw))) (mvT hZ (w57 hw)) (mvT hZ (w56 hw)) (by decide) (own_backJ (J := fun vm_ => OwnI Z vm_ T64.heap) (Q := Q10 Z b1 b23 cs r_5 r_8 r_35 r_44 (own_pick (sel &&& (3 : Int32)) ((cc &&& (255 : Int32)).toUInt32.toUInt16.toUInt32.toInt32)) (own_pick s1 ((cc &&& (255 : Int32)).toUInt32.toUInt16.toUInt32.toInt32)) (own_pick (((sel.toUInt32 >>> ((4 : Int32) &&& 31).toUInt32).toInt32) &&& (3 : Int32)) ((cc &&& (255 : Int32)).toUInt32.toUInt16.toUInt32.toInt32)) (own_pick s2 ((cc &&& (255 : Int32)).toUInt32.toUInt16.toUInt32.toInt32)) T64.heap n0) (W := 0) (rm10 l Z a0 hw [] b1 b23 cs r_5 r_8 r_35 r_44 (own_pick (sel &&& (3 : Int32)) ((cc &&& (255 : Int32)).toUInt32.toUInt16.toUInt32.toInt32)) (own_pick s1 ((cc &&& (255 : Int32)).toUInt32.toUInt16.toUInt32.toInt32)) (own_pick (((sel.toUInt32 >>> ((4 : Int32) &&& 31).toUInt32).toInt32) &&& (3 : Int32)) ((cc &&& (255 : Int32)).toUInt32.toUInt16.toUInt32.toInt32)) (own_pick s2 ((cc &&& (255 : Int32)).toUInt32.toUInt16.toUInt32.toInt32)) T64.heap n0 Z64 f137 P1 P2 f141 c64_0 f145 f149 c64_1 c64_2 f155 f160 f162 f163 P3 P4) hZ (w58 hw) (w2 hw) (by decide) (by decide)) q164a q164c (g := (mkF m 126 #[.val (.int cc), .val (.int sel), .val (.int ((cc &&& (255 : Int32)).toUInt32.toUInt16.toUInt32.toInt32)), .val (.int (sel &&& (3 : Int32))), .val (.int s1), .val (.int (((sel.toUInt32 >>> ((4 : Int32) &&& 31).toUInt32).toInt32) &&& (3 : Int32))), .val (.int s2), .val (.ref b1), .val (.ref b23), .val (.int (1 : Int32))] [(.ref b23), (.ref b1)])) rfl (by rw [hml]; rfl) (Steps.refl _) (argsL := [(.ref b23)]) (rest := []) (lenOf pd_5 rfl) rfl (by show 2 * 0 + _ ≤ _; exact Nat.le_of_eq rfl) (hb hby at_126) (fun _ hWx => ⟨rfl, rfl, hJ0.warm hWx, (by decide : 14 + 2 ≤ _), (by decide : 40 + 8 ≤ _)⟩)
            dsimp only [Pt.U, Pt.locs, Pt.cells, Pt.slots] at X164 l164 y164 z164 st164 hQ164 hS164 hG164
            have f165 : 0 ≤ h1.size := Nat.le_trans (Nat.zero_le _) E1.1
            have f166 : 0 ≤ T5.heap.size := Nat.le_trans f165 K5q.1
            have f167 : 0 ≤ T8.heap.size := Nat.le_trans f166 K8q.1
            have f168 : 0 ≤ T22.heap.size := Nat.le_trans f167 K22q.1
            have f169 : 0 ≤ h23.size := Nat.le_trans f168 E23.1
            have f170 : 0 ≤ T35.heap.size := Nat.le_trans f169 K35q.1
            have f171 : 0 ≤ T44.heap.size := Nat.le_trans f170 K44q.1
            have f172 : 0 ≤ T64.heap.size := Nat.le_trans f171 K64q.1
            obtain ⟨X164, hS164, hZ, hown⟩ := rebS hS0 f172 X164 hS164 hG164 hZ hown
            replace X164 := own_num (c' := 16) (n' := 48) X164 l164 (y164.trans rfl) (z164.trans rfl)
            obtain ⟨rfl, N164q, K164q⟩ := hQ164
            have N164 := Fr.app N64 N164q
            have Z164 : n0 ≤ T164.heap.size := Nat.le_trans Z64 K164q.1
            have K164 : Keep h0 T164.heap [] := K64.trans K164q all0
            have hk164 : T164.heap.size ≤ T164.heap.size := Nat.le_refl _
            refine own_trJ st164 ?_
            show OwnGoJ p e below s _ _ _ (T164.setTop (mkF m 129 #[.val (.int cc), .val (.int sel), .val (.int ((cc &&& (255 : Int32)).toUInt32.toUInt16.toUInt32.toInt32)), .val (.int (sel &&& (3 : Int32))), .val (.int s1), .val (.int (((sel.toUInt32 >>> ((4 : Int32) &&& 31).toUInt32).toInt32) &&& (3 : Int32))), .val (.int s2), .val (.ref b1), .val (.ref b23), .val (.int (1 : Int32))] [(.int (own_inc (own_pick (sel &&& (3 : Int32)) ((cc &&& (255 : Int32)).toUInt32.toUInt16.toUInt32.toInt32)) (own_pick s1 ((cc &&& (255 : Int32)).toUInt32.toUInt16.toUInt32.toInt32)) (own_pick (((sel.toUInt32 >>> ((4 : Int32) &&& 31).toUInt32).toInt32) &&& (3 : Int32)) ((cc &&& (255 : Int32)).toUInt32.toUInt16.toUInt32.toInt32)) (own_pick s2 ((cc &&& (255 : Int32)).toUInt32.toUInt16.toUInt32.toInt32))))]))
            refine own_onJ (fun t_ k_ => XS.iload X164.here hx rfl (hb hby at_129) rfl k_) ?_
            show OwnGoJ p e below s _ _ _ (T164.setTop (mkF m 131 #[.val (.int cc), .val (.int sel), .val (.int ((cc &&& (255 : Int32)).toUInt32.toUInt16.toUInt32.toInt32)), .val (.int (sel &&& (3 : Int32))), .val (.int s1), .val (.int (((sel.toUInt32 >>> ((4 : Int32) &&& 31).toUInt32).toInt32) &&& (3 : Int32))), .val (.int s2), .val (.ref b1), .val (.ref b23), .val (.int (1 : Int32))] [(.int (1 : Int32)), (.int (own_inc (own_pick (sel &&& (3 : Int32)) ((cc &&& (255 : Int32)).toUInt32.toUInt16.toUInt32.toInt32)) (own_pick s1 ((cc &&& (255 : Int32)).toUInt32.toUInt16.toUInt32.toInt32)) (own_pick (((sel.toUInt32 >>> ((4 : Int32) &&& 31).toUInt32).toInt32) &&& (3 : Int32)) ((cc &&& (255 : Int32)).toUInt32.toUInt16.toUInt32.toInt32)) (own_pick s2 ((cc &&& (255 : Int32)).toUInt32.toUInt16.toUInt32.toInt32))))]))
            refine own_onJ (fun t_ k_ => XS.icmpNo X164.here hx rfl (hb hby at_131) rfl (teq ((own_fin _ _ _ _ _ ht1 hs1 ht2 hs2).trans (by rw [if_neg q0, if_pos q1, if_neg q2, if_pos q3]) : (own_inc (own_pick (sel &&& (3 : Int32)) ((cc &&& (255 : Int32)).toUInt32.toUInt16.toUInt32.toInt32)) (own_pick s1 ((cc &&& (255 : Int32)).toUInt32.toUInt16.toUInt32.toInt32)) (own_pick (((sel.toUInt32 >>> ((4 : Int32) &&& 31).toUInt32).toInt32) &&& (3 : Int32)) ((cc &&& (255 : Int32)).toUInt32.toUInt16.toUInt32.toInt32)) (own_pick s2 ((cc &&& (255 : Int32)).toUInt32.toUInt16.toUInt32.toInt32))) = (1 : Int32))).2 k_) ?_
            show OwnGoJ p e below s _ _ _ (T164.setTop (mkF m 134 #[.val (.int cc), .val (.int sel), .val (.int ((cc &&& (255 : Int32)).toUInt32.toUInt16.toUInt32.toInt32)), .val (.int (sel &&& (3 : Int32))), .val (.int s1), .val (.int (((sel.toUInt32 >>> ((4 : Int32) &&& 31).toUInt32).toInt32) &&& (3 : Int32))), .val (.int s2), .val (.ref b1), .val (.ref b23), .val (.int (1 : Int32))] []))
            refine own_onJ (fun t_ k_ => XS.iconst X164.here hx rfl (hb hby at_134) k_) ?_
            show OwnGoJ p e below s _ _ _ (T164.setTop (mkF m 135 #[.val (.int cc), .val (.int sel), .val (.int ((cc &&& (255 : Int32)).toUInt32.toUInt16.toUInt32.toInt32)), .val (.int (sel &&& (3 : Int32))), .val (.int s1), .val (.int (((sel.toUInt32 >>> ((4 : Int32) &&& 31).toUInt32).toInt32) &&& (3 : Int32))), .val (.int s2), .val (.ref b1), .val (.ref b23), .val (.int (1 : Int32))] [(.int (1 : Int32))]))
            refine own_onJ (fun t_ k_ => XS.goto X164.here hx rfl (pc0 := 135) (pc' := 139) rfl (hb hby at_135) (by decide) (by decide) k_) ?_
            show OwnGoJ p e below s _ _ _ (T164.setTop (mkF m 139 #[.val (.int cc), .val (.int sel), .val (.int ((cc &&& (255 : Int32)).toUInt32.toUInt16.toUInt32.toInt32)), .val (.int (sel &&& (3 : Int32))), .val (.int s1), .val (.int (((sel.toUInt32 >>> ((4 : Int32) &&& 31).toUInt32).toInt32) &&& (3 : Int32))), .val (.int s2), .val (.ref b1), .val (.ref b23), .val (.int (1 : Int32))] [(.int (1 : Int32))]))
            exact own_retNJ X164 hx hlk (t := .boolean) Bd.returns (by simp) (hb hby at_139) rfl ⟨rfl, N164, K164⟩ (by decide) (by decide) hS164 hk164
          · refine own_onJ (fun t_ k_ => XS.icmpYes X64.here hx rfl (pc0 := 112) (pc' := 119) rfl (hb hby at_112) rfl (feq q3).2 (by decide) (by decide) k_) ?_
            show OwnGoJ p e below s _ _ _ (T64.setTop (mkF m 119 #[.val (.int cc), .val (.int sel), .val (.int ((cc &&& (255 : Int32)).toUInt32.toUInt16.toUInt32.toInt32)), .val (.int (sel &&& (3 : Int32))), .val (.int s1), .val (.int (((sel.toUInt32 >>> ((4 : Int32) &&& 31).toUInt32).toInt32) &&& (3 : Int32))), .val (.int s2), .val (.ref b1), .val (.ref b23), .unset] []))
            refine own_onJ (fun t_ k_ => XS.iconst X64.here hx rfl (hb hby at_119) k_) ?_
            show OwnGoJ p e below s _ _ _ (T64.setTop (mkF m 120 #[.val (.int cc), .val (.int sel), .val (.int ((cc &&& (255 : Int32)).toUInt32.toUInt16.toUInt32.toInt32)), .val (.int (sel &&& (3 : Int32))), .val (.int s1), .val (.int (((sel.toUInt32 >>> ((4 : Int32) &&& 31).toUInt32).toInt32) &&& (3 : Int32))), .val (.int s2), .val (.ref b1), .val (.ref b23), .unset] [(.int (0 : Int32))]))
            refine own_onJ (fun t_ k_ => XS.istore X64.here hx rfl (hb hby at_120) rfl (l' := #[.val (.int cc), .val (.int sel), .val (.int ((cc &&& (255 : Int32)).toUInt32.toUInt16.toUInt32.toInt32)), .val (.int (sel &&& (3 : Int32))), .val (.int s1), .val (.int (((sel.toUInt32 >>> ((4 : Int32) &&& 31).toUInt32).toInt32) &&& (3 : Int32))), .val (.int s2), .val (.ref b1), .val (.ref b23), .val (.int (0 : Int32))]) rfl k_) ?_
            show OwnGoJ p e below s _ _ _ (T64.setTop (mkF m 122 #[.val (.int cc), .val (.int sel), .val (.int ((cc &&& (255 : Int32)).toUInt32.toUInt16.toUInt32.toInt32)), .val (.int (sel &&& (3 : Int32))), .val (.int s1), .val (.int (((sel.toUInt32 >>> ((4 : Int32) &&& 31).toUInt32).toInt32) &&& (3 : Int32))), .val (.int s2), .val (.ref b1), .val (.ref b23), .val (.int (0 : Int32))] []))
            refine own_onJ (fun t_ k_ => XS.aload X64.here hx rfl (hb hby at_122) rfl rfl k_) ?_
            show OwnGoJ p e below s _ _ _ (T64.setTop (mkF m 124 #[.val (.int cc), .val (.int sel), .val (.int ((cc &&& (255 : Int32)).toUInt32.toUInt16.toUInt32.toInt32)), .val (.int (sel &&& (3 : Int32))), .val (.int s1), .val (.int (((sel.toUInt32 >>> ((4 : Int32) &&& 31).toUInt32).toInt32) &&& (3 : Int32))), .val (.int s2), .val (.ref b1), .val (.ref b23), .val (.int (0 : Int32))] [(.ref b1)]))
            refine own_onJ (fun t_ k_ => XS.aload X64.here hx rfl (hb hby at_124) rfl rfl k_) ?_
            show OwnGoJ p e below s _ _ _ (T64.setTop (mkF m 126 #[.val (.int cc), .val (.int sel), .val (.int ((cc &&& (255 : Int32)).toUInt32.toUInt16.toUInt32.toInt32)), .val (.int (sel &&& (3 : Int32))), .val (.int s1), .val (.int (((sel.toUInt32 >>> ((4 : Int32) &&& 31).toUInt32).toInt32) &&& (3 : Int32))), .val (.int s2), .val (.ref b1), .val (.ref b23), .val (.int (0 : Int32))] [(.ref b23), (.ref b1)]))
            have f173 : Old Z n0 T64.heap := c44_4.keep K64q (allS g31 all0)
            have f174 : Exa Z h23 b1 "org/pathbind/MediaType" := c22_0.ext E23
            have f175 : Exa Z T35.heap b1 "org/pathbind/MediaType" := f174.keep K35q
            have f176 : Exa Z T44.heap b1 "org/pathbind/MediaType" := f175.keep K44q
            have f177 : Exa Z T64.heap b1 "org/pathbind/MediaType" := f176.keep K64q
            have f178 : Fld Z h23 b1 "org/pathbind/MediaType" "type" "Ljava/lang/String;" (.ref r_5) := c22_1.ext E23
            have f179 : Fld Z T35.heap b1 "org/pathbind/MediaType" "type" "Ljava/lang/String;" (.ref r_5) := f178.keep K35q nin0
            have f180 : Fld Z T44.heap b1 "org/pathbind/MediaType" "type" "Ljava/lang/String;" (.ref r_5) := f179.keep K44q nin0
            have f181 : Fld Z T64.heap b1 "org/pathbind/MediaType" "type" "Ljava/lang/String;" (.ref r_5) := f180.keep K64q (ninS ne25 nin0)
            have f182 : Fld Z h23 b1 "org/pathbind/MediaType" "subtype" "Ljava/lang/String;" (.ref r_8) := c22_2.ext E23
            have f183 : Fld Z T35.heap b1 "org/pathbind/MediaType" "subtype" "Ljava/lang/String;" (.ref r_8) := f182.keep K35q nin0
            have f184 : Fld Z T44.heap b1 "org/pathbind/MediaType" "subtype" "Ljava/lang/String;" (.ref r_8) := f183.keep K44q nin0
            have f185 : Fld Z T64.heap b1 "org/pathbind/MediaType" "subtype" "Ljava/lang/String;" (.ref r_8) := f184.keep K64q (ninS ne25 nin0)
            have f186 : OwnS Z T8.heap r_5 (own_pick (sel &&& (3 : Int32)) ((cc &&& (255 : Int32)).toUInt32.toUInt16.toUInt32.toInt32)) := c5_1.keep (a0 := a0) K8q nin0 all0
            have f187 : OwnS Z T22.heap r_5 (own_pick (sel &&& (3 : Int32)) ((cc &&& (255 : Int32)).toUInt32.toUInt16.toUInt32.toInt32)) := f186.keep (a0 := a0) K22q (ninS (Ne.symm ne6) nin0) (allS ⟨_, _, f13, (w1 hw)⟩ all0)
            have f188 : OwnS Z h23 r_5 (own_pick (sel &&& (3 : Int32)) ((cc &&& (255 : Int32)).toUInt32.toUInt16.toUInt32.toInt32)) := f187.ext E23
            have f189 : OwnS Z T35.heap r_5 (own_pick (sel &&& (3 : Int32)) ((cc &&& (255 : Int32)).toUInt32.toUInt16.toUInt32.toInt32)) := f188.keep (a0 := a0) K35q nin0 all0
            have f190 : OwnS Z T44.heap r_5 (own_pick (sel &&& (3 : Int32)) ((cc &&& (255 : Int32)).toUInt32.toUInt16.toUInt32.toInt32)) := f189.keep (a0 := a0) K44q nin0 all0
            have f191 : OwnS Z T64.heap r_5 (own_pick (sel &&& (3 : Int32)) ((cc &&& (255 : Int32)).toUInt32.toUInt16.toUInt32.toInt32)) := f190.keep (a0 := a0) K64q (ninS ne28 nin0) (allS ⟨_, _, f55, (w1 hw)⟩ all0)
            have f192 : OwnS Z T22.heap r_8 (own_pick s1 ((cc &&& (255 : Int32)).toUInt32.toUInt16.toUInt32.toInt32)) := c8_1.keep (a0 := a0) K22q (ninS (Ne.symm ne10) nin0) (allS ⟨_, _, f13, (w1 hw)⟩ all0)
            have f193 : OwnS Z h23 r_8 (own_pick s1 ((cc &&& (255 : Int32)).toUInt32.toUInt16.toUInt32.toInt32)) := f192.ext E23
            have f194 : OwnS Z T35.heap r_8 (own_pick s1 ((cc &&& (255 : Int32)).toUInt32.toUInt16.toUInt32.toInt32)) := f193.keep (a0 := a0) K35q nin0 all0
            have f195 : OwnS Z T44.heap r_8 (own_pick s1 ((cc &&& (255 : Int32)).toUInt32.toUInt16.toUInt32.toInt32)) := f194.keep (a0 := a0) K44q nin0 all0
            have f196 : OwnS Z T64.heap r_8 (own_pick s1 ((cc &&& (255 : Int32)).toUInt32.toUInt16.toUInt32.toInt32)) := f195.keep (a0 := a0) K64q (ninS ne30 nin0) (allS ⟨_, _, f55, (w1 hw)⟩ all0)
            have f197 : OwnS Z T44.heap r_35 (own_pick (((sel.toUInt32 >>> ((4 : Int32) &&& 31).toUInt32).toInt32) &&& (3 : Int32)) ((cc &&& (255 : Int32)).toUInt32.toUInt16.toUInt32.toInt32)) := c35_1.keep (a0 := a0) K44q nin0 all0
            have f198 : OwnS Z T64.heap r_35 (own_pick (((sel.toUInt32 >>> ((4 : Int32) &&& 31).toUInt32).toInt32) &&& (3 : Int32)) ((cc &&& (255 : Int32)).toUInt32.toUInt16.toUInt32.toInt32)) := f197.keep (a0 := a0) K64q (ninS (Ne.symm ne42) nin0) (allS ⟨_, _, f55, (w1 hw)⟩ all0)
            have f199 : OwnS Z T64.heap r_44 (own_pick s2 ((cc &&& (255 : Int32)).toUInt32.toUInt16.toUInt32.toInt32)) := c44_1.keep (a0 := a0) K64q (ninS (Ne.symm ne52) nin0) (allS ⟨_, _, f55, (w1 hw)⟩ all0)
            obtain ⟨cq200, kq200, q200a, q200b, q200c⟩ := isOf hZ rfl f177
            obtain ⟨_, _, ⟨T200, L200, k200, n200⟩, -, X200, hS200, hG200, ⟨Lc200, hQ200, l200, y200, z200⟩, st200⟩ := X64.virtualBackS hx (y := (⟨"org/pathbind/MediaType", "includes", "(Lorg/pathbind/MediaType;)Z"⟩ : MethodName)) (z := (⟨"org/pathbind/MediaType", "includes", "(Lorg/pathbind/MediaType;)Z"⟩ : MethodName)) hown (mvT hZ (w54 hw)) (mvT hZ (w55 hw)) (notFace_of_selects (args := #[]) (mvT hZ (w57 hw))) (mvT hZ (w57 hw)) (mvT hZ (w56 hw)) (by decide) (own_backJ (J := fun vm_ => OwnI Z vm_ T64.heap) (Q := Q10 Z b1 b23 cs r_5 r_8 r_35 r_44 (own_pick (sel &&& (3 : Int32)) ((cc &&& (255 : Int32)).toUInt32.toUInt16.toUInt32.toInt32)) (own_pick s1 ((cc &&& (255 : Int32)).toUInt32.toUInt16.toUInt32.toInt32)) (own_pick (((sel.toUInt32 >>> ((4 : Int32) &&& 31).toUInt32).toInt32) &&& (3 : Int32)) ((cc &&& (255 : Int32)).toUInt32.toUInt16.toUInt32.toInt32)) (own_pick s2 ((cc &&& (255 : Int32)).toUInt32.toUInt16.toUInt32.toInt32)) T64.heap n0) (W := 0) (rm10 l Z a0 hw [] b1 b23 cs r_5 r_8 r_35 r_44 (own_pick (sel &&& (3 : Int32)) ((cc &&& (255 : Int32)).toUInt32.toUInt16.toUInt32.toInt32)) (own_pick s1 ((cc &&& (255 : Int32)).toUInt32.toUInt16.toUInt32.toInt32)) (own_pick (((sel.toUInt32 >>> ((4 : Int32) &&& 31).toUInt32).toInt32) &&& (3 : Int32)) ((cc &&& (255 : Int32)).toUInt32.toUInt16.toUInt32.toInt32)) (own_pick s2 ((cc &&& (255 : Int32)).toUInt32.toUInt16.toUInt32.toInt32)) T64.heap n0 Z64 f173 P1 P2 f177 c64_0 f181 f185 c64_1 c64_2 f191 f196 f198 f199 P3 P4) hZ (w58 hw) (w2 hw) (by decide) (by decide)) q200a q200c (g := (mkF m 126 #[.val (.int cc), .val (.int sel), .val (.int ((cc &&& (255 : Int32)).toUInt32.toUInt16.toUInt32.toInt32)), .val (.int (sel &&& (3 : Int32))), .val (.int s1), .val (.int (((sel.toUInt32 >>> ((4 : Int32) &&& 31).toUInt32).toInt32) &&& (3 : Int32))), .val (.int s2), .val (.ref b1), .val (.ref b23), .val (.int (0 : Int32))] [(.ref b23), (.ref b1)])) rfl (by rw [hml]; rfl) (Steps.refl _) (argsL := [(.ref b23)]) (rest := []) (lenOf pd_5 rfl) rfl (by show 2 * 0 + _ ≤ _; exact Nat.le_of_eq rfl) (hb hby at_126) (fun _ hWx => ⟨rfl, rfl, hJ0.warm hWx, (by decide : 14 + 2 ≤ _), (by decide : 40 + 8 ≤ _)⟩)
            dsimp only [Pt.U, Pt.locs, Pt.cells, Pt.slots] at X200 l200 y200 z200 st200 hQ200 hS200 hG200
            have f201 : 0 ≤ h1.size := Nat.le_trans (Nat.zero_le _) E1.1
            have f202 : 0 ≤ T5.heap.size := Nat.le_trans f201 K5q.1
            have f203 : 0 ≤ T8.heap.size := Nat.le_trans f202 K8q.1
            have f204 : 0 ≤ T22.heap.size := Nat.le_trans f203 K22q.1
            have f205 : 0 ≤ h23.size := Nat.le_trans f204 E23.1
            have f206 : 0 ≤ T35.heap.size := Nat.le_trans f205 K35q.1
            have f207 : 0 ≤ T44.heap.size := Nat.le_trans f206 K44q.1
            have f208 : 0 ≤ T64.heap.size := Nat.le_trans f207 K64q.1
            obtain ⟨X200, hS200, hZ, hown⟩ := rebS hS0 f208 X200 hS200 hG200 hZ hown
            replace X200 := own_num (c' := 16) (n' := 48) X200 l200 (y200.trans rfl) (z200.trans rfl)
            obtain ⟨rfl, N200q, K200q⟩ := hQ200
            have N200 := Fr.app N64 N200q
            have Z200 : n0 ≤ T200.heap.size := Nat.le_trans Z64 K200q.1
            have K200 : Keep h0 T200.heap [] := K64.trans K200q all0
            have hk200 : T200.heap.size ≤ T200.heap.size := Nat.le_refl _
            refine own_trJ st200 ?_
            show OwnGoJ p e below s _ _ _ (T200.setTop (mkF m 129 #[.val (.int cc), .val (.int sel), .val (.int ((cc &&& (255 : Int32)).toUInt32.toUInt16.toUInt32.toInt32)), .val (.int (sel &&& (3 : Int32))), .val (.int s1), .val (.int (((sel.toUInt32 >>> ((4 : Int32) &&& 31).toUInt32).toInt32) &&& (3 : Int32))), .val (.int s2), .val (.ref b1), .val (.ref b23), .val (.int (0 : Int32))] [(.int (own_inc (own_pick (sel &&& (3 : Int32)) ((cc &&& (255 : Int32)).toUInt32.toUInt16.toUInt32.toInt32)) (own_pick s1 ((cc &&& (255 : Int32)).toUInt32.toUInt16.toUInt32.toInt32)) (own_pick (((sel.toUInt32 >>> ((4 : Int32) &&& 31).toUInt32).toInt32) &&& (3 : Int32)) ((cc &&& (255 : Int32)).toUInt32.toUInt16.toUInt32.toInt32)) (own_pick s2 ((cc &&& (255 : Int32)).toUInt32.toUInt16.toUInt32.toInt32))))]))
            refine own_onJ (fun t_ k_ => XS.iload X200.here hx rfl (hb hby at_129) rfl k_) ?_
            show OwnGoJ p e below s _ _ _ (T200.setTop (mkF m 131 #[.val (.int cc), .val (.int sel), .val (.int ((cc &&& (255 : Int32)).toUInt32.toUInt16.toUInt32.toInt32)), .val (.int (sel &&& (3 : Int32))), .val (.int s1), .val (.int (((sel.toUInt32 >>> ((4 : Int32) &&& 31).toUInt32).toInt32) &&& (3 : Int32))), .val (.int s2), .val (.ref b1), .val (.ref b23), .val (.int (0 : Int32))] [(.int (0 : Int32)), (.int (own_inc (own_pick (sel &&& (3 : Int32)) ((cc &&& (255 : Int32)).toUInt32.toUInt16.toUInt32.toInt32)) (own_pick s1 ((cc &&& (255 : Int32)).toUInt32.toUInt16.toUInt32.toInt32)) (own_pick (((sel.toUInt32 >>> ((4 : Int32) &&& 31).toUInt32).toInt32) &&& (3 : Int32)) ((cc &&& (255 : Int32)).toUInt32.toUInt16.toUInt32.toInt32)) (own_pick s2 ((cc &&& (255 : Int32)).toUInt32.toUInt16.toUInt32.toInt32))))]))
            refine own_onJ (fun t_ k_ => XS.icmpNo X200.here hx rfl (hb hby at_131) rfl (teq ((own_fin _ _ _ _ _ ht1 hs1 ht2 hs2).trans (by rw [if_neg q0, if_pos q1, if_neg q2, if_neg q3]) : (own_inc (own_pick (sel &&& (3 : Int32)) ((cc &&& (255 : Int32)).toUInt32.toUInt16.toUInt32.toInt32)) (own_pick s1 ((cc &&& (255 : Int32)).toUInt32.toUInt16.toUInt32.toInt32)) (own_pick (((sel.toUInt32 >>> ((4 : Int32) &&& 31).toUInt32).toInt32) &&& (3 : Int32)) ((cc &&& (255 : Int32)).toUInt32.toUInt16.toUInt32.toInt32)) (own_pick s2 ((cc &&& (255 : Int32)).toUInt32.toUInt16.toUInt32.toInt32))) = (0 : Int32))).2 k_) ?_
            show OwnGoJ p e below s _ _ _ (T200.setTop (mkF m 134 #[.val (.int cc), .val (.int sel), .val (.int ((cc &&& (255 : Int32)).toUInt32.toUInt16.toUInt32.toInt32)), .val (.int (sel &&& (3 : Int32))), .val (.int s1), .val (.int (((sel.toUInt32 >>> ((4 : Int32) &&& 31).toUInt32).toInt32) &&& (3 : Int32))), .val (.int s2), .val (.ref b1), .val (.ref b23), .val (.int (0 : Int32))] []))
            refine own_onJ (fun t_ k_ => XS.iconst X200.here hx rfl (hb hby at_134) k_) ?_
            show OwnGoJ p e below s _ _ _ (T200.setTop (mkF m 135 #[.val (.int cc), .val (.int sel), .val (.int ((cc &&& (255 : Int32)).toUInt32.toUInt16.toUInt32.toInt32)), .val (.int (sel &&& (3 : Int32))), .val (.int s1), .val (.int (((sel.toUInt32 >>> ((4 : Int32) &&& 31).toUInt32).toInt32) &&& (3 : Int32))), .val (.int s2), .val (.ref b1), .val (.ref b23), .val (.int (0 : Int32))] [(.int (1 : Int32))]))
            refine own_onJ (fun t_ k_ => XS.goto X200.here hx rfl (pc0 := 135) (pc' := 139) rfl (hb hby at_135) (by decide) (by decide) k_) ?_
            show OwnGoJ p e below s _ _ _ (T200.setTop (mkF m 139 #[.val (.int cc), .val (.int sel), .val (.int ((cc &&& (255 : Int32)).toUInt32.toUInt16.toUInt32.toInt32)), .val (.int (sel &&& (3 : Int32))), .val (.int s1), .val (.int (((sel.toUInt32 >>> ((4 : Int32) &&& 31).toUInt32).toInt32) &&& (3 : Int32))), .val (.int s2), .val (.ref b1), .val (.ref b23), .val (.int (0 : Int32))] [(.int (1 : Int32))]))
            exact own_retNJ X200 hx hlk (t := .boolean) Bd.returns (by simp) (hb hby at_139) rfl ⟨rfl, N200, K200⟩ (by decide) (by decide) hS200 hk200
      · refine own_onJ (fun t_ k_ => XS.icmpYes X64.here hx rfl (pc0 := 100) (pc' := 119) rfl (hb hby at_100) rfl (feq q1).2 (by decide) (by decide) k_) ?_
        show OwnGoJ p e below s _ _ _ (T64.setTop (mkF m 119 #[.val (.int cc), .val (.int sel), .val (.int ((cc &&& (255 : Int32)).toUInt32.toUInt16.toUInt32.toInt32)), .val (.int (sel &&& (3 : Int32))), .val (.int s1), .val (.int (((sel.toUInt32 >>> ((4 : Int32) &&& 31).toUInt32).toInt32) &&& (3 : Int32))), .val (.int s2), .val (.ref b1), .val (.ref b23), .unset] []))
        refine own_onJ (fun t_ k_ => XS.iconst X64.here hx rfl (hb hby at_119) k_) ?_
        show OwnGoJ p e below s _ _ _ (T64.setTop (mkF m 120 #[.val (.int cc), .val (.int sel), .val (.int ((cc &&& (255 : Int32)).toUInt32.toUInt16.toUInt32.toInt32)), .val (.int (sel &&& (3 : Int32))), .val (.int s1), .val (.int (((sel.toUInt32 >>> ((4 : Int32) &&& 31).toUInt32).toInt32) &&& (3 : Int32))), .val (.int s2), .val (.ref b1), .val (.ref b23), .unset] [(.int (0 : Int32))]))
        refine own_onJ (fun t_ k_ => XS.istore X64.here hx rfl (hb hby at_120) rfl (l' := #[.val (.int cc), .val (.int sel), .val (.int ((cc &&& (255 : Int32)).toUInt32.toUInt16.toUInt32.toInt32)), .val (.int (sel &&& (3 : Int32))), .val (.int s1), .val (.int (((sel.toUInt32 >>> ((4 : Int32) &&& 31).toUInt32).toInt32) &&& (3 : Int32))), .val (.int s2), .val (.ref b1), .val (.ref b23), .val (.int (0 : Int32))]) rfl k_) ?_
        show OwnGoJ p e below s _ _ _ (T64.setTop (mkF m 122 #[.val (.int cc), .val (.int sel), .val (.int ((cc &&& (255 : Int32)).toUInt32.toUInt16.toUInt32.toInt32)), .val (.int (sel &&& (3 : Int32))), .val (.int s1), .val (.int (((sel.toUInt32 >>> ((4 : Int32) &&& 31).toUInt32).toInt32) &&& (3 : Int32))), .val (.int s2), .val (.ref b1), .val (.ref b23), .val (.int (0 : Int32))] []))
        refine own_onJ (fun t_ k_ => XS.aload X64.here hx rfl (hb hby at_122) rfl rfl k_) ?_
        show OwnGoJ p e below s _ _ _ (T64.setTop (mkF m 124 #[.val (.int cc), .val (.int sel), .val (.int ((cc &&& (255 : Int32)).toUInt32.toUInt16.toUInt32.toInt32)), .val (.int (sel &&& (3 : Int32))), .val (.int s1), .val (.int (((sel.toUInt32 >>> ((4 : Int32) &&& 31).toUInt32).toInt32) &&& (3 : Int32))), .val (.int s2), .val (.ref b1), .val (.ref b23), .val (.int (0 : Int32))] [(.ref b1)]))
        refine own_onJ (fun t_ k_ => XS.aload X64.here hx rfl (hb hby at_124) rfl rfl k_) ?_
        show OwnGoJ p e below s _ _ _ (T64.setTop (mkF m 126 #[.val (.int cc), .val (.int sel), .val (.int ((cc &&& (255 : Int32)).toUInt32.toUInt16.toUInt32.toInt32)), .val (.int (sel &&& (3 : Int32))), .val (.int s1), .val (.int (((sel.toUInt32 >>> ((4 : Int32) &&& 31).toUInt32).toInt32) &&& (3 : Int32))), .val (.int s2), .val (.ref b1), .val (.ref b23), .val (.int (0 : Int32))] [(.ref b23), (.ref b1)]))
        have f209 : Old Z n0 T64.heap := c44_4.keep K64q (allS g31 all0)
        have f210 : Exa Z h23 b1 "org/pathbind/MediaType" := c22_0.ext E23
        have f211 : Exa Z T35.heap b1 "org/pathbind/MediaType" := f210.keep K35q
        have f212 : Exa Z T44.heap b1 "org/pathbind/MediaType" := f211.keep K44q
        have f213 : Exa Z T64.heap b1 "org/pathbind/MediaType" := f212.keep K64q
        have f214 : Fld Z h23 b1 "org/pathbind/MediaType" "type" "Ljava/lang/String;" (.ref r_5) := c22_1.ext E23
        have f215 : Fld Z T35.heap b1 "org/pathbind/MediaType" "type" "Ljava/lang/String;" (.ref r_5) := f214.keep K35q nin0
        have f216 : Fld Z T44.heap b1 "org/pathbind/MediaType" "type" "Ljava/lang/String;" (.ref r_5) := f215.keep K44q nin0
        have f217 : Fld Z T64.heap b1 "org/pathbind/MediaType" "type" "Ljava/lang/String;" (.ref r_5) := f216.keep K64q (ninS ne25 nin0)
        have f218 : Fld Z h23 b1 "org/pathbind/MediaType" "subtype" "Ljava/lang/String;" (.ref r_8) := c22_2.ext E23
        have f219 : Fld Z T35.heap b1 "org/pathbind/MediaType" "subtype" "Ljava/lang/String;" (.ref r_8) := f218.keep K35q nin0
        have f220 : Fld Z T44.heap b1 "org/pathbind/MediaType" "subtype" "Ljava/lang/String;" (.ref r_8) := f219.keep K44q nin0
        have f221 : Fld Z T64.heap b1 "org/pathbind/MediaType" "subtype" "Ljava/lang/String;" (.ref r_8) := f220.keep K64q (ninS ne25 nin0)
        have f222 : OwnS Z T8.heap r_5 (own_pick (sel &&& (3 : Int32)) ((cc &&& (255 : Int32)).toUInt32.toUInt16.toUInt32.toInt32)) := c5_1.keep (a0 := a0) K8q nin0 all0
        have f223 : OwnS Z T22.heap r_5 (own_pick (sel &&& (3 : Int32)) ((cc &&& (255 : Int32)).toUInt32.toUInt16.toUInt32.toInt32)) := f222.keep (a0 := a0) K22q (ninS (Ne.symm ne6) nin0) (allS ⟨_, _, f13, (w1 hw)⟩ all0)
        have f224 : OwnS Z h23 r_5 (own_pick (sel &&& (3 : Int32)) ((cc &&& (255 : Int32)).toUInt32.toUInt16.toUInt32.toInt32)) := f223.ext E23
        have f225 : OwnS Z T35.heap r_5 (own_pick (sel &&& (3 : Int32)) ((cc &&& (255 : Int32)).toUInt32.toUInt16.toUInt32.toInt32)) := f224.keep (a0 := a0) K35q nin0 all0
        have f226 : OwnS Z T44.heap r_5 (own_pick (sel &&& (3 : Int32)) ((cc &&& (255 : Int32)).toUInt32.toUInt16.toUInt32.toInt32)) := f225.keep (a0 := a0) K44q nin0 all0
        have f227 : OwnS Z T64.heap r_5 (own_pick (sel &&& (3 : Int32)) ((cc &&& (255 : Int32)).toUInt32.toUInt16.toUInt32.toInt32)) := f226.keep (a0 := a0) K64q (ninS ne28 nin0) (allS ⟨_, _, f55, (w1 hw)⟩ all0)
        have f228 : OwnS Z T22.heap r_8 (own_pick s1 ((cc &&& (255 : Int32)).toUInt32.toUInt16.toUInt32.toInt32)) := c8_1.keep (a0 := a0) K22q (ninS (Ne.symm ne10) nin0) (allS ⟨_, _, f13, (w1 hw)⟩ all0)
        have f229 : OwnS Z h23 r_8 (own_pick s1 ((cc &&& (255 : Int32)).toUInt32.toUInt16.toUInt32.toInt32)) := f228.ext E23
        have f230 : OwnS Z T35.heap r_8 (own_pick s1 ((cc &&& (255 : Int32)).toUInt32.toUInt16.toUInt32.toInt32)) := f229.keep (a0 := a0) K35q nin0 all0
        have f231 : OwnS Z T44.heap r_8 (own_pick s1 ((cc &&& (255 : Int32)).toUInt32.toUInt16.toUInt32.toInt32)) := f230.keep (a0 := a0) K44q nin0 all0
        have f232 : OwnS Z T64.heap r_8 (own_pick s1 ((cc &&& (255 : Int32)).toUInt32.toUInt16.toUInt32.toInt32)) := f231.keep (a0 := a0) K64q (ninS ne30 nin0) (allS ⟨_, _, f55, (w1 hw)⟩ all0)
        have f233 : OwnS Z T44.heap r_35 (own_pick (((sel.toUInt32 >>> ((4 : Int32) &&& 31).toUInt32).toInt32) &&& (3 : Int32)) ((cc &&& (255 : Int32)).toUInt32.toUInt16.toUInt32.toInt32)) := c35_1.keep (a0 := a0) K44q nin0 all0
        have f234 : OwnS Z T64.heap r_35 (own_pick (((sel.toUInt32 >>> ((4 : Int32) &&& 31).toUInt32).toInt32) &&& (3 : Int32)) ((cc &&& (255 : Int32)).toUInt32.toUInt16.toUInt32.toInt32)) := f233.keep (a0 := a0) K64q (ninS (Ne.symm ne42) nin0) (allS ⟨_, _, f55, (w1 hw)⟩ all0)
        have f235 : OwnS Z T64.heap r_44 (own_pick s2 ((cc &&& (255 : Int32)).toUInt32.toUInt16.toUInt32.toInt32)) := c44_1.keep (a0 := a0) K64q (ninS (Ne.symm ne52) nin0) (allS ⟨_, _, f55, (w1 hw)⟩ all0)
        obtain ⟨cq236, kq236, q236a, q236b, q236c⟩ := isOf hZ rfl f213
        obtain ⟨_, _, ⟨T236, L236, k236, n236⟩, -, X236, hS236, hG236, ⟨Lc236, hQ236, l236, y236, z236⟩, st236⟩ := X64.virtualBackS hx (y := (⟨"org/pathbind/MediaType", "includes", "(Lorg/pathbind/MediaType;)Z"⟩ : MethodName)) (z := (⟨"org/pathbind/MediaType", "includes", "(Lorg/pathbind/MediaType;)Z"⟩ : MethodName)) hown (mvT hZ (w54 hw)) (mvT hZ (w55 hw)) (notFace_of_selects (args := #[]) (mvT hZ (w57 hw))) (mvT hZ (w57 hw)) (mvT hZ (w56 hw)) (by decide) (own_backJ (J := fun vm_ => OwnI Z vm_ T64.heap) (Q := Q10 Z b1 b23 cs r_5 r_8 r_35 r_44 (own_pick (sel &&& (3 : Int32)) ((cc &&& (255 : Int32)).toUInt32.toUInt16.toUInt32.toInt32)) (own_pick s1 ((cc &&& (255 : Int32)).toUInt32.toUInt16.toUInt32.toInt32)) (own_pick (((sel.toUInt32 >>> ((4 : Int32) &&& 31).toUInt32).toInt32) &&& (3 : Int32)) ((cc &&& (255 : Int32)).toUInt32.toUInt16.toUInt32.toInt32)) (own_pick s2 ((cc &&& (255 : Int32)).toUInt32.toUInt16.toUInt32.toInt32)) T64.heap n0) (W := 0) (rm10 l Z a0 hw [] b1 b23 cs r_5 r_8 r_35 r_44 (own_pick (sel &&& (3 : Int32)) ((cc &&& (255 : Int32)).toUInt32.toUInt16.toUInt32.toInt32)) (own_pick s1 ((cc &&& (255 : Int32)).toUInt32.toUInt16.toUInt32.toInt32)) (own_pick (((sel.toUInt32 >>> ((4 : Int32) &&& 31).toUInt32).toInt32) &&& (3 : Int32)) ((cc &&& (255 : Int32)).toUInt32.toUInt16.toUInt32.toInt32)) (own_pick s2 ((cc &&& (255 : Int32)).toUInt32.toUInt16.toUInt32.toInt32)) T64.heap n0 Z64 f209 P1 P2 f213 c64_0 f217 f221 c64_1 c64_2 f227 f232 f234 f235 P3 P4) hZ (w58 hw) (w2 hw) (by decide) (by decide)) q236a q236c (g := (mkF m 126 #[.val (.int cc), .val (.int sel), .val (.int ((cc &&& (255 : Int32)).toUInt32.toUInt16.toUInt32.toInt32)), .val (.int (sel &&& (3 : Int32))), .val (.int s1), .val (.int (((sel.toUInt32 >>> ((4 : Int32) &&& 31).toUInt32).toInt32) &&& (3 : Int32))), .val (.int s2), .val (.ref b1), .val (.ref b23), .val (.int (0 : Int32))] [(.ref b23), (.ref b1)])) rfl (by rw [hml]; rfl) (Steps.refl _) (argsL := [(.ref b23)]) (rest := []) (lenOf pd_5 rfl) rfl (by show 2 * 0 + _ ≤ _; exact Nat.le_of_eq rfl) (hb hby at_126) (fun _ hWx => ⟨rfl, rfl, hJ0.warm hWx, (by decide : 14 + 2 ≤ _), (by decide : 40 + 8 ≤ _)⟩)
        dsimp only [Pt.U, Pt.locs, Pt.cells, Pt.slots] at X236 l236 y236 z236 st236 hQ236 hS236 hG236
        have f237 : 0 ≤ h1.size := Nat.le_trans (Nat.zero_le _) E1.1
        have f238 : 0 ≤ T5.heap.size := Nat.le_trans f237 K5q.1
        have f239 : 0 ≤ T8.heap.size := Nat.le_trans f238 K8q.1
        have f240 : 0 ≤ T22.heap.size := Nat.le_trans f239 K22q.1
        have f241 : 0 ≤ h23.size := Nat.le_trans f240 E23.1
        have f242 : 0 ≤ T35.heap.size := Nat.le_trans f241 K35q.1
        have f243 : 0 ≤ T44.heap.size := Nat.le_trans f242 K44q.1
        have f244 : 0 ≤ T64.heap.size := Nat.le_trans f243 K64q.1
        obtain ⟨X236, hS236, hZ, hown⟩ := rebS hS0 f244 X236 hS236 hG236 hZ hown
        replace X236 := own_num (c' := 16) (n' := 48) X236 l236 (y236.trans rfl) (z236.trans rfl)
        obtain ⟨rfl, N236q, K236q⟩ := hQ236
        have N236 := Fr.app N64 N236q
        have Z236 : n0 ≤ T236.heap.size := Nat.le_trans Z64 K236q.1
        have K236 : Keep h0 T236.heap [] := K64.trans K236q all0
        have hk236 : T236.heap.size ≤ T236.heap.size := Nat.le_refl _
        refine own_trJ st236 ?_
        show OwnGoJ p e below s _ _ _ (T236.setTop (mkF m 129 #[.val (.int cc), .val (.int sel), .val (.int ((cc &&& (255 : Int32)).toUInt32.toUInt16.toUInt32.toInt32)), .val (.int (sel &&& (3 : Int32))), .val (.int s1), .val (.int (((sel.toUInt32 >>> ((4 : Int32) &&& 31).toUInt32).toInt32) &&& (3 : Int32))), .val (.int s2), .val (.ref b1), .val (.ref b23), .val (.int (0 : Int32))] [(.int (own_inc (own_pick (sel &&& (3 : Int32)) ((cc &&& (255 : Int32)).toUInt32.toUInt16.toUInt32.toInt32)) (own_pick s1 ((cc &&& (255 : Int32)).toUInt32.toUInt16.toUInt32.toInt32)) (own_pick (((sel.toUInt32 >>> ((4 : Int32) &&& 31).toUInt32).toInt32) &&& (3 : Int32)) ((cc &&& (255 : Int32)).toUInt32.toUInt16.toUInt32.toInt32)) (own_pick s2 ((cc &&& (255 : Int32)).toUInt32.toUInt16.toUInt32.toInt32))))]))
        refine own_onJ (fun t_ k_ => XS.iload X236.here hx rfl (hb hby at_129) rfl k_) ?_
        show OwnGoJ p e below s _ _ _ (T236.setTop (mkF m 131 #[.val (.int cc), .val (.int sel), .val (.int ((cc &&& (255 : Int32)).toUInt32.toUInt16.toUInt32.toInt32)), .val (.int (sel &&& (3 : Int32))), .val (.int s1), .val (.int (((sel.toUInt32 >>> ((4 : Int32) &&& 31).toUInt32).toInt32) &&& (3 : Int32))), .val (.int s2), .val (.ref b1), .val (.ref b23), .val (.int (0 : Int32))] [(.int (0 : Int32)), (.int (own_inc (own_pick (sel &&& (3 : Int32)) ((cc &&& (255 : Int32)).toUInt32.toUInt16.toUInt32.toInt32)) (own_pick s1 ((cc &&& (255 : Int32)).toUInt32.toUInt16.toUInt32.toInt32)) (own_pick (((sel.toUInt32 >>> ((4 : Int32) &&& 31).toUInt32).toInt32) &&& (3 : Int32)) ((cc &&& (255 : Int32)).toUInt32.toUInt16.toUInt32.toInt32)) (own_pick s2 ((cc &&& (255 : Int32)).toUInt32.toUInt16.toUInt32.toInt32))))]))
        refine own_onJ (fun t_ k_ => XS.icmpNo X236.here hx rfl (hb hby at_131) rfl (teq ((own_fin _ _ _ _ _ ht1 hs1 ht2 hs2).trans (by rw [if_neg q0, if_neg q1]) : (own_inc (own_pick (sel &&& (3 : Int32)) ((cc &&& (255 : Int32)).toUInt32.toUInt16.toUInt32.toInt32)) (own_pick s1 ((cc &&& (255 : Int32)).toUInt32.toUInt16.toUInt32.toInt32)) (own_pick (((sel.toUInt32 >>> ((4 : Int32) &&& 31).toUInt32).toInt32) &&& (3 : Int32)) ((cc &&& (255 : Int32)).toUInt32.toUInt16.toUInt32.toInt32)) (own_pick s2 ((cc &&& (255 : Int32)).toUInt32.toUInt16.toUInt32.toInt32))) = (0 : Int32))).2 k_) ?_
        show OwnGoJ p e below s _ _ _ (T236.setTop (mkF m 134 #[.val (.int cc), .val (.int sel), .val (.int ((cc &&& (255 : Int32)).toUInt32.toUInt16.toUInt32.toInt32)), .val (.int (sel &&& (3 : Int32))), .val (.int s1), .val (.int (((sel.toUInt32 >>> ((4 : Int32) &&& 31).toUInt32).toInt32) &&& (3 : Int32))), .val (.int s2), .val (.ref b1), .val (.ref b23), .val (.int (0 : Int32))] []))
        refine own_onJ (fun t_ k_ => XS.iconst X236.here hx rfl (hb hby at_134) k_) ?_
        show OwnGoJ p e below s _ _ _ (T236.setTop (mkF m 135 #[.val (.int cc), .val (.int sel), .val (.int ((cc &&& (255 : Int32)).toUInt32.toUInt16.toUInt32.toInt32)), .val (.int (sel &&& (3 : Int32))), .val (.int s1), .val (.int (((sel.toUInt32 >>> ((4 : Int32) &&& 31).toUInt32).toInt32) &&& (3 : Int32))), .val (.int s2), .val (.ref b1), .val (.ref b23), .val (.int (0 : Int32))] [(.int (1 : Int32))]))
        refine own_onJ (fun t_ k_ => XS.goto X236.here hx rfl (pc0 := 135) (pc' := 139) rfl (hb hby at_135) (by decide) (by decide) k_) ?_
        show OwnGoJ p e below s _ _ _ (T236.setTop (mkF m 139 #[.val (.int cc), .val (.int sel), .val (.int ((cc &&& (255 : Int32)).toUInt32.toUInt16.toUInt32.toInt32)), .val (.int (sel &&& (3 : Int32))), .val (.int s1), .val (.int (((sel.toUInt32 >>> ((4 : Int32) &&& 31).toUInt32).toInt32) &&& (3 : Int32))), .val (.int s2), .val (.ref b1), .val (.ref b23), .val (.int (0 : Int32))] [(.int (1 : Int32))]))
        exact own_retNJ X236 hx hlk (t := .boolean) Bd.returns (by simp) (hb hby at_139) rfl ⟨rfl, N236, K236⟩ (by decide) (by decide) hS236 hk236
  refine own_onJ (fun t_ k_ => XS.iloadN X0.here hx rfl (hb hby at_33) rfl k_) ?_
  show OwnGoJ p e below s _ _ _ (s₁.setTop (mkF m 34 #[.val (.int cc), .val (.int sel), .val (.int ((cc &&& (255 : Int32)).toUInt32.toUInt16.toUInt32.toInt32)), .val (.int (sel &&& (3 : Int32))), .val (.int (((sel.toUInt32 >>> ((2 : Int32) &&& 31).toUInt32).toInt32) &&& (3 : Int32))), .val (.int (((sel.toUInt32 >>> ((4 : Int32) &&& 31).toUInt32).toInt32) &&& (3 : Int32))), .val (.int (((sel.toUInt32 >>> ((6 : Int32) &&& 31).toUInt32).toInt32) &&& (3 : Int32))), .unset, .unset, .unset] [(.int (sel &&& (3 : Int32)))]))
  by_cases p0 : (sel &&& (3 : Int32)) = (0 : Int32)
  · refine own_onJ (fun t_ k_ => XS.ifNo X0.here hx rfl (hb hby at_34) rfl ((if0 _ _).trans (teq p0).2) k_) ?_
    show OwnGoJ p e below s _ _ _ (s₁.setTop (mkF m 37 #[.val (.int cc), .val (.int sel), .val (.int ((cc &&& (255 : Int32)).toUInt32.toUInt16.toUInt32.toInt32)), .val (.int (sel &&& (3 : Int32))), .val (.int (((sel.toUInt32 >>> ((2 : Int32) &&& 31).toUInt32).toInt32) &&& (3 : Int32))), .val (.int (((sel.toUInt32 >>> ((4 : Int32) &&& 31).toUInt32).toInt32) &&& (3 : Int32))), .val (.int (((sel.toUInt32 >>> ((6 : Int32) &&& 31).toUInt32).toInt32) &&& (3 : Int32))), .unset, .unset, .unset] []))
    refine own_onJ (fun t_ k_ => XS.iconst X0.here hx rfl (hb hby at_37) k_) ?_
    show OwnGoJ p e below s _ _ _ (s₁.setTop (mkF m 38 #[.val (.int cc), .val (.int sel), .val (.int ((cc &&& (255 : Int32)).toUInt32.toUInt16.toUInt32.toInt32)), .val (.int (sel &&& (3 : Int32))), .val (.int (((sel.toUInt32 >>> ((2 : Int32) &&& 31).toUInt32).toInt32) &&& (3 : Int32))), .val (.int (((sel.toUInt32 >>> ((4 : Int32) &&& 31).toUInt32).toInt32) &&& (3 : Int32))), .val (.int (((sel.toUInt32 >>> ((6 : Int32) &&& 31).toUInt32).toInt32) &&& (3 : Int32))), .unset, .unset, .unset] [(.int (0 : Int32))]))
    refine own_onJ (fun t_ k_ => XS.istore X0.here hx rfl (hb hby at_38) rfl (l' := #[.val (.int cc), .val (.int sel), .val (.int ((cc &&& (255 : Int32)).toUInt32.toUInt16.toUInt32.toInt32)), .val (.int (sel &&& (3 : Int32))), .val (.int (0 : Int32)), .val (.int (((sel.toUInt32 >>> ((4 : Int32) &&& 31).toUInt32).toInt32) &&& (3 : Int32))), .val (.int (((sel.toUInt32 >>> ((6 : Int32) &&& 31).toUInt32).toInt32) &&& (3 : Int32))), .unset, .unset, .unset]) rfl k_) ?_
    show OwnGoJ p e below s _ _ _ (s₁.setTop (mkF m 40 #[.val (.int cc), .val (.int sel), .val (.int ((cc &&& (255 : Int32)).toUInt32.toUInt16.toUInt32.toInt32)), .val (.int (sel &&& (3 : Int32))), .val (.int (0 : Int32)), .val (.int (((sel.toUInt32 >>> ((4 : Int32) &&& 31).toUInt32).toInt32) &&& (3 : Int32))), .val (.int (((sel.toUInt32 >>> ((6 : Int32) &&& 31).toUInt32).toInt32) &&& (3 : Int32))), .unset, .unset, .unset] []))
    refine own_onJ (fun t_ k_ => XS.iload X0.here hx rfl (hb hby at_40) rfl k_) ?_
    show OwnGoJ p e below s _ _ _ (s₁.setTop (mkF m 42 #[.val (.int cc), .val (.int sel), .val (.int ((cc &&& (255 : Int32)).toUInt32.toUInt16.toUInt32.toInt32)), .val (.int (sel &&& (3 : Int32))), .val (.int (0 : Int32)), .val (.int (((sel.toUInt32 >>> ((4 : Int32) &&& 31).toUInt32).toInt32) &&& (3 : Int32))), .val (.int (((sel.toUInt32 >>> ((6 : Int32) &&& 31).toUInt32).toInt32) &&& (3 : Int32))), .unset, .unset, .unset] [(.int (((sel.toUInt32 >>> ((4 : Int32) &&& 31).toUInt32).toInt32) &&& (3 : Int32)))]))
    by_cases p1 : (((sel.toUInt32 >>> ((4 : Int32) &&& 31).toUInt32).toInt32) &&& (3 : Int32)) = (0 : Int32)
    · refine own_onJ (fun t_ k_ => XS.ifNo X0.here hx rfl (hb hby at_42) rfl ((if0 _ _).trans (teq p1).2) k_) ?_
      show OwnGoJ p e below s _ _ _ (s₁.setTop (mkF m 45 #[.val (.int cc), .val (.int sel), .val (.int ((cc &&& (255 : Int32)).toUInt32.toUInt16.toUInt32.toInt32)), .val (.int (sel &&& (3 : Int32))), .val (.int (0 : Int32)), .val (.int (((sel.toUInt32 >>> ((4 : Int32) &&& 31).toUInt32).toInt32) &&& (3 : Int32))), .val (.int (((sel.toUInt32 >>> ((6 : Int32) &&& 31).toUInt32).toInt32) &&& (3 : Int32))), .unset, .unset, .unset] []))
      refine own_onJ (fun t_ k_ => XS.iconst X0.here hx rfl (hb hby at_45) k_) ?_
      show OwnGoJ p e below s _ _ _ (s₁.setTop (mkF m 46 #[.val (.int cc), .val (.int sel), .val (.int ((cc &&& (255 : Int32)).toUInt32.toUInt16.toUInt32.toInt32)), .val (.int (sel &&& (3 : Int32))), .val (.int (0 : Int32)), .val (.int (((sel.toUInt32 >>> ((4 : Int32) &&& 31).toUInt32).toInt32) &&& (3 : Int32))), .val (.int (((sel.toUInt32 >>> ((6 : Int32) &&& 31).toUInt32).toInt32) &&& (3 : Int32))), .unset, .unset, .unset] [(.int (0 : Int32))]))
      refine own_onJ (fun t_ k_ => XS.istore X0.here hx rfl (hb hby at_46) rfl (l' := #[.val (.int cc), .val (.int sel), .val (.int ((cc &&& (255 : Int32)).toUInt32.toUInt16.toUInt32.toInt32)), .val (.int (sel &&& (3 : Int32))), .val (.int (0 : Int32)), .val (.int (((sel.toUInt32 >>> ((4 : Int32) &&& 31).toUInt32).toInt32) &&& (3 : Int32))), .val (.int (0 : Int32)), .unset, .unset, .unset]) rfl k_) ?_
      show OwnGoJ p e below s _ _ _ (s₁.setTop (mkF m 48 #[.val (.int cc), .val (.int sel), .val (.int ((cc &&& (255 : Int32)).toUInt32.toUInt16.toUInt32.toInt32)), .val (.int (sel &&& (3 : Int32))), .val (.int (0 : Int32)), .val (.int (((sel.toUInt32 >>> ((4 : Int32) &&& 31).toUInt32).toInt32) &&& (3 : Int32))), .val (.int (0 : Int32)), .unset, .unset, .unset] []))
      exact J48 _ _ (Or.inl rfl) (Or.inl rfl)
    · refine own_onJ (fun t_ k_ => XS.ifYes X0.here hx rfl (pc0 := 42) (pc' := 48) rfl (hb hby at_42) rfl ((if0 _ _).trans (feq p1).2) (by decide) (by decide) k_) ?_
      show OwnGoJ p e below s _ _ _ (s₁.setTop (mkF m 48 #[.val (.int cc), .val (.int sel), .val (.int ((cc &&& (255 : Int32)).toUInt32.toUInt16.toUInt32.toInt32)), .val (.int (sel &&& (3 : Int32))), .val (.int (0 : Int32)), .val (.int (((sel.toUInt32 >>> ((4 : Int32) &&& 31).toUInt32).toInt32) &&& (3 : Int32))), .val (.int (((sel.toUInt32 >>> ((6 : Int32) &&& 31).toUInt32).toInt32) &&& (3 : Int32))), .unset, .unset, .unset] []))
      exact J48 _ _ (Or.inl rfl) (own_m3 _)
  · refine own_onJ (fun t_ k_ => XS.ifYes X0.here hx rfl (pc0 := 34) (pc' := 40) rfl (hb hby at_34) rfl ((if0 _ _).trans (feq p0).2) (by decide) (by decide) k_) ?_
    show OwnGoJ p e below s _ _ _ (s₁.setTop (mkF m 40 #[.val (.int cc), .val (.int sel), .val (.int ((cc &&& (255 : Int32)).toUInt32.toUInt16.toUInt32.toInt32)), .val (.int (sel &&& (3 : Int32))), .val (.int (((sel.toUInt32 >>> ((2 : Int32) &&& 31).toUInt32).toInt32) &&& (3 : Int32))), .val (.int (((sel.toUInt32 >>> ((4 : Int32) &&& 31).toUInt32).toInt32) &&& (3 : Int32))), .val (.int (((sel.toUInt32 >>> ((6 : Int32) &&& 31).toUInt32).toInt32) &&& (3 : Int32))), .unset, .unset, .unset] []))
    refine own_onJ (fun t_ k_ => XS.iload X0.here hx rfl (hb hby at_40) rfl k_) ?_
    show OwnGoJ p e below s _ _ _ (s₁.setTop (mkF m 42 #[.val (.int cc), .val (.int sel), .val (.int ((cc &&& (255 : Int32)).toUInt32.toUInt16.toUInt32.toInt32)), .val (.int (sel &&& (3 : Int32))), .val (.int (((sel.toUInt32 >>> ((2 : Int32) &&& 31).toUInt32).toInt32) &&& (3 : Int32))), .val (.int (((sel.toUInt32 >>> ((4 : Int32) &&& 31).toUInt32).toInt32) &&& (3 : Int32))), .val (.int (((sel.toUInt32 >>> ((6 : Int32) &&& 31).toUInt32).toInt32) &&& (3 : Int32))), .unset, .unset, .unset] [(.int (((sel.toUInt32 >>> ((4 : Int32) &&& 31).toUInt32).toInt32) &&& (3 : Int32)))]))
    by_cases p1 : (((sel.toUInt32 >>> ((4 : Int32) &&& 31).toUInt32).toInt32) &&& (3 : Int32)) = (0 : Int32)
    · refine own_onJ (fun t_ k_ => XS.ifNo X0.here hx rfl (hb hby at_42) rfl ((if0 _ _).trans (teq p1).2) k_) ?_
      show OwnGoJ p e below s _ _ _ (s₁.setTop (mkF m 45 #[.val (.int cc), .val (.int sel), .val (.int ((cc &&& (255 : Int32)).toUInt32.toUInt16.toUInt32.toInt32)), .val (.int (sel &&& (3 : Int32))), .val (.int (((sel.toUInt32 >>> ((2 : Int32) &&& 31).toUInt32).toInt32) &&& (3 : Int32))), .val (.int (((sel.toUInt32 >>> ((4 : Int32) &&& 31).toUInt32).toInt32) &&& (3 : Int32))), .val (.int (((sel.toUInt32 >>> ((6 : Int32) &&& 31).toUInt32).toInt32) &&& (3 : Int32))), .unset, .unset, .unset] []))
      refine own_onJ (fun t_ k_ => XS.iconst X0.here hx rfl (hb hby at_45) k_) ?_
      show OwnGoJ p e below s _ _ _ (s₁.setTop (mkF m 46 #[.val (.int cc), .val (.int sel), .val (.int ((cc &&& (255 : Int32)).toUInt32.toUInt16.toUInt32.toInt32)), .val (.int (sel &&& (3 : Int32))), .val (.int (((sel.toUInt32 >>> ((2 : Int32) &&& 31).toUInt32).toInt32) &&& (3 : Int32))), .val (.int (((sel.toUInt32 >>> ((4 : Int32) &&& 31).toUInt32).toInt32) &&& (3 : Int32))), .val (.int (((sel.toUInt32 >>> ((6 : Int32) &&& 31).toUInt32).toInt32) &&& (3 : Int32))), .unset, .unset, .unset] [(.int (0 : Int32))]))
      refine own_onJ (fun t_ k_ => XS.istore X0.here hx rfl (hb hby at_46) rfl (l' := #[.val (.int cc), .val (.int sel), .val (.int ((cc &&& (255 : Int32)).toUInt32.toUInt16.toUInt32.toInt32)), .val (.int (sel &&& (3 : Int32))), .val (.int (((sel.toUInt32 >>> ((2 : Int32) &&& 31).toUInt32).toInt32) &&& (3 : Int32))), .val (.int (((sel.toUInt32 >>> ((4 : Int32) &&& 31).toUInt32).toInt32) &&& (3 : Int32))), .val (.int (0 : Int32)), .unset, .unset, .unset]) rfl k_) ?_
      show OwnGoJ p e below s _ _ _ (s₁.setTop (mkF m 48 #[.val (.int cc), .val (.int sel), .val (.int ((cc &&& (255 : Int32)).toUInt32.toUInt16.toUInt32.toInt32)), .val (.int (sel &&& (3 : Int32))), .val (.int (((sel.toUInt32 >>> ((2 : Int32) &&& 31).toUInt32).toInt32) &&& (3 : Int32))), .val (.int (((sel.toUInt32 >>> ((4 : Int32) &&& 31).toUInt32).toInt32) &&& (3 : Int32))), .val (.int (0 : Int32)), .unset, .unset, .unset] []))
      exact J48 _ _ (own_m3 _) (Or.inl rfl)
    · refine own_onJ (fun t_ k_ => XS.ifYes X0.here hx rfl (pc0 := 42) (pc' := 48) rfl (hb hby at_42) rfl ((if0 _ _).trans (feq p1).2) (by decide) (by decide) k_) ?_
      show OwnGoJ p e below s _ _ _ (s₁.setTop (mkF m 48 #[.val (.int cc), .val (.int sel), .val (.int ((cc &&& (255 : Int32)).toUInt32.toUInt16.toUInt32.toInt32)), .val (.int (sel &&& (3 : Int32))), .val (.int (((sel.toUInt32 >>> ((2 : Int32) &&& 31).toUInt32).toInt32) &&& (3 : Int32))), .val (.int (((sel.toUInt32 >>> ((4 : Int32) &&& 31).toUInt32).toInt32) &&& (3 : Int32))), .val (.int (((sel.toUInt32 >>> ((6 : Int32) &&& 31).toUInt32).toInt32) &&& (3 : Int32))), .unset, .unset, .unset] []))
      exact J48 _ _ (own_m3 _) (own_m3 _)
set_option maxRecDepth 65536 in
set_option maxHeartbeats 40000000 in
theorem comes_1 {Post : Tables → Env → Array Value → State → Outcome → State → Prop} (hpost : ∀ tb e args s v u, (limb_1_1.after args s (.returned v) u = true ∧ limb_1_2.after args s (.returned v) u = true ∧ True) → ReturnedEndW s (.returned v) u (Jvm.fieldLocs frame_1_writes args s ++ Jvm.arrayLocs frame_1_arrays args s ++ Jvm.staticLocs frame_1_statics s) 40 1216 → Post tb e args s (.returned v) u) :
    ArmFor flags0 classFile x code maxLocals ret World_1 tables_1 room_1 Calls_1 rest_1 Pre_1 Post := by
  intro l hfl _ _ p e ha hc hk s m args below hf hA hF happ hP
  obtain ⟨hcalls, hrest, hpre⟩ := hP
  obtain ⟨-, -, -, hnamed, -, -, -, hat⟩ := (Spec.applies_iff hf).mp happ
  obtain ⟨hg, hn⟩ := and_e (Cond.before_iff.mp (show (Jvm.Cond.and given_1 narrow_1).before args s = true from hpre))
  obtain ⟨gc, gr0⟩ := and_e hg
  obtain ⟨gi0, gr1⟩ := and_e gr0
  have gi1 := gr1
  obtain ⟨w_0, w_1, rfl⟩ : ∃ w_0 w_1 : Value, args = #[w_0, w_1] := by
    have hs : args.size = 2 := by simpa [Cond.value, given_1] using gc
    obtain ⟨L⟩ := args
    match L, hs with
    | [w_0, w_1], _ => exact ⟨w_0, w_1, rfl⟩
  have hw := fun d (hd : d ∈ tables_1) => atoms_spec (ws := Jvm.Cond.code x code maxLocals ret :: tables_1) hat d (List.mem_cons_of_mem _ hd)
  have hfit : Fit s := fun {y c} hc i hi => by
    obtain ⟨ha, rfl⟩ := Array.getElem?_eq_some_iff.mp hc
    have q := List.all_eq_true.mp ((Array.all_eq_true_iff_forall_mem.mp hF) _ (Array.getElem_mem ha)) i (List.mem_range.mpr hi)
    simpa [Array.getElem?_eq_getElem hi] using q
  obtain ⟨hsets, hown0⟩ := atoms_of _ (rest_1_c_eq ▸ (show rest_1_c.before _ s = true from hrest))
  obtain ⟨i0, ei0⟩ := is_v gi0
  obtain rfl : w_0 = (.int i0) := Option.some.inj ei0
  obtain ⟨i1, ei1⟩ := is_v gi1
  obtain rfl : w_1 = (.int i1) := Option.some.inj ei1
  obtain ⟨cs, ecs⟩ := is_v (Cond.before_iff.mp (hsets _ (List.mem_of_getElem? (i := 1) rfl)))
  obtain ⟨n, o, h1, h2, h3, _, L, rfl, ⟨rfl, N, _⟩, hq⟩ := rm0 l s _ hw tables_1 i0 i1 cs s.heap s.heap.size (Nat.le_refl _) (Old.start s) (Sta.start ecs (Or.inl (hsets _ (List.mem_of_getElem? (i := 0) rfl)))) (own_nz ecs (Cond.before_iff.mp (hsets _ (List.mem_of_getElem? (i := 2) rfl)))) (hcalls.1 ("org/pathbind/MediaType", 52) (by simp [consts_1])) (hsets _ (List.mem_of_getElem? (i := 2) rfl)) p e ha hc hk s m _ below hf ((Spec.applies_iff_loose hf).mp happ).1 ⟨rfl, State.Warmed39.refl s, rfl, IB.start⟩ trivial
  refine ⟨n, _, h1, h2, h3, hpost _ _ _ _ _ _ ⟨Cond.after_iff.mpr rfl, Cond.after_iff.mpr (eq_i res_at (Term.int_eval (1)) rfl), trivial⟩ ⟨hq.1, hq.2.1, hq.2.2.1, (hq.2.2.2.sift fun y hy => Or.inr (N y hy)).mono (by decide) (by decide)⟩⟩
theorem main_1_1 : Claimed_1_1 := comes_1 fun _ _ _ _ _ _ h hF => ⟨h.1, hF⟩
theorem main_1_2 : Claimed_1_2 := comes_1 fun _ _ _ _ _ _ h hF => ⟨h.2.1, hF⟩
end Jvm.Pilot.@@N@@
namespace Jvm.Pilot.@@N@@
open Jvm Jvm.ClassFile Sem Op Lib Jvm.Free Jvm.Stand Jvm.Pilot.@@N@@.Jvm.D
/-! MADE BY PROGRAM (witnessworld.py) out of the Statement's table words and the real class files: 21 classes; the members and pool entries that the words name. The judged class is class 1, her method 2. -/
namespace start1
open Jvm.ClassFile
def u (s : String) : CpInfo := .utf8 (stringToUtf16 s)
/-- a pool by its gaps: so many unusable entries, then the entry; so many at the end -/
def gap : Nat → List CpInfo → List CpInfo
  | 0, r => r
  | n + 1, r => .unusable :: gap n r
def poolList (es : List (Nat × CpInfo)) (last : Nat) : List CpInfo := es.foldr (fun e r => gap e.1 (e.2 :: r)) (gap last [])
def pool (es : List (Nat × CpInfo)) (last : Nat) : Array CpInfo := ⟨poolList es last⟩
def fileOf (pool : Array CpInfo) (this : Nat) (attrs : Array Attribute := #[]) (ms : Array MethodInfo := #[]) (fl : Nat := 33) (sup : Nat := 0) (ifs : Array Nat := #[]) (fds : Array FieldInfo := #[]) : ClassFile where
  minorVersion := 0
  majorVersion := 65
  constantPool := pool
  accessFlags := fl
  thisClass := this
  superClass := sup
  interfaces := ifs
  fields := fds
  methods := ms
  attributes := attrs
def plain (name : String) (sup : Option ClassId) : Class where
  name := name
  kind := .ordinary
  loader := none
  accessFlags := 33
  super := sup
  interfaces := #[]
  cf := none
  fields := #[]
  methods := #[]
  instanceTypes := #[]
  staticTypes := #[]
  resolved := #[]
  callSites := []
  init := .initialized
  statics := none
  mirror := none

def pool0 : Array CpInfo := pool [(5, u "<init>"), (0, u "()V"), (1, .class_ 10), (1, u "java/lang/Object")] 113

def k0c0 : Code := { maxStack := 0, maxLocals := 1, code := object_method_1_code, exceptionTable := #[], attributes := #[] }
def k0m0 : Method := { name := "<init>", desc := "()V", sig := { parameters := [], returnType := none }, accessFlags := 1, code := some k0c0 }
/-- java/lang/Object -/
def k0 : Class := { plain "java/lang/Object" none with
  accessFlags := 33
  interfaces := #[]
  cf := some (fileOf pool0 8 #[] #[{ accessFlags := 1, nameIndex := 5, descriptorIndex := 6, attributes := #[] }] 33 0 #[] #[])
  fields := #[]
  methods := #[k0m0]
  instanceTypes := #[]
  staticTypes := #[]
  resolved := Array.replicate 124 none
  statics := none }

def pool1 : Array CpInfo := pool [(2, .class_ 4), (1, u "java/lang/Object"), (0, u "<init>"), (0, u "()V"), (0, .class_ 8), (0, u "java/lang/String"), (0, .methodref 7 10), (0, .nameAndType 5 11), (0, u "([C)V"), (0, .class_ 13), (0, u "org/pathbind/MediaType"), (0, .methodref 15 16), (0, .class_ 17), (0, .nameAndType 18 19), (0, u "org/pathbind/MediaTypeIncludesPinLaw"), (0, u "pick"), (0, u "(IC)Ljava/lang/String;"), (0, .methodref 12 21), (0, .nameAndType 5 22), (0, u "(Ljava/lang/String;Ljava/lang/String;Ljava/util/Map;Ljava/lang/String;)V"), (0, .methodref 12 24), (0, .nameAndType 25 26), (0, u "includes"), (0, u "(Lorg/pathbind/MediaType;)Z"), (5, u "law"), (0, u "(II)Z")] 2

def k1m0 : Method := { name := "<init>", desc := "()V", sig := { parameters := [], returnType := none }, accessFlags := 1, code := none }
def k1c1 : Code := { maxStack := 4, maxLocals := 3, code := method_2_code, exceptionTable := #[], attributes := #[] }
def k1m1 : Method := { name := "pick", desc := "(IC)Ljava/lang/String;", sig := { parameters := [.int, .char], returnType := some (.object "java/lang/String") }, accessFlags := 10, code := some k1c1 }
def k1c2 : Code := { maxStack := 6, maxLocals := 10, code := code, exceptionTable := #[], attributes := #[] }
def k1m2 : Method := { name := "law", desc := "(II)Z", sig := { parameters := [.int, .int], returnType := some .boolean }, accessFlags := 9, code := some k1c2 }
/-- org/pathbind/MediaTypeIncludesPinLaw -/
def k1 : Class := { plain "org/pathbind/MediaTypeIncludesPinLaw" (some 0) with
  accessFlags := 49
  interfaces := #[]
  cf := some (fileOf pool1 15 #[] #[{ accessFlags := 1, nameIndex := 5, descriptorIndex := 6, attributes := #[] }, { accessFlags := 10, nameIndex := 18, descriptorIndex := 19, attributes := #[] }, { accessFlags := 9, nameIndex := 32, descriptorIndex := 33, attributes := #[] }] 49 2 #[] #[])
  fields := #[]
  methods := #[k1m0, k1m1, k1m2]
  instanceTypes := #[]
  staticTypes := #[]
  resolved := Array.replicate 36 none
  statics := none }

def pool2 : Array CpInfo := pool [(1, .methodref 2 3), (0, .class_ 4), (0, .nameAndType 5 6), (0, u "java/lang/Object"), (0, u "<init>"), (0, u "()V"), (0, .class_ 8), (0, u "java/lang/Record")] 13

def k2c0 : Code := { maxStack := 1, maxLocals := 1, code := jdk_30_method_1_code, exceptionTable := #[], attributes := #[] }
def k2m0 : Method := { name := "<init>", desc := "()V", sig := { parameters := [], returnType := none }, accessFlags := 4, code := some k2c0 }
/-- java/lang/Record -/
def k2 : Class := { plain "java/lang/Record" (some 0) with
  accessFlags := 1057
  interfaces := #[]
  cf := some (fileOf pool2 7 #[] #[{ accessFlags := 4, nameIndex := 5, descriptorIndex := 6, attributes := #[] }] 1057 2 #[] #[])
  fields := #[]
  methods := #[k2m0]
  instanceTypes := #[]
  staticTypes := #[]
  resolved := Array.replicate 22 none
  statics := none }

def pool3 : Array CpInfo := pool [(1, .methodref 2 3), (0, .class_ 4), (0, .nameAndType 5 6), (0, u "java/lang/Record"), (0, u "<init>"), (0, u "()V"), (0, .fieldref 8 9), (0, .class_ 10), (0, .nameAndType 11 12), (0, u "org/pathbind/MediaType"), (0, u "type"), (0, u "Ljava/lang/String;"), (0, .fieldref 8 14), (0, .nameAndType 15 12), (0, u "subtype"), (0, .fieldref 8 17), (0, .nameAndType 18 19), (0, u "parameters"), (0, u "Ljava/util/Map;"), (0, .fieldref 8 21), (0, .nameAndType 22 12), (0, u "text"), (5, .class_ 30), (1, u "java/lang/String"), (21, .string 53), (0, u "*"), (0, .methodref 28 55), (0, .nameAndType 56 57), (0, u "equals"), (0, u "(Ljava/lang/Object;)Z"), (28, u "(Ljava/lang/String;Ljava/lang/String;Ljava/util/Map;Ljava/lang/String;)V"), (45, u "WILDCARD"), (12, u "(Lorg/pathbind/MediaType;)Z"), (0, u "includes")] 25

def k3c0 : Code := { maxStack := 2, maxLocals := 5, code := prog_30_method_1_code, exceptionTable := #[], attributes := #[] }
def k3m0 : Method := { name := "<init>", desc := "(Ljava/lang/String;Ljava/lang/String;Ljava/util/Map;Ljava/lang/String;)V", sig := { parameters := [(.object "java/lang/String"), (.object "java/lang/String"), (.object "java/util/Map"), (.object "java/lang/String")], returnType := none }, accessFlags := 0, code := some k3c0 }
def k3c1 : Code := { maxStack := 2, maxLocals := 2, code := prog_30_method_6_code, exceptionTable := #[], attributes := #[] }
def k3m1 : Method := { name := "includes", desc := "(Lorg/pathbind/MediaType;)Z", sig := { parameters := [(.object "org/pathbind/MediaType")], returnType := some .boolean }, accessFlags := 0, code := some k3c1 }
/-- org/pathbind/MediaType -/
def k3 : Class := { plain "org/pathbind/MediaType" (some 2) with
  accessFlags := 48
  interfaces := #[]
  cf := some (fileOf pool3 8 #[] #[{ accessFlags := 0, nameIndex := 5, descriptorIndex := 86, attributes := #[] }, { accessFlags := 0, nameIndex := 146, descriptorIndex := 145, attributes := #[] }] 48 2 #[] #[{ accessFlags := 18, nameIndex := 11, descriptorIndex := 12, attributes := #[] }, { accessFlags := 18, nameIndex := 15, descriptorIndex := 12, attributes := #[] }, { accessFlags := 18, nameIndex := 18, descriptorIndex := 19, attributes := #[] }, { accessFlags := 18, nameIndex := 22, descriptorIndex := 12, attributes := #[] }, { accessFlags := 26, nameIndex := 132, descriptorIndex := 12, attributes := #[] }])
  fields := #[{ name := "type", type := (.object "java/lang/String"), accessFlags := 18, slot := 0, constantValue := 0 }, { name := "subtype", type := (.object "java/lang/String"), accessFlags := 18, slot := 1, constantValue := 0 }, { name := "parameters", type := (.object "java/util/Map"), accessFlags := 18, slot := 2, constantValue := 0 }, { name := "text", type := (.object "java/lang/String"), accessFlags := 18, slot := 3, constantValue := 0 }, { name := "WILDCARD", type := (.object "java/lang/String"), accessFlags := 26, slot := 0, constantValue := 0 }]
  methods := #[k3m0, k3m1]
  instanceTypes := #[(.object "java/lang/String"), (.object "java/lang/String"), (.object "java/util/Map"), (.object "java/lang/String")]
  staticTypes := #[(.object "java/lang/String")]
  resolved := Array.replicate 172 none
  statics := none }

def pool4 : Array CpInfo := pool [(1, .class_ 2), (0, u "java/io/Serializable"), (0, .class_ 4), (0, u "java/lang/Object")] 2

/-- java/io/Serializable -/
def k4 : Class := { plain "java/io/Serializable" (some 0) with
  accessFlags := 1537
  interfaces := #[]
  cf := some (fileOf pool4 1 #[] #[] 1537 3 #[] #[])
  fields := #[]
  methods := #[]
  instanceTypes := #[]
  staticTypes := #[]
  resolved := Array.replicate 7 none
  statics := none }

def pool5 : Array CpInfo := pool [(1, .class_ 2), (0, u "java/lang/Comparable"), (0, .class_ 4), (0, u "java/lang/Object")] 7

/-- java/lang/Comparable -/
def k5 : Class := { plain "java/lang/Comparable" (some 0) with
  accessFlags := 1537
  interfaces := #[]
  cf := some (fileOf pool5 1 #[] #[] 1537 3 #[] #[])
  fields := #[]
  methods := #[]
  instanceTypes := #[]
  staticTypes := #[]
  resolved := Array.replicate 12 none
  statics := none }

def pool6 : Array CpInfo := pool [(2, .class_ 4), (1, u "java/lang/CharSequence"), (42, .class_ 48), (0, u "java/lang/CharSequence$1CodePointIterator"), (10, .class_ 60), (0, u "java/lang/CharSequence$1CharIterator"), (5, .class_ 67), (0, u "java/lang/Object")] 63

/-- java/lang/CharSequence -/
def k6 : Class := { plain "java/lang/CharSequence" (some 0) with
  accessFlags := 1537
  interfaces := #[]
  cf := some (fileOf pool6 2 #[.nestMembers #[47, 59]] #[] 1537 66 #[] #[])
  fields := #[]
  methods := #[]
  instanceTypes := #[]
  staticTypes := #[]
  resolved := Array.replicate 131 none
  statics := none }

def pool7 : Array CpInfo := pool [(1, .class_ 2), (0, u "java/lang/constant/Constable"), (0, .class_ 4), (0, u "java/lang/Object")] 6

/-- java/lang/constant/Constable -/
def k7 : Class := { plain "java/lang/constant/Constable" (some 0) with
  accessFlags := 1537
  interfaces := #[]
  cf := some (fileOf pool7 1 #[] #[] 1537 3 #[] #[])
  fields := #[]
  methods := #[]
  instanceTypes := #[]
  staticTypes := #[]
  resolved := Array.replicate 11 none
  statics := none }

def pool8 : Array CpInfo := pool [(1, .class_ 2), (0, u "java/lang/constant/ConstantDesc"), (0, .class_ 4), (0, u "java/lang/Object")] 32

/-- java/lang/constant/ConstantDesc -/
def k8 : Class := { plain "java/lang/constant/ConstantDesc" (some 0) with
  accessFlags := 1537
  interfaces := #[]
  cf := some (fileOf pool8 1 #[] #[] 1537 3 #[] #[])
  fields := #[]
  methods := #[]
  instanceTypes := #[]
  staticTypes := #[]
  resolved := Array.replicate 37 none
  statics := none }

def pool9 : Array CpInfo := pool [(1, .methodref 2 3), (0, .class_ 4), (0, .nameAndType 5 6), (0, u "java/lang/Object"), (0, u "<init>"), (0, u "()V"), (2, .fieldref 10 11), (0, .class_ 12), (0, .nameAndType 13 14), (0, u "java/lang/String"), (0, u "value"), (0, u "[B"), (0, .fieldref 10 16), (0, .nameAndType 17 18), (0, u "coder"), (0, u "B"), (2, u "hash"), (0, u "I"), (2, u "hashIsZero"), (0, u "Z"), (0, .methodref 10 28), (0, .nameAndType 5 29), (0, u "([CIILjava/lang/Void;)V"), (8, .fieldref 10 39), (0, .nameAndType 40 26), (0, u "COMPACT_STRINGS"), (1, .class_ 44), (1, u "java/lang/StringUTF16"), (0, u "compress"), (1, .methodref 42 48), (0, .nameAndType 49 50), (0, u "coderFromArrayLen"), (0, u "([BI)B"), (56, .class_ 109), (1, u "java/lang/StringLatin1"), (67, .methodref 42 178), (0, .nameAndType 45 179), (0, u "([CII)[B"), (361, .methodref 107 542), (0, .nameAndType 543 544), (0, u "equals"), (0, u "([B[B)Z"), (28, u "(Ljava/lang/Object;)Z"), (1, .class_ 576), (0, u "java/lang/CharSequence"), (22, u "CASE_INSENSITIVE_ORDER"), (0, u "Ljava/util/Comparator;"), (409, u "([C)V"), (90, u "serialPersistentFields"), (0, u "[Ljava/io/ObjectStreamField;"), (0, .class_ 1104), (0, u "java/lang/String$CaseInsensitiveComparator"), (1, .class_ 1107), (0, u "java/io/Serializable"), (0, .class_ 1109), (0, u "java/lang/Comparable"), (0, .class_ 1111), (0, u "java/lang/constant/Constable"), (0, .class_ 1113), (0, u "java/lang/constant/ConstantDesc"), (2, u "serialVersionUID"), (0, u "J"), (3, u "REPL"), (0, u "C"), (2, u "LATIN1"), (1, u "UTF16")] 323

def k9m0 : Method := { name := "<init>", desc := "()V", sig := { parameters := [], returnType := none }, accessFlags := 1, code := none }
def k9c1 : Code := { maxStack := 5, maxLocals := 2, code := jdk_42_method_3_code, exceptionTable := #[], attributes := #[] }
def k9m1 : Method := { name := "<init>", desc := "([C)V", sig := { parameters := [(.array .char)], returnType := none }, accessFlags := 1, code := some k9c1 }
def k9c2 : Code := { maxStack := 2, maxLocals := 3, code := jdk_42_method_66_code, exceptionTable := #[], attributes := #[] }
def k9m2 : Method := { name := "equals", desc := "(Ljava/lang/Object;)Z", sig := { parameters := [(.object "java/lang/Object")], returnType := some .boolean }, accessFlags := 1, code := some k9c2 }
def k9c3 : Code := { maxStack := 4, maxLocals := 6, code := jdk_42_method_149_code, exceptionTable := #[], attributes := #[] }
def k9m3 : Method := { name := "<init>", desc := "([CIILjava/lang/Void;)V", sig := { parameters := [(.array .char), .int, .int, (.object "java/lang/Void")], returnType := none }, accessFlags := 2, code := some k9c3 }
/-- java/lang/String -/
def k9 : Class := { plain "java/lang/String" (some 0) with
  accessFlags := 49
  interfaces := #[4, 5, 6, 7, 8]
  cf := some (fileOf pool9 10 #[.nestMembers #[1103]] #[{ accessFlags := 1, nameIndex := 5, descriptorIndex := 6, attributes := #[] }, { accessFlags := 1, nameIndex := 5, descriptorIndex := 1010, attributes := #[] }, { accessFlags := 1, nameIndex := 543, descriptorIndex := 573, attributes := #[] }, { accessFlags := 2, nameIndex := 5, descriptorIndex := 29, attributes := #[] }] 49 2 #[1106, 1108, 575, 1110, 1112] #[{ accessFlags := 18, nameIndex := 13, descriptorIndex := 14, attributes := #[] }, { accessFlags := 18, nameIndex := 17, descriptorIndex := 18, attributes := #[] }, { accessFlags := 2, nameIndex := 21, descriptorIndex := 22, attributes := #[] }, { accessFlags := 2, nameIndex := 25, descriptorIndex := 26, attributes := #[] }, { accessFlags := 26, nameIndex := 1116, descriptorIndex := 1117, attributes := #[] }, { accessFlags := 24, nameIndex := 40, descriptorIndex := 26, attributes := #[] }, { accessFlags := 26, nameIndex := 1101, descriptorIndex := 1102, attributes := #[] }, { accessFlags := 26, nameIndex := 1121, descriptorIndex := 1122, attributes := #[] }, { accessFlags := 25, nameIndex := 599, descriptorIndex := 600, attributes := #[] }, { accessFlags := 24, nameIndex := 1125, descriptorIndex := 18, attributes := #[] }, { accessFlags := 24, nameIndex := 1127, descriptorIndex := 18, attributes := #[] }])
  fields := #[{ name := "value", type := (.array .byte), accessFlags := 18, slot := 0, constantValue := 0 }, { name := "coder", type := .byte, accessFlags := 18, slot := 1, constantValue := 0 }, { name := "hash", type := .int, accessFlags := 2, slot := 2, constantValue := 0 }, { name := "hashIsZero", type := .boolean, accessFlags := 2, slot := 3, constantValue := 0 }, { name := "serialVersionUID", type := .long, accessFlags := 26, slot := 0, constantValue := 0 }, { name := "COMPACT_STRINGS", type := .boolean, accessFlags := 24, slot := 1, constantValue := 0 }, { name := "serialPersistentFields", type := (.array (.object "java/io/ObjectStreamField")), accessFlags := 26, slot := 2, constantValue := 0 }, { name := "REPL", type := .char, accessFlags := 26, slot := 3, constantValue := 0 }, { name := "CASE_INSENSITIVE_ORDER", type := (.object "java/util/Comparator"), accessFlags := 25, slot := 4, constantValue := 0 }, { name := "LATIN1", type := .byte, accessFlags := 24, slot := 5, constantValue := 0 }, { name := "UTF16", type := .byte, accessFlags := 24, slot := 6, constantValue := 0 }]
  methods := #[k9m0, k9m1, k9m2, k9m3]
  instanceTypes := #[(.array .byte), .byte, .int, .boolean]
  staticTypes := #[.long, .boolean, (.array (.object "java/io/ObjectStreamField")), .char, (.object "java/util/Comparator"), .byte, .byte]
  resolved := Array.replicate 1451 none
  statics := some 0 }

def pool10 : Array CpInfo := pool [(6, .class_ 8), (1, u "java/lang/Object"), (0, u "<init>"), (0, u "()V"), (1, .class_ 14), (1, u "java/lang/StringUTF16"), (31, u "$assertionsDisabled"), (0, u "Z"), (13, u "HI_BYTE_SHIFT"), (0, u "I"), (2, u "LO_BYTE_SHIFT"), (49, .methodref 12 116), (0, .nameAndType 117 118), (0, u "compress"), (0, u "([CI[BII)I"), (3, u "([CII)[B"), (138, u "coderFromArrayLen"), (0, u "([BI)B"), (106, .class_ 371), (1, u "java/lang/StringUTF16$LinesSpliterator"), (58, u "MAX_LENGTH"), (196, .class_ 628), (0, u "java/lang/StringUTF16$CodePointsSpliterator"), (0, .class_ 630), (0, u "java/lang/StringUTF16$CharsSpliterator")] 4

def k10m0 : Method := { name := "<init>", desc := "()V", sig := { parameters := [], returnType := none }, accessFlags := 0, code := none }
def k10c1 : Code := { maxStack := 2, maxLocals := 2, code := jdk_52_method_15_code, exceptionTable := #[], attributes := #[] }
def k10m1 : Method := { name := "coderFromArrayLen", desc := "([BI)B", sig := { parameters := [(.array .byte), .int], returnType := some .byte }, accessFlags := 8, code := some k10c1 }
def k10c2 : Code := { maxStack := 5, maxLocals := 6, code := jdk_52_method_16_code, exceptionTable := #[], attributes := #[] }
def k10m2 : Method := { name := "compress", desc := "([CII)[B", sig := { parameters := [(.array .char), .int, .int], returnType := some (.array .byte) }, accessFlags := 9, code := some k10c2 }
def k10c3 : Code := { maxStack := 3, maxLocals := 7, code := jdk_52_method_21_code, exceptionTable := #[], attributes := #[] }
def k10m3 : Method := { name := "compress", desc := "([CI[BII)I", sig := { parameters := [(.array .char), .int, (.array .byte), .int, .int], returnType := some .int }, accessFlags := 9, code := some k10c3 }
/-- java/lang/StringUTF16 -/
def k10 : Class := { plain "java/lang/StringUTF16" (some 0) with
  accessFlags := 48
  interfaces := #[]
  cf := some (fileOf pool10 12 #[.nestMembers #[627, 629, 369]] #[{ accessFlags := 0, nameIndex := 9, descriptorIndex := 10, attributes := #[] }, { accessFlags := 8, nameIndex := 261, descriptorIndex := 262, attributes := #[] }, { accessFlags := 9, nameIndex := 117, descriptorIndex := 122, attributes := #[] }, { accessFlags := 9, nameIndex := 117, descriptorIndex := 118, attributes := #[] }] 48 6 #[] #[{ accessFlags := 26, nameIndex := 61, descriptorIndex := 62, attributes := #[] }, { accessFlags := 26, nameIndex := 65, descriptorIndex := 62, attributes := #[] }, { accessFlags := 24, nameIndex := 430, descriptorIndex := 62, attributes := #[] }, { accessFlags := 4120, nameIndex := 46, descriptorIndex := 47, attributes := #[] }])
  fields := #[{ name := "HI_BYTE_SHIFT", type := .int, accessFlags := 26, slot := 0, constantValue := 0 }, { name := "LO_BYTE_SHIFT", type := .int, accessFlags := 26, slot := 1, constantValue := 0 }, { name := "MAX_LENGTH", type := .int, accessFlags := 24, slot := 2, constantValue := 0 }, { name := "$assertionsDisabled", type := .boolean, accessFlags := 4120, slot := 3, constantValue := 0 }]
  methods := #[k10m0, k10m1, k10m2, k10m3]
  instanceTypes := #[]
  staticTypes := #[.int, .int, .int, .boolean]
  resolved := Array.replicate 635 none
  statics := none }

def pool11 : Array CpInfo := pool [(4, .class_ 6), (1, u "java/lang/Object"), (0, u "<init>"), (0, u "()V"), (5, .class_ 16), (1, u "java/lang/StringLatin1"), (104, u "$assertionsDisabled"), (0, u "Z"), (98, .class_ 223), (1, u "java/lang/StringLatin1$LinesSpliterator"), (57, u "equals"), (0, u "([B[B)Z"), (107, .class_ 391), (0, u "java/lang/StringLatin1$CharsSpliterator")] 3

def k11m0 : Method := { name := "<init>", desc := "()V", sig := { parameters := [], returnType := none }, accessFlags := 0, code := none }
def k11c1 : Code := { maxStack := 3, maxLocals := 3, code := jdk_43_method_13_code, exceptionTable := #[], attributes := #[] }
def k11m1 : Method := { name := "equals", desc := "([B[B)Z", sig := { parameters := [(.array .byte), (.array .byte)], returnType := some .boolean }, accessFlags := 9, code := some k11c1 }
/-- java/lang/StringLatin1 -/
def k11 : Class := { plain "java/lang/StringLatin1" (some 0) with
  accessFlags := 48
  interfaces := #[]
  cf := some (fileOf pool11 14 #[.nestMembers #[390, 221]] #[{ accessFlags := 0, nameIndex := 7, descriptorIndex := 8, attributes := #[] }, { accessFlags := 9, nameIndex := 281, descriptorIndex := 282, attributes := #[] }] 48 4 #[] #[{ accessFlags := 4120, nameIndex := 121, descriptorIndex := 122, attributes := #[] }])
  fields := #[{ name := "$assertionsDisabled", type := .boolean, accessFlags := 4120, slot := 0, constantValue := 0 }]
  methods := #[k11m0, k11m1]
  instanceTypes := #[]
  staticTypes := #[.boolean]
  resolved := Array.replicate 395 none
  statics := none }

def pool12 : Array CpInfo := pool [(2, .class_ 4), (1, u "java/lang/Object"), (0, u "<init>"), (0, u "()V"), (17, .class_ 26), (1, u "jdk/internal/util/Preconditions"), (28, .class_ 56), (0, u "jdk/internal/util/Preconditions$4"), (57, .class_ 115), (0, u "jdk/internal/util/Preconditions$1"), (7, u "SIOOBE_FORMATTER"), (0, u "Ljava/util/function/BiFunction;"), (0, .class_ 126), (0, u "jdk/internal/util/Preconditions$2"), (3, u "AIOOBE_FORMATTER"), (0, .class_ 132), (0, u "jdk/internal/util/Preconditions$3"), (3, u "IOOBE_FORMATTER")] 57

def k12m0 : Method := { name := "<init>", desc := "()V", sig := { parameters := [], returnType := none }, accessFlags := 1, code := none }
/-- jdk/internal/util/Preconditions -/
def k12 : Class := { plain "jdk/internal/util/Preconditions" (some 0) with
  accessFlags := 33
  interfaces := #[]
  cf := some (fileOf pool12 24 #[.nestMembers #[55, 131, 125, 114]] #[{ accessFlags := 1, nameIndex := 5, descriptorIndex := 6, attributes := #[] }] 33 2 #[] #[{ accessFlags := 25, nameIndex := 123, descriptorIndex := 124, attributes := #[] }, { accessFlags := 25, nameIndex := 130, descriptorIndex := 124, attributes := #[] }, { accessFlags := 25, nameIndex := 136, descriptorIndex := 124, attributes := #[] }])
  fields := #[{ name := "SIOOBE_FORMATTER", type := (.object "java/util/function/BiFunction"), accessFlags := 25, slot := 0, constantValue := 0 }, { name := "AIOOBE_FORMATTER", type := (.object "java/util/function/BiFunction"), accessFlags := 25, slot := 1, constantValue := 0 }, { name := "IOOBE_FORMATTER", type := (.object "java/util/function/BiFunction"), accessFlags := 25, slot := 2, constantValue := 0 }]
  methods := #[k12m0]
  instanceTypes := #[]
  staticTypes := #[(.object "java/util/function/BiFunction"), (.object "java/util/function/BiFunction"), (.object "java/util/function/BiFunction")]
  resolved := Array.replicate 194 none
  statics := some 1 }

def pool13 : Array CpInfo := pool [(9, u "<init>"), (6, .class_ 18), (1, u "java/lang/Object"), (0, u "()V"), (1, .class_ 23), (1, u "jdk/internal/util/ArraysSupport"), (0, u "LOG2_ARRAY_LONG_INDEX_SCALE"), (0, u "I"), (2, u "U"), (0, u "Ljdk/internal/misc/Unsafe;"), (8, u "BIG_ENDIAN"), (0, u "Z"), (8, u "LOG2_BYTE_BIT_SIZE"), (4, u "LOG2_ARRAY_INT_INDEX_SCALE"), (54, u "JLA"), (0, u "Ljdk/internal/access/JavaLangAccess;"), (11, u "LOG2_ARRAY_BOOLEAN_INDEX_SCALE"), (9, u "LOG2_ARRAY_BYTE_INDEX_SCALE"), (5, u "LOG2_ARRAY_CHAR_INDEX_SCALE"), (5, u "LOG2_ARRAY_SHORT_INDEX_SCALE"), (18, u "LOG2_ARRAY_FLOAT_INDEX_SCALE"), (24, u "LOG2_ARRAY_DOUBLE_INDEX_SCALE"), (89, u "T_BOOLEAN"), (2, u "T_CHAR"), (1, u "T_FLOAT"), (1, u "T_DOUBLE"), (1, u "T_BYTE"), (1, u "T_SHORT"), (1, u "T_INT"), (1, u "T_LONG"), (1, u "SOFT_MAX_ARRAY_LENGTH")] 83

def k13m0 : Method := { name := "<init>", desc := "()V", sig := { parameters := [], returnType := none }, accessFlags := 2, code := none }
/-- jdk/internal/util/ArraysSupport -/
def k13 : Class := { plain "jdk/internal/util/ArraysSupport" (some 0) with
  accessFlags := 33
  interfaces := #[]
  cf := some (fileOf pool13 21 #[] #[{ accessFlags := 2, nameIndex := 9, descriptorIndex := 19, attributes := #[] }] 33 16 #[] #[{ accessFlags := 24, nameIndex := 28, descriptorIndex := 29, attributes := #[] }, { accessFlags := 26, nameIndex := 38, descriptorIndex := 39, attributes := #[] }, { accessFlags := 25, nameIndex := 121, descriptorIndex := 25, attributes := #[] }, { accessFlags := 25, nameIndex := 131, descriptorIndex := 25, attributes := #[] }, { accessFlags := 25, nameIndex := 137, descriptorIndex := 25, attributes := #[] }, { accessFlags := 25, nameIndex := 143, descriptorIndex := 25, attributes := #[] }, { accessFlags := 25, nameIndex := 53, descriptorIndex := 25, attributes := #[] }, { accessFlags := 25, nameIndex := 24, descriptorIndex := 25, attributes := #[] }, { accessFlags := 25, nameIndex := 162, descriptorIndex := 25, attributes := #[] }, { accessFlags := 25, nameIndex := 187, descriptorIndex := 25, attributes := #[] }, { accessFlags := 26, nameIndex := 48, descriptorIndex := 25, attributes := #[] }, { accessFlags := 25, nameIndex := 277, descriptorIndex := 25, attributes := #[] }, { accessFlags := 25, nameIndex := 280, descriptorIndex := 25, attributes := #[] }, { accessFlags := 25, nameIndex := 282, descriptorIndex := 25, attributes := #[] }, { accessFlags := 25, nameIndex := 284, descriptorIndex := 25, attributes := #[] }, { accessFlags := 25, nameIndex := 286, descriptorIndex := 25, attributes := #[] }, { accessFlags := 25, nameIndex := 288, descriptorIndex := 25, attributes := #[] }, { accessFlags := 25, nameIndex := 290, descriptorIndex := 25, attributes := #[] }, { accessFlags := 25, nameIndex := 292, descriptorIndex := 25, attributes := #[] }, { accessFlags := 26, nameIndex := 108, descriptorIndex := 109, attributes := #[] }, { accessFlags := 25, nameIndex := 294, descriptorIndex := 25, attributes := #[] }])
  fields := #[{ name := "U", type := (.object "jdk/internal/misc/Unsafe"), accessFlags := 24, slot := 0, constantValue := 0 }, { name := "BIG_ENDIAN", type := .boolean, accessFlags := 26, slot := 1, constantValue := 0 }, { name := "LOG2_ARRAY_BOOLEAN_INDEX_SCALE", type := .int, accessFlags := 25, slot := 2, constantValue := 0 }, { name := "LOG2_ARRAY_BYTE_INDEX_SCALE", type := .int, accessFlags := 25, slot := 3, constantValue := 0 }, { name := "LOG2_ARRAY_CHAR_INDEX_SCALE", type := .int, accessFlags := 25, slot := 4, constantValue := 0 }, { name := "LOG2_ARRAY_SHORT_INDEX_SCALE", type := .int, accessFlags := 25, slot := 5, constantValue := 0 }, { name := "LOG2_ARRAY_INT_INDEX_SCALE", type := .int, accessFlags := 25, slot := 6, constantValue := 0 }, { name := "LOG2_ARRAY_LONG_INDEX_SCALE", type := .int, accessFlags := 25, slot := 7, constantValue := 0 }, { name := "LOG2_ARRAY_FLOAT_INDEX_SCALE", type := .int, accessFlags := 25, slot := 8, constantValue := 0 }, { name := "LOG2_ARRAY_DOUBLE_INDEX_SCALE", type := .int, accessFlags := 25, slot := 9, constantValue := 0 }, { name := "LOG2_BYTE_BIT_SIZE", type := .int, accessFlags := 26, slot := 10, constantValue := 0 }, { name := "T_BOOLEAN", type := .int, accessFlags := 25, slot := 11, constantValue := 0 }, { name := "T_CHAR", type := .int, accessFlags := 25, slot := 12, constantValue := 0 }, { name := "T_FLOAT", type := .int, accessFlags := 25, slot := 13, constantValue := 0 }, { name := "T_DOUBLE", type := .int, accessFlags := 25, slot := 14, constantValue := 0 }, { name := "T_BYTE", type := .int, accessFlags := 25, slot := 15, constantValue := 0 }, { name := "T_SHORT", type := .int, accessFlags := 25, slot := 16, constantValue := 0 }, { name := "T_INT", type := .int, accessFlags := 25, slot := 17, constantValue := 0 }, { name := "T_LONG", type := .int, accessFlags := 25, slot := 18, constantValue := 0 }, { name := "JLA", type := (.object "jdk/internal/access/JavaLangAccess"), accessFlags := 26, slot := 19, constantValue := 0 }, { name := "SOFT_MAX_ARRAY_LENGTH", type := .int, accessFlags := 25, slot := 20, constantValue := 0 }]
  methods := #[k13m0]
  instanceTypes := #[]
  staticTypes := #[(.object "jdk/internal/misc/Unsafe"), .boolean, .int, .int, .int, .int, .int, .int, .int, .int, .int, .int, .int, .int, .int, .int, .int, .int, .int, (.object "jdk/internal/access/JavaLangAccess"), .int]
  resolved := Array.replicate 378 none
  statics := none }

def pool14 : Array CpInfo := pool [(1, u "java/lang/Cloneable"), (0, .class_ 1), (0, u "java/lang/Object"), (0, .class_ 3)] 3

/-- java/lang/Cloneable -/
def k14 : Class := { plain "java/lang/Cloneable" (some 0) with
  accessFlags := 1537
  interfaces := #[]
  cf := some (fileOf pool14 2 #[] #[] 1537 4 #[] #[])
  fields := #[]
  methods := #[]
  instanceTypes := #[]
  staticTypes := #[]
  resolved := Array.replicate 8 none
  statics := none }

/-- the primitive byte -/
def k15 : Class := { plain "byte" none with kind := .primitive 'B', accessFlags := 0x411 }
/-- [B -/
def k16 : Class := { plain "[B" (some 0) with kind := .array 15 .byte, interfaces := #[14, 4], accessFlags := 1041 }

/-- the primitive char -/
def k17 : Class := { plain "char" none with kind := .primitive 'C', accessFlags := 0x411 }
/-- [C -/
def k18 : Class := { plain "[C" (some 0) with kind := .array 17 .char, interfaces := #[14, 4], accessFlags := 1041 }

/-- the primitive int -/
def k19 : Class := { plain "int" none with kind := .primitive 'I', accessFlags := 0x411 }
/-- [I -/
def k20 : Class := { plain "[I" (some 0) with kind := .array 19 .int, interfaces := #[14, 4], accessFlags := 1041 }

def heap : Heap := #[{ cls := 9, slots := #[.long 0, .int 1, .null, .int 0, .null, .int 0, .int 0], vm := .statics 9 },
  { cls := 12, slots := #[.null, .null, .null], vm := .statics 12 }]
def classes : Array Class := #[k0, k1, k2, k3, k4, k5, k6, k7, k8, k9, k10, k11, k12, k13, k14, k15, k16, k17, k18, k19, k20]
def interned : List (Array UInt16 × Addr) := []
def slotsUsed : Nat := 10
def theMethod : MethodId := ⟨1, 2⟩
def args0 : Array Value := #[.int 65, .int 77]
def aboutOver (below : List Frame) : State where
  vm := { classes := classes, interned := interned.toArray }
  heap := heap
  slotsUsed := slotsUsed
  threads := #[{ frames := .invoking theMethod args0 :: below }]
def below0 : List Frame := [.native { method := ⟨0, 0⟩, args := #[] }]
def about1 : State := aboutOver below0
def p0 : Program := .bare "" "" ""
def e0 : Env := launch0.env 0 0 0
theorem w_frames : about1.frames = Frame.invoking theMethod args0 :: below0 := rfl
set_option maxRecDepth 65536 in
theorem w_args : argsFit about1.vm theMethod args0 = true := by decide +kernel
set_option maxRecDepth 65536 in
theorem w_heap : heapFits about1 = true := by decide +kernel
set_option maxRecDepth 65536 in
theorem w_runnable : about1.curStatus? = some .runnable := by decide +kernel
set_option maxRecDepth 65536 in
theorem w_alone : about1.alone = true := by decide +kernel
set_option maxRecDepth 65536 in
theorem w_named : about1.methodNamed? x = some theMethod := by decide +kernel
set_option maxRecDepth 65536 in
theorem w_hears : about1.hears theMethod below0 = true := by decide +kernel
set_option maxRecDepth 65536 in
theorem w_ripe : about1.ripe theMethod args0 below0 = true := by decide +kernel
theorem w_running : about1.status = .running := rfl
set_option maxRecDepth 65536 in
theorem w_room : about1.hasRoom e0.platform room_1 = true :=
  launch0.hasRoom_least _ room_1 (by decide +kernel) (by decide +kernel) (by decide +kernel) (by decide +kernel) (by decide +kernel) (by decide +kernel)
theorem allAtoms_all (ts : List Jvm.Cond) (a : Array Jvm.Value) (st : Jvm.State) : (allAtoms ts).before a st = ts.all (fun c => c.before a st) := by
  induction ts with
  | nil => rfl
  | cons c t ih =>
    show (Jvm.Cond.and c (allAtoms t)).before a st = _
    rw [Jvm.Cond.before_and, ih, List.all_cons]
def words1 : List Jvm.Cond := Jvm.Cond.code x code maxLocals ret :: tables_1
/-- a 'code' word, met by the world's own term for the bytes: nothing is compared byte by byte -/
theorem code_word {y : MethodName} {bytes : ByteArray} {mx : Nat} {rt : Option FieldType} {a : Array Value} {s : State} {m : MethodId} {meth : Method} {c : Code} (h1 : s.methodNamed? y = some m) (h2 : s.vm.method? m = some meth) (h3 : meth.code = some c) (h4 : c.code = bytes)
    (h5 : (c.maxLocals == mx && c.exceptionTable.isEmpty && decide (c.maxStack ≤ mostOperands) && decide (meth.sig.returnType = rt) && !meth.locks && decide (parseMethodDescriptor y.desc = some meth.sig)) = true) : (Jvm.Cond.code y bytes mx rt).before a s = true := by
  simp only [Bool.and_eq_true, beq_iff_eq, Bool.not_eq_true', decide_eq_true_eq] at h5
  obtain ⟨⟨⟨⟨⟨g1, g2⟩, g3⟩, g4⟩, g5⟩, g6⟩ := h5
  simp [Cond.before, Cond.holds, Cond.value, h1, h2, h3, h4, g1, g2, g3, g4, g5, g6]
def isCode : Jvm.Cond → Bool
  | .code _ _ _ _ => true
  | _ => false
theorem all_split {L : List Jvm.Cond} {P : Jvm.Cond → Bool} (h1 : L.all (fun c => isCode c || P c) = true) (h2 : ∀ c ∈ L.filter isCode, P c = true) : L.all P = true := by
  refine List.all_eq_true.mpr fun c hc => ?_
  have h := List.all_eq_true.mp h1 c hc
  rcases Bool.eq_false_or_eq_true (isCode c) with hi | hi
  · exact h2 c (List.mem_filter.mpr ⟨hc, hi⟩)
  · simpa [hi] using h
set_option maxRecDepth 65536 in
theorem w_c0 : (Jvm.Cond.code x code maxLocals ret).before args0 about1 = true := code_word (m := ⟨1, 2⟩) (meth := k1m2) (c := k1c2) (by decide +kernel) rfl rfl rfl (by decide +kernel)
set_option maxRecDepth 65536 in
theorem w_c1 : (Jvm.Cond.code ({ cls := "org/pathbind/MediaTypeIncludesPinLaw", name := "pick", desc := "(IC)Ljava/lang/String;" } : Jvm.MethodName) method_2_code (3 : Nat) (Option.some (Jvm.ClassFile.FieldType.object "java/lang/String"))).before args0 about1 = true := code_word (m := ⟨1, 1⟩) (meth := k1m1) (c := k1c1) (by decide +kernel) rfl rfl rfl (by decide +kernel)
set_option maxRecDepth 65536 in
theorem w_c2 : (Jvm.Cond.code ({ cls := "java/lang/String", name := "<init>", desc := "([C)V" } : Jvm.MethodName) jdk_42_method_3_code (2 : Nat) (Option.none : Option Jvm.ClassFile.FieldType)).before args0 about1 = true := code_word (m := ⟨9, 1⟩) (meth := k9m1) (c := k9c1) (by decide +kernel) rfl rfl rfl (by decide +kernel)
set_option maxRecDepth 65536 in
theorem w_c3 : (Jvm.Cond.code ({ cls := "java/lang/String", name := "<init>", desc := "([CIILjava/lang/Void;)V" } : Jvm.MethodName) jdk_42_method_149_code (6 : Nat) (Option.none : Option Jvm.ClassFile.FieldType)).before args0 about1 = true := code_word (m := ⟨9, 3⟩) (meth := k9m3) (c := k9c3) (by decide +kernel) rfl rfl rfl (by decide +kernel)
set_option maxRecDepth 65536 in
theorem w_c4 : (Jvm.Cond.code ({ cls := "java/lang/Object", name := "<init>", desc := "()V" } : Jvm.MethodName) object_method_1_code (1 : Nat) (Option.none : Option Jvm.ClassFile.FieldType)).before args0 about1 = true := code_word (m := ⟨0, 0⟩) (meth := k0m0) (c := k0c0) (by decide +kernel) rfl rfl rfl (by decide +kernel)
set_option maxRecDepth 65536 in
theorem w_c5 : (Jvm.Cond.code ({ cls := "java/lang/StringUTF16", name := "compress", desc := "([CII)[B" } : Jvm.MethodName) jdk_52_method_16_code (6 : Nat) (Option.some (Jvm.ClassFile.FieldType.array Jvm.ClassFile.FieldType.byte))).before args0 about1 = true := code_word (m := ⟨10, 2⟩) (meth := k10m2) (c := k10c2) (by decide +kernel) rfl rfl rfl (by decide +kernel)
set_option maxRecDepth 65536 in
theorem w_c6 : (Jvm.Cond.code ({ cls := "java/lang/StringUTF16", name := "compress", desc := "([CI[BII)I" } : Jvm.MethodName) jdk_52_method_21_code (7 : Nat) (Option.some Jvm.ClassFile.FieldType.int)).before args0 about1 = true := code_word (m := ⟨10, 3⟩) (meth := k10m3) (c := k10c3) (by decide +kernel) rfl rfl rfl (by decide +kernel)
set_option maxRecDepth 65536 in
theorem w_c7 : (Jvm.Cond.code ({ cls := "java/lang/StringUTF16", name := "coderFromArrayLen", desc := "([BI)B" } : Jvm.MethodName) jdk_52_method_15_code (2 : Nat) (Option.some Jvm.ClassFile.FieldType.byte)).before args0 about1 = true := code_word (m := ⟨10, 1⟩) (meth := k10m1) (c := k10c1) (by decide +kernel) rfl rfl rfl (by decide +kernel)
set_option maxRecDepth 65536 in
theorem w_c8 : (Jvm.Cond.code ({ cls := "org/pathbind/MediaType", name := "<init>", desc := "(Ljava/lang/String;Ljava/lang/String;Ljava/util/Map;Ljava/lang/String;)V" } : Jvm.MethodName) prog_30_method_1_code (5 : Nat) (Option.none : Option Jvm.ClassFile.FieldType)).before args0 about1 = true := code_word (m := ⟨3, 0⟩) (meth := k3m0) (c := k3c0) (by decide +kernel) rfl rfl rfl (by decide +kernel)
set_option maxRecDepth 65536 in
theorem w_c9 : (Jvm.Cond.code ({ cls := "java/lang/Record", name := "<init>", desc := "()V" } : Jvm.MethodName) jdk_30_method_1_code (1 : Nat) (Option.none : Option Jvm.ClassFile.FieldType)).before args0 about1 = true := code_word (m := ⟨2, 0⟩) (meth := k2m0) (c := k2c0) (by decide +kernel) rfl rfl rfl (by decide +kernel)
set_option maxRecDepth 65536 in
theorem w_c10 : (Jvm.Cond.code ({ cls := "org/pathbind/MediaType", name := "includes", desc := "(Lorg/pathbind/MediaType;)Z" } : Jvm.MethodName) prog_30_method_6_code (2 : Nat) (Option.some Jvm.ClassFile.FieldType.boolean)).before args0 about1 = true := code_word (m := ⟨3, 1⟩) (meth := k3m1) (c := k3c1) (by decide +kernel) rfl rfl rfl (by decide +kernel)
set_option maxRecDepth 65536 in
theorem w_c11 : (Jvm.Cond.code ({ cls := "java/lang/String", name := "equals", desc := "(Ljava/lang/Object;)Z" } : Jvm.MethodName) jdk_42_method_66_code (3 : Nat) (Option.some Jvm.ClassFile.FieldType.boolean)).before args0 about1 = true := code_word (m := ⟨9, 2⟩) (meth := k9m2) (c := k9c2) (by decide +kernel) rfl rfl rfl (by decide +kernel)
set_option maxRecDepth 65536 in
theorem w_c12 : (Jvm.Cond.code ({ cls := "java/lang/StringLatin1", name := "equals", desc := "([B[B)Z" } : Jvm.MethodName) jdk_43_method_13_code (3 : Nat) (Option.some Jvm.ClassFile.FieldType.boolean)).before args0 about1 = true := code_word (m := ⟨11, 1⟩) (meth := k11m1) (c := k11c1) (by decide +kernel) rfl rfl rfl (by decide +kernel)
def codes1 : List Jvm.Cond := [Jvm.Cond.code x code maxLocals ret, Jvm.Cond.code ({ cls := "org/pathbind/MediaTypeIncludesPinLaw", name := "pick", desc := "(IC)Ljava/lang/String;" } : Jvm.MethodName) method_2_code (3 : Nat) (Option.some (Jvm.ClassFile.FieldType.object "java/lang/String")), Jvm.Cond.code ({ cls := "java/lang/String", name := "<init>", desc := "([C)V" } : Jvm.MethodName) jdk_42_method_3_code (2 : Nat) (Option.none : Option Jvm.ClassFile.FieldType), Jvm.Cond.code ({ cls := "java/lang/String", name := "<init>", desc := "([CIILjava/lang/Void;)V" } : Jvm.MethodName) jdk_42_method_149_code (6 : Nat) (Option.none : Option Jvm.ClassFile.FieldType), Jvm.Cond.code ({ cls := "java/lang/Object", name := "<init>", desc := "()V" } : Jvm.MethodName) object_method_1_code (1 : Nat) (Option.none : Option Jvm.ClassFile.FieldType), Jvm.Cond.code ({ cls := "java/lang/StringUTF16", name := "compress", desc := "([CII)[B" } : Jvm.MethodName) jdk_52_method_16_code (6 : Nat) (Option.some (Jvm.ClassFile.FieldType.array Jvm.ClassFile.FieldType.byte)), Jvm.Cond.code ({ cls := "java/lang/StringUTF16", name := "compress", desc := "([CI[BII)I" } : Jvm.MethodName) jdk_52_method_21_code (7 : Nat) (Option.some Jvm.ClassFile.FieldType.int), Jvm.Cond.code ({ cls := "java/lang/StringUTF16", name := "coderFromArrayLen", desc := "([BI)B" } : Jvm.MethodName) jdk_52_method_15_code (2 : Nat) (Option.some Jvm.ClassFile.FieldType.byte), Jvm.Cond.code ({ cls := "org/pathbind/MediaType", name := "<init>", desc := "(Ljava/lang/String;Ljava/lang/String;Ljava/util/Map;Ljava/lang/String;)V" } : Jvm.MethodName) prog_30_method_1_code (5 : Nat) (Option.none : Option Jvm.ClassFile.FieldType), Jvm.Cond.code ({ cls := "java/lang/Record", name := "<init>", desc := "()V" } : Jvm.MethodName) jdk_30_method_1_code (1 : Nat) (Option.none : Option Jvm.ClassFile.FieldType), Jvm.Cond.code ({ cls := "org/pathbind/MediaType", name := "includes", desc := "(Lorg/pathbind/MediaType;)Z" } : Jvm.MethodName) prog_30_method_6_code (2 : Nat) (Option.some Jvm.ClassFile.FieldType.boolean), Jvm.Cond.code ({ cls := "java/lang/String", name := "equals", desc := "(Ljava/lang/Object;)Z" } : Jvm.MethodName) jdk_42_method_66_code (3 : Nat) (Option.some Jvm.ClassFile.FieldType.boolean), Jvm.Cond.code ({ cls := "java/lang/StringLatin1", name := "equals", desc := "([B[B)Z" } : Jvm.MethodName) jdk_43_method_13_code (3 : Nat) (Option.some Jvm.ClassFile.FieldType.boolean)]
set_option maxRecDepth 65536 in
theorem codes_eq : words1.filter isCode = codes1 := rfl
theorem w_codes : ∀ c ∈ words1.filter isCode, c.before args0 about1 = true := by
  rw [codes_eq]
  intro c hc
  simp only [codes1, List.mem_cons, List.not_mem_nil, or_false] at hc
  rcases hc with rfl | rfl | rfl | rfl | rfl | rfl | rfl | rfl | rfl | rfl | rfl | rfl | rfl
  · exact w_c0
  · exact w_c1
  · exact w_c2
  · exact w_c3
  · exact w_c4
  · exact w_c5
  · exact w_c6
  · exact w_c7
  · exact w_c8
  · exact w_c9
  · exact w_c10
  · exact w_c11
  · exact w_c12
set_option maxRecDepth 65536 in
theorem w_t1 : (words1.take 24).all (fun c => isCode c || c.before args0 about1) = true := by decide +kernel
set_option maxRecDepth 65536 in
theorem w_t2 : ((words1.drop 24).take 24).all (fun c => isCode c || c.before args0 about1) = true := by decide +kernel
set_option maxRecDepth 65536 in
theorem w_t3 : (((words1.drop 24).drop 24).take 24).all (fun c => isCode c || c.before args0 about1) = true := by decide +kernel
set_option maxRecDepth 65536 in
theorem w_t4 : (((words1.drop 24).drop 24).drop 24).all (fun c => isCode c || c.before args0 about1) = true := by decide +kernel
theorem w_tables : (allAtoms (Jvm.Cond.code x code maxLocals ret :: tables_1)).before args0 about1 = true := by
  rw [allAtoms_all]
  show words1.all (fun c => c.before args0 about1) = true
  refine all_split ?_ w_codes
  rw [← List.take_append_drop 24 words1, List.all_append, w_t1, ← List.take_append_drop 24 (words1.drop 24), List.all_append, w_t2, ← List.take_append_drop 24 ((words1.drop 24).drop 24), List.all_append, w_t3, w_t4]
  rfl
set_option maxRecDepth 65536 in
theorem w_rest : rest_1_c.before args0 about1 = true := by decide +kernel
set_option maxRecDepth 65536 in
theorem w_case : (Jvm.Cond.and given_1 narrow_1).before args0 about1 = true := by decide +kernel
set_option maxRecDepth 65536 in
theorem w_consts : constsHeld consts_1 about1 := Jvm.Lit.constsHeldB_iff.mp (by decide +kernel)
theorem w_applies : (headSpec (Jvm.Cond.code x code maxLocals ret :: tables_1) room_1).applies x e0.platform about1 = true :=
  (Spec.applies_iff w_frames).mpr ⟨w_running, w_runnable, w_alone, w_named, w_hears, w_ripe, w_room, w_tables⟩
theorem atStart : AtStart classFile x code maxLocals ret World_1 tables_1 room_1 Calls_1 rest_1 Pre_1 launch0 p0 e0 about1 theMethod args0 below0 :=
  ⟨lists_1, trivial, launch0.admits_env _ _ _, launch0.least_env, fairChoices_fair.cas, fairChoices_fair.clock, w_frames, w_args, w_heap, w_applies, ⟨w_consts, trivial⟩, w_rest, w_case⟩
end start1
theorem witness_1 : WitnessClaimed_1 := ⟨start1.p0, start1.e0, start1.about1, start1.theMethod, start1.args0, start1.below0, start1.atStart⟩
end Jvm.Pilot.@@N@@
