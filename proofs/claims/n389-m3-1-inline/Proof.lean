import JvmDerived
import JvmDerived.Pilot.@@N@@Statement
import JvmDerived.Pilot.@@N@@Code
set_option linter.unusedVariables false
set_option linter.unusedSimpArgs false
@@BLOCK:TracedD.lean.txt@@
namespace Jvm.RoadKit
open Sem ClassFile Op Lib Jvm.Stand Jvm.Free Jvm.LawKit
section New
variable {p : Program} {l : Launch} {e : Env} {R : Room} {s : State} {m : MethodId} {args : Array Value} {below : List Frame} {meth : Method} {c : Code} {T : State} {locs : List Loc} {cells slots : Nat}
theorem retI (X : Stand p l e R s m args below meth c T locs cells slots) (hx : p.tables.exec = Jvm.exec) {pc : Nat} {Ls : Array Slot} {z : Int32} {rest : List Value} (hret : meth.sig.returnType = some .int) (hd : decode c.code pc = .ok (.ireturn, 1)) {fs : List Frame}
    (hl : ∀ (f : JFrame) (acts : List Action), f.method = m → f.locked = none → f.entered = [] → (doReturn e (T.setTop f) acts (some (.int z))).1 = T.setFrames fs) : Steps p.tables e below (T.setTop (mkF m pc Ls (.int z :: rest))) (T.setFrames fs) := by
  have hm' : T.vm.method? m = some meth := X.method'
  have hn : narrow .int (.int z) = .int z := rfl
  show Steps p.tables e below (T.setTop { method := m, pc := pc, locals := Ls, stack := _ :: rest, locked := none }) _
  jvm_step X.here [X.here.top, hx, hd, hm', hret, hn]
  first | (intro acts; rw [hl _ acts rfl rfl rfl]) | rw [hl _ _ rfl rfl rfl]
  exact Steps.refl _
end New
end Jvm.RoadKit
/- laws to paste: Road.backV, Road.lenW, Road.chN, Road.codOf (cut by pick.py; bodies as the Statement names them) -/
namespace Jvm.Pilot.@@N@@
namespace StrChars
open Jvm Sem ClassFile Op Lib Jvm.Stand Jvm.Free.XT Jvm.Free.ALB Jvm.Free.JM Jvm.Free
open Jvm.Lib.Cold (StaticIs)
/-- a char array whose places are chars -/
def Ch (a : Addr) (A : Cell) (U : State) : Prop := Arr .char a A U ∧ Typed .char A
theorem Ch.mv {a : Addr} {A : Cell} {U U' : State} (h : Ch a A U) (hal : U.vm.Alike U'.vm) (hh : U'.heap = U.heap) : Ch a A U' := ⟨h.1.mv hal hh, h.2⟩
theorem Ch.keep {a : Addr} {A : Cell} {U U' : State} (h : Ch a A U) (hal : U.vm.Alike U'.vm) (hk : U'.heap[a]? = some A) : Ch a A U' := ⟨h.1.keep hal hk, h.2⟩
/-- what place i of a char[]'s cell holds -/
def cv (A : Cell) (i : Nat) : Int32 := match A.slots[i]? with | some (.int x) => x | _ => 0
theorem Ch.get {a : Addr} {A : Cell} {U : State} (h : Ch a A U) {i : Nat} (hi : i < A.slots.size) : A.slots[i]? = some (.int (cv A i)) := by
  have e := Array.getElem?_eq_getElem hi
  have f := h.2 i _ e
  unfold cv; rw [e]
  generalize A.slots[i] = v at f
  cases v <;> simp [fits] at f ⊢
/-- the byte that i2b leaves of a char -/
def lo8 (x : Int32) : Int32 := x.toInt8.toInt32
theorem fits_lo8 (y : Int32) : fits .byte (.int (lo8 y)) = true := by
  have h1 := y.toInt8.le_toInt
  have h2 := y.toInt8.toInt_lt
  simp only [lo8, fits, Bool.and_eq_true, decide_eq_true_eq, Int32.le_iff_toInt_le, Int8.toInt_toInt32, show (-128 : Int32).toInt = -128 from by decide, show (127 : Int32).toInt = 127 from by decide]
  omega
/-- A' is A but that each place j of lo .. hi - 1 holds f j -/
def Laid (A A' : Cell) (lo hi : Nat) (f : Nat → Value) : Prop := A'.cls = A.cls ∧ A'.vm = A.vm ∧ A'.slots.size = A.slots.size ∧ ∀ i, A'.slots[i]? = if lo ≤ i ∧ i < hi then some (f i) else A.slots[i]?
theorem Laid.zero (A : Cell) (lo : Nat) (f : Nat → Value) : Laid A A lo (lo + 0) f := ⟨rfl, rfl, rfl, fun i => by rw [if_neg (by omega)]⟩
theorem Laid.step {A Ak : Cell} {lo k : Nat} {f : Nat → Value} {v : Value} (h : Laid A Ak lo k f) (hlo : lo ≤ k) (hk : k < Ak.slots.size) (hv : v = f k) : Laid A (Ak.setSlot k v) lo (k + 1) f := by
  refine ⟨h.1, h.2.1, by simpa [Cell.setSlot] using h.2.2.1, fun i => ?_⟩
  by_cases e : k = i
  · subst e; rw [Cell.slots_setSlot_self v hk, if_pos (by omega), hv]
  · rw [Cell.slots_setSlot_ne v e, h.2.2.2 i]
    by_cases q : lo ≤ i ∧ i < k
    · rw [if_pos q, if_pos (by omega)]
    · rw [if_neg q, if_neg (by omega)]
def U16 : String := "java/lang/StringUTF16"
namespace Cmp5
def yN : MethodName := ⟨"java/lang/StringUTF16", "compress", "([CI[BII)I"⟩
abbrev yB : ByteArray := jdk_52_method_21_code
theorem d0 : decode yB 0 = .ok (.iconst 0, 1) := by decide +kernel
theorem d1 : decode yB 1 = .ok (.istore 5, 2) := by decide +kernel
theorem d3 : decode yB 3 = .ok (.iload 5, 2) := by decide +kernel
theorem d5 : decode yB 5 = .ok (.iload 4, 2) := by decide +kernel
theorem d7 : decode yB 7 = .ok (.if_icmp (.ge) 37, 3) := by decide +kernel
theorem d10 : decode yB 10 = .ok (.aload_n 0, 1) := by decide +kernel
theorem d11 : decode yB 11 = .ok (.iload_n 1, 1) := by decide +kernel
theorem d12 : decode yB 12 = .ok (.caload, 1) := by decide +kernel
theorem d13 : decode yB 13 = .ok (.istore 6, 2) := by decide +kernel
theorem d15 : decode yB 15 = .ok (.iload 6, 2) := by decide +kernel
theorem d17 : decode yB 17 = .ok (.sipush 255, 3) := by decide +kernel
theorem d20 : decode yB 20 = .ok (.if_icmp (.le) 6, 3) := by decide +kernel
theorem d26 : decode yB 26 = .ok (.aload_n 2, 1) := by decide +kernel
theorem d27 : decode yB 27 = .ok (.iload_n 3, 1) := by decide +kernel
theorem d28 : decode yB 28 = .ok (.iload 6, 2) := by decide +kernel
theorem d30 : decode yB 30 = .ok (.i2b, 1) := by decide +kernel
theorem d31 : decode yB 31 = .ok (.bastore, 1) := by decide +kernel
theorem d32 : decode yB 32 = .ok (.iinc 1 1, 3) := by decide +kernel
theorem d35 : decode yB 35 = .ok (.iinc 3 1, 3) := by decide +kernel
theorem d38 : decode yB 38 = .ok (.iinc 5 1, 3) := by decide +kernel
theorem d41 : decode yB 41 = .ok (.goto (-38), 3) := by decide +kernel
theorem d44 : decode yB 44 = .ok (.iload 4, 2) := by decide +kernel
theorem d46 : decode yB 46 = .ok (.ireturn, 1) := by decide +kernel
def site : List Cond := []
def tab : Cond := tabOf yN yB 7 (some .int) site
def P (b : Addr) (A : Cell) (d : Addr) (B : Cell) (o q len : Nat) (args : Array Value) (s : State) : Prop := args = #[.ref b, .int (Int32.ofNat o), .ref d, .int (Int32.ofNat q), .int (Int32.ofNat len)] ∧ Ch b A s ∧ Arr .byte d B s ∧ b ≠ d ∧ o + len ≤ A.slots.size ∧ q + len ≤ B.slots.size ∧ ∀ i, i < len → ¬ 255 < cv A (o + i)
def E (b : Addr) (A : Cell) (d : Addr) (B : Cell) (o q len : Nat) (r : Option Value) (s u : State) : Prop := r = some (.int (Int32.ofNat len)) ∧ ∃ B', Put d B' s u ∧ Laid B B' q (q + len) (fun j => Value.int (lo8 (cv A (o + (j - q)))))
/-- no char of the range above 255: len; the places written hold each char's low byte -/
theorem law (l : Launch) (b : Addr) (A : Cell) (d : Addr) (B : Cell) (o q len : Nat) : Law l yN 5 5 0 0 yB 7 (some .int) site (P b A d B o q len) (E b A d B o q len) (copyLocs d q len) 0 0 := by
  refine Law.of_walk (plainFor_of_name (by decide +kernel)) (by decide +kernel) (by decide +kernel) (by decide) (fun _ _ h => by rw [h.1]; rfl) (fun _ U U' hal hh h => ⟨h.1, h.2.1.mv hal hh, h.2.2.1.mv hal hh, h.2.2.2⟩) (fun r U U' V V' h1 hal h2 h => ⟨h.1, h.2.elim fun B' q => ⟨B', q.1.mv h1 h2, q.2⟩⟩) ?_
  intro p e s m args below meth c s₁ X0 hexec hbytes hml hret hlk hnm hown hh0 W hP
  obtain ⟨rfl, hA, hB, hne, l1, l2, hp⟩ := hP
  have c1 : Steps p.tables e below (s₁.setTop (entryFrame m #[.ref b, .int (Int32.ofNat o), .ref d, .int (Int32.ofNat q), .int (Int32.ofNat len)] 7)) (s₁.setTop (mkF m 0 #[.val (.ref b), .val (.int (Int32.ofNat o)), .val (.ref d), .val (.int (Int32.ofNat q)), .val (.int (Int32.ofNat len)), .unset, .unset] [])) := entry rfl
  have hA0 := hA.1.mv X0.warmed.alike hh0
  have hB0 := hB.mv X0.warmed.alike hh0
  have a31 := hA.1.2.2.2
  have c2 : Steps p.tables e below (s₁.setTop (entryFrame m #[.ref b, .int (Int32.ofNat o), .ref d, .int (Int32.ofNat q), .int (Int32.ofNat len)] 7)) (s₁.setTop (mkF m 3 #[.val (.ref b), .val (.int (Int32.ofNat o)), .val (.ref d), .val (.int (Int32.ofNat q)), .val (.int (Int32.ofNat len)), .val (.int 0), .unset] [])) := c1.trans (by
    refine iconstV X0.here hexec rfl 0 (hb hbytes d0) (by decide) ?_
    refine XS.istore X0.here hexec rfl (hb hbytes d1) rfl rfl ?_
    exact Steps.refl _)
  have loop : ∀ (r i : Nat), i + r = len → ∀ (z : Slot), (z = .unset ∨ ∃ w, z = .val w ∧ w.category = 1) → ∀ (Tl : State) (Bk : Cell), Stand p l e { frames := 0, locals := 0, cells := 0, slots := 0 } s m #[.ref b, .int (Int32.ofNat o), .ref d, .int (Int32.ofNat q), .int (Int32.ofNat len)] below meth c Tl ([] ++ copyLocs d q i) 0 0 → Put d Bk s₁ Tl → Laid B Bk q (q + i) (fun j => Value.int (lo8 (cv A (o + (j - q))))) →
      Steps p.tables e below (s₁.setTop (entryFrame m #[.ref b, .int (Int32.ofNat o), .ref d, .int (Int32.ofNat q), .int (Int32.ofNat len)] 7)) (Tl.setTop (mkF m 3 #[.val (.ref b), .val (.int (Int32.ofNat (o + i))), .val (.ref d), .val (.int (Int32.ofNat (q + i))), .val (.int (Int32.ofNat len)), .val (.int (Int32.ofNat i)), z] [])) → ∃ (T' : State) (B' : Cell) (z' : Slot), Stand p l e { frames := 0, locals := 0, cells := 0, slots := 0 } s m #[.ref b, .int (Int32.ofNat o), .ref d, .int (Int32.ofNat q), .int (Int32.ofNat len)] below meth c T' ([] ++ copyLocs d q len) 0 0 ∧ Put d B' s₁ T' ∧ Laid B B' q (q + len) (fun j => Value.int (lo8 (cv A (o + (j - q))))) ∧
      Steps p.tables e below (s₁.setTop (entryFrame m #[.ref b, .int (Int32.ofNat o), .ref d, .int (Int32.ofNat q), .int (Int32.ofNat len)] 7)) (T'.setTop (mkF m 3 #[.val (.ref b), .val (.int (Int32.ofNat (o + len))), .val (.ref d), .val (.int (Int32.ofNat (q + len))), .val (.int (Int32.ofNat len)), .val (.int (Int32.ofNat len)), z'] [])) := by
    intro r
    induction r with
    | zero =>
      intro i hi z hz Tl Bk Xl pl fl cl
      have hil : i = len := by omega
      rw [hil] at Xl fl cl
      exact ⟨Tl, Bk, z, Xl, pl, fl, cl⟩
    | succ r ih =>
      intro i hi z hz Tl Bk Xl pl fl cl
      have all := X0.warmed.alike.symm.trans Xl.warmed.alike
      have hAl := hA0.keep all (pl.other hne hA0.1)
      have hBk := hB0.like all pl.1 fl.1 fl.2.1 fl.2.2.1
      have hlt : q + i < Bk.slots.size := by rw [fl.2.2.1]; omega
      have c3 : Steps p.tables e below (s₁.setTop (entryFrame m #[.ref b, .int (Int32.ofNat o), .ref d, .int (Int32.ofNat q), .int (Int32.ofNat len)] 7)) (Tl.setTop (mkF m 12 #[.val (.ref b), .val (.int (Int32.ofNat (o + i))), .val (.ref d), .val (.int (Int32.ofNat (q + i))), .val (.int (Int32.ofNat len)), .val (.int (Int32.ofNat i)), z] [.int (Int32.ofNat (o + i)), .ref b])) := cl.trans (by
        refine XS.iload Xl.here hexec rfl (hb hbytes d3) rfl ?_
        refine XS.iload Xl.here hexec rfl (hb hbytes d5) rfl ?_
        refine XS.icmpNo Xl.here hexec rfl (hb hbytes d7) rfl (ii_ge_f (lt32 (by omega) (by omega))) ?_
        refine XS.aloadN Xl.here hexec rfl (hb hbytes d10) rfl rfl ?_
        refine XS.iloadN Xl.here hexec rfl (hb hbytes d11) rfl ?_
        exact Steps.refl _)
      have c4 : Steps p.tables e below (s₁.setTop (entryFrame m #[.ref b, .int (Int32.ofNat o), .ref d, .int (Int32.ofNat q), .int (Int32.ofNat len)] 7)) (Tl.setTop (mkF m 13 #[.val (.ref b), .val (.int (Int32.ofNat (o + i))), .val (.ref d), .val (.int (Int32.ofNat (q + i))), .val (.int (Int32.ofNat len)), .val (.int (Int32.ofNat i)), z] [.int (cv A (o + i))])) := c3.trans (by
        refine Xl.aget hexec hAl rfl (hA.get (i := o + i) (by omega)) rfl rfl (hb hbytes d12) ?_
        exact Steps.refl _)
      have c5 : Steps p.tables e below (s₁.setTop (entryFrame m #[.ref b, .int (Int32.ofNat o), .ref d, .int (Int32.ofNat q), .int (Int32.ofNat len)] 7)) (Tl.setTop (mkF m 15 #[.val (.ref b), .val (.int (Int32.ofNat (o + i))), .val (.ref d), .val (.int (Int32.ofNat (q + i))), .val (.int (Int32.ofNat len)), .val (.int (Int32.ofNat i)), .val (.int (cv A (o + i)))] [])) := c4.trans (by
        refine XS.istoreS Xl.here hexec rfl (hb hbytes d13) rfl rfl hz ?_
        exact Steps.refl _)
      have c6 : Steps p.tables e below (s₁.setTop (entryFrame m #[.ref b, .int (Int32.ofNat o), .ref d, .int (Int32.ofNat q), .int (Int32.ofNat len)] 7)) (Tl.setTop (mkF m 31 #[.val (.ref b), .val (.int (Int32.ofNat (o + i))), .val (.ref d), .val (.int (Int32.ofNat (q + i))), .val (.int (Int32.ofNat len)), .val (.int (Int32.ofNat i)), .val (.int (cv A (o + i)))] [.int (lo8 (cv A (o + i))), .int (Int32.ofNat (q + i)), .ref d])) := c5.trans (by
        refine XS.iload Xl.here hexec rfl (hb hbytes d15) rfl ?_
        refine sipushV Xl.here hexec rfl 255 (hb hbytes d17) (by decide) ?_
        refine XS.icmpYes Xl.here hexec rfl (pc0 := 20) rfl (hb hbytes d20) rfl (ii_le_t (hp i (by omega))) (by decide) rfl ?_
        refine XS.aloadN Xl.here hexec rfl (hb hbytes d26) rfl rfl ?_
        refine XS.iloadN Xl.here hexec rfl (hb hbytes d27) rfl ?_
        refine XS.iload Xl.here hexec rfl (hb hbytes d28) rfl ?_
        refine i2b Xl.here hexec rfl (hb hbytes d30) rfl ?_
        exact Steps.refl _)
      obtain ⟨T7, X7, p7, st7⟩ := Xl.aput hexec hBk rfl hlt rfl (fits_lo8 (cv A (o + i))) (g := (mkF m 31 #[.val (.ref b), .val (.int (Int32.ofNat (o + i))), .val (.ref d), .val (.int (Int32.ofNat (q + i))), .val (.int (Int32.ofNat len)), .val (.int (Int32.ofNat i)), .val (.int (cv A (o + i)))] [.int (lo8 (cv A (o + i))), .int (Int32.ofNat (q + i)), .ref d])) rfl (rest := []) rfl (hb hbytes d31)
      have c8 : Steps p.tables e below (s₁.setTop (entryFrame m #[.ref b, .int (Int32.ofNat o), .ref d, .int (Int32.ofNat q), .int (Int32.ofNat len)] 7)) (T7.setTop (mkF m 32 #[.val (.ref b), .val (.int (Int32.ofNat (o + i))), .val (.ref d), .val (.int (Int32.ofNat (q + i))), .val (.int (Int32.ofNat len)), .val (.int (Int32.ofNat i)), .val (.int (cv A (o + i)))] [])) := c6.trans (st7 _ (Steps.refl _))
      have c9 : Steps p.tables e below (s₁.setTop (entryFrame m #[.ref b, .int (Int32.ofNat o), .ref d, .int (Int32.ofNat q), .int (Int32.ofNat len)] 7)) (T7.setTop (mkF m 3 #[.val (.ref b), .val (.int (Int32.ofNat (o + i) + 1)), .val (.ref d), .val (.int (Int32.ofNat (q + i) + 1)), .val (.int (Int32.ofNat len)), .val (.int (Int32.ofNat i + 1)), .val (.int (cv A (o + i)))] [])) := c8.trans (by
        refine iincV X7.here hexec rfl 1 (hb hbytes d32) (by decide) rfl rfl ?_
        refine iincV X7.here hexec rfl 1 (hb hbytes d35) (by decide) rfl rfl ?_
        refine iincV X7.here hexec rfl 1 (hb hbytes d38) (by decide) rfl rfl ?_
        refine XS.goto X7.here hexec rfl (pc0 := 41) rfl (hb hbytes d41) (by decide) rfl ?_
        exact Steps.refl _)
      have c10 : Steps p.tables e below (s₁.setTop (entryFrame m #[.ref b, .int (Int32.ofNat o), .ref d, .int (Int32.ofNat q), .int (Int32.ofNat len)] 7)) (T7.setTop (mkF m 3 #[.val (.ref b), .val (.int (Int32.ofNat (o + (i + 1)))), .val (.ref d), .val (.int (Int32.ofNat (q + (i + 1)))), .val (.int (Int32.ofNat len)), .val (.int (Int32.ofNat (i + 1))), .val (.int (cv A (o + i)))] [])) := by
        have := c9
        rw [succ32, succ32, succ32] at this
        exact this
      exact ih (i + 1) (by omega) _ (Or.inr ⟨_, rfl, rfl⟩) T7 _ (by rw [copyLocs_step, ← List.append_assoc]; exact X7) (pl.trans p7) (fl.step (by omega) hlt (by simp)) c10
  obtain ⟨T9, B9, z9, X9, p9, f9, g9⟩ := loop len 0 (by omega) .unset (Or.inl rfl) s₁ B (by simpa [copyLocs] using X0) ⟨hB0.1, fun _ _ => rfl, rfl⟩ (Laid.zero _ _ _) c2
  have c11 : Steps p.tables e below (s₁.setTop (entryFrame m #[.ref b, .int (Int32.ofNat o), .ref d, .int (Int32.ofNat q), .int (Int32.ofNat len)] 7)) (T9.setTop (mkF m 46 #[.val (.ref b), .val (.int (Int32.ofNat (o + len))), .val (.ref d), .val (.int (Int32.ofNat (q + len))), .val (.int (Int32.ofNat len)), .val (.int (Int32.ofNat len)), z9] [.int (Int32.ofNat len)])) := g9.trans (by
    refine XS.iload X9.here hexec rfl (hb hbytes d3) rfl ?_
    refine XS.iload X9.here hexec rfl (hb hbytes d5) rfl ?_
    refine XS.icmpYes X9.here hexec rfl (pc0 := 7) rfl (hb hbytes d7) rfl (ii_ge_t (nlt32 (by omega) (Nat.le_refl _))) (by decide) rfl ?_
    refine XS.iload X9.here hexec rfl (hb hbytes d44) rfl ?_
    exact Steps.refl _)
  exact ⟨T9, some (.int (Int32.ofNat len)), _, _, _, X9, by simp, rfl, rfl, (fun h => by cases h), ⟨rfl, B9, p9.from hh0, f9⟩, fun fs hl => c11.trans (X9.ireturnOut hexec hret rfl (Or.inl rfl) (hb hbytes d46) hl)⟩
end Cmp5
namespace Cmp3
def yN : MethodName := ⟨"java/lang/StringUTF16", "compress", "([CII)[B"⟩
abbrev yB : ByteArray := jdk_52_method_16_code
theorem d0 : decode yB 0 = .ok (.iload_n 2, 1) := by decide +kernel
theorem d1 : decode yB 1 = .ok (.newarray .byte, 2) := by decide +kernel
theorem d3 : decode yB 3 = .ok (.astore_n 3, 1) := by decide +kernel
theorem d4 : decode yB 4 = .ok (.aload_n 0, 1) := by decide +kernel
theorem d5 : decode yB 5 = .ok (.iload_n 1, 1) := by decide +kernel
theorem d6 : decode yB 6 = .ok (.aload_n 3, 1) := by decide +kernel
theorem d7 : decode yB 7 = .ok (.iconst 0, 1) := by decide +kernel
theorem d8 : decode yB 8 = .ok (.iload_n 2, 1) := by decide +kernel
theorem d9 : decode yB 9 = .ok (.invokestatic 115, 3) := by decide +kernel
theorem d12 : decode yB 12 = .ok (.istore 4, 2) := by decide +kernel
theorem d14 : decode yB 14 = .ok (.iload 4, 2) := by decide +kernel
theorem d16 : decode yB 16 = .ok (.iload_n 2, 1) := by decide +kernel
theorem d17 : decode yB 17 = .ok (.if_icmp (.eq) 40, 3) := by decide +kernel
theorem d57 : decode yB 57 = .ok (.aload_n 3, 1) := by decide +kernel
theorem d58 : decode yB 58 = .ok (.areturn, 1) := by decide +kernel
def site : List Cond := [.arrayClass .byte, Cmp5.tab] ++ staticW U16 115 Cmp5.yN
def tab : Cond := tabOf yN yB 6 (some (.array .byte)) site
def P (b : Addr) (A : Cell) (o len : Nat) (args : Array Value) (s : State) : Prop := args = #[.ref b, .int (Int32.ofNat o), .int (Int32.ofNat len)] ∧ Ch b A s ∧ o + len ≤ A.slots.size ∧ len ≤ 536870912 ∧ ∀ i, i < len → ¬ 255 < cv A (o + i)
def E (b : Addr) (A : Cell) (o len : Nat) (r : Option Value) (s u : State) : Prop := NewArr .byte "[B" len (fun j => .int (lo8 (cv A (o + j)))) r s u ∧ u.heap.size = s.heap.size + 1
/-- no char of the range above 255: a new byte[] of their low bytes -/
theorem law (l : Launch) (b : Addr) (A : Cell) (o len : Nat) : Law l yN 3 3 1 18 yB 6 (some (.array .byte)) site (P b A o len) (E b A o len) [] 1 len := by
  refine Law.of_walk (plainFor_of_name (by decide +kernel)) (by decide +kernel) (by decide +kernel) (by decide) (fun _ _ h => by rw [h.1]; rfl) (fun _ U U' hal hh h => ⟨h.1, h.2.1.mv hal hh, h.2.2⟩) (fun r U U' V V' h1 hal h2 h => ⟨NewArr.mv r U U' V V' h1 hal h2 h.1, by rw [h1, h2]; exact h.2⟩) ?_
  intro p e s m args below meth c s₁ X0 hexec hbytes hml hret hlk hnm hown hh0 W hP
  obtain ⟨rfl, hA, l1, l2, hp⟩ := hP
  have a31 := hA.1.2.2.2
  have c1 : Steps p.tables e below (s₁.setTop (entryFrame m #[.ref b, .int (Int32.ofNat o), .int (Int32.ofNat len)] 6)) (s₁.setTop (mkF m 0 #[.val (.ref b), .val (.int (Int32.ofNat o)), .val (.int (Int32.ofNat len)), .unset, .unset, .unset] [])) := entry rfl
  have c2 : Steps p.tables e below (s₁.setTop (entryFrame m #[.ref b, .int (Int32.ofNat o), .int (Int32.ofNat len)] 6)) (s₁.setTop (mkF m 1 #[.val (.ref b), .val (.int (Int32.ofNat o)), .val (.int (Int32.ofNat len)), .unset, .unset, .unset] [.int (Int32.ofNat len)])) := c1.trans (by
    refine XS.iloadN X0.here hexec rfl (hb hbytes d0) rfl ?_
    exact Steps.refl _)
  obtain ⟨T3, B3, X3, ba3, bs3, bv3, bh3, bf3, st3⟩ := X0.anew hexec (atype := .byte) (wk W (.arrayClass .byte)) rfl (by show len * 1 ≤ _; omega) (by omega) (g := (mkF m 1 #[.val (.ref b), .val (.int (Int32.ofNat o)), .val (.int (Int32.ofNat len)), .unset, .unset, .unset] [.int (Int32.ofNat len)])) rfl (hb hbytes d1) (rest := []) rfl (Nat.le_refl _) (by show 0 + len ≤ len; omega)
  rw [hh0] at ba3 st3
  have kp3 : XT.Kept s T3 := (XT.Kept.of_eq hh0).push bh3
  have hA3 := hA.keep X3.warmed.alike (kp3 _ _ hA.1.1)
  have hne : b ≠ s.heap.size := hA.1.ne
  have c4 : Steps p.tables e below (s₁.setTop (entryFrame m #[.ref b, .int (Int32.ofNat o), .int (Int32.ofNat len)] 6)) (T3.setTop (mkF m 3 #[.val (.ref b), .val (.int (Int32.ofNat o)), .val (.int (Int32.ofNat len)), .unset, .unset, .unset] [.ref s.heap.size])) := c2.trans (st3 _ (Steps.refl _))
  have c5 : Steps p.tables e below (s₁.setTop (entryFrame m #[.ref b, .int (Int32.ofNat o), .int (Int32.ofNat len)] 6)) (T3.setTop (mkF m 9 #[.val (.ref b), .val (.int (Int32.ofNat o)), .val (.int (Int32.ofNat len)), .val (.ref s.heap.size), .unset, .unset] [.int (Int32.ofNat len), .int 0, .ref s.heap.size, .int (Int32.ofNat o), .ref b])) := c4.trans (by
    refine XS.astoreN X3.here hexec rfl (hb hbytes d3) rfl rfl rfl ?_
    refine XS.aloadN X3.here hexec rfl (hb hbytes d4) rfl rfl ?_
    refine XS.iloadN X3.here hexec rfl (hb hbytes d5) rfl ?_
    refine XS.aloadN X3.here hexec rfl (hb hbytes d6) rfl rfl ?_
    refine iconstV X3.here hexec rfl 0 (hb hbytes d7) (by decide) ?_
    refine XS.iloadN X3.here hexec rfl (hb hbytes d8) rfl ?_
    exact Steps.refl _)
  obtain ⟨v6, T6, X6, E6, g6⟩ := X3.callS hexec (Cmp5.law l b A s.heap.size B3 o 0 len) hown (wks W (staticW U16 115 Cmp5.yN)) (wk W Cmp5.tab) (W := 0) (Nat.le_of_ble_eq_true rfl) (Nat.le_of_ble_eq_true rfl) (Nat.le_refl _) (by show 0 + len + 0 ≤ len; omega) (g := (mkF m 9 #[.val (.ref b), .val (.int (Int32.ofNat o)), .val (.int (Int32.ofNat len)), .val (.ref s.heap.size), .unset, .unset] [.int (Int32.ofNat len), .int (Int32.ofNat 0), .ref s.heap.size, .int (Int32.ofNat o), .ref b])) rfl (by rw [hml]; rfl) c5 (argsL := [.ref b, .int (Int32.ofNat o), .ref s.heap.size, .int (Int32.ofNat 0), .int (Int32.ofNat len)]) (rest := []) rfl rfl (by show 2 * 0 + 0 ≤ _; decide) (hb hbytes d9) (⟨rfl, hA3, ba3, hne, l1, by rw [bs3]; simp, hp⟩)
  obtain ⟨rfl, B6, p6, f6⟩ := E6
  have c7 : Steps p.tables e below (s₁.setTop (entryFrame m #[.ref b, .int (Int32.ofNat o), .int (Int32.ofNat len)] 6)) (T6.setTop (mkF m 12 #[.val (.ref b), .val (.int (Int32.ofNat o)), .val (.int (Int32.ofNat len)), .val (.ref s.heap.size), .unset, .unset] [.int (Int32.ofNat len)])) := g6
  have c8 : Steps p.tables e below (s₁.setTop (entryFrame m #[.ref b, .int (Int32.ofNat o), .int (Int32.ofNat len)] 6)) (T6.setTop (mkF m 58 #[.val (.ref b), .val (.int (Int32.ofNat o)), .val (.int (Int32.ofNat len)), .val (.ref s.heap.size), .val (.int (Int32.ofNat len)), .unset] [.ref s.heap.size])) := c7.trans (by
    refine XS.istore X6.here hexec rfl (hb hbytes d12) rfl rfl ?_
    refine XS.iload X6.here hexec rfl (hb hbytes d14) rfl ?_
    refine XS.iloadN X6.here hexec rfl (hb hbytes d16) rfl ?_
    refine XS.icmpYes X6.here hexec rfl (pc0 := 17) rfl (hb hbytes d17) rfl (ii_eq_t rfl) (by decide) rfl ?_
    refine XS.aloadN X6.here hexec rfl (hb hbytes d57) rfl rfl ?_
    exact Steps.refl _)
  have X8 := X6.wide (L' := []) (cells' := 1) (slots' := len) (fun x hx hlt => by
    simp only [List.nil_append, copyLocs, List.mem_map, List.mem_range] at hx
    obtain ⟨i, -, rfl⟩ := hx
    exact absurd hlt (Nat.lt_irrefl _)) (Nat.le_refl _) (by omega)
  exact ⟨T6, some (.ref s.heap.size), _, _, _, X8, rfl, rfl, rfl, (fun h => by cases h), ⟨⟨rfl, B6, ba3.like (X3.warmed.alike.symm.trans X6.warmed.alike) p6.1 f6.1 f6.2.1 f6.2.2.1, f6.2.1.trans bv3, by rw [X6.warmed.alike.findClass, f6.1]; exact bf3, by rw [f6.2.2.1, bs3]; simp, fun j hj => by rw [f6.2.2.2 j, if_pos (by omega)]; rfl, kp3.put p6 (Nat.le_refl _)⟩, by rw [p6.2.2, bh3, hh0]; simp⟩, fun fs hl => c8.trans (X8.areturnOut hexec rfl hret rfl (hb hbytes d58) hl)⟩
end Cmp3
namespace CodL
def yN : MethodName := ⟨"java/lang/StringUTF16", "coderFromArrayLen", "([BI)B"⟩
abbrev yB : ByteArray := jdk_52_method_15_code
theorem d0 : decode yB 0 = .ok (.iload_n 1, 1) := by decide +kernel
theorem d1 : decode yB 1 = .ok (.aload_n 0, 1) := by decide +kernel
theorem d2 : decode yB 2 = .ok (.arraylength, 1) := by decide +kernel
theorem d3 : decode yB 3 = .ok (.isub, 1) := by decide +kernel
theorem d4 : decode yB 4 = .ok (.bipush 31, 2) := by decide +kernel
theorem d6 : decode yB 6 = .ok (.iushr, 1) := by decide +kernel
theorem d7 : decode yB 7 = .ok (.i2b, 1) := by decide +kernel
theorem d8 : decode yB 8 = .ok (.ireturn, 1) := by decide +kernel
def site : List Cond := []
def tab : Cond := tabOf yN yB 2 (some .byte) site
def P (d : Addr) (B : Cell) (args : Array Value) (s : State) : Prop := args = #[.ref d, .int (Int32.ofNat B.slots.size)] ∧ Arr .byte d B s
def E (r : Option Value) (s u : State) : Prop := XT.PureE (some (.int 0)) r s u
/-- an array as long as the number of chars: LATIN1 -/
theorem law (l : Launch) (d : Addr) (B : Cell) : Law l yN 2 2 0 0 yB 2 (some .byte) site (P d B) E [] 0 0 := by
  refine Law.of_walk (plainFor_of_name (by decide +kernel)) (by decide +kernel) (by decide +kernel) (by decide) (fun _ _ h => by rw [h.1]; rfl) (fun _ U U' hal hh h => ⟨h.1, h.2.mv hal hh⟩) (fun r U U' V V' h1 hal h2 h => XT.PureE.mv r U U' V V' h1 hal h2 h) ?_
  intro p e s m args below meth c s₁ X0 hexec hbytes hml hret hlk hnm hown hh0 W hP
  obtain ⟨rfl, hB⟩ := hP
  have hB0 := hB.mv X0.warmed.alike hh0
  have c1 : Steps p.tables e below (s₁.setTop (entryFrame m #[.ref d, .int (Int32.ofNat B.slots.size)] 2)) (s₁.setTop (mkF m 0 #[.val (.ref d), .val (.int (Int32.ofNat B.slots.size))] [])) := entry rfl
  have c2 : Steps p.tables e below (s₁.setTop (entryFrame m #[.ref d, .int (Int32.ofNat B.slots.size)] 2)) (s₁.setTop (mkF m 2 #[.val (.ref d), .val (.int (Int32.ofNat B.slots.size))] [.ref d, .int (Int32.ofNat B.slots.size)])) := c1.trans (by
    refine XS.iloadN X0.here hexec rfl (hb hbytes d0) rfl ?_
    refine XS.aloadN X0.here hexec rfl (hb hbytes d1) rfl rfl ?_
    exact Steps.refl _)
  have c3 : Steps p.tables e below (s₁.setTop (entryFrame m #[.ref d, .int (Int32.ofNat B.slots.size)] 2)) (s₁.setTop (mkF m 8 #[.val (.ref d), .val (.int (Int32.ofNat B.slots.size))] [.int (lo8 (ushr (Int32.ofNat B.slots.size - Int32.ofNat B.slots.size) 31))])) := c2.trans (by
    refine X0.alen hexec hB0 rfl rfl (hb hbytes d2) ?_
    refine XS.isub X0.here hexec rfl (hb hbytes d3) rfl ?_
    refine bipushV X0.here hexec rfl 31 (hb hbytes d4) (by decide) ?_
    refine iushr X0.here hexec rfl (hb hbytes d6) rfl ?_
    refine i2b X0.here hexec rfl (hb hbytes d7) rfl ?_
    exact Steps.refl _)
  have e0 : lo8 (ushr (Int32.ofNat B.slots.size - Int32.ofNat B.slots.size) 31) = 0 := by rw [Int32.sub_self]; decide
  rw [e0] at c3
  exact ⟨s₁, some (.int 0), _, _, _, X0, rfl, rfl, rfl, (fun h => by cases h), ⟨rfl, hh0⟩, fun fs hl => c3.trans (X0.ireturnOut hexec hret rfl (Or.inr (Or.inr (Or.inl rfl))) (hb hbytes d8) hl)⟩
end CodL
/-- the String at a is Latin-1 over a new byte[] (the heap's one new cell): the low bytes of the len chars of A from o on; every cell but a is kept -/
def Got (a : Addr) (D : Cell) (fV fC : Field) (A : Cell) (o len : Nat) (r : Option Value) (s u : State) : Prop := r = none ∧ ∃ D' V : Cell, Blank "java/lang/String" a D' u ∧ Same D D' [fV.slot, fC.slot] ∧ D'.slots[fV.slot]? = some (.ref s.heap.size) ∧ D'.slots[fC.slot]? = some (.int 0) ∧ Arr .byte s.heap.size V u ∧ V.vm = .none ∧ u.vm.findClass "[B" = some V.cls ∧ V.slots.size = len ∧ (∀ j, j < len → V.slots[j]? = some (.int (lo8 (cv A (o + j))))) ∧ (∀ (y : Addr) (c : Cell), y ≠ a → s.heap[y]? = some c → u.heap[y]? = some c) ∧ u.heap.size = s.heap.size + 1
theorem Got.mv {a : Addr} {D A : Cell} {fV fC : Field} {o len : Nat} : ∀ r (U U' V V' : State), U'.heap = U.heap → V.vm.Alike V'.vm → V'.heap = V.heap → Got a D fV fC A o len r U V → Got a D fV fC A o len r U' V' :=
  fun r U U' V V' h1 hal h2 ⟨e0, D', X, a1, a2, a3, a4, a5, a6, a7, a8, a9, a10, a11⟩ => ⟨e0, D', X, a1.mv hal h2, a2, by rw [h1]; exact a3, a4, by rw [h1]; exact a5.mv hal h2, a6, by rw [hal.findClass]; exact a7, a8, a9, by rw [h1, h2]; exact a10, by rw [h1, h2]; exact a11⟩
namespace New4
def yN : MethodName := ⟨"java/lang/String", "<init>", "([CIILjava/lang/Void;)V"⟩
abbrev yB : ByteArray := jdk_42_method_149_code
theorem d0 : decode yB 0 = .ok (.aload_n 0, 1) := by decide +kernel
theorem d1 : decode yB 1 = .ok (.invokespecial 1, 3) := by decide +kernel
theorem d4 : decode yB 4 = .ok (.iload_n 3, 1) := by decide +kernel
theorem d5 : decode yB 5 = .ok (.ifCond (.ne) 22, 3) := by decide +kernel
theorem d27 : decode yB 27 = .ok (.getstatic 38, 3) := by decide +kernel
theorem d30 : decode yB 30 = .ok (.ifCond (.eq) 28, 3) := by decide +kernel
theorem d33 : decode yB 33 = .ok (.aload_n 1, 1) := by decide +kernel
theorem d34 : decode yB 34 = .ok (.iload_n 2, 1) := by decide +kernel
theorem d35 : decode yB 35 = .ok (.iload_n 3, 1) := by decide +kernel
theorem d36 : decode yB 36 = .ok (.invokestatic 177, 3) := by decide +kernel
theorem d39 : decode yB 39 = .ok (.astore 5, 2) := by decide +kernel
theorem d41 : decode yB 41 = .ok (.aload_n 0, 1) := by decide +kernel
theorem d42 : decode yB 42 = .ok (.aload 5, 2) := by decide +kernel
theorem d44 : decode yB 44 = .ok (.iload_n 3, 1) := by decide +kernel
theorem d45 : decode yB 45 = .ok (.invokestatic 47, 3) := by decide +kernel
theorem d48 : decode yB 48 = .ok (.putfield 15, 3) := by decide +kernel
theorem d51 : decode yB 51 = .ok (.aload_n 0, 1) := by decide +kernel
theorem d52 : decode yB 52 = .ok (.aload 5, 2) := by decide +kernel
theorem d54 : decode yB 54 = .ok (.putfield 9, 3) := by decide +kernel
theorem d57 : decode yB 57 = .ok (.return_, 1) := by decide +kernel
def site : List Cond := [.fieldLink "java/lang/String" 38 "java/lang/String" "COMPACT_STRINGS" "Z", Cmp3.tab, CodL.tab, .laysFinal "java/lang/String" "java/lang/String" "value" "[B", .fieldLink "java/lang/String" 9 "java/lang/String" "value" "[B", .laysFinal "java/lang/String" "java/lang/String" "coder" "B", .fieldLink "java/lang/String" 15 "java/lang/String" "coder" "B"] ++ objW "java/lang/String" 1 ++ staticW "java/lang/String" 177 Cmp3.yN ++ staticW "java/lang/String" 47 CodL.yN
def tab : Cond := tabOf yN yB 6 none site
def P (a : Addr) (D : Cell) (fV fC : Field) (b : Addr) (A : Cell) (z : Int32) (o len : Nat) (args : Array Value) (s : State) : Prop := args = #[.ref a, .ref b, .int (Int32.ofNat o), .int (Int32.ofNat len), .null] ∧ Blank "java/lang/String" a D s ∧ Found "java/lang/String" "value" "[B" fV s ∧ Found "java/lang/String" "coder" "B" fC s ∧ Ch b A s ∧ StaticIs s "java/lang/String" "COMPACT_STRINGS" "Z" (.int z) ∧ ¬ z = 0 ∧ 0 < len ∧ o + len ≤ A.slots.size ∧ len ≤ 536870912 ∧ ∀ i, i < len → ¬ 255 < cv A (o + i)
def E (a : Addr) (D : Cell) (fV fC : Field) (A : Cell) (o len : Nat) (r : Option Value) (s u : State) : Prop := Got a D fV fC A o len r s u
/-- len > 0, no char of the range above 255: a Latin-1 String of their low bytes -/
theorem law (l : Launch) (a : Addr) (D : Cell) (fV fC : Field) (b : Addr) (A : Cell) (z : Int32) (o len : Nat) : Law l yN 5 4 2 35 yB 6 none site (P a D fV fC b A z o len) (E a D fV fC A o len) [⟨a, fC.slot⟩, ⟨a, fV.slot⟩] 1 len := by
  refine Law.of_walk (plainFor_of_name (by decide +kernel)) (by decide +kernel) (by decide +kernel) (by decide) (fun _ _ h => by rw [h.1]; rfl) (fun _ U U' hal hh h => ⟨h.1, h.2.1.mv hal hh, h.2.2.1.al hal, h.2.2.2.1.al hal, h.2.2.2.2.1.mv hal hh, h.2.2.2.2.2.1.there hal hh, h.2.2.2.2.2.2⟩) (fun r U U' V V' h1 hal h2 h => Got.mv r U U' V V' h1 hal h2 h) ?_
  intro p e s m args below meth c s₁ X0 hexec hbytes hml hret hlk hnm hown hh0 W hP
  obtain ⟨rfl, hB, f1, f2, hA, s1, hz, l0, l1, l2, hp⟩ := hP
  have a31 := hA.1.2.2.2
  have c1 : Steps p.tables e below (s₁.setTop (entryFrame m #[.ref a, .ref b, .int (Int32.ofNat o), .int (Int32.ofNat len), .null] 6)) (s₁.setTop (mkF m 0 #[.val (.ref a), .val (.ref b), .val (.int (Int32.ofNat o)), .val (.int (Int32.ofNat len)), .val .null, .unset] [])) := entry rfl
  have c2 : Steps p.tables e below (s₁.setTop (entryFrame m #[.ref a, .ref b, .int (Int32.ofNat o), .int (Int32.ofNat len), .null] 6)) (s₁.setTop (mkF m 1 #[.val (.ref a), .val (.ref b), .val (.int (Int32.ofNat o)), .val (.int (Int32.ofNat len)), .val .null, .unset] [.ref a])) := c1.trans (by
    refine XS.aloadN X0.here hexec rfl (hb hbytes d0) rfl rfl ?_
    exact Steps.refl _)
  obtain ⟨T3, X3, q3, st3⟩ := X0.oinit hexec hown (wks W (objW "java/lang/String" 1)) (g := (mkF m 1 #[.val (.ref a), .val (.ref b), .val (.int (Int32.ofNat o)), .val (.int (Int32.ofNat len)), .val .null, .unset] [.ref a])) rfl (by rw [hml]; rfl) (rest := []) rfl (hb hbytes d1) (W := 0) (by show 2 * 0 + 0 ≤ _; decide) (Nat.le_of_ble_eq_true rfl) (Nat.le_of_ble_eq_true rfl)
  have hh3 := q3.trans hh0
  have c4 : Steps p.tables e below (s₁.setTop (entryFrame m #[.ref a, .ref b, .int (Int32.ofNat o), .int (Int32.ofNat len), .null] 6)) (T3.setTop (mkF m 27 #[.val (.ref a), .val (.ref b), .val (.int (Int32.ofNat o)), .val (.int (Int32.ofNat len)), .val .null, .unset] [])) := (c2.trans (st3 _ (Steps.refl _))).trans (by
    refine XS.iloadN X3.here hexec rfl (hb hbytes d4) rfl ?_
    refine XS.ifYes X3.here hexec rfl (pc0 := 5) rfl (hb hbytes d5) rfl (i0_ne_t (nz32 (by omega) l0)) (by decide) rfl ?_
    exact Steps.refl _)
  obtain ⟨T5, X5, q5, st5⟩ := X3.sget hexec hown (wk W (.fieldLink "java/lang/String" 38 "java/lang/String" "COMPACT_STRINGS" "Z")) s1 (fun _ _ h => by rw [hh3]; exact h) (g := (mkF m 27 #[.val (.ref a), .val (.ref b), .val (.int (Int32.ofNat o)), .val (.int (Int32.ofNat len)), .val .null, .unset] [])) rfl (hb hbytes d27)
  have hh5 := q5.trans hh3
  have c6 : Steps p.tables e below (s₁.setTop (entryFrame m #[.ref a, .ref b, .int (Int32.ofNat o), .int (Int32.ofNat len), .null] 6)) (T5.setTop (mkF m 30 #[.val (.ref a), .val (.ref b), .val (.int (Int32.ofNat o)), .val (.int (Int32.ofNat len)), .val .null, .unset] [.int z])) := c4.trans (st5 _ (Steps.refl _))
  have c7 : Steps p.tables e below (s₁.setTop (entryFrame m #[.ref a, .ref b, .int (Int32.ofNat o), .int (Int32.ofNat len), .null] 6)) (T5.setTop (mkF m 36 #[.val (.ref a), .val (.ref b), .val (.int (Int32.ofNat o)), .val (.int (Int32.ofNat len)), .val .null, .unset] [.int (Int32.ofNat len), .int (Int32.ofNat o), .ref b])) := c6.trans (by
    refine XS.ifNo X5.here hexec rfl (hb hbytes d30) rfl (i0_eq_f hz) ?_
    refine XS.aloadN X5.here hexec rfl (hb hbytes d33) rfl rfl ?_
    refine XS.iloadN X5.here hexec rfl (hb hbytes d34) rfl ?_
    refine XS.iloadN X5.here hexec rfl (hb hbytes d35) rfl ?_
    exact Steps.refl _)
  obtain ⟨v8, T8, X8, E8, g8⟩ := X5.callS hexec (Cmp3.law l b A o len) hown (wks W (staticW "java/lang/String" 177 Cmp3.yN)) (wk W Cmp3.tab) (W := 0) (Nat.le_of_ble_eq_true rfl) (Nat.le_of_ble_eq_true rfl) (Nat.le_refl _) (by show 0 + len ≤ len; omega) (g := (mkF m 36 #[.val (.ref a), .val (.ref b), .val (.int (Int32.ofNat o)), .val (.int (Int32.ofNat len)), .val .null, .unset] [.int (Int32.ofNat len), .int (Int32.ofNat o), .ref b])) rfl (by rw [hml]; rfl) c7 (argsL := [.ref b, .int (Int32.ofNat o), .int (Int32.ofNat len)]) (rest := []) rfl rfl (by show 2 * 0 + 0 ≤ _; decide) (hb hbytes d36) (⟨rfl, hA.mv X5.warmed.alike hh5, l1, l2, hp⟩)
  obtain ⟨e8, z8⟩ := E8
  obtain ⟨rfl, N, n1, n2, n3, n4, n5, n6⟩ := NewArr.mv _ T5 s _ _ hh5.symm (Vm.Alike.refl _) rfl e8
  rw [hh5] at z8
  have hB1 := hB.keep X8.warmed.alike (n6 _ _ hB.1)
  have hne : s.heap.size ≠ a := (Nat.ne_of_lt (Array.getElem?_eq_some_iff.mp hB.1).1).symm
  have c9 : Steps p.tables e below (s₁.setTop (entryFrame m #[.ref a, .ref b, .int (Int32.ofNat o), .int (Int32.ofNat len), .null] 6)) (T8.setTop (mkF m 39 #[.val (.ref a), .val (.ref b), .val (.int (Int32.ofNat o)), .val (.int (Int32.ofNat len)), .val .null, .unset] [.ref s.heap.size])) := g8
  have c10 : Steps p.tables e below (s₁.setTop (entryFrame m #[.ref a, .ref b, .int (Int32.ofNat o), .int (Int32.ofNat len), .null] 6)) (T8.setTop (mkF m 45 #[.val (.ref a), .val (.ref b), .val (.int (Int32.ofNat o)), .val (.int (Int32.ofNat len)), .val .null, .val (.ref s.heap.size)] [.int (Int32.ofNat N.slots.size), .ref s.heap.size, .ref a])) := by
    have hc : Steps p.tables e below (s₁.setTop (entryFrame m #[.ref a, .ref b, .int (Int32.ofNat o), .int (Int32.ofNat len), .null] 6)) (T8.setTop (mkF m 45 #[.val (.ref a), .val (.ref b), .val (.int (Int32.ofNat o)), .val (.int (Int32.ofNat len)), .val .null, .val (.ref s.heap.size)] [.int (Int32.ofNat len), .ref s.heap.size, .ref a])) := c9.trans (by
      refine XS.astore X8.here hexec rfl (hb hbytes d39) rfl rfl rfl ?_
      refine XS.aloadN X8.here hexec rfl (hb hbytes d41) rfl rfl ?_
      refine XS.aload X8.here hexec rfl (hb hbytes d42) rfl rfl ?_
      refine XS.iloadN X8.here hexec rfl (hb hbytes d44) rfl ?_
      exact Steps.refl _)
    rw [n4]; exact hc
  obtain ⟨v11, T11, X11, E11, g11⟩ := X8.callS hexec (CodL.law l s.heap.size N) hown (wks W (staticW "java/lang/String" 47 CodL.yN)) (wk W CodL.tab) (W := 1) (Nat.le_of_ble_eq_true rfl) (Nat.le_of_ble_eq_true rfl) (Nat.le_refl _) (by show 0 + len + 0 ≤ len; omega) (g := (mkF m 45 #[.val (.ref a), .val (.ref b), .val (.int (Int32.ofNat o)), .val (.int (Int32.ofNat len)), .val .null, .val (.ref s.heap.size)] [.int (Int32.ofNat N.slots.size), .ref s.heap.size, .ref a])) rfl (by rw [hml]; rfl) c10 (argsL := [.ref s.heap.size, .int (Int32.ofNat N.slots.size)]) (rest := [.ref a]) rfl rfl (by show 2 * 0 + (1 + 0) ≤ _; decide) (hb hbytes d45) (⟨rfl, n1⟩)
  obtain ⟨rfl, q11⟩ := E11
  have hB11 := hB1.mv (X8.warmed.alike.symm.trans X11.warmed.alike) q11
  have c12 : Steps p.tables e below (s₁.setTop (entryFrame m #[.ref a, .ref b, .int (Int32.ofNat o), .int (Int32.ofNat len), .null] 6)) (T11.setTop (mkF m 48 #[.val (.ref a), .val (.ref b), .val (.int (Int32.ofNat o)), .val (.int (Int32.ofNat len)), .val .null, .val (.ref s.heap.size)] [.int 0, .ref a])) := g11
  obtain ⟨T13, X13, p13, bl13, sl13, st13⟩ := X11.finit hexec hown (wk W (.fieldLink "java/lang/String" 15 "java/lang/String" "coder" "B")) (Or.inr ⟨_, (wk W (.laysFinal "java/lang/String" "java/lang/String" "coder" "B"))⟩) (Or.inl ⟨rfl, hnm⟩) f2 (Or.inl rfl) hB11 (t := .byte) (by decide +kernel) rfl (g := (mkF m 48 #[.val (.ref a), .val (.ref b), .val (.int (Int32.ofNat o)), .val (.int (Int32.ofNat len)), .val .null, .val (.ref s.heap.size)] [.int 0, .ref a])) rfl (rest := []) rfl (hb hbytes d48)
  have c14 : Steps p.tables e below (s₁.setTop (entryFrame m #[.ref a, .ref b, .int (Int32.ofNat o), .int (Int32.ofNat len), .null] 6)) (T13.setTop (mkF m 54 #[.val (.ref a), .val (.ref b), .val (.int (Int32.ofNat o)), .val (.int (Int32.ofNat len)), .val .null, .val (.ref s.heap.size)] [.ref s.heap.size, .ref a])) := (c12.trans (st13 _ (Steps.refl _))).trans (by
    refine XS.aloadN X13.here hexec rfl (hb hbytes d51) rfl rfl ?_
    refine XS.aload X13.here hexec rfl (hb hbytes d52) rfl rfl ?_
    exact Steps.refl _)
  obtain ⟨T15, X15, p15, bl15, sl15, st15⟩ := X13.finit hexec hown (wk W (.fieldLink "java/lang/String" 9 "java/lang/String" "value" "[B")) (Or.inr ⟨_, (wk W (.laysFinal "java/lang/String" "java/lang/String" "value" "[B"))⟩) (Or.inl ⟨rfl, hnm⟩) f1 (Or.inl rfl) bl13 (t := (.array .byte)) (by decide +kernel) rfl (g := (mkF m 54 #[.val (.ref a), .val (.ref b), .val (.int (Int32.ofNat o)), .val (.int (Int32.ofNat len)), .val .null, .val (.ref s.heap.size)] [.ref s.heap.size, .ref a])) rfl (rest := []) rfl (hb hbytes d54)
  have c16 : Steps p.tables e below (s₁.setTop (entryFrame m #[.ref a, .ref b, .int (Int32.ofNat o), .int (Int32.ofNat len), .null] 6)) (T15.setTop (mkF m 57 #[.val (.ref a), .val (.ref b), .val (.int (Int32.ofNat o)), .val (.int (Int32.ofNat len)), .val .null, .val (.ref s.heap.size)] [])) := c14.trans (st15 _ (Steps.refl _))
  have ap := apart (Or.inr ⟨_, (wk W (.laysFinal "java/lang/String" "java/lang/String" "value" "[B"))⟩) (Or.inr ⟨_, (wk W (.laysFinal "java/lang/String" "java/lang/String" "coder" "B"))⟩) f1 f2 (t₁ := .array .byte) (t₂ := .byte) (by decide +kernel) (by decide +kernel) (by decide)
  have al := X8.warmed.alike.symm.trans X15.warmed.alike
  have n7 : T11.heap[s.heap.size]? = some N := by rw [q11]; exact n1.1
  exact ⟨T15, none, _, _, _, X15, by simp, rfl, by omega, (fun _ => rfl), ⟨rfl, _, N, bl15, ((Same.refl D _).set _ (by simp)).set _ (by simp), sl15, (Cell.slots_setSlot_ne _ ap).trans sl13, n1.keep al (p15.other hne (p13.other hne n7)), n2, by rw [al.findClass]; exact n3, n4, n5, fun y c h1 h2 => p15.other h1 (p13.other h1 (by rw [q11]; exact n6 y c h2)), by rw [p15.2.2, p13.2.2, q11]; exact z8⟩, fun fs hl => c16.trans (X15.returnOut hexec hret (hb hbytes d57) hl)⟩
end New4
namespace New1
def yN : MethodName := ⟨"java/lang/String", "<init>", "([C)V"⟩
abbrev yB : ByteArray := jdk_42_method_3_code
theorem d0 : decode yB 0 = .ok (.aload_n 0, 1) := by decide +kernel
theorem d1 : decode yB 1 = .ok (.aload_n 1, 1) := by decide +kernel
theorem d2 : decode yB 2 = .ok (.iconst 0, 1) := by decide +kernel
theorem d3 : decode yB 3 = .ok (.aload_n 1, 1) := by decide +kernel
theorem d4 : decode yB 4 = .ok (.arraylength, 1) := by decide +kernel
theorem d5 : decode yB 5 = .ok (.aconst_null, 1) := by decide +kernel
theorem d6 : decode yB 6 = .ok (.invokespecial 27, 3) := by decide +kernel
theorem d9 : decode yB 9 = .ok (.return_, 1) := by decide +kernel
def site : List Cond := [New4.tab] ++ initW "java/lang/String" 27 New4.yN
def tab : Cond := tabOf yN yB 2 none site
def P (a : Addr) (D : Cell) (fV fC : Field) (b : Addr) (A : Cell) (z : Int32) (args : Array Value) (s : State) : Prop := args = #[.ref a, .ref b] ∧ Blank "java/lang/String" a D s ∧ Found "java/lang/String" "value" "[B" fV s ∧ Found "java/lang/String" "coder" "B" fC s ∧ Ch b A s ∧ StaticIs s "java/lang/String" "COMPACT_STRINGS" "Z" (.int z) ∧ ¬ z = 0 ∧ 0 < A.slots.size ∧ A.slots.size ≤ 536870912 ∧ ∀ i, i < A.slots.size → ¬ 255 < cv A i
def E (a : Addr) (D : Cell) (fV fC : Field) (A : Cell) (r : Option Value) (s u : State) : Prop := Got a D fV fC A 0 A.slots.size r s u
/-- new String(chars), not empty, no char above 255: a Latin-1 String of their low bytes -/
theorem law (l : Launch) (a : Addr) (D : Cell) (fV fC : Field) (b : Addr) (A : Cell) (z : Int32) : Law l yN 2 1 3 52 yB 2 none site (P a D fV fC b A z) (E a D fV fC A) [⟨a, fC.slot⟩, ⟨a, fV.slot⟩] 1 A.slots.size := by
  refine Law.of_walk (plainFor_of_name (by decide +kernel)) (by decide +kernel) (by decide +kernel) (by decide) (fun _ _ h => by rw [h.1]; rfl) (fun _ U U' hal hh h => ⟨h.1, h.2.1.mv hal hh, h.2.2.1.al hal, h.2.2.2.1.al hal, h.2.2.2.2.1.mv hal hh, h.2.2.2.2.2.1.there hal hh, h.2.2.2.2.2.2⟩) (fun r U U' V V' h1 hal h2 h => Got.mv r U U' V V' h1 hal h2 h) ?_
  intro p e s m args below meth c s₁ X0 hexec hbytes hml hret hlk hnm hown hh0 W hP
  obtain ⟨rfl, hB, f1, f2, hA, s1, hz, l0, l2, hp⟩ := hP
  have c1 : Steps p.tables e below (s₁.setTop (entryFrame m #[.ref a, .ref b] 2)) (s₁.setTop (mkF m 0 #[.val (.ref a), .val (.ref b)] [])) := entry rfl
  have c2 : Steps p.tables e below (s₁.setTop (entryFrame m #[.ref a, .ref b] 2)) (s₁.setTop (mkF m 6 #[.val (.ref a), .val (.ref b)] [.null, .int (Int32.ofNat A.slots.size), .int 0, .ref b, .ref a])) := c1.trans (by
    refine XS.aloadN X0.here hexec rfl (hb hbytes d0) rfl rfl ?_
    refine XS.aloadN X0.here hexec rfl (hb hbytes d1) rfl rfl ?_
    refine iconstV X0.here hexec rfl 0 (hb hbytes d2) (by decide) ?_
    refine XS.aloadN X0.here hexec rfl (hb hbytes d3) rfl rfl ?_
    refine X0.alen hexec (hA.1.mv X0.warmed.alike hh0) rfl rfl (hb hbytes d4) ?_
    refine XS.aconstNull X0.here hexec rfl (hb hbytes d5) ?_
    exact Steps.refl _)
  obtain ⟨v3, T3, X3, E3, g3⟩ := X0.callN hexec (New4.law l a D fV fC b A z 0 A.slots.size) rfl hown (wks W (initW "java/lang/String" 27 New4.yN)) (W New4.tab (by simp only [site, List.mem_cons, List.mem_append, true_or, or_true])) (W := 0) (Nat.le_of_ble_eq_true rfl) (Nat.le_of_ble_eq_true rfl) (Nat.le_refl _) (by show 0 + A.slots.size ≤ A.slots.size; omega) (g := (mkF m 6 #[.val (.ref a), .val (.ref b)] [.null, .int (Int32.ofNat A.slots.size), .int (Int32.ofNat 0), .ref b, .ref a])) rfl (by rw [hml]; rfl) c2 (argsL := [.ref b, .int (Int32.ofNat 0), .int (Int32.ofNat A.slots.size), .null]) (rest := []) rfl rfl (by show 2 * 0 + 0 ≤ _; decide) (hb hbytes d6) (⟨rfl, hB.mv X0.warmed.alike hh0, f1.al X0.warmed.alike, f2.al X0.warmed.alike, hA.mv X0.warmed.alike hh0, s1.there X0.warmed.alike hh0, hz, l0, by omega, l2, fun i hi => by rw [Nat.zero_add]; exact hp i hi⟩)
  have e0 := Got.mv _ s₁ s _ _ hh0.symm (Vm.Alike.refl _) rfl E3
  obtain rfl := e0.1
  have c4 : Steps p.tables e below (s₁.setTop (entryFrame m #[.ref a, .ref b] 2)) (T3.setTop (mkF m 9 #[.val (.ref a), .val (.ref b)] [])) := g3
  exact ⟨T3, none, _, _, _, X3, by simp, rfl, by omega, (fun _ => rfl), e0, fun fs hl => c4.trans (X3.returnOut hexec hret (hb hbytes d9) hl)⟩
theorem pays {l : Launch} {R : Room} {p : Program} {e : Env} {below : List Frame} {s : State} {sargs : Array Value} {len W : Nat} (a : Addr) (D : Cell) (fV fC : Field) (b : Addr) (A : Cell) (z : Int32) (htab : tab.before sargs s = true) (hfr : 4 ≤ R.frames) (hlo : W + 65 ≤ R.locals) :
    Back l R p e below s sargs yN len W (fun A₁ a₁ => A₁.cells + 1 ≤ R.cells ∧ A₁.slots + A.slots.size ≤ R.slots ∧ P a D fV fC b A z a₁ A₁.U) (fun A₁ _ v₁ B₁ => E a D fV fC A v₁ A₁.U B₁.U ∧ B₁.locs = A₁.locs ++ [⟨a, fC.slot⟩, ⟨a, fV.slot⟩] ∧ B₁.cells = A₁.cells + 1 ∧ B₁.slots = A₁.slots + A.slots.size) :=
  (law l a D fV fC b A z).pays htab hfr (by omega)
end New1
/-- the byte, read back as charAt reads it, is the char -/
theorem lo8_mask {x : Int32} (h0 : ¬ x < 0) (h1 : ¬ 255 < x) : lo8 x &&& 255 = x := by
  have t : ∀ k : Fin 256, lo8 (Int32.ofNat k.val) &&& 255 = Int32.ofNat k.val := by decide +kernel
  rw [Int32.lt_iff_toInt_lt] at h0 h1
  have e0 : (0 : Int32).toInt = 0 := rfl
  have e1 : (255 : Int32).toInt = 255 := rfl
  obtain ⟨k, hk⟩ : ∃ k : Nat, x.toInt = k := ⟨x.toInt.toNat, by omega⟩
  have hx : x = Int32.ofNat k := Int32.toInt_inj.mp (by rw [hk, Int32.toInt_ofNat_small (by omega)])
  rw [hx]
  exact t ⟨k, by omega⟩
end StrChars
namespace StrChars.Road
open Jvm Sem ClassFile Op Lib Jvm.Stand Jvm.Free Jvm.Free.XT
open Jvm.Lib.Cold (StaticIs)
abbrev ST : String := "java/lang/String"
/-- every table word that New1's law asks, flat -/
abbrev words : List Jvm.Cond := [.code New1.yN New1.yB 2 none, .initialized ST, .methodLink ST 27 New4.yN, .instanceMethod New4.yN,
  .code New4.yN New4.yB 6 none, .fieldLink ST 38 ST "COMPACT_STRINGS" "Z", .laysFinal ST ST "value" "[B", .fieldLink ST 9 ST "value" "[B", .laysFinal ST ST "coder" "B", .fieldLink ST 15 ST "coder" "B",
  .methodLink ST 1 Lib.objectInit, .instanceMethod Lib.objectInit, .code Lib.objectInit ⟨#[0xb1]⟩ 1 none, .methodLink ST 177 Cmp3.yN, .static Cmp3.yN, .methodLink ST 47 CodL.yN, .static CodL.yN,
  .code Cmp3.yN Cmp3.yB 6 (some (.array .byte)), .initialized U16, .arrayClass .byte, .methodLink U16 115 Cmp5.yN, .static Cmp5.yN, .code Cmp5.yN Cmp5.yB 7 (some .int), .code CodL.yN CodL.yB 2 (some .byte)]
theorem tab_of {a : Array Value} {s : State} (h : ∀ w ∈ words, w.before a s = true) : New1.tab.before a s = true := by
  have h5 : Cmp5.tab.before a s = true := unparts (wk h (.code Cmp5.yN Cmp5.yB 7 (some .int))) (wks h (.initialized Cmp5.yN.cls :: Cmp5.site))
  have hc : CodL.tab.before a s = true := unparts (wk h (.code CodL.yN CodL.yB 2 (some .byte))) (wks h (.initialized CodL.yN.cls :: CodL.site))
  have q5 : ∀ w ∈ Cmp5.tab :: words, w.before a s = true := fun w hw => (List.mem_cons.mp hw).elim (fun e => e ▸ h5) (h w)
  have h3 : Cmp3.tab.before a s = true := unparts (wk q5 (.code Cmp3.yN Cmp3.yB 6 (some (.array .byte)))) (wks q5 (.initialized Cmp3.yN.cls :: Cmp3.site))
  have q3 : ∀ w ∈ Cmp3.tab :: CodL.tab :: words, w.before a s = true := fun w hw => (List.mem_cons.mp hw).elim (fun e => e ▸ h3) fun hw => (List.mem_cons.mp hw).elim (fun e => e ▸ hc) (h w)
  have h4 : New4.tab.before a s = true := unparts (wk q3 (.code New4.yN New4.yB 6 none)) (wks q3 (.initialized New4.yN.cls :: New4.site))
  have q4 : ∀ w ∈ New4.tab :: words, w.before a s = true := fun w hw => (List.mem_cons.mp hw).elim (fun e => e ▸ h4) (h w)
  exact unparts (wk q4 (.code New1.yN New1.yB 2 none)) (wks q4 (.initialized New1.yN.cls :: New1.site))
/-- the words ride from the start Z to the walk's own state -/
theorem moved {Z s : State} {a0 args : Array Value} (hZ : Z.Warmed39 s.vm) (hw : ∀ d ∈ words, d.before a0 Z = true) : ∀ d ∈ words, d.before args s = true := fun d hd => by
  have q := hw d hd
  have t : ∀ d ∈ words, d = .arrayClass .byte ∨ (d.onTables && d.keepsFace) = true := by decide +kernel
  rcases t d hd with rfl | t
  · exact RoadKit.mvA hZ q
  · exact RoadKit.mv hZ q t
/-- WHAT COMES BACK, over the tables of the start Z: h the heap at the call, h' behind it -/
def Q (Z : State) (x : Addr) (A : Cell) (h : Heap) (v : Option Value) (h' : Heap) (L : List Loc) : Prop := v = none ∧ (∀ y ∈ L, y.base = x) ∧ RoadKit.Keep h h' [x] ∧ h'.size = h.size + 1 ∧ RoadKit.Exa Z h' x ST ∧ RoadKit.Fld Z h' x ST "value" "[B" (.ref h.size) ∧ RoadKit.Fld Z h' x ST "coder" "B" (.int 0) ∧
  (∃ V : Cell, RoadKit.Arr Z h' h.size V .byte ∧ V.vm = .none ∧ Z.vm.findClass "[B" = some V.cls ∧ V.slots.size = A.slots.size ∧ ∀ j, j < A.slots.size → V.slots[j]? = some (.int (lo8 (cv A j)))) ∧
  ∀ (O n d : String) (w : Value), RoadKit.Fld Z h x O n d w → RoadKit.slotOf Z O n d ≠ RoadKit.slotOf Z ST "value" "[B" → RoadKit.slotOf Z O n d ≠ RoadKit.slotOf Z ST "coder" "B" → RoadKit.Fld Z h' x O n d w
/-- **new String(chars) AT A CALL, IN THE ROAD'S FORM**: for specialBack behind newO: x the fresh String, b the char[] with the cell A -/
theorem back {p : Program} {l : Launch} {e : Env} {R : Room} {s : State} {args : Array Value} {below : List Frame} {len W : Nat} {Z : State} {a0 : Array Value} {h : Heap} (hZ : Z.Warmed39 s.vm) (hw : ∀ d ∈ words, d.before a0 Z = true) {kI : Nat} (wi : (Jvm.Cond.instantiable ST kI).before a0 Z = true)
    {x b : Addr} {A : Cell} {z : Int32} {v0 c0 : Value} (E : RoadKit.Exa Z h x ST) (V : RoadKit.Fld Z h x ST "value" "[B" v0) (C : RoadKit.Fld Z h x ST "coder" "B" c0) (K : RoadKit.Arr Z h b A .char) (hty : Typed .char A) (S : RoadKit.Sta Z h ST "COMPACT_STRINGS" "Z" (.int z)) (hz : ¬ z = 0)
    (l0 : 0 < A.slots.size) (l2 : A.slots.size ≤ 536870912) (hp : ∀ i, i < A.slots.size → ¬ 255 < cv A i) (hfr : 4 ≤ R.frames) (hlo : W + 65 ≤ R.locals) :
    Back l R p e below s args New1.yN len W (fun P a => a = #[.ref x, .ref b] ∧ P.U.heap = h ∧ P.cells + 1 ≤ R.cells ∧ P.slots + A.slots.size ≤ R.slots)
      (fun P _ v B => ∃ L, Q Z x A h v B.U.heap L ∧ B.locs = P.locs ++ L ∧ B.cells = P.cells + 1 ∧ B.slots = P.slots + A.slots.size) := by
  intro m meth c P g ig mk a X hg hsize hdg hW hn hp'
  obtain ⟨rfl, rfl, r1, r2⟩ := hp'
  have al : Z.vm.Alike P.U.vm := hZ.alike.trans X.warmed.alike
  obtain ⟨D, cfV, kV, iV, fV, hD, gV, stV, knV, obV, asV, slV⟩ := id V
  obtain ⟨D', cfC, kC, iC, fC, hD', gC, stC, -, -, asC, slC⟩ := id C
  cases hD.symm.trans hD'
  obtain ⟨D2, kD, e1, e2, e3, e4, e5⟩ := id E
  cases hD.symm.trans e1
  obtain ⟨c2, k2, i1, i2, i3, -⟩ := Cond.instantiable_spec wi
  cases e2.symm.trans i1
  cases e3.symm.trans i2
  obtain ⟨kU, u1, u2⟩ := al.2.2 _ _ e3
  have hB : Blank ST x D P.U := ⟨hD, ⟨knV, fun q hq => by rw [hq] at obV; cases obV⟩, by rw [al.findClass]; exact e2, kU, u1, by rw [u2]; exact i3, by rw [u2]; exact e5 i3⟩
  have F1 : Found ST "value" "[B" fV P.U := ⟨SBG.found_only al ⟨cfV, kV, iV, gV⟩, stV⟩
  have F2 : Found ST "coder" "B" fC P.U := ⟨SBG.found_only al ⟨cfC, kC, iC, gC⟩, stC⟩
  have hA : Ch b A P.U := ⟨⟨K.1, State.isArrayOf_alike al K.2.1, K.2.2, by omega⟩, hty⟩
  have hS : StaticIs P.U ST "COMPACT_STRINGS" "Z" (.int z) := by
    obtain ⟨cfS, iS, kS, fS, st, cS, t1, t2, t3, t4, t5, t6, t7⟩ := S
    exact StaticIs.there (s := { Z with heap := P.U.heap }) ⟨cfS, iS, kS, fS, st, cS, t1, t2, t3, t4, t5, (fun q => by rw [q] at t6; cases t6), t7⟩ al rfl
  obtain ⟨v, B, X', ⟨⟨hv, E', V', q1, q2, q3, q4, q5, q6, q7, q8, q9, q10, q11⟩, hl, hc, hs⟩, st⟩ := New1.pays x D fV fC b A z (tab_of (moved hZ hw)) hfr hlo m meth c P g ig mk _ X hg hsize hdg hW hn ⟨r1, r2, rfl, hB, F1, F2, hA, hS, hz, l0, l2, hp⟩
  have al' : Z.vm.Alike B.U.vm := hZ.alike.trans X'.warmed.alike
  have hsz : E'.slots.size = D.slots.size := by
    obtain ⟨-, -, -, kB, w1, w2, w3⟩ := q1
    obtain ⟨kB', y1, y2⟩ := al'.2.2 _ _ e3
    rw [q2.2.1] at w1
    cases w1.symm.trans y1
    rw [w3, e5 i3, y2]
  refine ⟨v, B, X', ⟨_, ⟨hv, ?_, ⟨by omega, fun y cy hy hn' => q10 y cy (by simpa using hn') hy, fun y cy hy => ?_⟩, q11, ⟨E', _, q1.1, by rw [q2.2.1]; exact e2, by rw [q2.2.1]; exact e3, by rw [q2.1]; exact obV, fun _ => by rw [hsz]; exact e5 i3⟩,
    ⟨E', cfV, kV, iV, fV, q1.1, gV, stV, by rw [q2.1]; exact knV, by rw [q2.1]; exact obV, by rw [q2.2.1]; exact asV, q3⟩, ⟨E', cfC, kC, iC, fC, q1.1, gC, stC, by rw [q2.1]; exact knV, by rw [q2.1]; exact obV, by rw [q2.2.1]; exact asC, q4⟩,
    ⟨V', ⟨q5.1, State.isArrayOf_alike al'.symm q5.2.1, q5.2.2.1⟩, q6, by rw [← al'.findClass]; exact q7, q8, fun j hj => by have := q9 j hj; rwa [Nat.zero_add] at this⟩, fun O n d w F n1 n2 => ?_⟩, hl, hc, hs⟩, st⟩
  · intro y hy
    simp only [List.mem_cons, List.not_mem_nil, or_false] at hy
    rcases hy with rfl | rfl <;> rfl
  · by_cases q : y = x
    · subst q
      cases hD.symm.trans hy
      exact ⟨E', q1.1, q2.2.1, q2.1, hsz⟩
    · exact ⟨cy, q10 y cy q hy, rfl, rfl, rfl⟩
  · obtain ⟨D3, cf, k, i, f, g1, g2, g3, g4, g5, g6, g7⟩ := F
    cases hD.symm.trans g1
    simp only [RoadKit.slotOf, g2, gV, gC, Option.map_some, Option.getD_some] at n1 n2
    exact ⟨E', cf, k, i, f, q1.1, g2, g3, by rw [q2.1]; exact g4, by rw [q2.1]; exact g5, by rw [q2.2.1]; exact g6, by rw [q2.2.2 f.slot (by simp [n1, n2])]; exact g7⟩
end StrChars.Road
namespace StrChars.Road
open Jvm Sem ClassFile Op Lib Jvm.Stand Jvm.Free Jvm.Free.XT
/-- WHAT COMES BACK, the byte[] as a list of values -/
def QA (Z : State) (x : Addr) (zn : Int32) (cs : List Int32) (h : Heap) (v : Option Value) (h' : Heap) (L : List Loc) : Prop := v = none ∧ (∀ y ∈ L, y.base = x) ∧ RoadKit.Keep h h' [x] ∧ h'.size = h.size + 1 ∧ RoadKit.Exa Z h' x ST ∧ RoadKit.Fld Z h' x ST "value" "[B" (.ref h.size) ∧ RoadKit.Fld Z h' x ST "coder" "B" (.int 0) ∧
  (∃ kb, Z.vm.findClass "[B" = some kb ∧ RoadKit.Arv Z h' h.size kb .byte zn (cs.map fun c => .int (lo8 c)) (.int 0)) ∧
  ∀ (O n d : String) (w : Value), RoadKit.Fld Z h x O n d w → RoadKit.slotOf Z O n d ≠ RoadKit.slotOf Z ST "value" "[B" → RoadKit.slotOf Z O n d ≠ RoadKit.slotOf Z ST "coder" "B" → RoadKit.Fld Z h' x O n d w
/-- **new String(chars) AT A CALL, THE ARRAYS AS LISTS**: the char[] at b holds cs, not empty, no char above 255 -/
theorem backArv {p : Program} {l : Launch} {e : Env} {R : Room} {s : State} {args : Array Value} {below : List Frame} {len W : Nat} {Z : State} {a0 : Array Value} {h : Heap} (hZ : Z.Warmed39 s.vm) (hw : ∀ d ∈ words, d.before a0 Z = true) {kI : Nat} (wi : (Jvm.Cond.instantiable ST kI).before a0 Z = true)
    {x b : Addr} {k : ClassId} {zn z : Int32} {cs : List Int32} {dv v0 c0 : Value} (E : RoadKit.Exa Z h x ST) (V : RoadKit.Fld Z h x ST "value" "[B" v0) (C : RoadKit.Fld Z h x ST "coder" "B" c0) (K : RoadKit.Arv Z h b k .char zn (cs.map Value.int) dv) (S : RoadKit.Sta Z h ST "COMPACT_STRINGS" "Z" (.int z)) (hz : ¬ z = 0)
    (hlen : zn.toNatClampNeg = cs.length) (h0 : 0 < cs.length) (hbig : cs.length ≤ 536870912) (hall : ∀ c ∈ cs, ¬ 255 < c) (hfr : 4 ≤ R.frames) (hlo : W + 65 ≤ R.locals) :
    Back l R p e below s args New1.yN len W (fun P a => a = #[.ref x, .ref b] ∧ P.U.heap = h ∧ P.cells + 1 ≤ R.cells ∧ P.slots + cs.length ≤ R.slots)
      (fun P _ v B => ∃ L, QA Z x zn cs h v B.U.heap L ∧ B.locs = P.locs ++ L ∧ B.cells = P.cells + 1 ∧ B.slots = P.slots + cs.length) := by
  obtain ⟨A, K1, K2, K3, K4, K5, K6⟩ := K
  have e : A.slots.size = cs.length := K3.trans hlen
  have hat : ∀ (i : Nat) (hi : i < cs.length), A.slots[i]? = some (.int cs[i]) := fun i hi => by rw [K5 i (by omega)]; simp [List.getD_eq_getElem?_getD, hi]
  have hcv : ∀ (i : Nat) (hi : i < cs.length), cv A i = cs[i] := fun i hi => by unfold cv; rw [hat i hi]
  have hty : Typed .char A := fun i v hv => by
    have hi : i < A.slots.size := (Array.getElem?_eq_some_iff.mp hv).1
    have q := K5 i hi
    rw [hv] at q
    rw [Option.some.inj q]
    exact K6 i hi
  refine Back.mono (back hZ hw wi E V C K1 hty S hz (by omega) (by omega) (fun i hi => by rw [hcv i (by omega)]; exact hall _ (List.getElem_mem _)) hfr hlo) (fun P a hp => ⟨hp.1, hp.2.1, hp.2.2.1, by rw [e]; exact hp.2.2.2⟩) (fun P a v B hp hq => ?_)
  obtain ⟨L, ⟨q1, q2, q3, q4, q5, q6, q7, ⟨V', v1, v2, v3, v4, v5⟩, q9⟩, hl, hc, hs⟩ := hq
  refine ⟨L, ⟨q1, q2, q3, q4, q5, q6, q7, ⟨V'.cls, v3, V', v1, rfl, by rw [v4, e, hlen], K4, fun i hi => ?_, fun i hi => ?_⟩, q9⟩, hl, hc, by rw [hs, e]⟩
  · have hi' : i < cs.length := by omega
    rw [v5 i (by omega), hcv i hi']; simp [List.getD_eq_getElem?_getD, hi']
  · have hi' : i < cs.length := by omega
    simp only [List.getD_eq_getElem?_getD, List.getElem?_map, List.getElem?_eq_getElem hi', Option.map_some, Option.getD_some]
    exact fits_lo8 _
end StrChars.Road
namespace StrChars.Road
open Jvm Sem ClassFile Op Lib Jvm.Stand Jvm.Free Jvm.Free.XT
/-- WHAT COMES BACK, in the writer's own shape -/
def QV (Z : State) (x : Addr) (N : Int32) (bs : List Int32) (h : Heap) (n0 : Nat) (v : Option Value) (h' : Heap) (L : List Loc) : Prop := v = none ∧ RoadKit.Fr n0 L ∧ RoadKit.Keep h h' [x] ∧ RoadKit.Exa Z h' x ST ∧ RoadKit.Fld Z h' x ST "coder" "B" (.int 0) ∧
  ∃ (t : Addr) (kb : ClassId), n0 ≤ t ∧ h.size ≤ t ∧ ¬ t = x ∧ RoadKit.Fld Z h' x ST "value" "[B" (.ref t) ∧ RoadKit.Arv Z h' t kb .byte N (bs.map Value.int) (.int 0)
/-- **new String(chars) AT A CALL, FOR THE WRITER**: a char[] of n known ints, each 0 to 255 -/
theorem backV {p : Program} {l : Launch} {e : Env} {R : Room} {s : State} {args : Array Value} {below : List Frame} {len W : Nat} {Z : State} {a0 : Array Value} {h : Heap} (hZ : Z.Warmed39 s.vm) (hw : ∀ d ∈ words, d.before a0 Z = true) {kI : Nat} (wi : (Jvm.Cond.instantiable ST kI).before a0 Z = true)
    {x b : Addr} {kC : ClassId} {cs bs : List Int32} {d v0 c0 : Value} {z N : Int32} {n n0 : Nat} (hx0 : n0 ≤ x) (hh0 : n0 ≤ h.size) (E : RoadKit.Exa Z h x ST) (V : RoadKit.Fld Z h x ST "value" "[B" v0) (C : RoadKit.Fld Z h x ST "coder" "B" c0) (K : RoadKit.Arv Z h b kC .char N (cs.map Value.int) d) (S : RoadKit.Sta Z h ST "COMPACT_STRINGS" "Z" (.int z)) (hz : ¬ z = 0)
    (hn : cs.length = n) (hN : N = Int32.ofNat n) (l0 : 0 < n) (l2 : n ≤ 4000) (hp : ∀ c ∈ cs, ¬ c < 0 ∧ ¬ (255 : Int32) < c) (hb : bs = cs.map (fun c => c.toInt8.toInt32)) (hfr : 4 ≤ R.frames) (hlo : W + 65 ≤ R.locals) :
    Back l R p e below s args (⟨"java/lang/String", "<init>", "([C)V"⟩ : MethodName) len W (fun P a => a = #[.ref x, .ref b] ∧ P.U.heap = h ∧ P.cells + 1 ≤ R.cells ∧ P.slots + n ≤ R.slots)
      (fun P _ v B => ∃ L, QV Z x N bs h n0 v B.U.heap L ∧ B.locs = P.locs ++ L ∧ B.cells = P.cells + 1 ∧ B.slots = P.slots + n) := by
  subst hn hN hb
  refine Back.mono (backArv hZ hw wi E V C K S hz (n32 (by omega)) l0 (by omega) (fun c hc => (hp c hc).2) hfr hlo) (fun P a hp => hp) (fun P a v B hp hq => ?_)
  obtain ⟨L, ⟨q1, q2, q3, q4, q5, q6, q7, ⟨kb, v1, v2⟩, q9⟩, hl, hc, hs⟩ := hq
  exact ⟨L, ⟨q1, fun y hy => by rw [q2 y hy]; exact hx0, q3, q5, q7, h.size, kb, hh0, Nat.le_refl _, Nat.ne_of_gt E.lt, q6, by rw [List.map_map]; exact v2⟩, hl, hc, hs⟩
end StrChars.Road
namespace StrChars
open Jvm Sem ClassFile Op Lib Jvm.Stand Jvm.Free.XT Jvm.Free.ALB Jvm.Free.JM Jvm.Free
open Jvm.Lib.Cold (StaticIs)
def hi8 (x : Int32) : Int32 := lo8 (x >>> ((8 : Int32) &&& 31))
/-- what StringUTF16.getChar makes of two bytes -/
def pairCh (u v : Int32) : Int32 := (((u &&& 255) <<< ((0 : Int32) &&& 31)) ||| ((v &&& 255) <<< ((8 : Int32) &&& 31))).toUInt32.toUInt16.toUInt32.toInt32
theorem shr0 (c : Int32) : c >>> ((0 : Int32) &&& 31) = c := by
  have e : ((0 : Int32) &&& 31) = 0 := by decide
  rw [e]
  apply Int32.toBitVec_inj.mp
  rw [Int32.toBitVec_shiftRight]
  have e1 : ((0 : Int32).toBitVec.smod 32) = 0#32 := by decide
  rw [e1, BitVec.sshiftRight_eq']
  exact BitVec.sshiftRight_zero
theorem lo8_and (x : Int32) : (lo8 x &&& 255).toBitVec.toNat = x.toBitVec.toNat % 256 := by
  have h : (lo8 x).toBitVec = (x.toBitVec.signExtend 8).signExtend 32 := by rw [lo8, Int8.toBitVec_toInt32, Int32.toBitVec_toInt8]
  rw [Int32.toBitVec_and, BitVec.toNat_and, h]
  have e : ((x.toBitVec.signExtend 8).signExtend 32).toNat % 256 = x.toBitVec.toNat % 256 := by
    rw [BitVec.toNat_signExtend]
    have hlt := x.toBitVec.isLt
    simp only [BitVec.toNat_setWidth, BitVec.toNat_signExtend]
    split <;> split <;> omega
  rw [← e]
  exact Nat.and_two_pow_sub_one_eq_mod _ 8
theorem pair_says {c : Int32} (h0 : ¬ c < 0) (h1 : ¬ 65535 < c) : pairCh (lo8 c) (hi8 c) = c := by
  rw [Int32.lt_iff_toInt_lt] at h0 h1
  have e0 : (0 : Int32).toInt = 0 := rfl
  have e1 : (65535 : Int32).toInt = 65535 := rfl
  have hc : c.toInt = c.toBitVec.toNat := by
    have := c.toBitVec.isLt
    have e : c.toInt = c.toBitVec.toInt := rfl
    rw [e] at h0 h1
    rw [e]
    rw [BitVec.toInt_eq_toNat_cond] at h0 h1 ⊢
    split at h0 <;> split <;> omega
  have hn : c.toBitVec.toNat < 65536 := by omega
  have a1 := lo8_and c
  have a2 : (hi8 c &&& 255).toBitVec.toNat = c.toBitVec.toNat / 256 := by
    rw [hi8, lo8_and]
    have e : ((8 : Int32) &&& 31) = 8 := by decide
    rw [e, Int32.toBitVec_shiftRight]
    have e2 : ((8 : Int32).toBitVec.smod 32) = 8#32 := by decide
    rw [e2, BitVec.sshiftRight_eq', BitVec.toNat_sshiftRight_of_msb_false (by rw [BitVec.msb_eq_false_iff_two_mul_lt]; omega)]
    show c.toBitVec.toNat >>> 8 % 256 = _
    rw [Nat.shiftRight_eq_div_pow]
    omega
  unfold pairCh
  apply Int32.toBitVec_inj.mp
  apply BitVec.eq_of_toNat_eq
  have f0 : ((0 : Int32) &&& 31) = 0 := by decide
  have f8 : ((8 : Int32) &&& 31) = 8 := by decide
  rw [f0, f8]
  have g : (((lo8 c &&& 255) <<< (0 : Int32)) ||| ((hi8 c &&& 255) <<< (8 : Int32))).toBitVec.toNat = c.toBitVec.toNat := by
    rw [Int32.toBitVec_or, Int32.toBitVec_shiftLeft, Int32.toBitVec_shiftLeft]
    have s0 : ((0 : Int32).toBitVec.smod 32) = 0#32 := by decide
    have s8 : ((8 : Int32).toBitVec.smod 32) = 8#32 := by decide
    rw [s0, s8, BitVec.toNat_or]
    simp only [BitVec.shiftLeft_eq', BitVec.toNat_shiftLeft, a1, a2]
    show (c.toBitVec.toNat % 256) <<< 0 % 2 ^ 32 ||| (c.toBitVec.toNat / 256) <<< 8 % 2 ^ 32 = _
    rw [Nat.shiftLeft_zero, Nat.mod_eq_of_lt (show c.toBitVec.toNat % 256 < 2 ^ 32 by omega), Nat.mod_eq_of_lt (show (c.toBitVec.toNat / 256) <<< 8 < 2 ^ 32 by rw [Nat.shiftLeft_eq]; omega), Nat.or_comm, ← Nat.shiftLeft_add_eq_or_of_lt (by omega), Nat.shiftLeft_eq]
    omega
  show BitVec.toNat (((((lo8 c &&& 255) <<< (0 : Int32)) ||| ((hi8 c &&& 255) <<< (8 : Int32))).toBitVec.setWidth 16).setWidth 32) = _
  rw [BitVec.toNat_setWidth, BitVec.toNat_setWidth, g]
  omega
end StrChars
namespace StrChars
open Jvm Sem ClassFile Op Lib Jvm.Stand Jvm.Free.XT Jvm.Free.ALB Jvm.Free.JM Jvm.Free
open Jvm.Lib.Cold (StaticIs)
theorem shr1 {n : Nat} (h : 2 * n < 2 ^ 31) : Int32.ofNat (2 * n) >>> ((1 : Int32) &&& 31) = Int32.ofNat n := by
  have e : ((1 : Int32) &&& 31) = 1 := by decide
  rw [e]
  apply Int32.toBitVec_inj.mp
  rw [Int32.toBitVec_shiftRight]
  have e1 : ((1 : Int32).toBitVec.smod 32) = 1#32 := by decide
  have hm : (BitVec.ofNat 32 (2 * n)).toNat = 2 * n := by rw [BitVec.toNat_ofNat, Nat.mod_eq_of_lt (by omega)]
  rw [e1, BitVec.sshiftRight_eq']
  apply BitVec.eq_of_toNat_eq
  show ((BitVec.ofNat 32 (2 * n)).sshiftRight 1).toNat = (BitVec.ofNat 32 n).toNat
  rw [BitVec.toNat_sshiftRight_of_msb_false (by rw [BitVec.msb_eq_false_iff_two_mul_lt, hm]; omega), hm, BitVec.toNat_ofNat, Nat.shiftRight_eq_div_pow]
  omega
/-- charAt's cast of a byte read back -/
def chr8 (u : Int32) : Int32 := (u &&& 255).toUInt32.toUInt16.toUInt32.toInt32
theorem chr8_lo8 {c : Int32} (h0 : ¬ c < 0) (h1 : ¬ 255 < c) : chr8 (lo8 c) = c := by
  have t : ∀ k : Fin 256, (Int32.ofNat k.val).toUInt32.toUInt16.toUInt32.toInt32 = Int32.ofNat k.val := by decide +kernel
  unfold chr8
  rw [lo8_mask h0 h1]
  rw [Int32.lt_iff_toInt_lt] at h0 h1
  have e0 : (0 : Int32).toInt = 0 := rfl
  have e1 : (255 : Int32).toInt = 255 := rfl
  obtain ⟨k, hk⟩ : ∃ k : Nat, c.toInt = k := ⟨c.toInt.toNat, by omega⟩
  have hx : c = Int32.ofNat k := Int32.toInt_inj.mp (by rw [hk, Int32.toInt_ofNat_small (by omega)])
  rw [hx]
  exact t ⟨k, by omega⟩
theorem narrow_ch {c : Int32} (h0 : ¬ c < 0) (h1 : ¬ 65535 < c) : narrow .char (.int c) = .int c := by
  have q : narrow .char (.int (pairCh (lo8 c) (hi8 c))) = .int (pairCh (lo8 c) (hi8 c)) := narrow_c _
  rwa [pair_says h0 h1] at q
/-- the array's cell V codes the n chars f 0 .. f (n - 1) by the coder cd, as the JDK does: coder 1 just where some char is above 255 -/
def Cod (cd : Int32) (n : Nat) (f : Nat → Int32) (V : Cell) : Prop := (cd = 0 ∧ V.slots.size = n ∧ ∀ j, j < n → V.slots[j]? = some (.int (lo8 (f j))) ∧ ¬ 255 < f j) ∨ (cd = 1 ∧ V.slots.size = 2 * n ∧ (∀ j, j < n → V.slots[2 * j]? = some (.int (lo8 (f j))) ∧ V.slots[2 * j + 1]? = some (.int (hi8 (f j)))) ∧ ∃ j, j < n ∧ 255 < f j)
theorem Cod.cd {cd : Int32} {n : Nat} {f : Nat → Int32} {V : Cell} (h : Cod cd n f V) : cd = 0 ∨ cd = 1 := h.imp (fun q => q.1) fun q => q.1
theorem Cod.len {cd : Int32} {n : Nat} {f : Nat → Int32} {V : Cell} (h : Cod cd n f V) (hs : V.slots.size < 2 ^ 31) : Int32.ofNat V.slots.size >>> (cd &&& 31) = Int32.ofNat n := by
  rcases h with ⟨rfl, h, -⟩ | ⟨rfl, h, -⟩
  · rw [shr0, h]
  · rw [h, shr1 (by omega)]
/-- **x is a String of the n chars f 0 .. f (n - 1)**, Latin-1 or UTF-16; its array at t has the cell V -/
def Txt (x t : Addr) (V : Cell) (cd : Int32) (n : Nat) (f : Nat → Int32) (U : State) : Prop := Exact "java/lang/String" x U ∧ Has x "java/lang/String" "value" "[B" (.ref t) U ∧ Has x "java/lang/String" "coder" "B" (.int cd) U ∧ XT.Arr .byte t V U ∧ Cod cd n f V ∧ ∀ j, j < n → ¬ f j < 0 ∧ ¬ 65535 < f j
theorem Txt.mv {x t : Addr} {V : Cell} {cd : Int32} {n : Nat} {f : Nat → Int32} {U U' : State} (h : Txt x t V cd n f U) (hal : U.vm.Alike U'.vm) (hh : U'.heap = U.heap) : Txt x t V cd n f U' := ⟨h.1.mv hal hh, h.2.1.mv hal hh, h.2.2.1.mv hal hh, h.2.2.2.1.mv hal hh, h.2.2.2.2⟩
namespace Cdr
def yN : MethodName := ⟨"java/lang/String", "coder", "()B"⟩
abbrev yB : ByteArray := jdk_42_method_152_code
theorem d0 : decode yB 0 = .ok (.getstatic 38, 3) := by decide +kernel
theorem d3 : decode yB 3 = .ok (.ifCond (.eq) 10, 3) := by decide +kernel
theorem d6 : decode yB 6 = .ok (.aload_n 0, 1) := by decide +kernel
theorem d7 : decode yB 7 = .ok (.getfield 15, 3) := by decide +kernel
theorem d10 : decode yB 10 = .ok (.goto 4, 3) := by decide +kernel
theorem d14 : decode yB 14 = .ok (.ireturn, 1) := by decide +kernel
def site : List Cond := [.fieldLink "java/lang/String" 38 "java/lang/String" "COMPACT_STRINGS" "Z", .fieldLink "java/lang/String" 15 "java/lang/String" "coder" "B"]
def tab : Cond := tabOf yN yB 1 (some .byte) site
def P (x : Addr) (cd z : Int32) (args : Array Value) (s : State) : Prop := args = #[.ref x] ∧ Has x "java/lang/String" "coder" "B" (.int cd) s ∧ (cd = 0 ∨ cd = 1) ∧ StaticIs s "java/lang/String" "COMPACT_STRINGS" "Z" (.int z) ∧ ¬ z = 0
def E (cd : Int32) (r : Option Value) (s u : State) : Prop := XT.PureE (some (.int cd)) r s u
theorem law (l : Launch) (x : Addr) (cd z : Int32) : Law l yN 1 0 0 0 yB 1 (some .byte) site (P x cd z) (E cd) [] 0 0 := by
  refine Law.of_walk (plainFor_of_name (by decide +kernel)) (by decide +kernel) (by decide +kernel) (by decide) (fun _ _ h => by rw [h.1]; rfl) (fun _ U U' hal hh h => ⟨h.1, h.2.1.mv hal hh, h.2.2.1, h.2.2.2.1.there hal hh, h.2.2.2.2⟩) (fun r U U' V V' h1 hal h2 h => XT.PureE.mv r U U' V V' h1 hal h2 h) ?_
  intro p e s m args below meth c s₁ X0 hexec hbytes hml hret hlk hnm hown hh0 W hP
  obtain ⟨rfl, hx, hc, s1, hz⟩ := hP
  have c1 : Steps p.tables e below (s₁.setTop (entryFrame m #[.ref x] 1)) (s₁.setTop (mkF m 0 #[.val (.ref x)] [])) := entry rfl
  obtain ⟨T2, X2, q2, st2⟩ := X0.sget hexec hown (wk W (.fieldLink "java/lang/String" 38 "java/lang/String" "COMPACT_STRINGS" "Z")) s1 (fun _ _ h => by rw [hh0]; exact h) (g := (mkF m 0 #[.val (.ref x)] [])) rfl (hb hbytes d0)
  have hh2 := q2.trans hh0
  have c3 : Steps p.tables e below (s₁.setTop (entryFrame m #[.ref x] 1)) (T2.setTop (mkF m 7 #[.val (.ref x)] [.ref x])) := (c1.trans (st2 _ (Steps.refl _))).trans (by
    refine XS.ifNo X2.here hexec rfl (hb hbytes d3) rfl (i0_eq_f hz) ?_
    refine XS.aloadN X2.here hexec rfl (hb hbytes d6) rfl rfl ?_
    exact Steps.refl _)
  obtain ⟨T4, X4, q4, st4⟩ := X2.hget hexec hown (wk W (.fieldLink "java/lang/String" 15 "java/lang/String" "coder" "B")) (hx.mv X2.warmed.alike hh2) (g := (mkF m 7 #[.val (.ref x)] [.ref x])) rfl (rest := []) rfl (hb hbytes d7)
  have c5 : Steps p.tables e below (s₁.setTop (entryFrame m #[.ref x] 1)) (T4.setTop (mkF m 14 #[.val (.ref x)] [.int cd])) := (c3.trans (st4 _ (Steps.refl _))).trans (by
    refine XS.goto X4.here hexec rfl (pc0 := 10) rfl (hb hbytes d10) (by decide) rfl ?_
    exact Steps.refl _)
  exact ⟨T4, some (.int cd), _, _, _, X4, rfl, rfl, rfl, (fun h => by cases h), ⟨rfl, q4.trans hh2⟩, fun fs hl => c5.trans (X4.ireturnOut hexec hret (by rcases hc with rfl | rfl <;> rfl) (Or.inr (Or.inr (Or.inl rfl))) (hb hbytes d14) hl)⟩
end Cdr
namespace Len
def yN : MethodName := ⟨"java/lang/String", "length", "()I"⟩
abbrev yB : ByteArray := jdk_42_method_54_code
theorem d0 : decode yB 0 = .ok (.aload_n 0, 1) := by decide +kernel
theorem d1 : decode yB 1 = .ok (.getfield 9, 3) := by decide +kernel
theorem d4 : decode yB 4 = .ok (.arraylength, 1) := by decide +kernel
theorem d5 : decode yB 5 = .ok (.aload_n 0, 1) := by decide +kernel
theorem d6 : decode yB 6 = .ok (.invokevirtual 335, 3) := by decide +kernel
theorem d9 : decode yB 9 = .ok (.ishr, 1) := by decide +kernel
theorem d10 : decode yB 10 = .ok (.ireturn, 1) := by decide +kernel
def site : List Cond := [.fieldLink "java/lang/String" 9 "java/lang/String" "value" "[B", Cdr.tab] ++ virtW "java/lang/String" 335 "java/lang/String" Cdr.yN Cdr.yN
def tab : Cond := tabOf yN yB 1 (some .int) site
def P (x t : Addr) (V : Cell) (cd : Int32) (n : Nat) (f : Nat → Int32) (z : Int32) (args : Array Value) (s : State) : Prop := args = #[.ref x] ∧ Txt x t V cd n f s ∧ StaticIs s "java/lang/String" "COMPACT_STRINGS" "Z" (.int z) ∧ ¬ z = 0
def E (n : Nat) (r : Option Value) (s u : State) : Prop := XT.PureE (some (.int (Int32.ofNat n))) r s u
/-- length() of a String of n chars, in either coding -/
theorem law (l : Launch) (x t : Addr) (V : Cell) (cd : Int32) (n : Nat) (f : Nat → Int32) (z : Int32) : Law l yN 1 0 1 13 yB 1 (some .int) site (P x t V cd n f z) (E n) [] 0 0 := by
  refine Law.of_walk (plainFor_of_name (by decide +kernel)) (by decide +kernel) (by decide +kernel) (by decide) (fun _ _ h => by rw [h.1]; rfl) (fun _ U U' hal hh h => ⟨h.1, h.2.1.mv hal hh, h.2.2.1.there hal hh, h.2.2.2⟩) (fun r U U' V V' h1 hal h2 h => XT.PureE.mv r U U' V V' h1 hal h2 h) ?_
  intro p e s m args below meth c s₁ X0 hexec hbytes hml hret hlk hnm hown hh0 W hP
  obtain ⟨rfl, hx, s1, hz⟩ := hP
  have v31 := hx.2.2.2.1.2.2.2
  have c1 : Steps p.tables e below (s₁.setTop (entryFrame m #[.ref x] 1)) (s₁.setTop (mkF m 1 #[.val (.ref x)] [.ref x])) := Steps.trans (entry rfl) (by
    show Steps p.tables e below (s₁.setTop (mkF m 0 #[.val (.ref x)] [])) _
    refine XS.aloadN X0.here hexec rfl (hb hbytes d0) rfl rfl ?_
    exact Steps.refl _)
  obtain ⟨T2, X2, q2, st2⟩ := X0.hget hexec hown (wk W (.fieldLink "java/lang/String" 9 "java/lang/String" "value" "[B")) (hx.mv X0.warmed.alike hh0).2.1 (g := (mkF m 1 #[.val (.ref x)] [.ref x])) rfl (rest := []) rfl (hb hbytes d1)
  have hh2 := q2.trans hh0
  have hx2 := hx.mv X2.warmed.alike hh2
  have c3 : Steps p.tables e below (s₁.setTop (entryFrame m #[.ref x] 1)) (T2.setTop (mkF m 6 #[.val (.ref x)] [.ref x, .int (Int32.ofNat V.slots.size)])) := (c1.trans (st2 _ (Steps.refl _))).trans (by
    refine X2.alen hexec hx2.2.2.2.1 rfl rfl (hb hbytes d4) ?_
    refine XS.aloadN X2.here hexec rfl (hb hbytes d5) rfl rfl ?_
    exact Steps.refl _)
  obtain ⟨v4, T4, X4, E4, g4⟩ := X2.callV hexec (Cdr.law l x cd z) hown (wks W (virtW "java/lang/String" 335 "java/lang/String" Cdr.yN Cdr.yN)) rfl (by decide) (wk W Cdr.tab) (W := 1) (Nat.le_of_ble_eq_true rfl) (Nat.le_of_ble_eq_true rfl) (Nat.le_refl _) (Nat.le_refl _) (hx2.1.fc X2.warmed.alike) hx2.1.is (g := (mkF m 6 #[.val (.ref x)] [.ref x, .int (Int32.ofNat V.slots.size)])) rfl (by rw [hml]; rfl) c3 (argsL := []) (rest := [.int (Int32.ofNat V.slots.size)]) rfl rfl (by show 2 * 0 + (1 + 0) ≤ _; decide) (hb hbytes d6) (⟨rfl, hx2.2.2.1, hx.2.2.2.2.1.cd, s1.there X2.warmed.alike hh2, hz⟩)
  obtain ⟨rfl, q4⟩ := E4
  have c5 : Steps p.tables e below (s₁.setTop (entryFrame m #[.ref x] 1)) (T4.setTop (mkF m 10 #[.val (.ref x)] [.int (Int32.ofNat V.slots.size >>> (cd &&& 31))])) := Steps.trans g4 (by
    refine ishr X4.here hexec rfl (hb hbytes d9) rfl ?_
    exact Steps.refl _)
  rw [hx.2.2.2.2.1.len v31] at c5
  exact ⟨T4, some (.int (Int32.ofNat n)), _, _, _, X4, rfl, rfl, rfl, (fun h => by cases h), ⟨rfl, q4.trans hh2⟩, fun fs hl => c5.trans (X4.ireturnOut hexec hret rfl (Or.inl rfl) (hb hbytes d10) hl)⟩
theorem pays {l : Launch} {R : Room} {p : Program} {e : Env} {below : List Frame} {s : State} {sargs : Array Value} {len W : Nat} (x t : Addr) (V : Cell) (cd : Int32) (n : Nat) (f : Nat → Int32) (z : Int32) (htab : tab.before sargs s = true) (hfr : 2 ≤ R.frames) (hlo : W + 25 ≤ R.locals) :
    Back l R p e below s sargs yN len W (fun A₁ a₁ => A₁.cells + 0 ≤ R.cells ∧ A₁.slots + 0 ≤ R.slots ∧ P x t V cd n f z a₁ A₁.U) (fun A₁ _ v₁ B₁ => E n v₁ A₁.U B₁.U ∧ B₁.locs = A₁.locs ++ [] ∧ B₁.cells = A₁.cells + 0 ∧ B₁.slots = A₁.slots + 0) :=
  (law l x t V cd n f z).pays htab hfr (by omega)
end Len
namespace IsL
def yN : MethodName := ⟨"java/lang/String", "isLatin1", "()Z"⟩
abbrev yB : ByteArray := jdk_42_method_154_code
theorem d0 : decode yB 0 = .ok (.getstatic 38, 3) := by decide +kernel
theorem d3 : decode yB 3 = .ok (.ifCond (.eq) 14, 3) := by decide +kernel
theorem d6 : decode yB 6 = .ok (.aload_n 0, 1) := by decide +kernel
theorem d7 : decode yB 7 = .ok (.getfield 15, 3) := by decide +kernel
theorem d10 : decode yB 10 = .ok (.ifCond (.ne) 7, 3) := by decide +kernel
theorem d13 : decode yB 13 = .ok (.iconst 1, 1) := by decide +kernel
theorem d14 : decode yB 14 = .ok (.goto 4, 3) := by decide +kernel
theorem d17 : decode yB 17 = .ok (.iconst 0, 1) := by decide +kernel
theorem d18 : decode yB 18 = .ok (.ireturn, 1) := by decide +kernel
def site : List Cond := [.fieldLink "java/lang/String" 38 "java/lang/String" "COMPACT_STRINGS" "Z", .fieldLink "java/lang/String" 15 "java/lang/String" "coder" "B"]
def tab : Cond := tabOf yN yB 1 (some .boolean) site
def P (x : Addr) (cd z : Int32) (args : Array Value) (s : State) : Prop := args = #[.ref x] ∧ Has x "java/lang/String" "coder" "B" (.int cd) s ∧ (cd = 0 ∨ cd = 1) ∧ StaticIs s "java/lang/String" "COMPACT_STRINGS" "Z" (.int z) ∧ ¬ z = 0
def E (cd : Int32) (r : Option Value) (s u : State) : Prop := XT.PureE (some (.int (1 - cd))) r s u
theorem law (l : Launch) (x : Addr) (cd z : Int32) : Law l yN 1 0 0 0 yB 1 (some .boolean) site (P x cd z) (E cd) [] 0 0 := by
  refine Law.of_walk (plainFor_of_name (by decide +kernel)) (by decide +kernel) (by decide +kernel) (by decide) (fun _ _ h => by rw [h.1]; rfl) (fun _ U U' hal hh h => ⟨h.1, h.2.1.mv hal hh, h.2.2.1, h.2.2.2.1.there hal hh, h.2.2.2.2⟩) (fun r U U' V V' h1 hal h2 h => XT.PureE.mv r U U' V V' h1 hal h2 h) ?_
  intro p e s m args below meth c s₁ X0 hexec hbytes hml hret hlk hnm hown hh0 W hP
  obtain ⟨rfl, hx, hc, s1, hz⟩ := hP
  have c1 : Steps p.tables e below (s₁.setTop (entryFrame m #[.ref x] 1)) (s₁.setTop (mkF m 0 #[.val (.ref x)] [])) := entry rfl
  obtain ⟨T2, X2, q2, st2⟩ := X0.sget hexec hown (wk W (.fieldLink "java/lang/String" 38 "java/lang/String" "COMPACT_STRINGS" "Z")) s1 (fun _ _ h => by rw [hh0]; exact h) (g := (mkF m 0 #[.val (.ref x)] [])) rfl (hb hbytes d0)
  have hh2 := q2.trans hh0
  have c3 : Steps p.tables e below (s₁.setTop (entryFrame m #[.ref x] 1)) (T2.setTop (mkF m 7 #[.val (.ref x)] [.ref x])) := (c1.trans (st2 _ (Steps.refl _))).trans (by
    refine XS.ifNo X2.here hexec rfl (hb hbytes d3) rfl (i0_eq_f hz) ?_
    refine XS.aloadN X2.here hexec rfl (hb hbytes d6) rfl rfl ?_
    exact Steps.refl _)
  obtain ⟨T4, X4, q4, st4⟩ := X2.hget hexec hown (wk W (.fieldLink "java/lang/String" 15 "java/lang/String" "coder" "B")) (hx.mv X2.warmed.alike hh2) (g := (mkF m 7 #[.val (.ref x)] [.ref x])) rfl (rest := []) rfl (hb hbytes d7)
  have c5 : Steps p.tables e below (s₁.setTop (entryFrame m #[.ref x] 1)) (T4.setTop (mkF m 10 #[.val (.ref x)] [.int cd])) := c3.trans (st4 _ (Steps.refl _))
  have c6 : Steps p.tables e below (s₁.setTop (entryFrame m #[.ref x] 1)) (T4.setTop (mkF m 18 #[.val (.ref x)] [.int (1 - cd)])) := by
    rcases hc with rfl | rfl
    · exact c5.trans (by
        refine XS.ifNo X4.here hexec rfl (hb hbytes d10) rfl (i0_ne_f rfl) ?_
        refine iconstV X4.here hexec rfl 1 (hb hbytes d13) (by decide) ?_
        refine XS.goto X4.here hexec rfl (pc0 := 14) rfl (hb hbytes d14) (by decide) rfl ?_
        exact Steps.refl _)
    · exact c5.trans (by
        refine XS.ifYes X4.here hexec rfl (pc0 := 10) rfl (hb hbytes d10) rfl (i0_ne_t (by decide)) (by decide) rfl ?_
        refine iconstV X4.here hexec rfl 0 (hb hbytes d17) (by decide) ?_
        exact Steps.refl _)
  exact ⟨T4, some (.int (1 - cd)), _, _, _, X4, rfl, rfl, rfl, (fun h => by cases h), ⟨rfl, q4.trans hh2⟩, fun fs hl => c6.trans (X4.ireturnOut hexec hret (by rcases hc with rfl | rfl <;> rfl) (Or.inr (Or.inl rfl)) (hb hbytes d18) hl)⟩
end IsL
namespace LChA
def yN : MethodName := ⟨"java/lang/StringLatin1", "charAt", "([BI)C"⟩
abbrev yB : ByteArray := jdk_43_method_2_code
theorem d0 : decode yB 0 = .ok (.iload_n 1, 1) := by decide +kernel
theorem d1 : decode yB 1 = .ok (.aload_n 0, 1) := by decide +kernel
theorem d2 : decode yB 2 = .ok (.arraylength, 1) := by decide +kernel
theorem d3 : decode yB 3 = .ok (.invokestatic 9, 3) := by decide +kernel
theorem d6 : decode yB 6 = .ok (.aload_n 0, 1) := by decide +kernel
theorem d7 : decode yB 7 = .ok (.iload_n 1, 1) := by decide +kernel
theorem d8 : decode yB 8 = .ok (.baload, 1) := by decide +kernel
theorem d9 : decode yB 9 = .ok (.sipush 255, 3) := by decide +kernel
theorem d12 : decode yB 12 = .ok (.iand, 1) := by decide +kernel
theorem d13 : decode yB 13 = .ok (.i2c, 1) := by decide +kernel
theorem d14 : decode yB 14 = .ok (.ireturn, 1) := by decide +kernel
def site : List Cond := [JO.Str_checkIndex.tab] ++ staticW "java/lang/StringLatin1" 9 JO.Str_checkIndex.yN
def tab : Cond := tabOf yN yB 2 (some .char) site
def P (t : Addr) (V : Cell) (i : Nat) (u : Int32) (fm : Value) (args : Array Value) (s : State) : Prop := args = #[.ref t, .int (Int32.ofNat i)] ∧ XT.Arr .byte t V s ∧ V.slots[i]? = some (.int u) ∧ (StaticIs s "jdk/internal/util/Preconditions" "SIOOBE_FORMATTER" "Ljava/util/function/BiFunction;" fm ∧ fm.isRef = true)
def E (u : Int32) (r : Option Value) (s w : State) : Prop := XT.PureE (some (.int (chr8 u))) r s w
theorem law (l : Launch) (t : Addr) (V : Cell) (i : Nat) (u : Int32) (fm : Value) : Law l yN 2 2 2 27 yB 2 (some .char) site (P t V i u fm) (E u) [] 0 0 := by
  refine Law.of_walk (plainFor_of_name (by decide +kernel)) (by decide +kernel) (by decide +kernel) (by decide) (fun _ _ h => by rw [h.1]; rfl) (fun _ U U' hal hh h => ⟨h.1, h.2.1.mv hal hh, h.2.2.1, h.2.2.2.1.there hal hh, h.2.2.2.2⟩) (fun r U U' V V' h1 hal h2 h => XT.PureE.mv r U U' V V' h1 hal h2 h) ?_
  intro p e s m args below meth c s₁ X0 hexec hbytes hml hret hlk hnm hown hh0 W hP
  obtain ⟨rfl, hV, hu, s1, rf⟩ := hP
  have v31 := hV.2.2.2
  have hi : i < V.slots.size := (Array.getElem?_eq_some_iff.mp hu).1
  have c1 : Steps p.tables e below (s₁.setTop (entryFrame m #[.ref t, .int (Int32.ofNat i)] 2)) (s₁.setTop (mkF m 0 #[.val (.ref t), .val (.int (Int32.ofNat i))] [])) := entry rfl
  have c2 : Steps p.tables e below (s₁.setTop (entryFrame m #[.ref t, .int (Int32.ofNat i)] 2)) (s₁.setTop (mkF m 3 #[.val (.ref t), .val (.int (Int32.ofNat i))] [.int (Int32.ofNat V.slots.size), .int (Int32.ofNat i)])) := c1.trans (by
    refine XS.iloadN X0.here hexec rfl (hb hbytes d0) rfl ?_
    refine XS.aloadN X0.here hexec rfl (hb hbytes d1) rfl rfl ?_
    refine X0.alen hexec (hV.mv X0.warmed.alike hh0) rfl rfl (hb hbytes d2) ?_
    exact Steps.refl _)
  obtain ⟨v3, T3, X3, E3, g3⟩ := X0.callS hexec (JO.Str_checkIndex.law l (Int32.ofNat i) (Int32.ofNat V.slots.size) fm) hown (wks W (staticW "java/lang/StringLatin1" 9 JO.Str_checkIndex.yN)) (wk W JO.Str_checkIndex.tab) (W := 0) (Nat.le_of_ble_eq_true rfl) (Nat.le_of_ble_eq_true rfl) (Nat.le_refl _) (Nat.le_refl _) (g := (mkF m 3 #[.val (.ref t), .val (.int (Int32.ofNat i))] [.int (Int32.ofNat V.slots.size), .int (Int32.ofNat i)])) rfl (by rw [hml]; rfl) c2 (argsL := [.int (Int32.ofNat i), .int (Int32.ofNat V.slots.size)]) (rest := []) rfl rfl (by show 2 * 0 + 0 ≤ _; decide) (hb hbytes d3) (⟨rfl, rf, s1.there X0.warmed.alike hh0, Int32.ofNat_not_neg (by omega), lt32 v31 hi⟩)
  obtain ⟨rfl, q3⟩ := E3
  have hh3 := q3.trans hh0
  have c4 : Steps p.tables e below (s₁.setTop (entryFrame m #[.ref t, .int (Int32.ofNat i)] 2)) (T3.setTop (mkF m 14 #[.val (.ref t), .val (.int (Int32.ofNat i))] [.int (chr8 u)])) := Steps.trans g3 (by
    refine XS.aloadN X3.here hexec rfl (hb hbytes d6) rfl rfl ?_
    refine XS.iloadN X3.here hexec rfl (hb hbytes d7) rfl ?_
    refine X3.aget hexec (hV.mv X3.warmed.alike hh3) rfl hu rfl rfl (hb hbytes d8) ?_
    refine sipushV X3.here hexec rfl 255 (hb hbytes d9) (by decide) ?_
    refine XS.iand X3.here hexec rfl (hb hbytes d12) rfl ?_
    refine i2c X3.here hexec rfl (hb hbytes d13) rfl ?_
    exact Steps.refl _)
  exact ⟨T3, some (.int (chr8 u)), _, _, _, X3, rfl, rfl, rfl, (fun h => by cases h), ⟨rfl, hh3⟩, fun fs hl => c4.trans (X3.ireturnOut hexec hret (narrow_c _) (Or.inr (Or.inr (Or.inr (Or.inl rfl)))) (hb hbytes d14) hl)⟩
end LChA
end StrChars
namespace StrChars.Road
open Jvm Sem ClassFile Op Lib Jvm.Stand Jvm.Free Jvm.Free.XT
open Jvm.Lib.Cold (StaticIs)
theorem consq {a : Array Value} {s : State} {c : Jvm.Cond} {L : List Jvm.Cond} (h0 : c.before a s = true) (h : ∀ w ∈ L, w.before a s = true) : ∀ w ∈ c :: L, w.before a s = true := fun w hw => (List.mem_cons.mp hw).elim (fun e => e ▸ h0) (h w)
/-- the words of String.length(), either coding -/
abbrev wordsLen : List Jvm.Cond := [.code Len.yN Len.yB 1 (some .int), .initialized ST, .fieldLink ST 9 ST "value" "[B", .fieldLink ST 38 ST "COMPACT_STRINGS" "Z", .fieldLink ST 15 ST "coder" "B", .code Cdr.yN Cdr.yB 1 (some .byte), .methodLink ST 335 Cdr.yN, .declares Cdr.yN, .selects ST Cdr.yN Cdr.yN, .instanceMethod Cdr.yN]
theorem tabLen_of {a : Array Value} {s : State} (h : ∀ w ∈ wordsLen, w.before a s = true) : Len.tab.before a s = true := by
  have hc : Cdr.tab.before a s = true := unparts (wk h (.code Cdr.yN Cdr.yB 1 (some .byte))) (wks h (.initialized Cdr.yN.cls :: Cdr.site))
  have q := consq hc h
  exact unparts (wk q (.code Len.yN Len.yB 1 (some .int))) (wks q (.initialized Len.yN.cls :: Len.site))
theorem movedLen {Z s : State} {a0 args : Array Value} (hZ : Z.Warmed39 s.vm) (hw : ∀ d ∈ wordsLen, d.before a0 Z = true) : ∀ d ∈ wordsLen, d.before args s = true := fun d hd => by
  have q := hw d hd
  have t : ∀ d ∈ wordsLen, d = .arrayClass .byte ∨ (d.onTables && d.keepsFace) = true := by decide +kernel
  rcases t d hd with rfl | t
  · exact RoadKit.mvA hZ q
  · exact RoadKit.mv hZ q t
/-- the bytes of the chars cs, low before high -/
def wideBytes : List Int32 → List Value
  | [] => []
  | c :: cs => .int (lo8 c) :: .int (hi8 c) :: wideBytes cs
theorem wide_lo (d : Value) : ∀ (cs : List Int32) (j : Nat), j < cs.length → (wideBytes cs).getD (2 * j) d = .int (lo8 (cs.getD j 0))
  | [], j, h => absurd h (Nat.not_lt_zero j)
  | c :: cs, 0, _ => rfl
  | c :: cs, j + 1, h => by
    have q := wide_lo d cs j (by simpa using h)
    rw [show 2 * (j + 1) = 2 * j + 1 + 1 from by omega]
    simpa [wideBytes] using q
theorem wide_hi (d : Value) : ∀ (cs : List Int32) (j : Nat), j < cs.length → (wideBytes cs).getD (2 * j + 1) d = .int (hi8 (cs.getD j 0))
  | [], j, h => absurd h (Nat.not_lt_zero j)
  | c :: cs, 0, _ => rfl
  | c :: cs, j + 1, h => by
    have q := wide_hi d cs j (by simpa using h)
    rw [show 2 * (j + 1) + 1 = 2 * j + 1 + 1 + 1 from by omega]
    simpa [wideBytes] using q
theorem low_at (d : Value) (cs : List Int32) (j : Nat) (h : j < cs.length) : (cs.map fun c => Value.int (lo8 c)).getD j d = .int (lo8 (cs.getD j 0)) := by
  simp [List.getD_eq_getElem?_getD, h]
/-- an array of N2 bytes vs codes the chars cs by the coder cd -/
def CodA (cs : List Int32) (cd N2 : Int32) (vs : List Value) : Prop := (cd = 0 ∧ N2 = Int32.ofNat cs.length ∧ vs = (cs.map fun c => Value.int (lo8 c)) ∧ ∀ c ∈ cs, ¬ 255 < c) ∨ (cd = 1 ∧ N2 = Int32.ofNat (2 * cs.length) ∧ vs = wideBytes cs ∧ ∃ c ∈ cs, 255 < c)
theorem CodA.cod {cs : List Int32} {cd N2 : Int32} {vs : List Value} {V : Cell} (h : CodA cs cd N2 vs) (hn : 2 * cs.length < 2 ^ 31) (hs : V.slots.size = N2.toNatClampNeg) (hv : RoadKit.Has V vs (.int 0)) : Cod cd cs.length (fun j => cs.getD j 0) V := by
  rcases h with ⟨rfl, rfl, rfl, h⟩ | ⟨rfl, rfl, rfl, c, hc, hw⟩
  · rw [n32 (by omega)] at hs
    exact Or.inl ⟨rfl, hs, fun j hj => ⟨by rw [hv j (by omega), low_at _ _ _ hj], by
      have e : cs.getD j 0 = cs[j] := by simp [List.getD_eq_getElem?_getD, hj]
      show ¬ 255 < cs.getD j 0
      rw [e]; exact h _ (List.getElem_mem _)⟩⟩
  · rw [n32 (by omega)] at hs
    obtain ⟨j, hj, rfl⟩ := List.getElem_of_mem hc
    exact Or.inr ⟨rfl, hs, fun j hj => ⟨by rw [hv _ (by omega), wide_lo _ _ _ hj], by rw [hv _ (by omega), wide_hi _ _ _ hj]⟩, j, hj, by
      have e : cs.getD j 0 = cs[j] := by simp [List.getD_eq_getElem?_getD, hj]
      show 255 < cs.getD j 0
      rw [e]; exact hw⟩
/-- an object of exactly java/lang/String, its two fields found: as the laws ask it -/
theorem strObj {Z U : State} {a0 : Array Value} {kI : Nat} (wi : (Jvm.Cond.instantiable ST kI).before a0 Z = true) (al : Z.vm.Alike U.vm) {x : Addr} {v0 c0 : Value} (E : RoadKit.Exa Z U.heap x ST) (V : RoadKit.Fld Z U.heap x ST "value" "[B" v0) (C : RoadKit.Fld Z U.heap x ST "coder" "B" c0) :
    ∃ (D : Cell) (fV fC : Field), Blank ST x D U ∧ Found ST "value" "[B" fV U ∧ Found ST "coder" "B" fC U ∧ D.slots[fV.slot]? = some v0 ∧ D.slots[fC.slot]? = some c0 ∧ RoadKit.slotOf Z ST "value" "[B" = fV.slot ∧ RoadKit.slotOf Z ST "coder" "B" = fC.slot := by
  obtain ⟨D, cfV, kV, iV, fV, hD, gV, stV, knV, obV, asV, slV⟩ := V
  obtain ⟨D', cfC, kC, iC, fC, hD', gC, stC, -, -, asC, slC⟩ := C
  cases hD.symm.trans hD'
  obtain ⟨D2, kD, e1, e2, e3, e4, e5⟩ := E
  cases hD.symm.trans e1
  obtain ⟨c2, k2, i1, i2, i3, -⟩ := Cond.instantiable_spec wi
  cases e2.symm.trans i1
  cases e3.symm.trans i2
  obtain ⟨kU, u1, u2⟩ := al.2.2 _ _ e3
  exact ⟨D, fV, fC, ⟨hD, ⟨knV, fun q hq => by rw [hq] at obV; cases obV⟩, by rw [al.findClass]; exact e2, kU, u1, by rw [u2]; exact i3, by rw [u2]; exact e5 i3⟩, ⟨SBG.found_only al ⟨cfV, kV, iV, gV⟩, stV⟩, ⟨SBG.found_only al ⟨cfC, kC, iC, gC⟩, stC⟩, slV, slC, by simp [RoadKit.slotOf, gV], by simp [RoadKit.slotOf, gC]⟩
theorem sta_is {Z U : State} (al : Z.vm.Alike U.vm) {C n d : String} {v : Value} (S : RoadKit.Sta Z U.heap C n d v) : StaticIs U C n d v := by
  obtain ⟨cfS, iS, kS, fS, st, cS, t1, t2, t3, t4, t5, t6, t7⟩ := S
  exact StaticIs.there (s := { Z with heap := U.heap }) ⟨cfS, iS, kS, fS, st, cS, t1, t2, t3, t4, t5, (fun q => by rw [q] at t6; cases t6), t7⟩ al rfl
/-- **length() OF SUCH A STRING** -/
theorem lenW {p : Program} {l : Launch} {e : Env} {R : Room} {s : State} {args : Array Value} {below : List Frame} {len W : Nat} {Z : State} {a0 : Array Value} {h : Heap} (hZ : Z.Warmed39 s.vm) (hw : ∀ d ∈ wordsLen, d.before a0 Z = true) {kI : Nat} (wi : (Jvm.Cond.instantiable ST kI).before a0 Z = true)
    {x t : Addr} {kb : ClassId} {cs : List Int32} {cd N2 z : Int32} {vs : List Value} (E : RoadKit.Exa Z h x ST) (V : RoadKit.Fld Z h x ST "value" "[B" (.ref t)) (C : RoadKit.Fld Z h x ST "coder" "B" (.int cd)) (K : RoadKit.Arv Z h t kb .byte N2 vs (.int 0)) (hc : CodA cs cd N2 vs) (hb : ∀ c ∈ cs, ¬ c < 0 ∧ ¬ (65535 : Int32) < c)
    (S : RoadKit.Sta Z h ST "COMPACT_STRINGS" "Z" (.int z)) (hz : ¬ z = 0) (l2 : cs.length ≤ 4000) (hfr : 2 ≤ R.frames) (hlo : W + 25 ≤ R.locals) :
    Back l R p e below s args (⟨"java/lang/String", "length", "()I"⟩ : MethodName) len W (fun P a => a = #[.ref x] ∧ P.U.heap = h ∧ P.cells + 0 ≤ R.cells ∧ P.slots + 0 ≤ R.slots)
      (fun P _ v B => ∃ L, (v = some (.int (Int32.ofNat cs.length)) ∧ L = [] ∧ B.U.heap = h) ∧ B.locs = P.locs ++ L ∧ B.cells = P.cells + 0 ∧ B.slots = P.slots + 0) := by
  obtain ⟨A, K1, K2, K3, K4, K5, K6⟩ := K
  have hcod := hc.cod (by omega) K3 K5
  intro m meth c P g ig mk a X hg hsize hdg hW hn hp'
  obtain ⟨rfl, rfl, r1, r2⟩ := hp'
  have al : Z.vm.Alike P.U.vm := hZ.alike.trans X.warmed.alike
  obtain ⟨D, fV, fC, hB, F1, F2, g1, g2, -, -⟩ := strObj wi al E V C
  have hx : Txt x t A cd cs.length (fun j => cs.getD j 0) P.U := ⟨⟨_, hB.2.2.1, D, hB.1, rfl, by cases q : D.vm <;> first | rfl | exact absurd q (hB.2.1.2 _)⟩, Has.of hB F1 g1, Has.of hB F2 g2, ⟨K1.1, State.isArrayOf_alike al K1.2.1, K1.2.2, by rcases hcod with ⟨-, q, -⟩ | ⟨-, q, -⟩ <;> omega⟩, hcod, fun j hj => by
    have e : cs.getD j 0 = cs[j] := by simp [List.getD_eq_getElem?_getD, hj]
    show ¬ cs.getD j 0 < 0 ∧ ¬ 65535 < cs.getD j 0
    rw [e]; exact hb _ (List.getElem_mem _)⟩
  obtain ⟨v, B, X', ⟨⟨hv, hh⟩, hl, hk, hs⟩, st⟩ := Len.pays x t A cd cs.length (fun j => cs.getD j 0) z (tabLen_of (movedLen hZ hw)) hfr hlo m meth c P g ig mk _ X hg hsize hdg hW hn ⟨r1, r2, rfl, hx, sta_is al S, hz⟩
  exact ⟨v, B, X', ⟨[], ⟨hv, rfl, hh⟩, hl, hk, hs⟩, st⟩
end StrChars.Road
namespace StrChars.Road
open Jvm Sem ClassFile Op Lib Jvm.Stand Jvm.Free Jvm.Free.XT
open Jvm.Lib.Cold (StaticIs)
/-- the road's facts of a String, as the laws ask it -/
theorem txt_of {Z U : State} {a0 : Array Value} {kI : Nat} (wi : (Jvm.Cond.instantiable ST kI).before a0 Z = true) (al : Z.vm.Alike U.vm) {x t : Addr} {kb : ClassId} {cs : List Int32} {cd N2 : Int32} {vs : List Value} (E : RoadKit.Exa Z U.heap x ST) (V : RoadKit.Fld Z U.heap x ST "value" "[B" (.ref t)) (C : RoadKit.Fld Z U.heap x ST "coder" "B" (.int cd)) (K : RoadKit.Arv Z U.heap t kb .byte N2 vs (.int 0)) (hc : CodA cs cd N2 vs) (hb : ∀ c ∈ cs, ¬ c < 0 ∧ ¬ (65535 : Int32) < c) (l2 : cs.length ≤ 4000) :
    ∃ A, Txt x t A cd cs.length (fun j => cs.getD j 0) U := by
  obtain ⟨A, K1, K2, K3, K4, K5, K6⟩ := K
  have hcod := hc.cod (by omega) K3 K5
  obtain ⟨D, fV, fC, hB, F1, F2, g1, g2, -, -⟩ := strObj wi al E V C
  exact ⟨A, ⟨_, hB.2.2.1, D, hB.1, rfl, by cases q : D.vm <;> first | rfl | exact absurd q (hB.2.1.2 _)⟩, Has.of hB F1 g1, Has.of hB F2 g2, ⟨K1.1, State.isArrayOf_alike al K1.2.1, K1.2.2, by rcases hcod with ⟨-, q, -⟩ | ⟨-, q, -⟩ <;> omega⟩, hcod, fun j hj => by
    have e : cs.getD j 0 = cs[j] := by simp [List.getD_eq_getElem?_getD, hj]
    show ¬ cs.getD j 0 < 0 ∧ ¬ 65535 < cs.getD j 0
    rw [e]; exact hb _ (List.getElem_mem _)⟩
end StrChars.Road
namespace StrChars
open Jvm Sem ClassFile Op Lib Jvm.Stand Jvm.Free.XT Jvm.Free.ALB Jvm.Free.JM Jvm.Free
open Jvm.Lib.Cold (StaticIs)
namespace ChN
def yN : MethodName := ⟨"java/lang/String", "charAt", "(I)C"⟩
abbrev yB : ByteArray := jdk_42_method_56_code
theorem d0 : decode yB 0 = .ok (.aload_n 0, 1) := by decide +kernel
theorem d1 : decode yB 1 = .ok (.invokevirtual 492, 3) := by decide +kernel
theorem d4 : decode yB 4 = .ok (.ifCond (.eq) 12, 3) := by decide +kernel
theorem d7 : decode yB 7 = .ok (.aload_n 0, 1) := by decide +kernel
theorem d8 : decode yB 8 = .ok (.getfield 9, 3) := by decide +kernel
theorem d11 : decode yB 11 = .ok (.iload_n 1, 1) := by decide +kernel
theorem d12 : decode yB 12 = .ok (.invokestatic 495, 3) := by decide +kernel
theorem d15 : decode yB 15 = .ok (.ireturn, 1) := by decide +kernel
def site : List Cond := [.fieldLink "java/lang/String" 9 "java/lang/String" "value" "[B", IsL.tab, LChA.tab] ++ virtW "java/lang/String" 492 "java/lang/String" IsL.yN IsL.yN ++ staticW "java/lang/String" 495 LChA.yN
def tab : Cond := tabOf yN yB 2 (some .char) site
def P (x t : Addr) (V : Cell) (n : Nat) (f : Nat → Int32) (z : Int32) (fm : Value) (i : Nat) (args : Array Value) (s : State) : Prop := args = #[.ref x, .int (Int32.ofNat i)] ∧ Txt x t V 0 n f s ∧ i < n ∧ StaticIs s "java/lang/String" "COMPACT_STRINGS" "Z" (.int z) ∧ ¬ z = 0 ∧ StaticIs s "jdk/internal/util/Preconditions" "SIOOBE_FORMATTER" "Ljava/util/function/BiFunction;" fm ∧ fm.isRef = true
def E (f : Nat → Int32) (i : Nat) (r : Option Value) (s u : State) : Prop := XT.PureE (some (.int (f i))) r s u
/-- charAt(i) of a Latin-1 String of n chars, i < n: f i -/
theorem law (l : Launch) (x t : Addr) (V : Cell) (n : Nat) (f : Nat → Int32) (z : Int32) (fm : Value) (i : Nat) : Law l yN 2 1 3 40 yB 2 (some .char) site (P x t V n f z fm i) (E f i) [] 0 0 := by
  refine Law.of_walk (plainFor_of_name (by decide +kernel)) (by decide +kernel) (by decide +kernel) (by decide) (fun _ _ h => by rw [h.1]; rfl) (fun _ U U' hal hh h => ⟨h.1, h.2.1.mv hal hh, h.2.2.1, h.2.2.2.1.there hal hh, h.2.2.2.2.1, h.2.2.2.2.2.1.there hal hh, h.2.2.2.2.2.2⟩) (fun r U U' V V' h1 hal h2 h => XT.PureE.mv r U U' V V' h1 hal h2 h) ?_
  intro p e s m args below meth c s₁ X0 hexec hbytes hml hret hlk hnm hown hh0 W hP
  obtain ⟨rfl, hx, hi, s1, hz, s3, rf⟩ := hP
  have v31 := hx.2.2.2.1.2.2.2
  have hr := hx.2.2.2.2.2 i hi
  have hx0 := hx.mv X0.warmed.alike hh0
  have c1 : Steps p.tables e below (s₁.setTop (entryFrame m #[.ref x, .int (Int32.ofNat i)] 2)) (s₁.setTop (mkF m 1 #[.val (.ref x), .val (.int (Int32.ofNat i))] [.ref x])) := Steps.trans (entry rfl) (by
    show Steps p.tables e below (s₁.setTop (mkF m 0 #[.val (.ref x), .val (.int (Int32.ofNat i))] [])) _
    refine XS.aloadN X0.here hexec rfl (hb hbytes d0) rfl rfl ?_
    exact Steps.refl _)
  obtain ⟨v2, T2, X2, E2, g2⟩ := X0.callV hexec (IsL.law l x 0 z) hown (wks W (virtW "java/lang/String" 492 "java/lang/String" IsL.yN IsL.yN)) rfl (by decide) (wk W IsL.tab) (W := 0) (Nat.le_of_ble_eq_true rfl) (Nat.le_of_ble_eq_true rfl) (Nat.le_refl _) (Nat.le_refl _) (hx0.1.fc X0.warmed.alike) hx0.1.is (g := (mkF m 1 #[.val (.ref x), .val (.int (Int32.ofNat i))] [.ref x])) rfl (by rw [hml]; rfl) c1 (argsL := []) (rest := []) rfl rfl (by show 2 * 0 + 0 ≤ _; decide) (hb hbytes d1) (⟨rfl, hx0.2.2.1, hx.2.2.2.2.1.cd, s1.there X0.warmed.alike hh0, hz⟩)
  obtain ⟨rfl, q2⟩ := E2
  have hh2 := q2.trans hh0
  have hx2 := hx.mv X2.warmed.alike hh2
  obtain ⟨-, k1, k2⟩ | ⟨k0, -⟩ := hx.2.2.2.2.1
  · have c3 : Steps p.tables e below (s₁.setTop (entryFrame m #[.ref x, .int (Int32.ofNat i)] 2)) (T2.setTop (mkF m 8 #[.val (.ref x), .val (.int (Int32.ofNat i))] [.ref x])) := Steps.trans g2 (by
      refine XS.ifNo X2.here hexec rfl (hb hbytes d4) rfl (i0_eq_f (by decide)) ?_
      refine XS.aloadN X2.here hexec rfl (hb hbytes d7) rfl rfl ?_
      exact Steps.refl _)
    obtain ⟨T4, X4, q4, st4⟩ := X2.hget hexec hown (wk W (.fieldLink "java/lang/String" 9 "java/lang/String" "value" "[B")) hx2.2.1 (g := (mkF m 8 #[.val (.ref x), .val (.int (Int32.ofNat i))] [.ref x])) rfl (rest := []) rfl (hb hbytes d8)
    have hh4 := q4.trans hh2
    have c5 : Steps p.tables e below (s₁.setTop (entryFrame m #[.ref x, .int (Int32.ofNat i)] 2)) (T4.setTop (mkF m 12 #[.val (.ref x), .val (.int (Int32.ofNat i))] [.int (Int32.ofNat i), .ref t])) := (c3.trans (st4 _ (Steps.refl _))).trans (by
      refine XS.iloadN X4.here hexec rfl (hb hbytes d11) rfl ?_
      exact Steps.refl _)
    obtain ⟨v6, T6, X6, E6, g6⟩ := X4.callS hexec (LChA.law l t V i (lo8 (f i)) fm) hown (wks W (staticW "java/lang/String" 495 LChA.yN)) (wk W LChA.tab) (W := 0) (Nat.le_of_ble_eq_true rfl) (Nat.le_of_ble_eq_true rfl) (Nat.le_refl _) (Nat.le_refl _) (g := (mkF m 12 #[.val (.ref x), .val (.int (Int32.ofNat i))] [.int (Int32.ofNat i), .ref t])) rfl (by rw [hml]; rfl) c5 (argsL := [.ref t, .int (Int32.ofNat i)]) (rest := []) rfl rfl (by show 2 * 0 + 0 ≤ _; decide) (hb hbytes d12) (⟨rfl, hx.2.2.2.1.mv X4.warmed.alike hh4, (k2 i hi).1, s3.there X4.warmed.alike hh4, rf⟩)
    obtain ⟨rfl, q6⟩ := E6
    rw [chr8_lo8 hr.1 (k2 i hi).2] at g6
    exact ⟨T6, some (.int (f i)), _, _, _, X6, rfl, rfl, rfl, (fun h => by cases h), ⟨rfl, q6.trans hh4⟩, fun fs hl => Steps.trans g6 (X6.ireturnOut hexec hret (narrow_ch hr.1 hr.2) (Or.inr (Or.inr (Or.inr (Or.inl rfl)))) (hb hbytes d15) hl)⟩
  · exact absurd k0 (by decide)
theorem pays {l : Launch} {R : Room} {p : Program} {e : Env} {below : List Frame} {s : State} {sargs : Array Value} {len W : Nat} (x t : Addr) (V : Cell) (n : Nat) (f : Nat → Int32) (z : Int32) (fm : Value) (i : Nat) (htab : tab.before sargs s = true) (hfr : 4 ≤ R.frames) (hlo : W + 53 ≤ R.locals) :
    Back l R p e below s sargs yN len W (fun A₁ a₁ => A₁.cells + 0 ≤ R.cells ∧ A₁.slots + 0 ≤ R.slots ∧ P x t V n f z fm i a₁ A₁.U) (fun A₁ _ v₁ B₁ => E f i v₁ A₁.U B₁.U ∧ B₁.locs = A₁.locs ++ [] ∧ B₁.cells = A₁.cells + 0 ∧ B₁.slots = A₁.slots + 0) :=
  (law l x t V n f z fm i).pays htab hfr (by omega)
end ChN
end StrChars
namespace StrChars.Road
open Jvm Sem ClassFile Op Lib Jvm.Stand Jvm.Free Jvm.Free.XT
open Jvm.Lib.Cold (StaticIs)
/-- the words of String.charAt(int), the Latin-1 road alone -/
abbrev wordsChN : List Jvm.Cond := [.code ChN.yN ChN.yB 2 (some .char), .initialized ST, .fieldLink ST 9 ST "value" "[B", .fieldLink ST 38 ST "COMPACT_STRINGS" "Z", .fieldLink ST 15 ST "coder" "B", .code IsL.yN IsL.yB 1 (some .boolean), .methodLink ST 492 IsL.yN, .declares IsL.yN, .selects ST IsL.yN IsL.yN, .instanceMethod IsL.yN,
  .methodLink ST 495 LChA.yN, .static LChA.yN, .code LChA.yN LChA.yB 2 (some .char), .initialized "java/lang/StringLatin1", .methodLink "java/lang/StringLatin1" 9 JO.Str_checkIndex.yN, .static JO.Str_checkIndex.yN, .code JO.Str_checkIndex.yN JO.Str_checkIndex.yB 2 none,
  .fieldLink ST 1053 "jdk/internal/util/Preconditions" "SIOOBE_FORMATTER" "Ljava/util/function/BiFunction;", .methodLink ST 1059 JC.PreCheck.yN, .static JC.PreCheck.yN, .code JC.PreCheck.yN JC.PreCheck.yB 3 (some .int), .initialized "jdk/internal/util/Preconditions"]
theorem tabChN_of {a : Array Value} {s : State} (h : ∀ w ∈ wordsChN, w.before a s = true) : ChN.tab.before a s = true := by
  have hp : JC.PreCheck.tab.before a s = true := unparts (wk h (.code JC.PreCheck.yN JC.PreCheck.yB 3 (some .int))) (wks h (.initialized JC.PreCheck.yN.cls :: JC.PreCheck.site))
  have qk := consq hp h
  have hk : JO.Str_checkIndex.tab.before a s = true := unparts (wk qk (.code JO.Str_checkIndex.yN JO.Str_checkIndex.yB 2 none)) (wks qk (.initialized JO.Str_checkIndex.yN.cls :: JO.Str_checkIndex.site))
  have ql := consq hk h
  have hl : LChA.tab.before a s = true := unparts (wk ql (.code LChA.yN LChA.yB 2 (some .char))) (wks ql (.initialized LChA.yN.cls :: LChA.site))
  have hi : IsL.tab.before a s = true := unparts (wk h (.code IsL.yN IsL.yB 1 (some .boolean))) (wks h (.initialized IsL.yN.cls :: IsL.site))
  have q := consq hi (consq hl h)
  exact unparts (wk q (.code ChN.yN ChN.yB 2 (some .char))) (wks q (.initialized ChN.yN.cls :: ChN.site))
theorem movedChN {Z s : State} {a0 args : Array Value} (hZ : Z.Warmed39 s.vm) (hw : ∀ d ∈ wordsChN, d.before a0 Z = true) : ∀ d ∈ wordsChN, d.before args s = true := fun d hd => by
  have t : ∀ d ∈ wordsChN, (d.onTables && d.keepsFace) = true := by decide +kernel
  exact RoadKit.mv hZ (hw d hd) (t d hd)
/-- **charAt(i) OF A LATIN-1 STRING**, i < n: the char -/
theorem chN {p : Program} {l : Launch} {e : Env} {R : Room} {s : State} {args : Array Value} {below : List Frame} {len W : Nat} {Z : State} {a0 : Array Value} {h : Heap} (hZ : Z.Warmed39 s.vm) (hw : ∀ d ∈ wordsChN, d.before a0 Z = true) {kI : Nat} (wi : (Jvm.Cond.instantiable ST kI).before a0 Z = true)
    {x t : Addr} {kb : ClassId} {cs : List Int32} {N2 z : Int32} {vs : List Value} {fm : Value} {i : Nat} {j : Int32} (E : RoadKit.Exa Z h x ST) (V : RoadKit.Fld Z h x ST "value" "[B" (.ref t)) (C : RoadKit.Fld Z h x ST "coder" "B" (.int 0)) (K : RoadKit.Arv Z h t kb .byte N2 vs (.int 0)) (hc : CodA cs 0 N2 vs) (hb : ∀ c ∈ cs, ¬ c < 0 ∧ ¬ (65535 : Int32) < c)
    (S : RoadKit.Sta Z h ST "COMPACT_STRINGS" "Z" (.int z)) (hz : ¬ z = 0) (F : RoadKit.Sta Z h "jdk/internal/util/Preconditions" "SIOOBE_FORMATTER" "Ljava/util/function/BiFunction;" fm) (rf : fm.isRef = true) (l2 : cs.length ≤ 4000) (hi : i < cs.length) (hj : j = Int32.ofNat i) (hfr : 4 ≤ R.frames) (hlo : W + 53 ≤ R.locals) :
    Back l R p e below s args (⟨"java/lang/String", "charAt", "(I)C"⟩ : MethodName) len W (fun P a => a = #[.ref x, .int j] ∧ P.U.heap = h ∧ P.cells + 0 ≤ R.cells ∧ P.slots + 0 ≤ R.slots)
      (fun P _ v B => ∃ L, (v = some (.int (cs.getD i 0)) ∧ L = [] ∧ B.U.heap = h) ∧ B.locs = P.locs ++ L ∧ B.cells = P.cells + 0 ∧ B.slots = P.slots + 0) := by
  subst hj
  intro m meth c P g ig mk a X hg hsize hdg hW hn hp'
  obtain ⟨rfl, rfl, r1, r2⟩ := hp'
  have al : Z.vm.Alike P.U.vm := hZ.alike.trans X.warmed.alike
  obtain ⟨A, hx⟩ := txt_of wi al E V C K hc hb l2
  obtain ⟨v, B, X', ⟨⟨hv, hh⟩, hl, hk, hs⟩, st⟩ := ChN.pays x t A cs.length (fun j => cs.getD j 0) z fm i (tabChN_of (movedChN hZ hw)) hfr hlo m meth c P g ig mk _ X hg hsize hdg hW hn ⟨r1, r2, rfl, hx, hi, sta_is al S, hz, sta_is al F, rf⟩
  exact ⟨v, B, X', ⟨[], ⟨hv, rfl, hh⟩, hl, hk, hs⟩, st⟩
/-- what backV says of its String, as the contracts of this text ask it: cs's low bytes, coder 0 -/
theorem codOf {cs : List Int32} {n : Nat} (hn : cs.length = n) (hb : ∀ c ∈ cs, ¬ 255 < c) : CodA cs 0 (Int32.ofNat n) ((cs.map lo8).map Value.int) := Or.inl ⟨rfl, by rw [hn], by simp [List.map_map, Function.comp_def], hb⟩
end StrChars.Road
end Jvm.Pilot.@@N@@

namespace Jvm.Pilot.@@N@@
open Jvm Jvm.ClassFile Sem Op Lib Jvm.Free Jvm.Stand Jvm.LawKit Jvm.RoadKit Bundle Jvm.Pilot.@@N@@.Jvm.D


theorem own_putC {p : Program} {l : Launch} {e : Env} {R : Room} {s : State} {m : MethodId} {args : Array Value} {below : List Frame} {meth : Method} {c : Code} {T : State} {locs : List Loc} {cells slots : Nat} {Z : State} {h : Heap} (X : Stand p l e R s m args below meth c T locs cells slots) (hx : p.tables.exec = Jvm.exec) (hZ : Z.Warmed39 s.vm) (eT : T.heap = h) {a : Addr} {k : ClassId} {z : Int32} {vs : List Value} (F : Arv Z h a k .char z vs (.int (0 : Int32))) {x : Int32} {j : Int32} (hj : j.toNatClampNeg = vs.length) (h0 : ¬ j < 0) (hl : vs.length < z.toNatClampNeg) {g : JFrame} (hg : g.method = m) {rest : List Value} (hs : g.stack = .int x :: .int j :: .ref a :: rest) (hd : decode c.code g.pc = .ok (.castore, 1)) :
    ∃ T' h', Stand p l e R s m args below meth c T' (locs ++ [⟨a, j.toNatClampNeg⟩]) cells slots ∧ T'.heap = h' ∧ Wr h h' a j.toNatClampNeg (.int (nar .char x)) ∧ Arv Z h' a k .char z (vs ++ [(.int (nar .char x))]) (.int (0 : Int32)) ∧ ∀ target, Steps p.tables e below (T'.setTop { g with pc := g.pc + 1, stack := rest }) target → Steps p.tables e below (T.setTop g) target := by
  have V' : Arv Z h a k .char z (vs ++ [(.int (0 : Int32))]) (.int (0 : Int32)) := F.pad (pad_rep vs (.int (0 : Int32)) 1)
  obtain ⟨cl, Ar, q, S, M, H, U⟩ := V'
  have hin : ¬ (j < 0 ∨ cl.slots.size ≤ j.toNatClampNeg) := by
    rw [S, hj]; exact fun q => q.elim h0 (fun q => absurd hl (Nat.not_lt.mpr q))
  obtain ⟨T', h', X', e', W, st⟩ := stC X hx hZ eT Ar hin hg hs hd
  have V3 := Arv.set Ar q S M H U (v := (.int (nar .char x))) (fits_nar_char _) W vs.length hj (by simp)
  rw [show (vs ++ [(Value.int (0 : Int32))]).set vs.length (Value.int (nar .char x)) = vs ++ [(Value.int (nar .char x))] by simp] at V3
  exact ⟨T', h', X', e', W, V3, st⟩

theorem ww {Z : State} {a0 : Array Value} (hw : ∀ d ∈ tables_1, d.before a0 Z = true) {d : Jvm.Cond} (i : Nat) (h : tables_1[i]? = some d) : d.before a0 Z = true := hw _ (List.mem_of_getElem? h)

theorem own_castV {p : Program} {l : Launch} {e : Env} {R : Room} {s : State} {m : MethodId} {args : Array Value} {below : List Frame} {meth : Method} {c : Code} {T : State} {locs : List Loc} {cells slots : Nat} {Z : State} {a0 : Array Value} {h : Heap} (X : Stand p l e R s m args below meth c T locs cells slots) (hx : p.tables.exec = Jvm.exec) (hZ : Z.Warmed39 s.vm) {own K : String} {index : Nat} (hown : s.vm.findClass own = some m.cls) (w : (Cond.classLink own index K).before a0 Z = true) (eT : T.heap = h) {v : Value} (F : v = .null ∨ ∃ a, v = .ref a ∧ Ins Z h a K true)
    {g : JFrame} (hg : g.method = m) {rest : List Value} (hs : g.stack = v :: rest) (hd : decode c.code g.pc = .ok (.checkcast index, 3)) : ∃ T', Stand p l e R s m args below meth c T' locs cells slots ∧ T'.heap = h ∧ ∀ target, Steps p.tables e below (T'.setTop { g with pc := g.pc + 3 }) target → Steps p.tables e below (T.setTop g) target := by
  rcases F with rfl | ⟨a, rfl, F⟩
  · exact ⟨T, X, eT, X.checkcastNull hx hg hs hd⟩
  · exact castY X hx hZ hown w eT F hg hs hd
theorem own_bk {l : Launch} {R : Room} {p : Program} {e : Env} {below : List Frame} {s : State} {args : Array Value} {y : MethodName} {len W : Nat} {h : Heap} {n0 : Nat} {Pre : Pt → Array Value → Prop} {A A' : Option Value → Prop} (hA : ∀ v, A v → A' v)
    (hB : Back l R p e below s args y len W Pre (fun P _ v B => ∃ L, (A v ∧ L = [] ∧ B.U.heap = h) ∧ B.locs = P.locs ++ L ∧ B.cells = P.cells + 0 ∧ B.slots = P.slots + 0)) :
    Back l R p e below s args y len W Pre (fun P _ v B => ∃ L, (A' v ∧ Fr n0 L ∧ B.U.heap = h) ∧ B.locs = P.locs ++ L ∧ B.cells = P.cells + 0 ∧ B.slots = P.slots + 0) :=
  Back.mono hB (fun _ _ q => q) (fun _ _ _ _ _ ⟨L, ⟨q1, q2, q3⟩, q4⟩ => ⟨L, ⟨hA _ q1, by subst q2; exact Fr.nil n0, q3⟩, q4⟩)
theorem own_eqv {cs ds : List Int32} (v : Option Value) (h : (v = some (.int 1) ∧ cs = ds) ∨ (v = some (.int 0) ∧ ¬ cs = ds)) : v = some (.int (if cs = ds then (1 : Int32) else 0)) := by
  rcases h with ⟨rfl, q⟩ | ⟨rfl, q⟩
  · rw [if_pos q]
  · rw [if_neg q]
theorem own_t {P : Prop} [Decidable P] (h : ¬ (if P then (1 : Int32) else 0) = 0) : P := by
  by_cases q : P
  · exact q
  · exact absurd (if_neg q) h
theorem own_f {P : Prop} [Decidable P] (h : (if P then (1 : Int32) else 0) = 0) : ¬ P := fun q => by
  rw [if_pos q] at h; exact absurd h (by decide)
theorem own_wide {l : Launch} {R : Room} {p : Program} {e : Env} {below : List Frame} {s : State} {args : Array Value} {y : MethodName} {len W n N : Nat} {as' : Array Value} {h : Heap} {Q : Option Value → Heap → List Loc → Prop} (hn : n ≤ N)
    (hB : Back l R p e below s args y len W (fun P a => a = as' ∧ P.U.heap = h ∧ P.cells + 1 ≤ R.cells ∧ P.slots + n ≤ R.slots) (fun P _ v B => ∃ L, Q v B.U.heap L ∧ B.locs = P.locs ++ L ∧ B.cells = P.cells + 1 ∧ B.slots = P.slots + n)) :
    Back l R p e below s args y len W (fun P a => a = as' ∧ P.U.heap = h ∧ P.cells + 1 ≤ R.cells ∧ P.slots + N ≤ R.slots) (fun P _ v B => ∃ L, Q v B.U.heap L ∧ B.locs = P.locs ++ L ∧ B.cells = P.cells + 1 ∧ B.slots = P.slots + N) := by
  intro m meth c A g ig mk a X hg hs hd hW hnm hp
  obtain ⟨v, B, X', ⟨L, q1, q2, q3, q4⟩, st⟩ := hB m meth c A g ig mk a X hg hs hd hW hnm ⟨hp.1, hp.2.1, hp.2.2.1, by have := hp.2.2.2; omega⟩
  exact ⟨v, ⟨B.U, B.locs, B.cells, A.slots + N⟩, X'.mono (Nat.le_refl _) (show B.slots ≤ A.slots + N by rw [q4]; omega), ⟨L, q1, q2, q3, rfl⟩, st⟩

theorem own_nf2 {Z : State} {a0 : Array Value} {y1 y2 : MethodName} (h : NotFace Z y1) (wd : (Cond.declares y1).before a0 Z = true) (hc : y1.cls = y2.cls) : NotFace Z y2 := fun r0 h0 => by
  obtain ⟨r1, r, hn, -⟩ := Cond.declares_spec wd
  have e1 := findClass_of_methodNamed hn
  have e2 := findClass_of_methodNamed h0
  rw [hc] at e1
  have ec : r1.cls = r0.cls := Option.some.inj (e1.symm.trans e2)
  obtain ⟨kr, hk, hi⟩ := h r1 hn
  exact ⟨kr, ec ▸ hk, hi⟩
theorem own_sameM {Z : State} {a0 : Array Value} {y : MethodName} (wd : (Cond.declares y).before a0 Z = true) (hnf : NotFace Z y) (hy : y.cls ≠ "java/lang/invoke/MethodHandle" ∧ y.cls ≠ "java/lang/invoke/VarHandle") : (Cond.sameMethod y.cls y.cls y.name y.desc).before a0 Z = true := by
  obtain ⟨r0, r, hn, -⟩ := Cond.declares_spec wd
  have hf := State.methodFound?_of_named hn hy
  have hc := findClass_of_methodNamed hn
  obtain ⟨kr, hkr, hni⟩ := hnf r0 hn
  have hn' : Z.methodNamed? ⟨y.cls, y.name, y.desc⟩ = some r0 := hn
  simp [Cond.before, Cond.holds, Cond.value, hc, hf, hn', hkr, hni]
theorem own_decl {Z : State} {a0 : Array Value} {y : MethodName} {bytes : ByteArray} {maxL : Nat} {ret : Option FieldType} (wi : (Cond.instanceMethod y).before a0 Z = true) (wc : (Cond.code y bytes maxL ret).before a0 Z = true) : (Cond.declares y).before a0 Z = true := by
  obtain ⟨mk, methM, hnamed, hmethM, hst, -⟩ := Cond.instanceMethod_spec wi
  obtain ⟨m2, cM, q1, -, -, -, -, -, -, hsig⟩ := Cond.code_spec hnamed wc
  cases hmethM.symm.trans q1
  simp [Cond.before, Cond.holds, Cond.value, hnamed, hmethM, hst, hsig]
theorem own_n (n : Nat) (hn : n ≤ 4000) : ¬ Int32.ofNat n < 0 ∧ (Int32.ofNat n).toNatClampNeg = n := by
  have e : (Int32.ofNat n).toInt = n := Int32.toInt_ofNat_of_lt (by omega)
  refine ⟨?_, ?_⟩
  · rw [Int32.lt_iff_toInt_lt, e, show (0 : Int32).toInt = 0 from rfl]; omega
  · rw [Int32.toNatClampNeg, e]; rfl
theorem own_cp {p : Program} {l : Launch} {e : Env} {R : Room} {s : State} {m : MethodId} {args : Array Value} {below : List Frame} {meth : Method} {c : Code} {T : State} {locs : List Loc} {cells slots : Nat} {Z : State} {h : Heap} (X : Stand p l e R s m args below meth c T locs cells slots) (hx : p.tables.exec = Jvm.exec) (hZ : Z.Warmed39 s.vm) {a0 : Array Value} {own : String} {index : Nat} (hown : s.vm.findClass own = some m.cls)
    (w1 : (Cond.methodLink own index Jvm.Stand.acN).before a0 Z = true) (w2 : (Cond.native Jvm.Stand.acN).before a0 Z = true) (w3 : (Cond.static Jvm.Stand.acN).before a0 Z = true) (w4 : (Cond.initialized "java/lang/System").before a0 Z = true) (eT : T.heap = h)
    {a b : Addr} {k k' : ClassId} {z : Int32} {vs ys : List Value} {M : Nat} {dp nn : Int32} (A : Arv Z h a k .byte z vs (.int 0)) (B : Arv Z h b k' .byte (Int32.ofNat M) ys (.int 0)) (hz : vs.length ≤ z.toNatClampNeg) (hM : M ≤ 4000) (hl : ys.length + vs.length ≤ M) (hdp : dp = Int32.ofNat ys.length) (hnn : nn = Int32.ofNat vs.length) {n0 : Nat} (N : Fr n0 locs) (ge : n0 ≤ b)
    {g : JFrame} (hg : g.method = m) (hsize : g.locals.size = c.maxLocals) {rest : List Value} (hs : g.stack = .int nn :: .int dp :: .ref b :: .int (0 : Int32) :: .ref a :: rest) (hd : decode c.code g.pc = .ok (.invokestatic index, 3))
    (hf : 1 ≤ R.frames) {W : Nat} (hW : 2 * g.monitorRoom + (rest.map fun v => v.category).sum ≤ W) (hlo : W + (nativeFrameWords "java/lang/System" "arraycopy" 5 + 11) ≤ R.locals) :
    ∃ T' h' L, Stand p l e R s m args below meth c T' L cells slots ∧ T'.heap = h' ∧ Fr n0 L ∧ Keep h h' [b] ∧ Arv Z h' b k' .byte (Int32.ofNat M) (ys ++ vs) (.int 0) ∧
      ∀ target, Steps p.tables e below (T'.setTop { g with pc := g.pc + 3, stack := rest }) target → Steps p.tables e below (T.setTop g) target := by
  subst hdp hnn
  obtain ⟨d1, d2⟩ := own_n ys.length (by omega)
  obtain ⟨v1, v2⟩ := own_n vs.length (by omega)
  obtain ⟨m1, m2⟩ := own_n M hM
  have B' : Arv Z h b k' .byte (Int32.ofNat M) (ys ++ List.replicate (M - ys.length) (.int 0)) (.int 0) := B.pad (pad_rep ys (.int 0) _)
  have hus : vs = (List.range (Int32.ofNat vs.length).toNatClampNeg).map fun i => vs.getD ((0 : Int32).toNatClampNeg + i) (.int 0) := by
    rw [v2]
    apply List.ext_getElem
    · simp
    · intro i h1 h2
      simp [List.getD_eq_getElem?_getD, h1, show (0 : Int32).toNatClampNeg = 0 from rfl]
  obtain ⟨T', h', L, X', e', N', K', V', st⟩ := cpA (a := a) (b := b) X hx hZ hown w1 w2 w3 w4 eT A B' (Or.inl ⟨rfl, rfl⟩) (by decide) d1 v1 (by rw [v2, show (0 : Int32).toNatClampNeg = 0 from rfl]; omega) (by rw [d2, v2, m2]; exact hl) hus (by rw [d2, v2, List.length_append, List.length_replicate]; omega) N ge hg hsize hs hd hf hW hlo
  refine ⟨T', h', L, X', e', N', K', ?_, st⟩
  rw [d2, v2] at V'
  rw [show (ys ++ List.replicate (M - ys.length) (Value.int 0)).take ys.length = ys by simp, show (ys ++ List.replicate (M - ys.length) (Value.int 0)).drop (ys.length + vs.length) = List.replicate (M - ys.length - vs.length) (Value.int 0) by rw [List.drop_append, List.drop_replicate]; simp] at V'
  exact V'.pad fun i => ((pad_rep (ys ++ vs) (.int 0) _) i).symm

theorem own_atoms {Z : State} {a0 : Array Value} (hw : ∀ d ∈ tables_1, d.before a0 Z = true) : ∀ a ∈ Bundle.stringAtoms, a.before a0 Z = true := fun d hd => by
  simp only [Bundle.stringAtoms, List.mem_cons, List.not_mem_nil, or_false] at hd
  rcases hd with rfl | rfl | rfl | rfl | rfl | rfl | rfl
  · exact hw _ (List.mem_of_getElem? (i := 9) rfl)
  · exact hw _ (List.mem_of_getElem? (i := 8) rfl)
  · exact hw _ (List.mem_of_getElem? (i := 22) rfl)
  · exact hw _ (List.mem_of_getElem? (i := 23) rfl)
  · exact hw _ (List.mem_of_getElem? (i := 24) rfl)
  · exact hw _ (List.mem_of_getElem? (i := 25) rfl)
  · exact hw _ (List.mem_of_getElem? (i := 26) rfl)
theorem own_EW {Z : State} {a0 : Array Value} (hw : ∀ d ∈ tables_1, d.before a0 Z = true) : EW Z a0 consts_1 := (EW.cons (text := "ERR ") (ww hw 108 rfl) (by decide +kernel) (EW.cons (text := "") (ww hw 168 rfl) (by decide +kernel) (EW.cons (text := " ") (ww hw 247 rfl) (by decide +kernel) (EW.cons (text := "") (ww hw 21 rfl) (by decide +kernel) EW.nil))))
theorem own_and255 (x : Int32) : ¬ nar .char ((x &&& (255 : Int32)).toUInt32.toUInt16.toUInt32.toInt32) < 0 ∧ ¬ (255 : Int32) < nar .char ((x &&& (255 : Int32)).toUInt32.toUInt16.toUInt32.toInt32) := by
  have t : ∀ k : Fin 256, ¬ nar .char ((Int32.ofNat k.val).toUInt32.toUInt16.toUInt32.toInt32) < 0 ∧ ¬ (255 : Int32) < nar .char ((Int32.ofNat k.val).toUInt32.toUInt16.toUInt32.toInt32) := by decide +kernel
  have h : (x &&& 255).toBitVec.toNat < 256 := by
    simp only [Int32.toBitVec_and, BitVec.toNat_and]
    exact Nat.lt_succ_of_le Nat.and_le_right
  have e : (x &&& 255) = Int32.ofNat (x &&& 255).toBitVec.toNat := by
    apply Int32.toBitVec_inj.mp
    show _ = BitVec.ofNat 32 _
    rw [BitVec.ofNat_toNat]; simp
  rw [e]
  exact t ⟨_, h⟩
theorem own_up (cs : List Int32) (h : ∀ c ∈ cs, ¬ c < 0 ∧ ¬ (255 : Int32) < c) : ∀ c ∈ cs, ¬ c < 0 ∧ ¬ (65535 : Int32) < c := fun c hc => ⟨(h c hc).1, fun q => (h c hc).2 (by rw [Int32.lt_iff_toInt_lt] at q ⊢; have e1 : (65535 : Int32).toInt = 65535 := rfl; have e2 : (255 : Int32).toInt = 255 := rfl; omega)⟩

theorem own_wB {Z : State} {a0 : Array Value} (hw : ∀ d ∈ tables_1, d.before a0 Z = true) : ∀ d ∈ StrChars.Road.words, d.before a0 Z = true := fun d hd => hw d ((by decide +kernel : ∀ d ∈ StrChars.Road.words, d ∈ tables_1) d hd)
theorem own_wL {Z : State} {a0 : Array Value} (hw : ∀ d ∈ tables_1, d.before a0 Z = true) : ∀ d ∈ StrChars.Road.wordsLen, d.before a0 Z = true := fun d hd => hw d ((by decide +kernel : ∀ d ∈ StrChars.Road.wordsLen, d ∈ tables_1) d hd)
theorem own_wC {Z : State} {a0 : Array Value} (hw : ∀ d ∈ tables_1, d.before a0 Z = true) : ∀ d ∈ StrChars.Road.wordsChN, d.before a0 Z = true := fun d hd => hw d ((by decide +kernel : ∀ d ∈ StrChars.Road.wordsChN, d ∈ tables_1) d hd)
def own_good (cs : List Int32) : Prop := cs.length ≤ 17 ∧ ∀ c ∈ cs, ¬ c < 0 ∧ ¬ (255 : Int32) < c
theorem own_hb {cs : List Int32} (h : own_good cs) : ∀ c ∈ cs, ¬ c < 0 ∧ ¬ (65535 : Int32) < c := own_up cs h.2
theorem own_cd {cs : List Int32} (h : own_good cs) : StrChars.Road.CodA cs 0 (Int32.ofNat cs.length) ((cs.map StrChars.lo8).map Value.int) := StrChars.Road.codOf rfl (fun c hc => (h.2 c hc).2)
theorem own_bl (cs : List Int32) : ((cs.map StrChars.lo8).map Value.int).length = cs.length := by simp
theorem own_sh0 (x : Int32) : x <<< ((0 : Int32) &&& 31) = x := by simp
theorem own_sr0 (x : Int32) : x >>> ((0 : Int32) &&& 31) = x := by simp
theorem own_cap {a b : Nat} (h : a + b ≤ 16) : ¬ ((0 : Int32) < ((Int32.ofNat a + Int32.ofNat b) - ((Int32.ofNat 16) >>> ((0 : Int32) &&& 31)))) := by
  rw [own_sr0, Int32.lt_iff_toInt_lt, ← Int32.ofNat_add]
  have a2 := c_isub (Int32.ofNat (a + b)) (Int32.ofNat 16)
  have e1 : (Int32.ofNat (a + b)).toInt = ((a + b : Nat) : Int) := Int32.toInt_ofNat_of_lt (by omega)
  have e2 : (Int32.ofNat 16).toInt = 16 := rfl
  have e0 : (0 : Int32).toInt = 0 := rfl
  have r1 := rng32 (Int32.ofNat (a + b) - Int32.ofNat 16)
  omega
theorem own_cnt (ys cs : List Int32) : Int32.ofNat ys.length + Int32.ofNat cs.length = Int32.ofNat (ys ++ cs).length := by rw [List.length_append, Int32.ofNat_add]
theorem d16_0 : decode jdk_42_method_152_code 0 = .ok (.getstatic 38, 3) := by decide +kernel
theorem d16_3 : decode jdk_42_method_152_code 3 = .ok (.ifCond .eq 10, 3) := by decide +kernel
theorem d16_6 : decode jdk_42_method_152_code 6 = .ok (.aload_n 0, 1) := by decide +kernel
theorem d16_7 : decode jdk_42_method_152_code 7 = .ok (.getfield 15, 3) := by decide +kernel
theorem d16_10 : decode jdk_42_method_152_code 10 = .ok (.goto 4, 3) := by decide +kernel
theorem d16_14 : decode jdk_42_method_152_code 14 = .ok (.ireturn, 1) := by decide +kernel
theorem ef_16 (m : MethodId) (x0 : Addr) : entryFrame m #[(.ref x0)] 1 = mkF m 0 #[.val (.ref x0)] [] := by first | (simp [entryFrame, mkF, argsToLocals, Value.category]; done) | rfl
theorem pn_16 : plainName "java/lang/String" = true := by first | (simp [plainName, overriddenIn]; done) | decide +kernel
def Qd0 (Z : State) (xs : Addr) (z : Int32) (h0 : Heap) (n0 : Nat) (v : Option Value) (h : Heap) (L : List Loc) : Prop := v = some (.int (0 : Int32)) ∧ Fr n0 L ∧ h = h0
set_option maxRecDepth 65536 in
set_option maxHeartbeats 40000000 in
theorem rmCo (l : Launch) (Z : State) (a0 : Array Value) (hw : ∀ d ∈ tables_1, d.before a0 Z = true) (ws : List Jvm.Cond) (xs : Addr) (z : Int32) (h0 : Heap) (n0 : Nat) (O0 : Old Z n0 h0) (Cx : Fld Z h0 xs "java/lang/String" "coder" "B" (.int (0 : Int32))) (SC : Sta Z Z.heap "java/lang/String" "COMPACT_STRINGS" "Z" (.int z)) (hz : ¬ z = 0) :
    MetFree l (⟨"java/lang/String", "coder", "()B"⟩ : MethodName) (head1 (Jvm.Cond.code (⟨"java/lang/String", "coder", "()B"⟩ : MethodName) jdk_42_method_152_code 1 (some .byte) :: ws) ({ frames := 0, cells := 0, slots := 0, locals := 0 } : Room)) (fun qq U => qq = #[(.ref xs)] ∧ Z.Warmed39 U.vm ∧ U.heap = h0) (fun _ _ _ _ _ => True) (fun _ UU oo UU' => ∃ vv LL, oo = .returned vv ∧ Qd0 Z xs z h0 n0 vv UU'.heap LL ∧ FrameEnd UU oo UU' LL ({ frames := 0, cells := 0, slots := 0, locals := 0 } : Room).cells ({ frames := 0, cells := 0, slots := 0, locals := 0 } : Room).slots) := by
  refine MetFree.of_bodySF (plainFor_of_name pn_16) hisR ?_
  intro p e s m args below meth c s₁ Bd hml0 hP hK
  obtain ⟨rfl, hZ, hh⟩ := hP
  have hx := Bd.exec
  have hby := Bd.bytes
  have hml : c.maxLocals = 1 := hml0
  have hown : s.vm.findClass "java/lang/String" = some m.cls := findClass_of_methodNamed Bd.named
  have hnm := (name_of_methodNamed Bd.named Bd.method).1
  have X0 : Stand p l e ({ frames := 0, cells := 0, slots := 0, locals := 0 } : Room) s m #[(.ref xs)] below meth c s₁ [] 0 0 := Stand.of_body Bd
  have e0 : s₁.heap = h0 := by rw [← hh, Bd.state]; rfl
  have N0 := Fr.nil n0
  have pre0 : ∀ tgt, Steps p.tables e below (s₁.setTop (mkF m 0 #[.val (.ref xs)] [])) tgt → Steps p.tables e below (s₁.setTop (entryFrame m #[(.ref xs)] 1)) tgt := fun tt kk => castTop (ef_16 m xs) kk
  obtain ⟨T1, X1, e1, st1⟩ := getS2 X0 hx hZ hown (host := "") (Or.inl (ww hw 129 rfl)) Via.refl e0 (SC.ext O0.2) (g := (mkF m 0 #[.val (.ref xs)] [])) rfl (hb hby d16_0)
  obtain ⟨T2, X2, e2, st2⟩ := getF X1 hx hZ hown (host := "") (Or.inl (ww hw 28 rfl)) Via.refl e1 Cx (g := (mkF m 7 #[.val (.ref xs)] [(.ref xs)])) rfl rfl (hb hby d16_7)
  obtain ⟨fs, hr, hrun, hended, hW, hsame⟩ := X2.leave (v := some (.int (0 : Int32))) (fun h => by rw [Bd.returns] at h; cases h)
  refine ⟨_, _, pre0 _ ?_, hrun, hended, _, _, rfl, ?_, ⟨_, rfl⟩, hW, hsame.mono (by decide) (by decide)⟩
  · show Steps p.tables e below (s₁.setTop (mkF m 0 #[.val (.ref xs)] [])) _
    refine st1 _ ?_
    show Steps p.tables e below (T1.setTop (mkF m 3 #[.val (.ref xs)] [(.int z)])) _
    refine XS.ifNo X1.here hx rfl (hb hby d16_3) rfl ((if0 _ _).trans (feq (hz : ¬ (z = (0 : Int32)))).1) ?_
    show Steps p.tables e below (T1.setTop (mkF m 6 #[.val (.ref xs)] [])) _
    refine XS.aloadN X1.here hx rfl (hb hby d16_6) rfl rfl ?_
    show Steps p.tables e below (T1.setTop (mkF m 7 #[.val (.ref xs)] [(.ref xs)])) _
    refine st2 _ ?_
    show Steps p.tables e below (T2.setTop (mkF m 10 #[.val (.ref xs)] [(.int (0 : Int32))])) _
    refine XS.goto X2.here hx rfl (pc0 := 10) (pc' := 14) rfl (hb hby d16_10) (by decide) (by decide) ?_
    show Steps p.tables e below (T2.setTop (mkF m 14 #[.val (.ref xs)] [(.int (0 : Int32))])) _
    exact retN X2 hx (t := .byte) Bd.returns (by simp) (hb hby d16_14) hr
  · show Qd0 Z xs z h0 n0 _ T2.heap _
    rw [e2]
    exact ⟨rfl, N0, rfl⟩
theorem d12_0 : decode jdk_68_method_2_code 0 = .ok (.aload_n 0, 1) := by decide +kernel
theorem d12_1 : decode jdk_68_method_2_code 1 = .ok (.invokespecial 3, 3) := by decide +kernel
theorem d12_4 : decode jdk_68_method_2_code 4 = .ok (.getstatic 18, 3) := by decide +kernel
theorem d12_7 : decode jdk_68_method_2_code 7 = .ok (.ifCond .eq 18, 3) := by decide +kernel
theorem d12_10 : decode jdk_68_method_2_code 10 = .ok (.aload_n 0, 1) := by decide +kernel
theorem d12_11 : decode jdk_68_method_2_code 11 = .ok (.iload_n 1, 1) := by decide +kernel
theorem d12_12 : decode jdk_68_method_2_code 12 = .ok (.newarray .byte, 2) := by decide +kernel
theorem d12_14 : decode jdk_68_method_2_code 14 = .ok (.putfield 15, 3) := by decide +kernel
theorem d12_17 : decode jdk_68_method_2_code 17 = .ok (.aload_n 0, 1) := by decide +kernel
theorem d12_18 : decode jdk_68_method_2_code 18 = .ok (.iconst 0, 1) := by decide +kernel
theorem d12_19 : decode jdk_68_method_2_code 19 = .ok (.putfield 22, 3) := by decide +kernel
theorem d12_22 : decode jdk_68_method_2_code 22 = .ok (.goto 16, 3) := by decide +kernel
theorem d12_38 : decode jdk_68_method_2_code 38 = .ok (.return_, 1) := by decide +kernel
theorem ef_12 (m : MethodId) (x0 : Addr) (x1 : Int32) : entryFrame m #[(.ref x0), (.int x1)] 2 = mkF m 0 #[.val (.ref x0), .val (.int x1)] [] := by first | (simp [entryFrame, mkF, argsToLocals, Value.category]; done) | rfl
theorem pn_12 : plainName "java/lang/AbstractStringBuilder" = true := by first | (simp [plainName, overriddenIn]; done) | decide +kernel
def Qd1 (Z : State) (sb : Addr) (z : Int32) (h0 : Heap) (n0 : Nat) (v : Option Value) (h : Heap) (L : List Loc) : Prop := ∃ vb kv, v = none ∧ Fr n0 L ∧ Keep h0 h [sb] ∧ h0.size ≤ vb ∧ n0 ≤ vb ∧ Exa Z h sb "java/lang/StringBuilder" ∧ Fld Z h sb "java/lang/AbstractStringBuilder" "value" "[B" (.ref vb) ∧ Fld Z h sb "java/lang/AbstractStringBuilder" "coder" "B" (.int (0 : Int32)) ∧ Fld Z h sb "java/lang/AbstractStringBuilder" "count" "I" (.int (Int32.ofNat (([] : List Int32)).length)) ∧ Arv Z h vb kv .byte (Int32.ofNat 16) (((([] : List Int32)).map StrChars.lo8).map Value.int) (.int 0)
set_option maxRecDepth 65536 in
set_option maxHeartbeats 40000000 in
theorem rmAI (l : Launch) (Z : State) (a0 : Array Value) (hw : ∀ d ∈ tables_1, d.before a0 Z = true) (ws : List Jvm.Cond) (sb : Addr) (z : Int32) (h0 : Heap) (n0 : Nat) (O0 : Old Z n0 h0) (gs : n0 ≤ sb) (Eb : Exa Z h0 sb "java/lang/StringBuilder") (Vb : Fld Z h0 sb "java/lang/AbstractStringBuilder" "value" "[B" .null) (Cb : Fld Z h0 sb "java/lang/AbstractStringBuilder" "coder" "B" (.int (0 : Int32))) (Nb : Fld Z h0 sb "java/lang/AbstractStringBuilder" "count" "I" (.int (0 : Int32))) (SC : Sta Z Z.heap "java/lang/String" "COMPACT_STRINGS" "Z" (.int z)) (hz : ¬ z = 0) :
    MetFree l (⟨"java/lang/AbstractStringBuilder", "<init>", "(I)V"⟩ : MethodName) (head1 (Jvm.Cond.code (⟨"java/lang/AbstractStringBuilder", "<init>", "(I)V"⟩ : MethodName) jdk_68_method_2_code 2 none :: ws) ({ frames := 1, cells := 1, slots := 16, locals := 12 } : Room)) (fun qq U => qq = #[(.ref sb), (.int (16 : Int32))] ∧ Z.Warmed39 U.vm ∧ U.heap = h0) (fun _ _ _ _ _ => True) (fun _ UU oo UU' => ∃ vv LL, oo = .returned vv ∧ Qd1 Z sb z h0 n0 vv UU'.heap LL ∧ FrameEnd UU oo UU' LL ({ frames := 1, cells := 1, slots := 16, locals := 12 } : Room).cells ({ frames := 1, cells := 1, slots := 16, locals := 12 } : Room).slots) := by
  refine MetFree.of_bodySF (plainFor_of_name pn_12) hisR ?_
  intro p e s m args below meth c s₁ Bd hml0 hP hK
  obtain ⟨rfl, hZ, hh⟩ := hP
  have hx := Bd.exec
  have hby := Bd.bytes
  have hml : c.maxLocals = 2 := hml0
  have hown : s.vm.findClass "java/lang/AbstractStringBuilder" = some m.cls := findClass_of_methodNamed Bd.named
  have hnm := (name_of_methodNamed Bd.named Bd.method).1
  have X0 : Stand p l e ({ frames := 1, cells := 1, slots := 16, locals := 12 } : Room) s m #[(.ref sb), (.int (16 : Int32))] below meth c s₁ [] 0 0 := Stand.of_body Bd
  have e0 : s₁.heap = h0 := by rw [← hh, Bd.state]; rfl
  have N0 := Fr.nil n0
  have pre0 : ∀ tgt, Steps p.tables e below (s₁.setTop (mkF m 0 #[.val (.ref sb), .val (.int (16 : Int32))] [])) tgt → Steps p.tables e below (s₁.setTop (entryFrame m #[(.ref sb), (.int (16 : Int32))] 2)) tgt := fun tt kk => castTop (ef_12 m sb (16 : Int32)) kk
  obtain ⟨T1, X1, e1, st1⟩ := initO X0 hx hZ hown (ww hw 102 rfl) (ww hw 19 rfl) (ww hw 20 rfl) e0 (g := (mkF m 1 #[.val (.ref sb), .val (.int (16 : Int32))] [(.ref sb)])) rfl (by rw [hml]; rfl) rfl (hb hby d12_1) (by decide) (W := 0) (by show 2 * 0 + _ ≤ _; exact Nat.le_of_eq rfl) (by decide)
  obtain ⟨T2, X2, e2, st2⟩ := getS2 X1 hx hZ hown (host := "") (Or.inl (ww hw 103 rfl)) Via.refl e1 (SC.ext O0.2) (g := (mkF m 4 #[.val (.ref sb), .val (.int (16 : Int32))] [])) rfl (hb hby d12_4)
  obtain ⟨T3, h3, k3, X3, e3, E3, A3, st3⟩ := newP X2 hx hZ (ww hw 22 rfl) e2 (g := (mkF m 12 #[.val (.ref sb), .val (.int (16 : Int32))] [(.int (16 : Int32)), (.ref sb)])) rfl (hb hby d12_12) rfl (by decide) (cap := 16) (by decide) (by decide) (by decide) (by decide)
  obtain ⟨b3, q3⟩ : ∃ z, z = h0.size := ⟨_, rfl⟩
  rw [← q3] at A3 st3
  have g_b3 : n0 ≤ b3 := by rw [q3]; exact (O0).1 ▸ (O0).2.1
  have ne_sb_b3 : sb ≠ b3 := by rw [q3]; exact Nat.ne_of_lt Eb.lt
  have sz_b3 : h0.size ≤ b3 := by rw [q3]; exact ((Keep.refl h0 [sb])).1
  have O3 := Old.ext O0 E3
  have K3 := Keep.ext (Keep.refl h0 [sb]) E3
  have V3 : Arv Z h3 b3 k3 .byte (16 : Int32) [] (.int (0 : Int32)) := Arv.new A3 (by decide)
  obtain ⟨T4, h4, X4, e4, W4, st4⟩ := putF X3 hx hZ hown (host := "") (Or.inl (ww hw 104 rfl)) Via.refl e3 (Fld.ext E3 Vb) (Exa.ext E3 Eb) (Or.inl (ww hw 105 rfl)) (ww hw 91 rfl) (ty := (.array .byte)) (by decide) rfl rfl (g := (mkF m 14 #[.val (.ref sb), .val (.int (16 : Int32))] [(.ref b3), (.ref sb)])) rfl rfl (hb hby d12_14)
  have Fw4 := Fld.same W4 (Fld.ext E3 Vb)
  have N4 := Fr.snoc X4 N0 gs
  have O4 := Old.wr O3 W4 gs
  have K4 := Keep.wr K3 W4 (Or.inl (List.mem_of_getElem? (i := 0) rfl))
  have c5 := (Fld.other W4 (Fld.ext E3 Cb) (Or.inr (slot_ne (a0 := a0) (Or.inl (ww hw 107 rfl)) (Or.inl (ww hw 105 rfl)) (by decide) (t := .byte) (t' := (.array .byte)) (by decide) (by decide))))
  obtain ⟨T6, h6, X6, e6, W6, st6⟩ := putFN X4 hx hZ hown (ww hw 106 rfl) Via.refl e4 c5 (Exa.wr W4 (Exa.ext E3 Eb)) (Or.inl (ww hw 107 rfl)) (ww hw 91 rfl) (ty := .byte) (v' := (.int (0 : Int32))) (by decide) rfl rfl (g := (mkF m 19 #[.val (.ref sb), .val (.int (16 : Int32))] [(.int (0 : Int32)), (.ref sb)])) rfl rfl (hb hby d12_19)
  have Fw6 := Fld.same W6 c5
  have N6 := Fr.snoc X6 N4 gs
  have O6 := Old.wr O4 W6 gs
  have K6 := Keep.wr K4 W6 (Or.inl (List.mem_of_getElem? (i := 0) rfl))
  have c7 := (Fld.other W6 Fw4 (Or.inr (slot_ne (a0 := a0) (Or.inl (ww hw 105 rfl)) (Or.inl (ww hw 107 rfl)) (by decide) (t := (.array .byte)) (t' := .byte) (by decide) (by decide))))
  have c8 := (Fld.other W6 (Fld.other W4 (Fld.ext E3 Nb) (Or.inr (slot_ne (a0 := a0) (Or.inl (ww hw 131 rfl)) (Or.inl (ww hw 105 rfl)) (by decide) (t := .int) (t' := (.array .byte)) (by decide) (by decide)))) (Or.inr (slot_ne (a0 := a0) (Or.inl (ww hw 131 rfl)) (Or.inl (ww hw 107 rfl)) (by decide) (t := .int) (t' := .byte) (by decide) (by decide))))
  have c9 := ((V3.other W4 (Ne.symm ne_sb_b3)).other W6 (Ne.symm ne_sb_b3))
  obtain ⟨fs, hr, hrun, hended, hW, hsame⟩ := X6.leave (v := none) (fun _ => rfl)
  refine ⟨_, _, pre0 _ ?_, hrun, hended, _, _, rfl, ?_, ⟨_, rfl⟩, hW, hsame.mono (by decide) (by decide)⟩
  · show Steps p.tables e below (s₁.setTop (mkF m 0 #[.val (.ref sb), .val (.int (16 : Int32))] [])) _
    refine XS.aloadN X0.here hx rfl (hb hby d12_0) rfl rfl ?_
    show Steps p.tables e below (s₁.setTop (mkF m 1 #[.val (.ref sb), .val (.int (16 : Int32))] [(.ref sb)])) _
    refine st1 _ ?_
    show Steps p.tables e below (T1.setTop (mkF m 4 #[.val (.ref sb), .val (.int (16 : Int32))] [])) _
    refine st2 _ ?_
    show Steps p.tables e below (T2.setTop (mkF m 7 #[.val (.ref sb), .val (.int (16 : Int32))] [(.int z)])) _
    refine XS.ifNo X2.here hx rfl (hb hby d12_7) rfl ((if0 _ _).trans (feq (hz : ¬ (z = (0 : Int32)))).1) ?_
    show Steps p.tables e below (T2.setTop (mkF m 10 #[.val (.ref sb), .val (.int (16 : Int32))] [])) _
    refine XS.aloadN X2.here hx rfl (hb hby d12_10) rfl rfl ?_
    show Steps p.tables e below (T2.setTop (mkF m 11 #[.val (.ref sb), .val (.int (16 : Int32))] [(.ref sb)])) _
    refine XS.iloadN X2.here hx rfl (hb hby d12_11) rfl ?_
    show Steps p.tables e below (T2.setTop (mkF m 12 #[.val (.ref sb), .val (.int (16 : Int32))] [(.int (16 : Int32)), (.ref sb)])) _
    refine st3 _ ?_
    show Steps p.tables e below (T3.setTop (mkF m 14 #[.val (.ref sb), .val (.int (16 : Int32))] [(.ref b3), (.ref sb)])) _
    refine st4 _ ?_
    show Steps p.tables e below (T4.setTop (mkF m 17 #[.val (.ref sb), .val (.int (16 : Int32))] [])) _
    refine XS.aloadN X4.here hx rfl (hb hby d12_17) rfl rfl ?_
    show Steps p.tables e below (T4.setTop (mkF m 18 #[.val (.ref sb), .val (.int (16 : Int32))] [(.ref sb)])) _
    refine XS.iconst X4.here hx rfl (hb hby d12_18) ?_
    show Steps p.tables e below (T4.setTop (mkF m 19 #[.val (.ref sb), .val (.int (16 : Int32))] [(.int (0 : Int32)), (.ref sb)])) _
    refine st6 _ ?_
    show Steps p.tables e below (T6.setTop (mkF m 22 #[.val (.ref sb), .val (.int (16 : Int32))] [])) _
    refine XS.goto X6.here hx rfl (pc0 := 22) (pc' := 38) rfl (hb hby d12_22) (by decide) (by decide) ?_
    show Steps p.tables e below (T6.setTop (mkF m 38 #[.val (.ref sb), .val (.int (16 : Int32))] [])) _
    exact X6.returnOut hx Bd.returns (hb hby d12_38) hr
  · show Qd1 Z sb z h0 n0 _ T6.heap _
    rw [e6]
    exact ⟨b3, k3, rfl, N6, K6, sz_b3, g_b3, (Exa.wr W6 (Exa.wr W4 (Exa.ext E3 Eb))), c7, Fw6, c8, c9⟩
theorem d11_0 : decode jdk_67_method_1_code 0 = .ok (.aload_n 0, 1) := by decide +kernel
theorem d11_1 : decode jdk_67_method_1_code 1 = .ok (.bipush 16, 2) := by decide +kernel
theorem d11_3 : decode jdk_67_method_1_code 3 = .ok (.invokespecial 1, 3) := by decide +kernel
theorem own_pd0 : parseMethodDescriptor "(I)V" = some ⟨[.int], none⟩ := by decide +kernel
theorem d11_6 : decode jdk_67_method_1_code 6 = .ok (.return_, 1) := by decide +kernel
theorem ef_11 (m : MethodId) (x0 : Addr) : entryFrame m #[(.ref x0)] 1 = mkF m 0 #[.val (.ref x0)] [] := by first | (simp [entryFrame, mkF, argsToLocals, Value.category]; done) | rfl
theorem pn_11 : plainName "java/lang/StringBuilder" = true := by first | (simp [plainName, overriddenIn]; done) | decide +kernel
set_option maxRecDepth 65536 in
set_option maxHeartbeats 40000000 in
theorem rmBI (l : Launch) (Z : State) (a0 : Array Value) (hw : ∀ d ∈ tables_1, d.before a0 Z = true) (ws : List Jvm.Cond) (sb : Addr) (z : Int32) (h0 : Heap) (n0 : Nat) (O0 : Old Z n0 h0) (gs : n0 ≤ sb) (Eb : Exa Z h0 sb "java/lang/StringBuilder") (Vb : Fld Z h0 sb "java/lang/AbstractStringBuilder" "value" "[B" .null) (Cb : Fld Z h0 sb "java/lang/AbstractStringBuilder" "coder" "B" (.int (0 : Int32))) (Nb : Fld Z h0 sb "java/lang/AbstractStringBuilder" "count" "I" (.int (0 : Int32))) (SC : Sta Z Z.heap "java/lang/String" "COMPACT_STRINGS" "Z" (.int z)) (hz : ¬ z = 0) :
    MetFree l (⟨"java/lang/StringBuilder", "<init>", "()V"⟩ : MethodName) (head1 (Jvm.Cond.code (⟨"java/lang/StringBuilder", "<init>", "()V"⟩ : MethodName) jdk_67_method_1_code 1 none :: ws) ({ frames := 2, cells := 1, slots := 16, locals := 25 } : Room)) (fun qq U => qq = #[(.ref sb)] ∧ Z.Warmed39 U.vm ∧ U.heap = h0) (fun _ _ _ _ _ => True) (fun _ UU oo UU' => ∃ vv LL, oo = .returned vv ∧ Qd1 Z sb z h0 n0 vv UU'.heap LL ∧ FrameEnd UU oo UU' LL ({ frames := 2, cells := 1, slots := 16, locals := 25 } : Room).cells ({ frames := 2, cells := 1, slots := 16, locals := 25 } : Room).slots) := by
  refine MetFree.of_bodySF (plainFor_of_name pn_11) hisR ?_
  intro p e s m args below meth c s₁ Bd hml0 hP hK
  obtain ⟨rfl, hZ, hh⟩ := hP
  have hx := Bd.exec
  have hby := Bd.bytes
  have hml : c.maxLocals = 1 := hml0
  have hown : s.vm.findClass "java/lang/StringBuilder" = some m.cls := findClass_of_methodNamed Bd.named
  have hnm := (name_of_methodNamed Bd.named Bd.method).1
  have X0 : Stand p l e ({ frames := 2, cells := 1, slots := 16, locals := 25 } : Room) s m #[(.ref sb)] below meth c s₁ [] 0 0 := Stand.of_body Bd
  have e0 : s₁.heap = h0 := by rw [← hh, Bd.state]; rfl
  have N0 := Fr.nil n0
  have pre0 : ∀ tgt, Steps p.tables e below (s₁.setTop (mkF m 0 #[.val (.ref sb)] [])) tgt → Steps p.tables e below (s₁.setTop (entryFrame m #[(.ref sb)] 1)) tgt := fun tt kk => castTop (ef_11 m sb) kk
  obtain ⟨_, _, ⟨T1, L1, k1, n1⟩, -, X1, ⟨Lc1, hQ1, l1, y1, z1⟩, st1⟩ := X0.specialBack hx (y := (⟨"java/lang/AbstractStringBuilder", "<init>", "(I)V"⟩ : MethodName)) rfl hown (mvT hZ (ww hw 96 rfl)) (mvT hZ (ww hw 97 rfl)) (mvT hZ (ww hw 101 rfl)) (by decide) (backOf (W := 0) (rmAI l Z a0 hw [] sb z h0 n0 O0 gs Eb Vb Cb Nb SC hz) hZ (ww hw 101 rfl) (ww hw 100 rfl) (by decide) (by decide)) (g := (mkF m 3 #[.val (.ref sb)] [(.int (16 : Int32)), (.ref sb)])) rfl (by rw [hml]; rfl) (Steps.refl _) (a := sb) (argsL := [(.int (16 : Int32))]) (rest := []) (lenOf own_pd0 rfl) rfl (by show 2 * 0 + _ ≤ _; exact Nat.le_of_eq rfl) (hb hby d11_3) (fun _ _ => ⟨rfl, e0, (by decide : 0 + 1 ≤ _), (by decide : 0 + 16 ≤ _)⟩)
  dsimp only [Pt.U, Pt.locs, Pt.cells, Pt.slots] at X1 l1 y1 z1 st1 hQ1
  subst l1 y1 z1
  obtain ⟨vb, kv, rfl, N1q, KK1, szv, gv, fE, fV, fC, fN, fK⟩ := hQ1
  have N1 := Fr.app N0 N1q
  have O1 := Old.keep O0 KK1 (allS gs all0)
  have K1 := Keep.trans (Keep.refl h0 [sb]) KK1 (allS (Or.inl (List.mem_of_getElem? (i := 0) rfl)) all0)
  obtain ⟨fs, hr, hrun, hended, hW, hsame⟩ := X1.leave (v := none) (fun _ => rfl)
  refine ⟨_, _, pre0 _ ?_, hrun, hended, _, _, rfl, ?_, ⟨_, rfl⟩, hW, hsame.mono (by decide) (by decide)⟩
  · show Steps p.tables e below (s₁.setTop (mkF m 0 #[.val (.ref sb)] [])) _
    refine XS.aloadN X0.here hx rfl (hb hby d11_0) rfl rfl ?_
    show Steps p.tables e below (s₁.setTop (mkF m 1 #[.val (.ref sb)] [(.ref sb)])) _
    refine XS.bipush X0.here hx rfl (hb hby d11_1) ?_
    show Steps p.tables e below (s₁.setTop (mkF m 3 #[.val (.ref sb)] [(.int (16 : Int32)), (.ref sb)])) _
    refine st1.trans ?_
    show Steps p.tables e below (T1.setTop (mkF m 6 #[.val (.ref sb)] [])) _
    exact X1.returnOut hx Bd.returns (hb hby d11_6) hr
  · show Qd1 Z sb z h0 n0 _ T1.heap _
    exact ⟨vb, kv, rfl, N1, K1, szv, gv, fE, fV, fC, fN, fK⟩
theorem d17_0 : decode jdk_68_method_9_code 0 = .ok (.aload_n 0, 1) := by decide +kernel
theorem d17_1 : decode jdk_68_method_9_code 1 = .ok (.getfield 15, 3) := by decide +kernel
theorem d17_4 : decode jdk_68_method_9_code 4 = .ok (.arraylength, 1) := by decide +kernel
theorem d17_5 : decode jdk_68_method_9_code 5 = .ok (.aload_n 0, 1) := by decide +kernel
theorem d17_6 : decode jdk_68_method_9_code 6 = .ok (.getfield 22, 3) := by decide +kernel
theorem d17_9 : decode jdk_68_method_9_code 9 = .ok (.ishr, 1) := by decide +kernel
theorem d17_10 : decode jdk_68_method_9_code 10 = .ok (.istore_n 2, 1) := by decide +kernel
theorem d17_11 : decode jdk_68_method_9_code 11 = .ok (.iload_n 1, 1) := by decide +kernel
theorem d17_12 : decode jdk_68_method_9_code 12 = .ok (.iload_n 2, 1) := by decide +kernel
theorem d17_13 : decode jdk_68_method_9_code 13 = .ok (.isub, 1) := by decide +kernel
theorem d17_14 : decode jdk_68_method_9_code 14 = .ok (.ifCond .le 24, 3) := by decide +kernel
theorem d17_38 : decode jdk_68_method_9_code 38 = .ok (.return_, 1) := by decide +kernel
theorem ef_17 (m : MethodId) (x0 : Addr) (x1 : Int32) : entryFrame m #[(.ref x0), (.int x1)] 3 = mkF m 0 #[.val (.ref x0), .val (.int x1), .unset] [] := by first | (simp [entryFrame, mkF, argsToLocals, Value.category]; done) | rfl
theorem pn_17 : plainName "java/lang/AbstractStringBuilder" = true := by first | (simp [plainName, overriddenIn]; done) | decide +kernel
def Qd2 (Z : State) (sb vb : Addr) (kv : ClassId) (ys cs : List Int32) (h0 : Heap) (n0 : Nat) (v : Option Value) (h : Heap) (L : List Loc) : Prop := v = none ∧ Fr n0 L ∧ h = h0
set_option maxRecDepth 65536 in
set_option maxHeartbeats 40000000 in
theorem rmEC (l : Launch) (Z : State) (a0 : Array Value) (hw : ∀ d ∈ tables_1, d.before a0 Z = true) (ws : List Jvm.Cond) (sb vb : Addr) (kv : ClassId) (ys cs : List Int32) (h0 : Heap) (n0 : Nat) (Eb : Exa Z h0 sb "java/lang/StringBuilder") (Vb : Fld Z h0 sb "java/lang/AbstractStringBuilder" "value" "[B" (.ref vb)) (Cb : Fld Z h0 sb "java/lang/AbstractStringBuilder" "coder" "B" (.int (0 : Int32))) (Nb : Fld Z h0 sb "java/lang/AbstractStringBuilder" "count" "I" (.int (Int32.ofNat (ys).length))) (Kb : Arv Z h0 vb kv .byte (Int32.ofNat 16) (((ys).map StrChars.lo8).map Value.int) (.int 0)) (hc : ys.length + cs.length ≤ 16) :
    MetFree l (⟨"java/lang/AbstractStringBuilder", "ensureCapacityInternal", "(I)V"⟩ : MethodName) (head1 (Jvm.Cond.code (⟨"java/lang/AbstractStringBuilder", "ensureCapacityInternal", "(I)V"⟩ : MethodName) jdk_68_method_9_code 3 none :: ws) ({ frames := 0, cells := 0, slots := 0, locals := 0 } : Room)) (fun qq U => qq = #[(.ref sb), (.int (Int32.ofNat ys.length + Int32.ofNat cs.length))] ∧ Z.Warmed39 U.vm ∧ U.heap = h0) (fun _ _ _ _ _ => True) (fun _ UU oo UU' => ∃ vv LL, oo = .returned vv ∧ Qd2 Z sb vb kv ys cs h0 n0 vv UU'.heap LL ∧ FrameEnd UU oo UU' LL ({ frames := 0, cells := 0, slots := 0, locals := 0 } : Room).cells ({ frames := 0, cells := 0, slots := 0, locals := 0 } : Room).slots) := by
  refine MetFree.of_bodySF (plainFor_of_name pn_17) hisR ?_
  intro p e s m args below meth c s₁ Bd hml0 hP hK
  obtain ⟨rfl, hZ, hh⟩ := hP
  have hx := Bd.exec
  have hby := Bd.bytes
  have hml : c.maxLocals = 3 := hml0
  have hown : s.vm.findClass "java/lang/AbstractStringBuilder" = some m.cls := findClass_of_methodNamed Bd.named
  have hnm := (name_of_methodNamed Bd.named Bd.method).1
  have X0 : Stand p l e ({ frames := 0, cells := 0, slots := 0, locals := 0 } : Room) s m #[(.ref sb), (.int (Int32.ofNat ys.length + Int32.ofNat cs.length))] below meth c s₁ [] 0 0 := Stand.of_body Bd
  have e0 : s₁.heap = h0 := by rw [← hh, Bd.state]; rfl
  have N0 := Fr.nil n0
  have pre0 : ∀ tgt, Steps p.tables e below (s₁.setTop (mkF m 0 #[.val (.ref sb), .val (.int (Int32.ofNat ys.length + Int32.ofNat cs.length)), .unset] [])) tgt → Steps p.tables e below (s₁.setTop (entryFrame m #[(.ref sb), (.int (Int32.ofNat ys.length + Int32.ofNat cs.length))] 3)) tgt := fun tt kk => castTop (ef_17 m sb (Int32.ofNat ys.length + Int32.ofNat cs.length)) kk
  obtain ⟨T1, X1, e1, st1⟩ := getF X0 hx hZ hown (host := "") (Or.inl (ww hw 104 rfl)) Via.refl e0 Vb (g := (mkF m 1 #[.val (.ref sb), .val (.int (Int32.ofNat ys.length + Int32.ofNat cs.length)), .unset] [(.ref sb)])) rfl rfl (hb hby d17_1)
  obtain ⟨cl, Ar, qk, Sz, Mz, Hz, Uz⟩ := id Kb
  obtain ⟨T2, X2, e2, st2⟩ := getF X1 hx hZ hown (host := "") (Or.inl (ww hw 106 rfl)) Via.refl e1 Cb (g := (mkF m 6 #[.val (.ref sb), .val (.int (Int32.ofNat ys.length + Int32.ofNat cs.length)), .unset] [(.ref sb), (.int (Int32.ofNat 16))])) rfl rfl (hb hby d17_6)
  obtain ⟨fs, hr, hrun, hended, hW, hsame⟩ := X2.leave (v := none) (fun _ => rfl)
  refine ⟨_, _, pre0 _ ?_, hrun, hended, _, _, rfl, ?_, ⟨_, rfl⟩, hW, hsame.mono (by decide) (by decide)⟩
  · show Steps p.tables e below (s₁.setTop (mkF m 0 #[.val (.ref sb), .val (.int (Int32.ofNat ys.length + Int32.ofNat cs.length)), .unset] [])) _
    refine XS.aloadN X0.here hx rfl (hb hby d17_0) rfl rfl ?_
    show Steps p.tables e below (s₁.setTop (mkF m 1 #[.val (.ref sb), .val (.int (Int32.ofNat ys.length + Int32.ofNat cs.length)), .unset] [(.ref sb)])) _
    refine st1 _ ?_
    show Steps p.tables e below (T1.setTop (mkF m 4 #[.val (.ref sb), .val (.int (Int32.ofNat ys.length + Int32.ofNat cs.length)), .unset] [(.ref vb)])) _
    refine X1.arraylength hx (by rw [e1]; exact Ar.1) (State.isArrayOf_alike hZ.alike Ar.2.1) (g := (mkF m 4 #[.val (.ref sb), .val (.int (Int32.ofNat ys.length + Int32.ofNat cs.length)), .unset] [(.ref vb)])) rfl rfl (hb hby d17_4) _ ?_
    rw [len_of Sz Mz]
    show Steps p.tables e below (T1.setTop (mkF m 5 #[.val (.ref sb), .val (.int (Int32.ofNat ys.length + Int32.ofNat cs.length)), .unset] [(.int (Int32.ofNat 16))])) _
    refine XS.aloadN X1.here hx rfl (hb hby d17_5) rfl rfl ?_
    show Steps p.tables e below (T1.setTop (mkF m 6 #[.val (.ref sb), .val (.int (Int32.ofNat ys.length + Int32.ofNat cs.length)), .unset] [(.ref sb), (.int (Int32.ofNat 16))])) _
    refine st2 _ ?_
    show Steps p.tables e below (T2.setTop (mkF m 9 #[.val (.ref sb), .val (.int (Int32.ofNat ys.length + Int32.ofNat cs.length)), .unset] [(.int (0 : Int32)), (.int (Int32.ofNat 16))])) _
    refine XS.ishr X2.here hx rfl (hb hby d17_9) rfl ?_
    show Steps p.tables e below (T2.setTop (mkF m 10 #[.val (.ref sb), .val (.int (Int32.ofNat ys.length + Int32.ofNat cs.length)), .unset] [(.int ((Int32.ofNat 16) >>> ((0 : Int32) &&& 31)))])) _
    refine XS.istoreN X2.here hx rfl (hb hby d17_10) rfl (l' := #[.val (.ref sb), .val (.int (Int32.ofNat ys.length + Int32.ofNat cs.length)), .val (.int ((Int32.ofNat 16) >>> ((0 : Int32) &&& 31)))]) rfl ?_
    show Steps p.tables e below (T2.setTop (mkF m 11 #[.val (.ref sb), .val (.int (Int32.ofNat ys.length + Int32.ofNat cs.length)), .val (.int ((Int32.ofNat 16) >>> ((0 : Int32) &&& 31)))] [])) _
    refine XS.iloadN X2.here hx rfl (hb hby d17_11) rfl ?_
    show Steps p.tables e below (T2.setTop (mkF m 12 #[.val (.ref sb), .val (.int (Int32.ofNat ys.length + Int32.ofNat cs.length)), .val (.int ((Int32.ofNat 16) >>> ((0 : Int32) &&& 31)))] [(.int (Int32.ofNat ys.length + Int32.ofNat cs.length))])) _
    refine XS.iloadN X2.here hx rfl (hb hby d17_12) rfl ?_
    show Steps p.tables e below (T2.setTop (mkF m 13 #[.val (.ref sb), .val (.int (Int32.ofNat ys.length + Int32.ofNat cs.length)), .val (.int ((Int32.ofNat 16) >>> ((0 : Int32) &&& 31)))] [(.int ((Int32.ofNat 16) >>> ((0 : Int32) &&& 31))), (.int (Int32.ofNat ys.length + Int32.ofNat cs.length))])) _
    refine XS.isub X2.here hx rfl (hb hby d17_13) rfl ?_
    show Steps p.tables e below (T2.setTop (mkF m 14 #[.val (.ref sb), .val (.int (Int32.ofNat ys.length + Int32.ofNat cs.length)), .val (.int ((Int32.ofNat 16) >>> ((0 : Int32) &&& 31)))] [(.int ((Int32.ofNat ys.length + Int32.ofNat cs.length) - ((Int32.ofNat 16) >>> ((0 : Int32) &&& 31))))])) _
    refine XS.ifYes X2.here hx rfl (pc0 := 14) (pc' := 38) rfl (hb hby d17_14) rfl ((if0 _ _).trans (flt (own_cap hc : ¬ ((0 : Int32) < ((Int32.ofNat ys.length + Int32.ofNat cs.length) - ((Int32.ofNat 16) >>> ((0 : Int32) &&& 31)))))).2.2.2) (by decide) (by decide) ?_
    show Steps p.tables e below (T2.setTop (mkF m 38 #[.val (.ref sb), .val (.int (Int32.ofNat ys.length + Int32.ofNat cs.length)), .val (.int ((Int32.ofNat 16) >>> ((0 : Int32) &&& 31)))] [])) _
    exact X2.returnOut hx Bd.returns (hb hby d17_38) hr
  · show Qd2 Z sb vb kv ys cs h0 n0 _ T2.heap _
    rw [e2]
    exact ⟨rfl, N0, rfl⟩
theorem d19_0 : decode jdk_68_method_71_code 0 = .ok (.getstatic 18, 3) := by decide +kernel
theorem d19_3 : decode jdk_68_method_71_code 3 = .ok (.ifCond .eq 18, 3) := by decide +kernel
theorem d19_6 : decode jdk_68_method_71_code 6 = .ok (.aload_n 0, 1) := by decide +kernel
theorem d19_7 : decode jdk_68_method_71_code 7 = .ok (.getfield 22, 3) := by decide +kernel
theorem d19_10 : decode jdk_68_method_71_code 10 = .ok (.aload_n 1, 1) := by decide +kernel
theorem d19_11 : decode jdk_68_method_71_code 11 = .ok (.invokevirtual 40, 3) := by decide +kernel
theorem own_pd1 : parseMethodDescriptor "()B" = some ⟨[], some .byte⟩ := by decide +kernel
theorem d19_14 : decode jdk_68_method_71_code 14 = .ok (.if_icmp .eq 7, 3) := by decide +kernel
theorem d19_21 : decode jdk_68_method_71_code 21 = .ok (.return_, 1) := by decide +kernel
theorem ef_19 (m : MethodId) (x0 : Addr) (x1 : Addr) : entryFrame m #[(.ref x0), (.ref x1)] 2 = mkF m 0 #[.val (.ref x0), .val (.ref x1)] [] := by first | (simp [entryFrame, mkF, argsToLocals, Value.category]; done) | rfl
theorem pn_19 : plainName "java/lang/AbstractStringBuilder" = true := by first | (simp [plainName, overriddenIn]; done) | decide +kernel
def Qd3 (Z : State) (sb vb xs tt : Addr) (kv kb : ClassId) (ys cs : List Int32) (z : Int32) (h0 : Heap) (n0 : Nat) (v : Option Value) (h : Heap) (L : List Loc) : Prop := v = none ∧ Fr n0 L ∧ h = h0
set_option maxRecDepth 65536 in
set_option maxHeartbeats 40000000 in
theorem rmIn (l : Launch) (Z : State) (a0 : Array Value) (hw : ∀ d ∈ tables_1, d.before a0 Z = true) (ws : List Jvm.Cond) (sb vb xs tt : Addr) (kv kb : ClassId) (ys cs : List Int32) (z : Int32) (h0 : Heap) (n0 : Nat) (O0 : Old Z n0 h0) (gs : n0 ≤ sb) (gv : n0 ≤ vb) (Eb : Exa Z h0 sb "java/lang/StringBuilder") (Vb : Fld Z h0 sb "java/lang/AbstractStringBuilder" "value" "[B" (.ref vb)) (Cb : Fld Z h0 sb "java/lang/AbstractStringBuilder" "coder" "B" (.int (0 : Int32))) (Nb : Fld Z h0 sb "java/lang/AbstractStringBuilder" "count" "I" (.int (Int32.ofNat (ys).length))) (Kb : Arv Z h0 vb kv .byte (Int32.ofNat 16) (((ys).map StrChars.lo8).map Value.int) (.int 0)) (Ex : Exa Z h0 xs "java/lang/String") (Vx : Fld Z h0 xs "java/lang/String" "value" "[B" (.ref tt)) (Cx : Fld Z h0 xs "java/lang/String" "coder" "B" (.int 0)) (Kx : Arv Z h0 tt kb .byte (Int32.ofNat (cs).length) (((cs).map StrChars.lo8).map Value.int) (.int 0)) (SC : Sta Z Z.heap "java/lang/String" "COMPACT_STRINGS" "Z" (.int z)) (hz : ¬ z = 0) (hg : own_good cs) (hc : ys.length + cs.length ≤ 16) (hne : sb ≠ vb) (hnt : tt ≠ vb) :
    MetFree l (⟨"java/lang/AbstractStringBuilder", "inflateIfNeededFor", "(Ljava/lang/String;)V"⟩ : MethodName) (head1 (Jvm.Cond.code (⟨"java/lang/AbstractStringBuilder", "inflateIfNeededFor", "(Ljava/lang/String;)V"⟩ : MethodName) jdk_68_method_71_code 2 none :: ws) ({ frames := 1, cells := 0, slots := 0, locals := 13 } : Room)) (fun qq U => qq = #[(.ref sb), (.ref xs)] ∧ Z.Warmed39 U.vm ∧ U.heap = h0) (fun _ _ _ _ _ => True) (fun _ UU oo UU' => ∃ vv LL, oo = .returned vv ∧ Qd3 Z sb vb xs tt kv kb ys cs z h0 n0 vv UU'.heap LL ∧ FrameEnd UU oo UU' LL ({ frames := 1, cells := 0, slots := 0, locals := 13 } : Room).cells ({ frames := 1, cells := 0, slots := 0, locals := 13 } : Room).slots) := by
  refine MetFree.of_bodySF (plainFor_of_name pn_19) hisR ?_
  intro p e s m args below meth c s₁ Bd hml0 hP hK
  obtain ⟨rfl, hZ, hh⟩ := hP
  have hx := Bd.exec
  have hby := Bd.bytes
  have hml : c.maxLocals = 2 := hml0
  have hown : s.vm.findClass "java/lang/AbstractStringBuilder" = some m.cls := findClass_of_methodNamed Bd.named
  have hnm := (name_of_methodNamed Bd.named Bd.method).1
  have X0 : Stand p l e ({ frames := 1, cells := 0, slots := 0, locals := 13 } : Room) s m #[(.ref sb), (.ref xs)] below meth c s₁ [] 0 0 := Stand.of_body Bd
  have e0 : s₁.heap = h0 := by rw [← hh, Bd.state]; rfl
  have N0 := Fr.nil n0
  have pre0 : ∀ tgt, Steps p.tables e below (s₁.setTop (mkF m 0 #[.val (.ref sb), .val (.ref xs)] [])) tgt → Steps p.tables e below (s₁.setTop (entryFrame m #[(.ref sb), (.ref xs)] 2)) tgt := fun tt kk => castTop (ef_19 m sb xs) kk
  obtain ⟨T1, X1, e1, st1⟩ := getS2 X0 hx hZ hown (host := "") (Or.inl (ww hw 103 rfl)) Via.refl e0 (SC.ext O0.2) (g := (mkF m 0 #[.val (.ref sb), .val (.ref xs)] [])) rfl (hb hby d19_0)
  obtain ⟨T2, X2, e2, st2⟩ := getF X1 hx hZ hown (host := "") (Or.inl (ww hw 106 rfl)) Via.refl e1 Cb (g := (mkF m 7 #[.val (.ref sb), .val (.ref xs)] [(.ref sb)])) rfl rfl (hb hby d19_7)
  obtain ⟨cq3, kq3, q3a, q3b, q3c⟩ := isOf hZ e2 Ex
  obtain ⟨_, _, ⟨T3, L3, k3, n3⟩, -, X3, ⟨Lc3, hQ3, l3, y3, z3⟩, st3⟩ := X2.virtualBack hx (y := (⟨"java/lang/String", "coder", "()B"⟩ : MethodName)) (z := (⟨"java/lang/String", "coder", "()B"⟩ : MethodName)) hown (mvT hZ (ww hw 147 rfl)) (mvT hZ (ww hw 125 rfl)) (notFace_of_selects (args := #[]) (mvT hZ (ww hw 127 rfl))) (mvT hZ (ww hw 127 rfl)) (mvT hZ (ww hw 126 rfl)) (by decide) (backOf (W := 1) (rmCo l Z a0 hw [] xs z h0 n0 O0 Cx SC hz) hZ (ww hw 128 rfl) (ww hw 9 rfl) (by decide) (by decide)) q3a q3c (g := (mkF m 11 #[.val (.ref sb), .val (.ref xs)] [(.ref xs), (.int (0 : Int32))])) rfl (by rw [hml]; rfl) (Steps.refl _) (argsL := []) (rest := [(.int (0 : Int32))]) (lenOf own_pd1 rfl) rfl (by show 2 * 0 + _ ≤ _; exact Nat.le_of_eq rfl) (hb hby d19_11) (fun _ _ => ⟨rfl, e2, (by decide : 0 + 0 ≤ _), (by decide : 0 + 0 ≤ _)⟩)
  dsimp only [Pt.U, Pt.locs, Pt.cells, Pt.slots] at X3 l3 y3 z3 st3 hQ3
  subst l3 y3 z3
  obtain ⟨rfl, N3q, e3⟩ := hQ3
  have N3 := Fr.app N0 N3q
  obtain ⟨fs, hr, hrun, hended, hW, hsame⟩ := X3.leave (v := none) (fun _ => rfl)
  refine ⟨_, _, pre0 _ ?_, hrun, hended, _, _, rfl, ?_, ⟨_, rfl⟩, hW, hsame.mono (by decide) (by decide)⟩
  · show Steps p.tables e below (s₁.setTop (mkF m 0 #[.val (.ref sb), .val (.ref xs)] [])) _
    refine st1 _ ?_
    show Steps p.tables e below (T1.setTop (mkF m 3 #[.val (.ref sb), .val (.ref xs)] [(.int z)])) _
    refine XS.ifNo X1.here hx rfl (hb hby d19_3) rfl ((if0 _ _).trans (feq (hz : ¬ (z = (0 : Int32)))).1) ?_
    show Steps p.tables e below (T1.setTop (mkF m 6 #[.val (.ref sb), .val (.ref xs)] [])) _
    refine XS.aloadN X1.here hx rfl (hb hby d19_6) rfl rfl ?_
    show Steps p.tables e below (T1.setTop (mkF m 7 #[.val (.ref sb), .val (.ref xs)] [(.ref sb)])) _
    refine st2 _ ?_
    show Steps p.tables e below (T2.setTop (mkF m 10 #[.val (.ref sb), .val (.ref xs)] [(.int (0 : Int32))])) _
    refine XS.aloadN X2.here hx rfl (hb hby d19_10) rfl rfl ?_
    show Steps p.tables e below (T2.setTop (mkF m 11 #[.val (.ref sb), .val (.ref xs)] [(.ref xs), (.int (0 : Int32))])) _
    refine st3.trans ?_
    show Steps p.tables e below (T3.setTop (mkF m 14 #[.val (.ref sb), .val (.ref xs)] [(.int (0 : Int32)), (.int (0 : Int32))])) _
    refine XS.icmpYes X3.here hx rfl (pc0 := 14) (pc' := 21) rfl (hb hby d19_14) rfl (teq (rfl : (0 : Int32) = (0 : Int32))).1 (by decide) (by decide) ?_
    show Steps p.tables e below (T3.setTop (mkF m 21 #[.val (.ref sb), .val (.ref xs)] [])) _
    exact X3.returnOut hx Bd.returns (hb hby d19_21) hr
  · show Qd3 Z sb vb xs tt kv kb ys cs z h0 n0 _ T3.heap _
    rw [e3]
    exact ⟨rfl, N3, rfl⟩
theorem d20_0 : decode jdk_42_method_147_code 0 = .ok (.aload_n 0, 1) := by decide +kernel
theorem d20_1 : decode jdk_42_method_147_code 1 = .ok (.invokevirtual 335, 3) := by decide +kernel
theorem d20_4 : decode jdk_42_method_147_code 4 = .ok (.iload_n 3, 1) := by decide +kernel
theorem d20_5 : decode jdk_42_method_147_code 5 = .ok (.if_icmp .ne 23, 3) := by decide +kernel
theorem d20_8 : decode jdk_42_method_147_code 8 = .ok (.aload_n 0, 1) := by decide +kernel
theorem d20_9 : decode jdk_42_method_147_code 9 = .ok (.getfield 9, 3) := by decide +kernel
theorem d20_12 : decode jdk_42_method_147_code 12 = .ok (.iconst 0, 1) := by decide +kernel
theorem d20_13 : decode jdk_42_method_147_code 13 = .ok (.aload_n 1, 1) := by decide +kernel
theorem d20_14 : decode jdk_42_method_147_code 14 = .ok (.iload_n 2, 1) := by decide +kernel
theorem d20_15 : decode jdk_42_method_147_code 15 = .ok (.iload_n 3, 1) := by decide +kernel
theorem d20_16 : decode jdk_42_method_147_code 16 = .ok (.ishl, 1) := by decide +kernel
theorem d20_17 : decode jdk_42_method_147_code 17 = .ok (.aload_n 0, 1) := by decide +kernel
theorem d20_18 : decode jdk_42_method_147_code 18 = .ok (.getfield 9, 3) := by decide +kernel
theorem d20_21 : decode jdk_42_method_147_code 21 = .ok (.arraylength, 1) := by decide +kernel
theorem d20_22 : decode jdk_42_method_147_code 22 = .ok (.invokestatic 212, 3) := by decide +kernel
theorem d20_25 : decode jdk_42_method_147_code 25 = .ok (.goto 18, 3) := by decide +kernel
theorem d20_43 : decode jdk_42_method_147_code 43 = .ok (.return_, 1) := by decide +kernel
theorem ef_20 (m : MethodId) (x0 : Addr) (x1 : Addr) (x2 : Int32) (x3 : Int32) : entryFrame m #[(.ref x0), (.ref x1), (.int x2), (.int x3)] 4 = mkF m 0 #[.val (.ref x0), .val (.ref x1), .val (.int x2), .val (.int x3)] [] := by first | (simp [entryFrame, mkF, argsToLocals, Value.category]; done) | rfl
theorem pn_20 : plainName "java/lang/String" = true := by first | (simp [plainName, overriddenIn]; done) | decide +kernel
def Qd4 (Z : State) (sb vb xs tt : Addr) (kv kb : ClassId) (ys cs : List Int32) (z : Int32) (h0 : Heap) (n0 : Nat) (v : Option Value) (h : Heap) (L : List Loc) : Prop := v = none ∧ Fr n0 L ∧ Keep h0 h [vb] ∧ Arv Z h vb kv .byte (Int32.ofNat 16) (((ys ++ cs).map StrChars.lo8).map Value.int) (.int 0)
set_option maxRecDepth 65536 in
set_option maxHeartbeats 40000000 in
theorem rmGB (l : Launch) (Z : State) (a0 : Array Value) (hw : ∀ d ∈ tables_1, d.before a0 Z = true) (ws : List Jvm.Cond) (sb vb xs tt : Addr) (kv kb : ClassId) (ys cs : List Int32) (z : Int32) (h0 : Heap) (n0 : Nat) (O0 : Old Z n0 h0) (gs : n0 ≤ sb) (gv : n0 ≤ vb) (Eb : Exa Z h0 sb "java/lang/StringBuilder") (Vb : Fld Z h0 sb "java/lang/AbstractStringBuilder" "value" "[B" (.ref vb)) (Cb : Fld Z h0 sb "java/lang/AbstractStringBuilder" "coder" "B" (.int (0 : Int32))) (Nb : Fld Z h0 sb "java/lang/AbstractStringBuilder" "count" "I" (.int (Int32.ofNat (ys).length))) (Kb : Arv Z h0 vb kv .byte (Int32.ofNat 16) (((ys).map StrChars.lo8).map Value.int) (.int 0)) (Ex : Exa Z h0 xs "java/lang/String") (Vx : Fld Z h0 xs "java/lang/String" "value" "[B" (.ref tt)) (Cx : Fld Z h0 xs "java/lang/String" "coder" "B" (.int 0)) (Kx : Arv Z h0 tt kb .byte (Int32.ofNat (cs).length) (((cs).map StrChars.lo8).map Value.int) (.int 0)) (SC : Sta Z Z.heap "java/lang/String" "COMPACT_STRINGS" "Z" (.int z)) (hz : ¬ z = 0) (hg : own_good cs) (hc : ys.length + cs.length ≤ 16) (hne : sb ≠ vb) (hnt : tt ≠ vb) :
    MetFree l (⟨"java/lang/String", "getBytes", "([BIB)V"⟩ : MethodName) (head1 (Jvm.Cond.code (⟨"java/lang/String", "getBytes", "([BIB)V"⟩ : MethodName) jdk_42_method_147_code 4 none :: ws) ({ frames := 1, cells := 0, slots := 0, locals := 18 } : Room)) (fun qq U => qq = #[(.ref xs), (.ref vb), (.int (Int32.ofNat ys.length)), (.int (0 : Int32))] ∧ Z.Warmed39 U.vm ∧ U.heap = h0) (fun _ _ _ _ _ => True) (fun _ UU oo UU' => ∃ vv LL, oo = .returned vv ∧ Qd4 Z sb vb xs tt kv kb ys cs z h0 n0 vv UU'.heap LL ∧ FrameEnd UU oo UU' LL ({ frames := 1, cells := 0, slots := 0, locals := 18 } : Room).cells ({ frames := 1, cells := 0, slots := 0, locals := 18 } : Room).slots) := by
  refine MetFree.of_bodySF (plainFor_of_name pn_20) hisR ?_
  intro p e s m args below meth c s₁ Bd hml0 hP hK
  obtain ⟨rfl, hZ, hh⟩ := hP
  have hx := Bd.exec
  have hby := Bd.bytes
  have hml : c.maxLocals = 4 := hml0
  have hown : s.vm.findClass "java/lang/String" = some m.cls := findClass_of_methodNamed Bd.named
  have hnm := (name_of_methodNamed Bd.named Bd.method).1
  have X0 : Stand p l e ({ frames := 1, cells := 0, slots := 0, locals := 18 } : Room) s m #[(.ref xs), (.ref vb), (.int (Int32.ofNat ys.length)), (.int (0 : Int32))] below meth c s₁ [] 0 0 := Stand.of_body Bd
  have e0 : s₁.heap = h0 := by rw [← hh, Bd.state]; rfl
  have N0 := Fr.nil n0
  have pre0 : ∀ tgt, Steps p.tables e below (s₁.setTop (mkF m 0 #[.val (.ref xs), .val (.ref vb), .val (.int (Int32.ofNat ys.length)), .val (.int (0 : Int32))] [])) tgt → Steps p.tables e below (s₁.setTop (entryFrame m #[(.ref xs), (.ref vb), (.int (Int32.ofNat ys.length)), (.int (0 : Int32))] 4)) tgt := fun tt kk => castTop (ef_20 m xs vb (Int32.ofNat ys.length) (0 : Int32)) kk
  obtain ⟨cq1, kq1, q1a, q1b, q1c⟩ := isOf hZ e0 Ex
  obtain ⟨_, _, ⟨T1, L1, k1, n1⟩, -, X1, ⟨Lc1, hQ1, l1, y1, z1⟩, st1⟩ := X0.virtualBack hx (y := (⟨"java/lang/String", "coder", "()B"⟩ : MethodName)) (z := (⟨"java/lang/String", "coder", "()B"⟩ : MethodName)) hown (mvT hZ (ww hw 124 rfl)) (mvT hZ (ww hw 125 rfl)) (notFace_of_selects (args := #[]) (mvT hZ (ww hw 127 rfl))) (mvT hZ (ww hw 127 rfl)) (mvT hZ (ww hw 126 rfl)) (by decide) (backOf (W := 0) (rmCo l Z a0 hw [] xs z h0 n0 O0 Cx SC hz) hZ (ww hw 128 rfl) (ww hw 9 rfl) (by decide) (by decide)) q1a q1c (g := (mkF m 1 #[.val (.ref xs), .val (.ref vb), .val (.int (Int32.ofNat ys.length)), .val (.int (0 : Int32))] [(.ref xs)])) rfl (by rw [hml]; rfl) (Steps.refl _) (argsL := []) (rest := []) (lenOf own_pd1 rfl) rfl (by show 2 * 0 + _ ≤ _; exact Nat.le_of_eq rfl) (hb hby d20_1) (fun _ _ => ⟨rfl, e0, (by decide : 0 + 0 ≤ _), (by decide : 0 + 0 ≤ _)⟩)
  dsimp only [Pt.U, Pt.locs, Pt.cells, Pt.slots] at X1 l1 y1 z1 st1 hQ1
  subst l1 y1 z1
  obtain ⟨rfl, N1q, e1⟩ := hQ1
  have N1 := Fr.app N0 N1q
  obtain ⟨T2, X2, e2, st2⟩ := getF X1 hx hZ hown (host := "") (Or.inl (ww hw 27 rfl)) Via.refl e1 Vx (g := (mkF m 9 #[.val (.ref xs), .val (.ref vb), .val (.int (Int32.ofNat ys.length)), .val (.int (0 : Int32))] [(.ref xs)])) rfl rfl (hb hby d20_9)
  obtain ⟨T3, X3, e3, st3⟩ := getF X2 hx hZ hown (host := "") (Or.inl (ww hw 27 rfl)) Via.refl e2 Vx (g := (mkF m 18 #[.val (.ref xs), .val (.ref vb), .val (.int (Int32.ofNat ys.length)), .val (.int (0 : Int32))] [(.ref xs), (.int ((Int32.ofNat ys.length) <<< ((0 : Int32) &&& 31))), (.ref vb), (.int (0 : Int32)), (.ref tt)])) rfl rfl (hb hby d20_18)
  obtain ⟨cl, Ar, qk, Sz, Mz, Hz, Uz⟩ := id Kx
  obtain ⟨T4, h4, L4, X4, e4, N4, KK4, V4, st4⟩ := own_cp X3 hx hZ hown (ww hw 153 rfl) (ww hw 156 rfl) (ww hw 154 rfl) (ww hw 155 rfl) e3 (M := 16) Kx Kb (by rw [own_bl]; exact Nat.le_of_eq (own_n _ (Nat.le_trans hg.1 (by decide))).2.symm) (by decide) (by rw [own_bl, own_bl]; exact hc) (by rw [own_sh0, own_bl]) (by rw [own_bl]) N1 gv (g := (mkF m 22 #[.val (.ref xs), .val (.ref vb), .val (.int (Int32.ofNat ys.length)), .val (.int (0 : Int32))] [(.int (Int32.ofNat cs.length)), (.int ((Int32.ofNat ys.length) <<< ((0 : Int32) &&& 31))), (.ref vb), (.int (0 : Int32)), (.ref tt)])) rfl (by rw [hml]; rfl) rfl (hb hby d20_22) (by decide) (W := 0) (by show 2 * 0 + _ ≤ _; exact Nat.le_of_eq rfl) (by decide)
  have O4 := Old.keep O0 KK4 (allS gv all0)
  have K4 := Keep.trans (Keep.refl h0 [vb]) KK4 (allS (Or.inl (List.mem_of_getElem? (i := 0) rfl)) all0)
  have VF : Arv Z h4 vb kv .byte (Int32.ofNat 16) (((ys ++ cs).map StrChars.lo8).map Value.int) (.int 0) := by
    rw [List.map_append, List.map_append]
    exact V4
  obtain ⟨fs, hr, hrun, hended, hW, hsame⟩ := X4.leave (v := none) (fun _ => rfl)
  refine ⟨_, _, pre0 _ ?_, hrun, hended, _, _, rfl, ?_, ⟨_, rfl⟩, hW, hsame.mono (by decide) (by decide)⟩
  · show Steps p.tables e below (s₁.setTop (mkF m 0 #[.val (.ref xs), .val (.ref vb), .val (.int (Int32.ofNat ys.length)), .val (.int (0 : Int32))] [])) _
    refine XS.aloadN X0.here hx rfl (hb hby d20_0) rfl rfl ?_
    show Steps p.tables e below (s₁.setTop (mkF m 1 #[.val (.ref xs), .val (.ref vb), .val (.int (Int32.ofNat ys.length)), .val (.int (0 : Int32))] [(.ref xs)])) _
    refine st1.trans ?_
    show Steps p.tables e below (T1.setTop (mkF m 4 #[.val (.ref xs), .val (.ref vb), .val (.int (Int32.ofNat ys.length)), .val (.int (0 : Int32))] [(.int (0 : Int32))])) _
    refine XS.iloadN X1.here hx rfl (hb hby d20_4) rfl ?_
    show Steps p.tables e below (T1.setTop (mkF m 5 #[.val (.ref xs), .val (.ref vb), .val (.int (Int32.ofNat ys.length)), .val (.int (0 : Int32))] [(.int (0 : Int32)), (.int (0 : Int32))])) _
    refine XS.icmpNo X1.here hx rfl (hb hby d20_5) rfl (teq (rfl : (0 : Int32) = (0 : Int32))).2 ?_
    show Steps p.tables e below (T1.setTop (mkF m 8 #[.val (.ref xs), .val (.ref vb), .val (.int (Int32.ofNat ys.length)), .val (.int (0 : Int32))] [])) _
    refine XS.aloadN X1.here hx rfl (hb hby d20_8) rfl rfl ?_
    show Steps p.tables e below (T1.setTop (mkF m 9 #[.val (.ref xs), .val (.ref vb), .val (.int (Int32.ofNat ys.length)), .val (.int (0 : Int32))] [(.ref xs)])) _
    refine st2 _ ?_
    show Steps p.tables e below (T2.setTop (mkF m 12 #[.val (.ref xs), .val (.ref vb), .val (.int (Int32.ofNat ys.length)), .val (.int (0 : Int32))] [(.ref tt)])) _
    refine XS.iconst X2.here hx rfl (hb hby d20_12) ?_
    show Steps p.tables e below (T2.setTop (mkF m 13 #[.val (.ref xs), .val (.ref vb), .val (.int (Int32.ofNat ys.length)), .val (.int (0 : Int32))] [(.int (0 : Int32)), (.ref tt)])) _
    refine XS.aloadN X2.here hx rfl (hb hby d20_13) rfl rfl ?_
    show Steps p.tables e below (T2.setTop (mkF m 14 #[.val (.ref xs), .val (.ref vb), .val (.int (Int32.ofNat ys.length)), .val (.int (0 : Int32))] [(.ref vb), (.int (0 : Int32)), (.ref tt)])) _
    refine XS.iloadN X2.here hx rfl (hb hby d20_14) rfl ?_
    show Steps p.tables e below (T2.setTop (mkF m 15 #[.val (.ref xs), .val (.ref vb), .val (.int (Int32.ofNat ys.length)), .val (.int (0 : Int32))] [(.int (Int32.ofNat ys.length)), (.ref vb), (.int (0 : Int32)), (.ref tt)])) _
    refine XS.iloadN X2.here hx rfl (hb hby d20_15) rfl ?_
    show Steps p.tables e below (T2.setTop (mkF m 16 #[.val (.ref xs), .val (.ref vb), .val (.int (Int32.ofNat ys.length)), .val (.int (0 : Int32))] [(.int (0 : Int32)), (.int (Int32.ofNat ys.length)), (.ref vb), (.int (0 : Int32)), (.ref tt)])) _
    refine XS.ishl X2.here hx rfl (hb hby d20_16) rfl ?_
    show Steps p.tables e below (T2.setTop (mkF m 17 #[.val (.ref xs), .val (.ref vb), .val (.int (Int32.ofNat ys.length)), .val (.int (0 : Int32))] [(.int ((Int32.ofNat ys.length) <<< ((0 : Int32) &&& 31))), (.ref vb), (.int (0 : Int32)), (.ref tt)])) _
    refine XS.aloadN X2.here hx rfl (hb hby d20_17) rfl rfl ?_
    show Steps p.tables e below (T2.setTop (mkF m 18 #[.val (.ref xs), .val (.ref vb), .val (.int (Int32.ofNat ys.length)), .val (.int (0 : Int32))] [(.ref xs), (.int ((Int32.ofNat ys.length) <<< ((0 : Int32) &&& 31))), (.ref vb), (.int (0 : Int32)), (.ref tt)])) _
    refine st3 _ ?_
    show Steps p.tables e below (T3.setTop (mkF m 21 #[.val (.ref xs), .val (.ref vb), .val (.int (Int32.ofNat ys.length)), .val (.int (0 : Int32))] [(.ref tt), (.int ((Int32.ofNat ys.length) <<< ((0 : Int32) &&& 31))), (.ref vb), (.int (0 : Int32)), (.ref tt)])) _
    refine X3.arraylength hx (by rw [e3]; exact Ar.1) (State.isArrayOf_alike hZ.alike Ar.2.1) (g := (mkF m 21 #[.val (.ref xs), .val (.ref vb), .val (.int (Int32.ofNat ys.length)), .val (.int (0 : Int32))] [(.ref tt), (.int ((Int32.ofNat ys.length) <<< ((0 : Int32) &&& 31))), (.ref vb), (.int (0 : Int32)), (.ref tt)])) rfl rfl (hb hby d20_21) _ ?_
    rw [len_of Sz Mz]
    show Steps p.tables e below (T3.setTop (mkF m 22 #[.val (.ref xs), .val (.ref vb), .val (.int (Int32.ofNat ys.length)), .val (.int (0 : Int32))] [(.int (Int32.ofNat cs.length)), (.int ((Int32.ofNat ys.length) <<< ((0 : Int32) &&& 31))), (.ref vb), (.int (0 : Int32)), (.ref tt)])) _
    refine st4 _ ?_
    show Steps p.tables e below (T4.setTop (mkF m 25 #[.val (.ref xs), .val (.ref vb), .val (.int (Int32.ofNat ys.length)), .val (.int (0 : Int32))] [])) _
    refine XS.goto X4.here hx rfl (pc0 := 25) (pc' := 43) rfl (hb hby d20_25) (by decide) (by decide) ?_
    show Steps p.tables e below (T4.setTop (mkF m 43 #[.val (.ref xs), .val (.ref vb), .val (.int (Int32.ofNat ys.length)), .val (.int (0 : Int32))] [])) _
    exact X4.returnOut hx Bd.returns (hb hby d20_43) hr
  · show Qd4 Z sb vb xs tt kv kb ys cs z h0 n0 _ T4.heap _
    rw [e4]
    exact ⟨rfl, N4, K4, VF⟩
theorem d18_0 : decode jdk_68_method_73_code 0 = .ok (.aload_n 0, 1) := by decide +kernel
theorem d18_1 : decode jdk_68_method_73_code 1 = .ok (.aload_n 2, 1) := by decide +kernel
theorem d18_2 : decode jdk_68_method_73_code 2 = .ok (.invokevirtual 397, 3) := by decide +kernel
theorem own_pd2 : parseMethodDescriptor "(Ljava/lang/String;)V" = some ⟨[(.object "java/lang/String")], none⟩ := by decide +kernel
theorem d18_5 : decode jdk_68_method_73_code 5 = .ok (.aload_n 2, 1) := by decide +kernel
theorem d18_6 : decode jdk_68_method_73_code 6 = .ok (.aload_n 0, 1) := by decide +kernel
theorem d18_7 : decode jdk_68_method_73_code 7 = .ok (.getfield 15, 3) := by decide +kernel
theorem d18_10 : decode jdk_68_method_73_code 10 = .ok (.iload_n 1, 1) := by decide +kernel
theorem d18_11 : decode jdk_68_method_73_code 11 = .ok (.aload_n 0, 1) := by decide +kernel
theorem d18_12 : decode jdk_68_method_73_code 12 = .ok (.getfield 22, 3) := by decide +kernel
theorem d18_15 : decode jdk_68_method_73_code 15 = .ok (.invokevirtual 399, 3) := by decide +kernel
theorem own_pd3 : parseMethodDescriptor "([BIB)V" = some ⟨[(.array .byte), .int, .byte], none⟩ := by decide +kernel
theorem d18_18 : decode jdk_68_method_73_code 18 = .ok (.return_, 1) := by decide +kernel
theorem ef_18 (m : MethodId) (x0 : Addr) (x1 : Int32) (x2 : Addr) : entryFrame m #[(.ref x0), (.int x1), (.ref x2)] 3 = mkF m 0 #[.val (.ref x0), .val (.int x1), .val (.ref x2)] [] := by first | (simp [entryFrame, mkF, argsToLocals, Value.category]; done) | rfl
theorem pn_18 : plainName "java/lang/AbstractStringBuilder" = true := by first | (simp [plainName, overriddenIn]; done) | decide +kernel
set_option maxRecDepth 65536 in
set_option maxHeartbeats 40000000 in
theorem rmPS (l : Launch) (Z : State) (a0 : Array Value) (hw : ∀ d ∈ tables_1, d.before a0 Z = true) (ws : List Jvm.Cond) (sb vb xs tt : Addr) (kv kb : ClassId) (ys cs : List Int32) (z : Int32) (h0 : Heap) (n0 : Nat) (O0 : Old Z n0 h0) (gs : n0 ≤ sb) (gv : n0 ≤ vb) (Eb : Exa Z h0 sb "java/lang/StringBuilder") (Vb : Fld Z h0 sb "java/lang/AbstractStringBuilder" "value" "[B" (.ref vb)) (Cb : Fld Z h0 sb "java/lang/AbstractStringBuilder" "coder" "B" (.int (0 : Int32))) (Nb : Fld Z h0 sb "java/lang/AbstractStringBuilder" "count" "I" (.int (Int32.ofNat (ys).length))) (Kb : Arv Z h0 vb kv .byte (Int32.ofNat 16) (((ys).map StrChars.lo8).map Value.int) (.int 0)) (Ex : Exa Z h0 xs "java/lang/String") (Vx : Fld Z h0 xs "java/lang/String" "value" "[B" (.ref tt)) (Cx : Fld Z h0 xs "java/lang/String" "coder" "B" (.int 0)) (Kx : Arv Z h0 tt kb .byte (Int32.ofNat (cs).length) (((cs).map StrChars.lo8).map Value.int) (.int 0)) (SC : Sta Z Z.heap "java/lang/String" "COMPACT_STRINGS" "Z" (.int z)) (hz : ¬ z = 0) (hg : own_good cs) (hc : ys.length + cs.length ≤ 16) (hne : sb ≠ vb) (hnt : tt ≠ vb) :
    MetFree l (⟨"java/lang/AbstractStringBuilder", "putStringAt", "(ILjava/lang/String;)V"⟩ : MethodName) (head1 (Jvm.Cond.code (⟨"java/lang/AbstractStringBuilder", "putStringAt", "(ILjava/lang/String;)V"⟩ : MethodName) jdk_68_method_73_code 3 none :: ws) ({ frames := 2, cells := 0, slots := 0, locals := 33 } : Room)) (fun qq U => qq = #[(.ref sb), (.int (Int32.ofNat ys.length)), (.ref xs)] ∧ Z.Warmed39 U.vm ∧ U.heap = h0) (fun _ _ _ _ _ => True) (fun _ UU oo UU' => ∃ vv LL, oo = .returned vv ∧ Qd4 Z sb vb xs tt kv kb ys cs z h0 n0 vv UU'.heap LL ∧ FrameEnd UU oo UU' LL ({ frames := 2, cells := 0, slots := 0, locals := 33 } : Room).cells ({ frames := 2, cells := 0, slots := 0, locals := 33 } : Room).slots) := by
  refine MetFree.of_bodySF (plainFor_of_name pn_18) hisR ?_
  intro p e s m args below meth c s₁ Bd hml0 hP hK
  obtain ⟨rfl, hZ, hh⟩ := hP
  have hx := Bd.exec
  have hby := Bd.bytes
  have hml : c.maxLocals = 3 := hml0
  have hown : s.vm.findClass "java/lang/AbstractStringBuilder" = some m.cls := findClass_of_methodNamed Bd.named
  have hnm := (name_of_methodNamed Bd.named Bd.method).1
  have X0 : Stand p l e ({ frames := 2, cells := 0, slots := 0, locals := 33 } : Room) s m #[(.ref sb), (.int (Int32.ofNat ys.length)), (.ref xs)] below meth c s₁ [] 0 0 := Stand.of_body Bd
  have e0 : s₁.heap = h0 := by rw [← hh, Bd.state]; rfl
  have N0 := Fr.nil n0
  have pre0 : ∀ tgt, Steps p.tables e below (s₁.setTop (mkF m 0 #[.val (.ref sb), .val (.int (Int32.ofNat ys.length)), .val (.ref xs)] [])) tgt → Steps p.tables e below (s₁.setTop (entryFrame m #[(.ref sb), (.int (Int32.ofNat ys.length)), (.ref xs)] 3)) tgt := fun tt kk => castTop (ef_18 m sb (Int32.ofNat ys.length) xs) kk
  obtain ⟨cq1, kq1, q1a, q1b, q1c⟩ := isOf hZ e0 Eb
  obtain ⟨_, _, ⟨T1, L1, k1, n1⟩, -, X1, ⟨Lc1, hQ1, l1, y1, z1⟩, st1⟩ := X0.virtualBack hx (y := (⟨"java/lang/AbstractStringBuilder", "inflateIfNeededFor", "(Ljava/lang/String;)V"⟩ : MethodName)) (z := (⟨"java/lang/AbstractStringBuilder", "inflateIfNeededFor", "(Ljava/lang/String;)V"⟩ : MethodName)) hown (mvT hZ (ww hw 142 rfl)) (mvT hZ (own_decl (y := (⟨"java/lang/AbstractStringBuilder", "inflateIfNeededFor", "(Ljava/lang/String;)V"⟩ : MethodName)) (ww hw 143 rfl) (ww hw 146 rfl))) (notFace_of_selects (args := #[]) (mvT hZ (ww hw 145 rfl))) (mvT hZ (ww hw 145 rfl)) (mvT hZ (ww hw 143 rfl)) (by decide) (backOf (W := 0) (rmIn l Z a0 hw [] sb vb xs tt kv kb ys cs z h0 n0 O0 gs gv Eb Vb Cb Nb Kb Ex Vx Cx Kx SC hz hg hc hne hnt) hZ (ww hw 146 rfl) (ww hw 100 rfl) (by decide) (by decide)) q1a q1c (g := (mkF m 2 #[.val (.ref sb), .val (.int (Int32.ofNat ys.length)), .val (.ref xs)] [(.ref xs), (.ref sb)])) rfl (by rw [hml]; rfl) (Steps.refl _) (argsL := [(.ref xs)]) (rest := []) (lenOf own_pd2 rfl) rfl (by show 2 * 0 + _ ≤ _; exact Nat.le_of_eq rfl) (hb hby d18_2) (fun _ _ => ⟨rfl, e0, (by decide : 0 + 0 ≤ _), (by decide : 0 + 0 ≤ _)⟩)
  dsimp only [Pt.U, Pt.locs, Pt.cells, Pt.slots] at X1 l1 y1 z1 st1 hQ1
  subst l1 y1 z1
  obtain ⟨rfl, N1q, e1⟩ := hQ1
  have N1 := Fr.app N0 N1q
  obtain ⟨T2, X2, e2, st2⟩ := getF X1 hx hZ hown (host := "") (Or.inl (ww hw 104 rfl)) Via.refl e1 Vb (g := (mkF m 7 #[.val (.ref sb), .val (.int (Int32.ofNat ys.length)), .val (.ref xs)] [(.ref sb), (.ref xs)])) rfl rfl (hb hby d18_7)
  obtain ⟨T3, X3, e3, st3⟩ := getF X2 hx hZ hown (host := "") (Or.inl (ww hw 106 rfl)) Via.refl e2 Cb (g := (mkF m 12 #[.val (.ref sb), .val (.int (Int32.ofNat ys.length)), .val (.ref xs)] [(.ref sb), (.int (Int32.ofNat ys.length)), (.ref vb), (.ref xs)])) rfl rfl (hb hby d18_12)
  obtain ⟨cq4, kq4, q4a, q4b, q4c⟩ := isOf hZ e3 Ex
  obtain ⟨_, _, ⟨T4, L4, k4, n4⟩, -, X4, ⟨Lc4, hQ4, l4, y4, z4⟩, st4⟩ := X3.virtualBack hx (y := (⟨"java/lang/String", "getBytes", "([BIB)V"⟩ : MethodName)) (z := (⟨"java/lang/String", "getBytes", "([BIB)V"⟩ : MethodName)) hown (mvT hZ (ww hw 148 rfl)) (mvT hZ (ww hw 149 rfl)) (notFace_of_selects (args := #[]) (mvT hZ (ww hw 151 rfl))) (mvT hZ (ww hw 151 rfl)) (mvT hZ (ww hw 150 rfl)) (by decide) (backOf (W := 0) (rmGB l Z a0 hw [] sb vb xs tt kv kb ys cs z h0 n0 O0 gs gv Eb Vb Cb Nb Kb Ex Vx Cx Kx SC hz hg hc hne hnt) hZ (ww hw 152 rfl) (ww hw 9 rfl) (by decide) (by decide)) q4a q4c (g := (mkF m 15 #[.val (.ref sb), .val (.int (Int32.ofNat ys.length)), .val (.ref xs)] [(.int (0 : Int32)), (.int (Int32.ofNat ys.length)), (.ref vb), (.ref xs)])) rfl (by rw [hml]; rfl) (Steps.refl _) (argsL := [(.ref vb), (.int (Int32.ofNat ys.length)), (.int (0 : Int32))]) (rest := []) (lenOf own_pd3 rfl) rfl (by show 2 * 0 + _ ≤ _; exact Nat.le_of_eq rfl) (hb hby d18_15) (fun _ _ => ⟨rfl, e3, (by decide : 0 + 0 ≤ _), (by decide : 0 + 0 ≤ _)⟩)
  dsimp only [Pt.U, Pt.locs, Pt.cells, Pt.slots] at X4 l4 y4 z4 st4 hQ4
  subst l4 y4 z4
  obtain ⟨rfl, N4q, KK4, f4_0⟩ := hQ4
  have N4 := Fr.app N1 N4q
  have O4 := Old.keep O0 KK4 (allS gv all0)
  have K4 := Keep.trans (Keep.refl h0 [vb]) KK4 (allS (Or.inl (List.mem_of_getElem? (i := 0) rfl)) all0)
  obtain ⟨fs, hr, hrun, hended, hW, hsame⟩ := X4.leave (v := none) (fun _ => rfl)
  refine ⟨_, _, pre0 _ ?_, hrun, hended, _, _, rfl, ?_, ⟨_, rfl⟩, hW, hsame.mono (by decide) (by decide)⟩
  · show Steps p.tables e below (s₁.setTop (mkF m 0 #[.val (.ref sb), .val (.int (Int32.ofNat ys.length)), .val (.ref xs)] [])) _
    refine XS.aloadN X0.here hx rfl (hb hby d18_0) rfl rfl ?_
    show Steps p.tables e below (s₁.setTop (mkF m 1 #[.val (.ref sb), .val (.int (Int32.ofNat ys.length)), .val (.ref xs)] [(.ref sb)])) _
    refine XS.aloadN X0.here hx rfl (hb hby d18_1) rfl rfl ?_
    show Steps p.tables e below (s₁.setTop (mkF m 2 #[.val (.ref sb), .val (.int (Int32.ofNat ys.length)), .val (.ref xs)] [(.ref xs), (.ref sb)])) _
    refine st1.trans ?_
    show Steps p.tables e below (T1.setTop (mkF m 5 #[.val (.ref sb), .val (.int (Int32.ofNat ys.length)), .val (.ref xs)] [])) _
    refine XS.aloadN X1.here hx rfl (hb hby d18_5) rfl rfl ?_
    show Steps p.tables e below (T1.setTop (mkF m 6 #[.val (.ref sb), .val (.int (Int32.ofNat ys.length)), .val (.ref xs)] [(.ref xs)])) _
    refine XS.aloadN X1.here hx rfl (hb hby d18_6) rfl rfl ?_
    show Steps p.tables e below (T1.setTop (mkF m 7 #[.val (.ref sb), .val (.int (Int32.ofNat ys.length)), .val (.ref xs)] [(.ref sb), (.ref xs)])) _
    refine st2 _ ?_
    show Steps p.tables e below (T2.setTop (mkF m 10 #[.val (.ref sb), .val (.int (Int32.ofNat ys.length)), .val (.ref xs)] [(.ref vb), (.ref xs)])) _
    refine XS.iloadN X2.here hx rfl (hb hby d18_10) rfl ?_
    show Steps p.tables e below (T2.setTop (mkF m 11 #[.val (.ref sb), .val (.int (Int32.ofNat ys.length)), .val (.ref xs)] [(.int (Int32.ofNat ys.length)), (.ref vb), (.ref xs)])) _
    refine XS.aloadN X2.here hx rfl (hb hby d18_11) rfl rfl ?_
    show Steps p.tables e below (T2.setTop (mkF m 12 #[.val (.ref sb), .val (.int (Int32.ofNat ys.length)), .val (.ref xs)] [(.ref sb), (.int (Int32.ofNat ys.length)), (.ref vb), (.ref xs)])) _
    refine st3 _ ?_
    show Steps p.tables e below (T3.setTop (mkF m 15 #[.val (.ref sb), .val (.int (Int32.ofNat ys.length)), .val (.ref xs)] [(.int (0 : Int32)), (.int (Int32.ofNat ys.length)), (.ref vb), (.ref xs)])) _
    refine st4.trans ?_
    show Steps p.tables e below (T4.setTop (mkF m 18 #[.val (.ref sb), .val (.int (Int32.ofNat ys.length)), .val (.ref xs)] [])) _
    exact X4.returnOut hx Bd.returns (hb hby d18_18) hr
  · show Qd4 Z sb vb xs tt kv kb ys cs z h0 n0 _ T4.heap _
    exact ⟨rfl, N4, K4, f4_0⟩
theorem d14_0 : decode jdk_68_method_22_code 0 = .ok (.aload_n 1, 1) := by decide +kernel
theorem d14_1 : decode jdk_68_method_22_code 1 = .ok (.ifnonnull 8, 3) := by decide +kernel
theorem d14_9 : decode jdk_68_method_22_code 9 = .ok (.aload_n 1, 1) := by decide +kernel
theorem d14_10 : decode jdk_68_method_22_code 10 = .ok (.invokevirtual 32, 3) := by decide +kernel
theorem own_pd4 : parseMethodDescriptor "()I" = some ⟨[], some .int⟩ := by decide +kernel
theorem d14_13 : decode jdk_68_method_22_code 13 = .ok (.istore_n 2, 1) := by decide +kernel
theorem d14_14 : decode jdk_68_method_22_code 14 = .ok (.aload_n 0, 1) := by decide +kernel
theorem d14_15 : decode jdk_68_method_22_code 15 = .ok (.aload_n 0, 1) := by decide +kernel
theorem d14_16 : decode jdk_68_method_22_code 16 = .ok (.getfield 79, 3) := by decide +kernel
theorem d14_19 : decode jdk_68_method_22_code 19 = .ok (.iload_n 2, 1) := by decide +kernel
theorem d14_20 : decode jdk_68_method_22_code 20 = .ok (.iadd, 1) := by decide +kernel
theorem d14_21 : decode jdk_68_method_22_code 21 = .ok (.invokevirtual 100, 3) := by decide +kernel
theorem d14_24 : decode jdk_68_method_22_code 24 = .ok (.aload_n 0, 1) := by decide +kernel
theorem d14_25 : decode jdk_68_method_22_code 25 = .ok (.aload_n 0, 1) := by decide +kernel
theorem d14_26 : decode jdk_68_method_22_code 26 = .ok (.getfield 79, 3) := by decide +kernel
theorem d14_29 : decode jdk_68_method_22_code 29 = .ok (.aload_n 1, 1) := by decide +kernel
theorem d14_30 : decode jdk_68_method_22_code 30 = .ok (.invokevirtual 208, 3) := by decide +kernel
theorem own_pd5 : parseMethodDescriptor "(ILjava/lang/String;)V" = some ⟨[.int, (.object "java/lang/String")], none⟩ := by decide +kernel
theorem d14_33 : decode jdk_68_method_22_code 33 = .ok (.aload_n 0, 1) := by decide +kernel
theorem d14_34 : decode jdk_68_method_22_code 34 = .ok (.dup, 1) := by decide +kernel
theorem d14_35 : decode jdk_68_method_22_code 35 = .ok (.getfield 79, 3) := by decide +kernel
theorem d14_38 : decode jdk_68_method_22_code 38 = .ok (.iload_n 2, 1) := by decide +kernel
theorem d14_39 : decode jdk_68_method_22_code 39 = .ok (.iadd, 1) := by decide +kernel
theorem d14_40 : decode jdk_68_method_22_code 40 = .ok (.putfield 79, 3) := by decide +kernel
theorem d14_43 : decode jdk_68_method_22_code 43 = .ok (.aload_n 0, 1) := by decide +kernel
theorem d14_44 : decode jdk_68_method_22_code 44 = .ok (.areturn, 1) := by decide +kernel
theorem ef_14 (m : MethodId) (x0 : Addr) (x1 : Addr) : entryFrame m #[(.ref x0), (.ref x1)] 3 = mkF m 0 #[.val (.ref x0), .val (.ref x1), .unset] [] := by first | (simp [entryFrame, mkF, argsToLocals, Value.category]; done) | rfl
theorem pn_14 : plainName "java/lang/AbstractStringBuilder" = true := by first | (simp [plainName, overriddenIn]; done) | decide +kernel
def Qd5 (Z : State) (sb vb xs tt : Addr) (kv kb : ClassId) (ys cs : List Int32) (z : Int32) (h0 : Heap) (n0 : Nat) (v : Option Value) (h : Heap) (L : List Loc) : Prop := v = some (.ref sb) ∧ Fr n0 L ∧ Keep h0 h [sb, vb] ∧ Exa Z h sb "java/lang/StringBuilder" ∧ Fld Z h sb "java/lang/AbstractStringBuilder" "value" "[B" (.ref vb) ∧ Fld Z h sb "java/lang/AbstractStringBuilder" "coder" "B" (.int (0 : Int32)) ∧ Fld Z h sb "java/lang/AbstractStringBuilder" "count" "I" (.int (Int32.ofNat (ys ++ cs).length)) ∧ Arv Z h vb kv .byte (Int32.ofNat 16) (((ys ++ cs).map StrChars.lo8).map Value.int) (.int 0)
set_option maxRecDepth 65536 in
set_option maxHeartbeats 40000000 in
theorem rmAA (l : Launch) (Z : State) (a0 : Array Value) (hw : ∀ d ∈ tables_1, d.before a0 Z = true) (ws : List Jvm.Cond) (sb vb xs tt : Addr) (kv kb : ClassId) (ys cs : List Int32) (z : Int32) (h0 : Heap) (n0 : Nat) (O0 : Old Z n0 h0) (gs : n0 ≤ sb) (gv : n0 ≤ vb) (Eb : Exa Z h0 sb "java/lang/StringBuilder") (Vb : Fld Z h0 sb "java/lang/AbstractStringBuilder" "value" "[B" (.ref vb)) (Cb : Fld Z h0 sb "java/lang/AbstractStringBuilder" "coder" "B" (.int (0 : Int32))) (Nb : Fld Z h0 sb "java/lang/AbstractStringBuilder" "count" "I" (.int (Int32.ofNat (ys).length))) (Kb : Arv Z h0 vb kv .byte (Int32.ofNat 16) (((ys).map StrChars.lo8).map Value.int) (.int 0)) (Ex : Exa Z h0 xs "java/lang/String") (Vx : Fld Z h0 xs "java/lang/String" "value" "[B" (.ref tt)) (Cx : Fld Z h0 xs "java/lang/String" "coder" "B" (.int 0)) (Kx : Arv Z h0 tt kb .byte (Int32.ofNat (cs).length) (((cs).map StrChars.lo8).map Value.int) (.int 0)) (SC : Sta Z Z.heap "java/lang/String" "COMPACT_STRINGS" "Z" (.int z)) (hz : ¬ z = 0) (hg : own_good cs) (hc : ys.length + cs.length ≤ 16) (hne : sb ≠ vb) (hnt : tt ≠ vb) :
    MetFree l (⟨"java/lang/AbstractStringBuilder", "append", "(Ljava/lang/String;)Ljava/lang/AbstractStringBuilder;"⟩ : MethodName) (head1 (Jvm.Cond.code (⟨"java/lang/AbstractStringBuilder", "append", "(Ljava/lang/String;)Ljava/lang/AbstractStringBuilder;"⟩ : MethodName) jdk_68_method_22_code 3 (some (.object "java/lang/AbstractStringBuilder")) :: ws) ({ frames := 3, cells := 0, slots := 0, locals := 47 } : Room)) (fun qq U => qq = #[(.ref sb), (.ref xs)] ∧ Z.Warmed39 U.vm ∧ U.heap = h0) (fun _ _ _ _ _ => True) (fun _ UU oo UU' => ∃ vv LL, oo = .returned vv ∧ Qd5 Z sb vb xs tt kv kb ys cs z h0 n0 vv UU'.heap LL ∧ FrameEnd UU oo UU' LL ({ frames := 3, cells := 0, slots := 0, locals := 47 } : Room).cells ({ frames := 3, cells := 0, slots := 0, locals := 47 } : Room).slots) := by
  refine MetFree.of_bodySF (plainFor_of_name pn_14) hisR ?_
  intro p e s m args below meth c s₁ Bd hml0 hP hK
  obtain ⟨rfl, hZ, hh⟩ := hP
  have hx := Bd.exec
  have hby := Bd.bytes
  have hml : c.maxLocals = 3 := hml0
  have hown : s.vm.findClass "java/lang/AbstractStringBuilder" = some m.cls := findClass_of_methodNamed Bd.named
  have hnm := (name_of_methodNamed Bd.named Bd.method).1
  have X0 : Stand p l e ({ frames := 3, cells := 0, slots := 0, locals := 47 } : Room) s m #[(.ref sb), (.ref xs)] below meth c s₁ [] 0 0 := Stand.of_body Bd
  have e0 : s₁.heap = h0 := by rw [← hh, Bd.state]; rfl
  have N0 := Fr.nil n0
  have pre0 : ∀ tgt, Steps p.tables e below (s₁.setTop (mkF m 0 #[.val (.ref sb), .val (.ref xs), .unset] [])) tgt → Steps p.tables e below (s₁.setTop (entryFrame m #[(.ref sb), (.ref xs)] 3)) tgt := fun tt kk => castTop (ef_14 m sb xs) kk
  obtain ⟨cq1, kq1, q1a, q1b, q1c⟩ := isOf hZ e0 Ex
  obtain ⟨_, _, ⟨T1, L1, k1, n1⟩, -, X1, ⟨Lc1, hQ1, l1, y1, z1⟩, st1⟩ := X0.virtualBack hx (y := (⟨"java/lang/String", "length", "()I"⟩ : MethodName)) (z := (⟨"java/lang/String", "length", "()I"⟩ : MethodName)) hown (mvT hZ (ww hw 119 rfl)) (mvT hZ (ww hw 120 rfl)) (notFace_of_selects (args := #[]) (mvT hZ (ww hw 122 rfl))) (mvT hZ (ww hw 122 rfl)) (mvT hZ (ww hw 121 rfl)) (by decide) (own_bk (n0 := n0) (fun _ q => q) (StrChars.Road.lenW (W := 0) hZ (own_wL hw) (kI := 4) (ww hw 8 rfl) Ex Vx Cx Kx (own_cd hg) (own_hb hg) (Sta.ext O0.2 SC) hz (Nat.le_trans hg.1 (by decide)) (by decide) (by decide))) q1a q1c (g := (mkF m 10 #[.val (.ref sb), .val (.ref xs), .unset] [(.ref xs)])) rfl (by rw [hml]; rfl) (Steps.refl _) (argsL := []) (rest := []) (lenOf own_pd4 rfl) rfl (by show 2 * 0 + _ ≤ _; exact Nat.le_of_eq rfl) (hb hby d14_10) (fun _ _ => ⟨rfl, e0, (by decide : 0 + 0 ≤ _), (by decide : 0 + 0 ≤ _)⟩)
  dsimp only [Pt.U, Pt.locs, Pt.cells, Pt.slots] at X1 l1 y1 z1 st1 hQ1
  subst l1 y1 z1
  obtain ⟨rfl, N1q, e1⟩ := hQ1
  have N1 := Fr.app N0 N1q
  obtain ⟨T2, X2, e2, st2⟩ := getF X1 hx hZ hown (host := "") (Or.inl (ww hw 130 rfl)) Via.refl e1 Nb (g := (mkF m 16 #[.val (.ref sb), .val (.ref xs), .val (.int (Int32.ofNat cs.length))] [(.ref sb), (.ref sb)])) rfl rfl (hb hby d14_16)
  obtain ⟨cq3, kq3, q3a, q3b, q3c⟩ := isOf hZ e2 Eb
  obtain ⟨_, _, ⟨T3, L3, k3, n3⟩, -, X3, ⟨Lc3, hQ3, l3, y3, z3⟩, st3⟩ := X2.virtualBack hx (y := (⟨"java/lang/AbstractStringBuilder", "ensureCapacityInternal", "(I)V"⟩ : MethodName)) (z := (⟨"java/lang/AbstractStringBuilder", "ensureCapacityInternal", "(I)V"⟩ : MethodName)) hown (mvT hZ (ww hw 132 rfl)) (mvT hZ (own_decl (y := (⟨"java/lang/AbstractStringBuilder", "ensureCapacityInternal", "(I)V"⟩ : MethodName)) (ww hw 133 rfl) (ww hw 136 rfl))) (notFace_of_selects (args := #[]) (mvT hZ (ww hw 135 rfl))) (mvT hZ (ww hw 135 rfl)) (mvT hZ (ww hw 133 rfl)) (by decide) (backOf (W := 0) (rmEC l Z a0 hw [] sb vb kv ys cs h0 n0 Eb Vb Cb Nb Kb hc) hZ (ww hw 136 rfl) (ww hw 100 rfl) (by decide) (by decide)) q3a q3c (g := (mkF m 21 #[.val (.ref sb), .val (.ref xs), .val (.int (Int32.ofNat cs.length))] [(.int ((Int32.ofNat (ys).length) + (Int32.ofNat cs.length))), (.ref sb)])) rfl (by rw [hml]; rfl) (Steps.refl _) (argsL := [(.int ((Int32.ofNat (ys).length) + (Int32.ofNat cs.length)))]) (rest := []) (lenOf own_pd0 rfl) rfl (by show 2 * 0 + _ ≤ _; exact Nat.le_of_eq rfl) (hb hby d14_21) (fun _ _ => ⟨rfl, e2, (by decide : 0 + 0 ≤ _), (by decide : 0 + 0 ≤ _)⟩)
  dsimp only [Pt.U, Pt.locs, Pt.cells, Pt.slots] at X3 l3 y3 z3 st3 hQ3
  subst l3 y3 z3
  obtain ⟨rfl, N3q, e3⟩ := hQ3
  have N3 := Fr.app N1 N3q
  obtain ⟨T4, X4, e4, st4⟩ := getF X3 hx hZ hown (host := "") (Or.inl (ww hw 130 rfl)) Via.refl e3 Nb (g := (mkF m 26 #[.val (.ref sb), .val (.ref xs), .val (.int (Int32.ofNat cs.length))] [(.ref sb), (.ref sb)])) rfl rfl (hb hby d14_26)
  obtain ⟨cq5, kq5, q5a, q5b, q5c⟩ := isOf hZ e4 Eb
  obtain ⟨_, _, ⟨T5, L5, k5, n5⟩, -, X5, ⟨Lc5, hQ5, l5, y5, z5⟩, st5⟩ := X4.virtualBack hx (y := (⟨"java/lang/AbstractStringBuilder", "putStringAt", "(ILjava/lang/String;)V"⟩ : MethodName)) (z := (⟨"java/lang/AbstractStringBuilder", "putStringAt", "(ILjava/lang/String;)V"⟩ : MethodName)) hown (mvT hZ (ww hw 137 rfl)) (mvT hZ (own_decl (y := (⟨"java/lang/AbstractStringBuilder", "putStringAt", "(ILjava/lang/String;)V"⟩ : MethodName)) (ww hw 138 rfl) (ww hw 141 rfl))) (notFace_of_selects (args := #[]) (mvT hZ (ww hw 140 rfl))) (mvT hZ (ww hw 140 rfl)) (mvT hZ (ww hw 138 rfl)) (by decide) (backOf (W := 0) (rmPS l Z a0 hw [] sb vb xs tt kv kb ys cs z h0 n0 O0 gs gv Eb Vb Cb Nb Kb Ex Vx Cx Kx SC hz hg hc hne hnt) hZ (ww hw 141 rfl) (ww hw 100 rfl) (by decide) (by decide)) q5a q5c (g := (mkF m 30 #[.val (.ref sb), .val (.ref xs), .val (.int (Int32.ofNat cs.length))] [(.ref xs), (.int (Int32.ofNat (ys).length)), (.ref sb)])) rfl (by rw [hml]; rfl) (Steps.refl _) (argsL := [(.int (Int32.ofNat (ys).length)), (.ref xs)]) (rest := []) (lenOf own_pd5 rfl) rfl (by show 2 * 0 + _ ≤ _; exact Nat.le_of_eq rfl) (hb hby d14_30) (fun _ _ => ⟨rfl, e4, (by decide : 0 + 0 ≤ _), (by decide : 0 + 0 ≤ _)⟩)
  dsimp only [Pt.U, Pt.locs, Pt.cells, Pt.slots] at X5 l5 y5 z5 st5 hQ5
  subst l5 y5 z5
  obtain ⟨rfl, N5q, KK5, f5_0⟩ := hQ5
  have N5 := Fr.app N3 N5q
  have O5 := Old.keep O0 KK5 (allS gv all0)
  have K5 := Keep.trans (Keep.refl h0 [sb, vb]) KK5 (allS (Or.inl (List.mem_of_getElem? (i := 1) rfl)) all0)
  obtain ⟨T6, X6, e6, st6⟩ := getF X5 hx hZ hown (host := "") (Or.inl (ww hw 130 rfl)) Via.refl rfl (Nb.keep KK5 (ninS hne nin0)) (g := (mkF m 35 #[.val (.ref sb), .val (.ref xs), .val (.int (Int32.ofNat cs.length))] [(.ref sb), (.ref sb)])) rfl rfl (hb hby d14_35)
  obtain ⟨T7, h7, X7, e7, W7, st7⟩ := putF X6 hx hZ hown (host := "") (Or.inl (ww hw 130 rfl)) Via.refl e6 (Nb.keep KK5 (ninS hne nin0)) (Eb.keep KK5) (Or.inl (ww hw 131 rfl)) (ww hw 91 rfl) (ty := .int) (by decide) rfl rfl (g := (mkF m 40 #[.val (.ref sb), .val (.ref xs), .val (.int (Int32.ofNat cs.length))] [(.int ((Int32.ofNat (ys).length) + (Int32.ofNat cs.length))), (.ref sb)])) rfl rfl (hb hby d14_40)
  have Fw7 := Fld.same W7 (Nb.keep KK5 (ninS hne nin0))
  have N7 := Fr.snoc X7 N5 gs
  have O7 := Old.wr O5 W7 gs
  have K7 := Keep.wr K5 W7 (Or.inl (List.mem_of_getElem? (i := 0) rfl))
  have c8 := (Fld.other W7 (Vb.keep KK5 (ninS hne nin0)) (Or.inr (slot_ne (a0 := a0) (Or.inl (ww hw 105 rfl)) (Or.inl (ww hw 131 rfl)) (by decide) (t := (.array .byte)) (t' := .int) (by decide) (by decide))))
  have c9 := (Fld.other W7 (Cb.keep KK5 (ninS hne nin0)) (Or.inr (slot_ne (a0 := a0) (Or.inl (ww hw 107 rfl)) (Or.inl (ww hw 131 rfl)) (by decide) (t := .byte) (t' := .int) (by decide) (by decide))))
  obtain ⟨fs, hr, hrun, hended, hW, hsame⟩ := X7.leave (v := some (.ref sb)) (fun h => by rw [Bd.returns] at h; cases h)
  refine ⟨_, _, pre0 _ ?_, hrun, hended, _, _, rfl, ?_, ⟨_, rfl⟩, hW, hsame.mono (by decide) (by decide)⟩
  · show Steps p.tables e below (s₁.setTop (mkF m 0 #[.val (.ref sb), .val (.ref xs), .unset] [])) _
    refine XS.aloadN X0.here hx rfl (hb hby d14_0) rfl rfl ?_
    show Steps p.tables e below (s₁.setTop (mkF m 1 #[.val (.ref sb), .val (.ref xs), .unset] [(.ref xs)])) _
    refine XS.ifnonnullYes X0.here hx rfl (pc0 := 1) (pc' := 9) rfl (hb hby d14_1) rfl (by decide) (by decide) ?_
    show Steps p.tables e below (s₁.setTop (mkF m 9 #[.val (.ref sb), .val (.ref xs), .unset] [])) _
    refine XS.aloadN X0.here hx rfl (hb hby d14_9) rfl rfl ?_
    show Steps p.tables e below (s₁.setTop (mkF m 10 #[.val (.ref sb), .val (.ref xs), .unset] [(.ref xs)])) _
    refine st1.trans ?_
    show Steps p.tables e below (T1.setTop (mkF m 13 #[.val (.ref sb), .val (.ref xs), .unset] [(.int (Int32.ofNat cs.length))])) _
    refine XS.istoreN X1.here hx rfl (hb hby d14_13) rfl (l' := #[.val (.ref sb), .val (.ref xs), .val (.int (Int32.ofNat cs.length))]) rfl ?_
    show Steps p.tables e below (T1.setTop (mkF m 14 #[.val (.ref sb), .val (.ref xs), .val (.int (Int32.ofNat cs.length))] [])) _
    refine XS.aloadN X1.here hx rfl (hb hby d14_14) rfl rfl ?_
    show Steps p.tables e below (T1.setTop (mkF m 15 #[.val (.ref sb), .val (.ref xs), .val (.int (Int32.ofNat cs.length))] [(.ref sb)])) _
    refine XS.aloadN X1.here hx rfl (hb hby d14_15) rfl rfl ?_
    show Steps p.tables e below (T1.setTop (mkF m 16 #[.val (.ref sb), .val (.ref xs), .val (.int (Int32.ofNat cs.length))] [(.ref sb), (.ref sb)])) _
    refine st2 _ ?_
    show Steps p.tables e below (T2.setTop (mkF m 19 #[.val (.ref sb), .val (.ref xs), .val (.int (Int32.ofNat cs.length))] [(.int (Int32.ofNat (ys).length)), (.ref sb)])) _
    refine XS.iloadN X2.here hx rfl (hb hby d14_19) rfl ?_
    show Steps p.tables e below (T2.setTop (mkF m 20 #[.val (.ref sb), .val (.ref xs), .val (.int (Int32.ofNat cs.length))] [(.int (Int32.ofNat cs.length)), (.int (Int32.ofNat (ys).length)), (.ref sb)])) _
    refine XS.iadd X2.here hx rfl (hb hby d14_20) rfl ?_
    show Steps p.tables e below (T2.setTop (mkF m 21 #[.val (.ref sb), .val (.ref xs), .val (.int (Int32.ofNat cs.length))] [(.int ((Int32.ofNat (ys).length) + (Int32.ofNat cs.length))), (.ref sb)])) _
    refine st3.trans ?_
    show Steps p.tables e below (T3.setTop (mkF m 24 #[.val (.ref sb), .val (.ref xs), .val (.int (Int32.ofNat cs.length))] [])) _
    refine XS.aloadN X3.here hx rfl (hb hby d14_24) rfl rfl ?_
    show Steps p.tables e below (T3.setTop (mkF m 25 #[.val (.ref sb), .val (.ref xs), .val (.int (Int32.ofNat cs.length))] [(.ref sb)])) _
    refine XS.aloadN X3.here hx rfl (hb hby d14_25) rfl rfl ?_
    show Steps p.tables e below (T3.setTop (mkF m 26 #[.val (.ref sb), .val (.ref xs), .val (.int (Int32.ofNat cs.length))] [(.ref sb), (.ref sb)])) _
    refine st4 _ ?_
    show Steps p.tables e below (T4.setTop (mkF m 29 #[.val (.ref sb), .val (.ref xs), .val (.int (Int32.ofNat cs.length))] [(.int (Int32.ofNat (ys).length)), (.ref sb)])) _
    refine XS.aloadN X4.here hx rfl (hb hby d14_29) rfl rfl ?_
    show Steps p.tables e below (T4.setTop (mkF m 30 #[.val (.ref sb), .val (.ref xs), .val (.int (Int32.ofNat cs.length))] [(.ref xs), (.int (Int32.ofNat (ys).length)), (.ref sb)])) _
    refine st5.trans ?_
    show Steps p.tables e below (T5.setTop (mkF m 33 #[.val (.ref sb), .val (.ref xs), .val (.int (Int32.ofNat cs.length))] [])) _
    refine XS.aloadN X5.here hx rfl (hb hby d14_33) rfl rfl ?_
    show Steps p.tables e below (T5.setTop (mkF m 34 #[.val (.ref sb), .val (.ref xs), .val (.int (Int32.ofNat cs.length))] [(.ref sb)])) _
    refine XS.dup X5.here hx rfl (hb hby d14_34) rfl rfl ?_
    show Steps p.tables e below (T5.setTop (mkF m 35 #[.val (.ref sb), .val (.ref xs), .val (.int (Int32.ofNat cs.length))] [(.ref sb), (.ref sb)])) _
    refine st6 _ ?_
    show Steps p.tables e below (T6.setTop (mkF m 38 #[.val (.ref sb), .val (.ref xs), .val (.int (Int32.ofNat cs.length))] [(.int (Int32.ofNat (ys).length)), (.ref sb)])) _
    refine XS.iloadN X6.here hx rfl (hb hby d14_38) rfl ?_
    show Steps p.tables e below (T6.setTop (mkF m 39 #[.val (.ref sb), .val (.ref xs), .val (.int (Int32.ofNat cs.length))] [(.int (Int32.ofNat cs.length)), (.int (Int32.ofNat (ys).length)), (.ref sb)])) _
    refine XS.iadd X6.here hx rfl (hb hby d14_39) rfl ?_
    show Steps p.tables e below (T6.setTop (mkF m 40 #[.val (.ref sb), .val (.ref xs), .val (.int (Int32.ofNat cs.length))] [(.int ((Int32.ofNat (ys).length) + (Int32.ofNat cs.length))), (.ref sb)])) _
    refine st7 _ ?_
    show Steps p.tables e below (T7.setTop (mkF m 43 #[.val (.ref sb), .val (.ref xs), .val (.int (Int32.ofNat cs.length))] [])) _
    refine XS.aloadN X7.here hx rfl (hb hby d14_43) rfl rfl ?_
    show Steps p.tables e below (T7.setTop (mkF m 44 #[.val (.ref sb), .val (.ref xs), .val (.int (Int32.ofNat cs.length))] [(.ref sb)])) _
    exact retOut X7 hx Bd.returns rfl (Or.inr (Or.inr (Or.inr (Or.inr ⟨rfl, rfl, rfl⟩)))) (hb hby d14_44) hr
  · show Qd5 Z sb vb xs tt kv kb ys cs z h0 n0 _ T7.heap _
    rw [e7]
    exact ⟨rfl, N7, K7, (Exa.wr W7 (Eb.keep KK5)), c8, c9, by rw [← own_cnt]; exact Fw7, (f5_0.other W7 (Ne.symm hne))⟩
theorem d13_0 : decode jdk_67_method_7_code 0 = .ok (.aload_n 0, 1) := by decide +kernel
theorem d13_1 : decode jdk_67_method_7_code 1 = .ok (.aload_n 1, 1) := by decide +kernel
theorem d13_2 : decode jdk_67_method_7_code 2 = .ok (.invokespecial 29, 3) := by decide +kernel
theorem own_pd6 : parseMethodDescriptor "(Ljava/lang/String;)Ljava/lang/AbstractStringBuilder;" = some ⟨[(.object "java/lang/String")], some (.object "java/lang/AbstractStringBuilder")⟩ := by decide +kernel
theorem d13_5 : decode jdk_67_method_7_code 5 = .ok (.pop, 1) := by decide +kernel
theorem d13_6 : decode jdk_67_method_7_code 6 = .ok (.aload_n 0, 1) := by decide +kernel
theorem d13_7 : decode jdk_67_method_7_code 7 = .ok (.areturn, 1) := by decide +kernel
theorem ef_13 (m : MethodId) (x0 : Addr) (x1 : Addr) : entryFrame m #[(.ref x0), (.ref x1)] 2 = mkF m 0 #[.val (.ref x0), .val (.ref x1)] [] := by first | (simp [entryFrame, mkF, argsToLocals, Value.category]; done) | rfl
theorem pn_13 : plainName "java/lang/StringBuilder" = true := by first | (simp [plainName, overriddenIn]; done) | decide +kernel
set_option maxRecDepth 65536 in
set_option maxHeartbeats 40000000 in
theorem rmBA (l : Launch) (Z : State) (a0 : Array Value) (hw : ∀ d ∈ tables_1, d.before a0 Z = true) (ws : List Jvm.Cond) (sb vb xs tt : Addr) (kv kb : ClassId) (ys cs : List Int32) (z : Int32) (h0 : Heap) (n0 : Nat) (O0 : Old Z n0 h0) (gs : n0 ≤ sb) (gv : n0 ≤ vb) (Eb : Exa Z h0 sb "java/lang/StringBuilder") (Vb : Fld Z h0 sb "java/lang/AbstractStringBuilder" "value" "[B" (.ref vb)) (Cb : Fld Z h0 sb "java/lang/AbstractStringBuilder" "coder" "B" (.int (0 : Int32))) (Nb : Fld Z h0 sb "java/lang/AbstractStringBuilder" "count" "I" (.int (Int32.ofNat (ys).length))) (Kb : Arv Z h0 vb kv .byte (Int32.ofNat 16) (((ys).map StrChars.lo8).map Value.int) (.int 0)) (Ex : Exa Z h0 xs "java/lang/String") (Vx : Fld Z h0 xs "java/lang/String" "value" "[B" (.ref tt)) (Cx : Fld Z h0 xs "java/lang/String" "coder" "B" (.int 0)) (Kx : Arv Z h0 tt kb .byte (Int32.ofNat (cs).length) (((cs).map StrChars.lo8).map Value.int) (.int 0)) (SC : Sta Z Z.heap "java/lang/String" "COMPACT_STRINGS" "Z" (.int z)) (hz : ¬ z = 0) (hg : own_good cs) (hc : ys.length + cs.length ≤ 16) (hne : sb ≠ vb) (hnt : tt ≠ vb) :
    MetFree l (⟨"java/lang/StringBuilder", "append", "(Ljava/lang/String;)Ljava/lang/StringBuilder;"⟩ : MethodName) (head1 (Jvm.Cond.code (⟨"java/lang/StringBuilder", "append", "(Ljava/lang/String;)Ljava/lang/StringBuilder;"⟩ : MethodName) jdk_67_method_7_code 2 (some (.object "java/lang/StringBuilder")) :: ws) ({ frames := 4, cells := 0, slots := 0, locals := 61 } : Room)) (fun qq U => qq = #[(.ref sb), (.ref xs)] ∧ Z.Warmed39 U.vm ∧ U.heap = h0) (fun _ _ _ _ _ => True) (fun _ UU oo UU' => ∃ vv LL, oo = .returned vv ∧ Qd5 Z sb vb xs tt kv kb ys cs z h0 n0 vv UU'.heap LL ∧ FrameEnd UU oo UU' LL ({ frames := 4, cells := 0, slots := 0, locals := 61 } : Room).cells ({ frames := 4, cells := 0, slots := 0, locals := 61 } : Room).slots) := by
  refine MetFree.of_bodySF (plainFor_of_name pn_13) hisR ?_
  intro p e s m args below meth c s₁ Bd hml0 hP hK
  obtain ⟨rfl, hZ, hh⟩ := hP
  have hx := Bd.exec
  have hby := Bd.bytes
  have hml : c.maxLocals = 2 := hml0
  have hown : s.vm.findClass "java/lang/StringBuilder" = some m.cls := findClass_of_methodNamed Bd.named
  have hnm := (name_of_methodNamed Bd.named Bd.method).1
  have X0 : Stand p l e ({ frames := 4, cells := 0, slots := 0, locals := 61 } : Room) s m #[(.ref sb), (.ref xs)] below meth c s₁ [] 0 0 := Stand.of_body Bd
  have e0 : s₁.heap = h0 := by rw [← hh, Bd.state]; rfl
  have N0 := Fr.nil n0
  have pre0 : ∀ tgt, Steps p.tables e below (s₁.setTop (mkF m 0 #[.val (.ref sb), .val (.ref xs)] [])) tgt → Steps p.tables e below (s₁.setTop (entryFrame m #[(.ref sb), (.ref xs)] 2)) tgt := fun tt kk => castTop (ef_13 m sb xs) kk
  obtain ⟨_, _, ⟨T1, L1, k1, n1⟩, -, X1, ⟨Lc1, hQ1, l1, y1, z1⟩, st1⟩ := superBack X0 hx hZ (y := (⟨"java/lang/AbstractStringBuilder", "append", "(Ljava/lang/String;)Ljava/lang/AbstractStringBuilder;"⟩ : MethodName)) hown (ww hw 114 rfl) (own_sameM (y := (⟨"java/lang/AbstractStringBuilder", "append", "(Ljava/lang/String;)Ljava/lang/AbstractStringBuilder;"⟩ : MethodName)) (ww hw 117 rfl) (own_nf2 (y1 := (⟨"java/lang/AbstractStringBuilder", "getValue", "()[B"⟩ : MethodName)) (notFace_of_selects (args := a0) (ww hw 184 rfl)) (ww hw 182 rfl) rfl) (by decide)) (ww hw 115 rfl) (ww hw 116 rfl) (by decide) (backOf (W := 0) (rmAA l Z a0 hw [] sb vb xs tt kv kb ys cs z h0 n0 O0 gs gv Eb Vb Cb Nb Kb Ex Vx Cx Kx SC hz hg hc hne hnt) hZ (ww hw 118 rfl) (ww hw 100 rfl) (by decide) (by decide)) e0 (Ins.self Eb) (g := (mkF m 2 #[.val (.ref sb), .val (.ref xs)] [(.ref xs), (.ref sb)])) rfl (by rw [hml]; rfl) (ww hw 118 rfl) (argsL := [(.ref xs)]) (rest := []) (lenOf own_pd6 rfl) rfl (by show 2 * 0 + _ ≤ _; exact Nat.le_of_eq rfl) (hb hby d13_2) (fun _ _ => ⟨rfl, e0, (by decide : 0 + 0 ≤ _), (by decide : 0 + 0 ≤ _)⟩)
  dsimp only [Pt.U, Pt.locs, Pt.cells, Pt.slots] at X1 l1 y1 z1 st1 hQ1
  subst l1 y1 z1
  obtain ⟨rfl, N1q, KK1, fE, fV, fC, fN, fK⟩ := hQ1
  have N1 := Fr.app N0 N1q
  have O1 := Old.keep O0 KK1 (allS gs (allS gv all0))
  have K1 := Keep.trans (Keep.refl h0 [sb, vb]) KK1 (allS (Or.inl (List.mem_of_getElem? (i := 0) rfl)) (allS (Or.inl (List.mem_of_getElem? (i := 1) rfl)) all0))
  obtain ⟨fs, hr, hrun, hended, hW, hsame⟩ := X1.leave (v := some (.ref sb)) (fun h => by rw [Bd.returns] at h; cases h)
  refine ⟨_, _, pre0 _ ?_, hrun, hended, _, _, rfl, ?_, ⟨_, rfl⟩, hW, hsame.mono (by decide) (by decide)⟩
  · show Steps p.tables e below (s₁.setTop (mkF m 0 #[.val (.ref sb), .val (.ref xs)] [])) _
    refine XS.aloadN X0.here hx rfl (hb hby d13_0) rfl rfl ?_
    show Steps p.tables e below (s₁.setTop (mkF m 1 #[.val (.ref sb), .val (.ref xs)] [(.ref sb)])) _
    refine XS.aloadN X0.here hx rfl (hb hby d13_1) rfl rfl ?_
    show Steps p.tables e below (s₁.setTop (mkF m 2 #[.val (.ref sb), .val (.ref xs)] [(.ref xs), (.ref sb)])) _
    refine st1.trans ?_
    show Steps p.tables e below (T1.setTop (mkF m 5 #[.val (.ref sb), .val (.ref xs)] [(.ref sb)])) _
    refine XS.pop X1.here hx rfl (hb hby d13_5) rfl rfl ?_
    show Steps p.tables e below (T1.setTop (mkF m 6 #[.val (.ref sb), .val (.ref xs)] [])) _
    refine XS.aloadN X1.here hx rfl (hb hby d13_6) rfl rfl ?_
    show Steps p.tables e below (T1.setTop (mkF m 7 #[.val (.ref sb), .val (.ref xs)] [(.ref sb)])) _
    exact retOut X1 hx Bd.returns rfl (Or.inr (Or.inr (Or.inr (Or.inr ⟨rfl, rfl, rfl⟩)))) (hb hby d13_7) hr
  · show Qd5 Z sb vb xs tt kv kb ys cs z h0 n0 _ T1.heap _
    exact ⟨rfl, N1, K1, fE, fV, fC, fN, fK⟩
theorem own_sub0 (x : Int32) : x - (0 : Int32) = x := by simp
theorem own_lt16 {n : Nat} (h : n < 16) : Int32.ofNat n < Int32.ofNat 16 := by
  have e : (Int32.ofNat n).toInt = n := Int32.toInt_ofNat_of_lt (by omega)
  rw [Int32.lt_iff_toInt_lt, e, show (Int32.ofNat 16).toInt = 16 from rfl]; omega
theorem own_ne16 {n : Nat} (h : n < 16) : ¬ (Int32.ofNat n = Int32.ofNat 16) := fun q => by
  have := own_lt16 h; rw [q] at this; exact Int32.lt_irrefl this
theorem own_nn0 {n : Nat} (h : n < 16) : ¬ (Int32.ofNat n < (0 : Int32)) := (own_n n (by omega)).1

theorem d26_0 : decode jdk_68_method_64_code 0 = .ok (.aload_n 0, 1) := by decide +kernel
theorem d26_1 : decode jdk_68_method_64_code 1 = .ok (.getfield 15, 3) := by decide +kernel
theorem d26_4 : decode jdk_68_method_64_code 4 = .ok (.areturn, 1) := by decide +kernel
theorem ef_26 (m : MethodId) (x0 : Addr) : entryFrame m #[(.ref x0)] 1 = mkF m 0 #[.val (.ref x0)] [] := by first | (simp [entryFrame, mkF, argsToLocals, Value.category]; done) | rfl
theorem pn_26 : plainName "java/lang/AbstractStringBuilder" = true := by first | (simp [plainName, overriddenIn]; done) | decide +kernel
def Qd6 (Z : State) (sb vb : Addr) (kv : ClassId) (ys : List Int32) (z : Int32) (h0 : Heap) (n0 : Nat) (v : Option Value) (h : Heap) (L : List Loc) : Prop := v = some (.ref vb) ∧ Fr n0 L ∧ h = h0
set_option maxRecDepth 65536 in
set_option maxHeartbeats 40000000 in
theorem rmGV (l : Launch) (Z : State) (a0 : Array Value) (hw : ∀ d ∈ tables_1, d.before a0 Z = true) (ws : List Jvm.Cond) (sb vb : Addr) (kv : ClassId) (ys : List Int32) (z : Int32) (h0 : Heap) (n0 : Nat) (O0 : Old Z n0 h0) (Eb : Exa Z h0 sb "java/lang/StringBuilder") (Vb : Fld Z h0 sb "java/lang/AbstractStringBuilder" "value" "[B" (.ref vb)) (Cb : Fld Z h0 sb "java/lang/AbstractStringBuilder" "coder" "B" (.int (0 : Int32))) (Nb : Fld Z h0 sb "java/lang/AbstractStringBuilder" "count" "I" (.int (Int32.ofNat (ys).length))) (Kb : Arv Z h0 vb kv .byte (Int32.ofNat 16) (((ys).map StrChars.lo8).map Value.int) (.int 0)) (SC : Sta Z Z.heap "java/lang/String" "COMPACT_STRINGS" "Z" (.int z)) (hz : ¬ z = 0) (hc : ys.length < 16) :
    MetFree l (⟨"java/lang/AbstractStringBuilder", "getValue", "()[B"⟩ : MethodName) (head1 (Jvm.Cond.code (⟨"java/lang/AbstractStringBuilder", "getValue", "()[B"⟩ : MethodName) jdk_68_method_64_code 1 (some (.array .byte)) :: ws) ({ frames := 0, cells := 0, slots := 0, locals := 0 } : Room)) (fun qq U => qq = #[(.ref sb)] ∧ Z.Warmed39 U.vm ∧ U.heap = h0) (fun _ _ _ _ _ => True) (fun _ UU oo UU' => ∃ vv LL, oo = .returned vv ∧ Qd6 Z sb vb kv ys z h0 n0 vv UU'.heap LL ∧ FrameEnd UU oo UU' LL ({ frames := 0, cells := 0, slots := 0, locals := 0 } : Room).cells ({ frames := 0, cells := 0, slots := 0, locals := 0 } : Room).slots) := by
  refine MetFree.of_bodySF (plainFor_of_name pn_26) hisR ?_
  intro p e s m args below meth c s₁ Bd hml0 hP hK
  obtain ⟨rfl, hZ, hh⟩ := hP
  have hx := Bd.exec
  have hby := Bd.bytes
  have hml : c.maxLocals = 1 := hml0
  have hown : s.vm.findClass "java/lang/AbstractStringBuilder" = some m.cls := findClass_of_methodNamed Bd.named
  have hnm := (name_of_methodNamed Bd.named Bd.method).1
  have X0 : Stand p l e ({ frames := 0, cells := 0, slots := 0, locals := 0 } : Room) s m #[(.ref sb)] below meth c s₁ [] 0 0 := Stand.of_body Bd
  have e0 : s₁.heap = h0 := by rw [← hh, Bd.state]; rfl
  have N0 := Fr.nil n0
  have pre0 : ∀ tgt, Steps p.tables e below (s₁.setTop (mkF m 0 #[.val (.ref sb)] [])) tgt → Steps p.tables e below (s₁.setTop (entryFrame m #[(.ref sb)] 1)) tgt := fun tt kk => castTop (ef_26 m sb) kk
  obtain ⟨T1, X1, e1, st1⟩ := getF X0 hx hZ hown (host := "") (Or.inl (ww hw 104 rfl)) Via.refl e0 Vb (g := (mkF m 1 #[.val (.ref sb)] [(.ref sb)])) rfl rfl (hb hby d26_1)
  obtain ⟨fs, hr, hrun, hended, hW, hsame⟩ := X1.leave (v := some (.ref vb)) (fun h => by rw [Bd.returns] at h; cases h)
  refine ⟨_, _, pre0 _ ?_, hrun, hended, _, _, rfl, ?_, ⟨_, rfl⟩, hW, hsame.mono (by decide) (by decide)⟩
  · show Steps p.tables e below (s₁.setTop (mkF m 0 #[.val (.ref sb)] [])) _
    refine XS.aloadN X0.here hx rfl (hb hby d26_0) rfl rfl ?_
    show Steps p.tables e below (s₁.setTop (mkF m 1 #[.val (.ref sb)] [(.ref sb)])) _
    refine st1 _ ?_
    show Steps p.tables e below (T1.setTop (mkF m 4 #[.val (.ref sb)] [(.ref vb)])) _
    exact retOut X1 hx Bd.returns rfl (Or.inr (Or.inr (Or.inr (Or.inr ⟨rfl, rfl, rfl⟩)))) (hb hby d26_4) hr
  · show Qd6 Z sb vb kv ys z h0 n0 _ T1.heap _
    rw [e1]
    exact ⟨rfl, N0, rfl⟩
theorem d28_0 : decode jdk_68_method_6_code 0 = .ok (.aload_n 0, 1) := by decide +kernel
theorem d28_1 : decode jdk_68_method_6_code 1 = .ok (.getfield 79, 3) := by decide +kernel
theorem d28_4 : decode jdk_68_method_6_code 4 = .ok (.ireturn, 1) := by decide +kernel
theorem ef_28 (m : MethodId) (x0 : Addr) : entryFrame m #[(.ref x0)] 1 = mkF m 0 #[.val (.ref x0)] [] := by first | (simp [entryFrame, mkF, argsToLocals, Value.category]; done) | rfl
theorem pn_28 : plainName "java/lang/AbstractStringBuilder" = true := by first | (simp [plainName, overriddenIn]; done) | decide +kernel
def Qd7 (Z : State) (sb vb : Addr) (kv : ClassId) (ys : List Int32) (z : Int32) (h0 : Heap) (n0 : Nat) (v : Option Value) (h : Heap) (L : List Loc) : Prop := v = some (.int (Int32.ofNat ys.length)) ∧ Fr n0 L ∧ h = h0
set_option maxRecDepth 65536 in
set_option maxHeartbeats 40000000 in
theorem rmAL (l : Launch) (Z : State) (a0 : Array Value) (hw : ∀ d ∈ tables_1, d.before a0 Z = true) (ws : List Jvm.Cond) (sb vb : Addr) (kv : ClassId) (ys : List Int32) (z : Int32) (h0 : Heap) (n0 : Nat) (O0 : Old Z n0 h0) (Eb : Exa Z h0 sb "java/lang/StringBuilder") (Vb : Fld Z h0 sb "java/lang/AbstractStringBuilder" "value" "[B" (.ref vb)) (Cb : Fld Z h0 sb "java/lang/AbstractStringBuilder" "coder" "B" (.int (0 : Int32))) (Nb : Fld Z h0 sb "java/lang/AbstractStringBuilder" "count" "I" (.int (Int32.ofNat (ys).length))) (Kb : Arv Z h0 vb kv .byte (Int32.ofNat 16) (((ys).map StrChars.lo8).map Value.int) (.int 0)) (SC : Sta Z Z.heap "java/lang/String" "COMPACT_STRINGS" "Z" (.int z)) (hz : ¬ z = 0) (hc : ys.length < 16) :
    MetFree l (⟨"java/lang/AbstractStringBuilder", "length", "()I"⟩ : MethodName) (head1 (Jvm.Cond.code (⟨"java/lang/AbstractStringBuilder", "length", "()I"⟩ : MethodName) jdk_68_method_6_code 1 (some .int) :: ws) ({ frames := 0, cells := 0, slots := 0, locals := 0 } : Room)) (fun qq U => qq = #[(.ref sb)] ∧ Z.Warmed39 U.vm ∧ U.heap = h0) (fun _ _ _ _ _ => True) (fun _ UU oo UU' => ∃ vv LL, oo = .returned vv ∧ Qd7 Z sb vb kv ys z h0 n0 vv UU'.heap LL ∧ FrameEnd UU oo UU' LL ({ frames := 0, cells := 0, slots := 0, locals := 0 } : Room).cells ({ frames := 0, cells := 0, slots := 0, locals := 0 } : Room).slots) := by
  refine MetFree.of_bodySF (plainFor_of_name pn_28) hisR ?_
  intro p e s m args below meth c s₁ Bd hml0 hP hK
  obtain ⟨rfl, hZ, hh⟩ := hP
  have hx := Bd.exec
  have hby := Bd.bytes
  have hml : c.maxLocals = 1 := hml0
  have hown : s.vm.findClass "java/lang/AbstractStringBuilder" = some m.cls := findClass_of_methodNamed Bd.named
  have hnm := (name_of_methodNamed Bd.named Bd.method).1
  have X0 : Stand p l e ({ frames := 0, cells := 0, slots := 0, locals := 0 } : Room) s m #[(.ref sb)] below meth c s₁ [] 0 0 := Stand.of_body Bd
  have e0 : s₁.heap = h0 := by rw [← hh, Bd.state]; rfl
  have N0 := Fr.nil n0
  have pre0 : ∀ tgt, Steps p.tables e below (s₁.setTop (mkF m 0 #[.val (.ref sb)] [])) tgt → Steps p.tables e below (s₁.setTop (entryFrame m #[(.ref sb)] 1)) tgt := fun tt kk => castTop (ef_28 m sb) kk
  obtain ⟨T1, X1, e1, st1⟩ := getF X0 hx hZ hown (host := "") (Or.inl (ww hw 130 rfl)) Via.refl e0 Nb (g := (mkF m 1 #[.val (.ref sb)] [(.ref sb)])) rfl rfl (hb hby d28_1)
  obtain ⟨fs, hr, hrun, hended, hW, hsame⟩ := X1.leave (v := some (.int (Int32.ofNat (ys).length))) (fun h => by rw [Bd.returns] at h; cases h)
  refine ⟨_, _, pre0 _ ?_, hrun, hended, _, _, rfl, ?_, ⟨_, rfl⟩, hW, hsame.mono (by decide) (by decide)⟩
  · show Steps p.tables e below (s₁.setTop (mkF m 0 #[.val (.ref sb)] [])) _
    refine XS.aloadN X0.here hx rfl (hb hby d28_0) rfl rfl ?_
    show Steps p.tables e below (s₁.setTop (mkF m 1 #[.val (.ref sb)] [(.ref sb)])) _
    refine st1 _ ?_
    show Steps p.tables e below (T1.setTop (mkF m 4 #[.val (.ref sb)] [(.int (Int32.ofNat (ys).length))])) _
    exact retI X1 hx Bd.returns (hb hby d28_4) hr
  · show Qd7 Z sb vb kv ys z h0 n0 _ T1.heap _
    rw [e1]
    exact ⟨rfl, N0, rfl⟩
theorem d27_0 : decode jdk_67_method_93_code 0 = .ok (.aload_n 0, 1) := by decide +kernel
theorem d27_1 : decode jdk_67_method_93_code 1 = .ok (.invokespecial 343, 3) := by decide +kernel
theorem d27_4 : decode jdk_67_method_93_code 4 = .ok (.ireturn, 1) := by decide +kernel
theorem ef_27 (m : MethodId) (x0 : Addr) : entryFrame m #[(.ref x0)] 1 = mkF m 0 #[.val (.ref x0)] [] := by first | (simp [entryFrame, mkF, argsToLocals, Value.category]; done) | rfl
theorem pn_27 : plainName "java/lang/StringBuilder" = true := by first | (simp [plainName, overriddenIn]; done) | decide +kernel
set_option maxRecDepth 65536 in
set_option maxHeartbeats 40000000 in
theorem rmBL (l : Launch) (Z : State) (a0 : Array Value) (hw : ∀ d ∈ tables_1, d.before a0 Z = true) (ws : List Jvm.Cond) (sb vb : Addr) (kv : ClassId) (ys : List Int32) (z : Int32) (h0 : Heap) (n0 : Nat) (O0 : Old Z n0 h0) (Eb : Exa Z h0 sb "java/lang/StringBuilder") (Vb : Fld Z h0 sb "java/lang/AbstractStringBuilder" "value" "[B" (.ref vb)) (Cb : Fld Z h0 sb "java/lang/AbstractStringBuilder" "coder" "B" (.int (0 : Int32))) (Nb : Fld Z h0 sb "java/lang/AbstractStringBuilder" "count" "I" (.int (Int32.ofNat (ys).length))) (Kb : Arv Z h0 vb kv .byte (Int32.ofNat 16) (((ys).map StrChars.lo8).map Value.int) (.int 0)) (SC : Sta Z Z.heap "java/lang/String" "COMPACT_STRINGS" "Z" (.int z)) (hz : ¬ z = 0) (hc : ys.length < 16) :
    MetFree l (⟨"java/lang/StringBuilder", "length", "()I"⟩ : MethodName) (head1 (Jvm.Cond.code (⟨"java/lang/StringBuilder", "length", "()I"⟩ : MethodName) jdk_67_method_93_code 1 (some .int) :: ws) ({ frames := 1, cells := 0, slots := 0, locals := 12 } : Room)) (fun qq U => qq = #[(.ref sb)] ∧ Z.Warmed39 U.vm ∧ U.heap = h0) (fun _ _ _ _ _ => True) (fun _ UU oo UU' => ∃ vv LL, oo = .returned vv ∧ Qd7 Z sb vb kv ys z h0 n0 vv UU'.heap LL ∧ FrameEnd UU oo UU' LL ({ frames := 1, cells := 0, slots := 0, locals := 12 } : Room).cells ({ frames := 1, cells := 0, slots := 0, locals := 12 } : Room).slots) := by
  refine MetFree.of_bodySF (plainFor_of_name pn_27) hisR ?_
  intro p e s m args below meth c s₁ Bd hml0 hP hK
  obtain ⟨rfl, hZ, hh⟩ := hP
  have hx := Bd.exec
  have hby := Bd.bytes
  have hml : c.maxLocals = 1 := hml0
  have hown : s.vm.findClass "java/lang/StringBuilder" = some m.cls := findClass_of_methodNamed Bd.named
  have hnm := (name_of_methodNamed Bd.named Bd.method).1
  have X0 : Stand p l e ({ frames := 1, cells := 0, slots := 0, locals := 12 } : Room) s m #[(.ref sb)] below meth c s₁ [] 0 0 := Stand.of_body Bd
  have e0 : s₁.heap = h0 := by rw [← hh, Bd.state]; rfl
  have N0 := Fr.nil n0
  have pre0 : ∀ tgt, Steps p.tables e below (s₁.setTop (mkF m 0 #[.val (.ref sb)] [])) tgt → Steps p.tables e below (s₁.setTop (entryFrame m #[(.ref sb)] 1)) tgt := fun tt kk => castTop (ef_27 m sb) kk
  obtain ⟨_, _, ⟨T1, L1, k1, n1⟩, -, X1, ⟨Lc1, hQ1, l1, y1, z1⟩, st1⟩ := superBack X0 hx hZ (y := (⟨"java/lang/AbstractStringBuilder", "length", "()I"⟩ : MethodName)) hown (ww hw 192 rfl) (own_sameM (y := (⟨"java/lang/AbstractStringBuilder", "length", "()I"⟩ : MethodName)) (ww hw 187 rfl) (own_nf2 (y1 := (⟨"java/lang/AbstractStringBuilder", "getValue", "()[B"⟩ : MethodName)) (notFace_of_selects (args := a0) (ww hw 184 rfl)) (ww hw 182 rfl) rfl) (by decide)) (ww hw 188 rfl) (ww hw 116 rfl) (by decide) (backOf (W := 0) (rmAL l Z a0 hw [] sb vb kv ys z h0 n0 O0 Eb Vb Cb Nb Kb SC hz hc) hZ (ww hw 193 rfl) (ww hw 100 rfl) (by decide) (by decide)) e0 (Ins.self Eb) (g := (mkF m 1 #[.val (.ref sb)] [(.ref sb)])) rfl (by rw [hml]; rfl) (ww hw 193 rfl) (argsL := []) (rest := []) (lenOf own_pd4 rfl) rfl (by show 2 * 0 + _ ≤ _; exact Nat.le_of_eq rfl) (hb hby d27_1) (fun _ _ => ⟨rfl, e0, (by decide : 0 + 0 ≤ _), (by decide : 0 + 0 ≤ _)⟩)
  dsimp only [Pt.U, Pt.locs, Pt.cells, Pt.slots] at X1 l1 y1 z1 st1 hQ1
  subst l1 y1 z1
  obtain ⟨rfl, N1q, e1⟩ := hQ1
  have N1 := Fr.app N0 N1q
  obtain ⟨fs, hr, hrun, hended, hW, hsame⟩ := X1.leave (v := some (.int (Int32.ofNat ys.length))) (fun h => by rw [Bd.returns] at h; cases h)
  refine ⟨_, _, pre0 _ ?_, hrun, hended, _, _, rfl, ?_, ⟨_, rfl⟩, hW, hsame.mono (by decide) (by decide)⟩
  · show Steps p.tables e below (s₁.setTop (mkF m 0 #[.val (.ref sb)] [])) _
    refine XS.aloadN X0.here hx rfl (hb hby d27_0) rfl rfl ?_
    show Steps p.tables e below (s₁.setTop (mkF m 1 #[.val (.ref sb)] [(.ref sb)])) _
    refine st1.trans ?_
    show Steps p.tables e below (T1.setTop (mkF m 4 #[.val (.ref sb)] [(.int (Int32.ofNat ys.length))])) _
    exact retI X1 hx Bd.returns (hb hby d27_4) hr
  · show Qd7 Z sb vb kv ys z h0 n0 _ T1.heap _
    rw [e1]
    exact ⟨rfl, N1, rfl⟩
theorem d29_0 : decode jdk_68_method_68_code 0 = .ok (.getstatic 18, 3) := by decide +kernel
theorem d29_3 : decode jdk_68_method_68_code 3 = .ok (.ifCond .eq 14, 3) := by decide +kernel
theorem d29_6 : decode jdk_68_method_68_code 6 = .ok (.aload_n 0, 1) := by decide +kernel
theorem d29_7 : decode jdk_68_method_68_code 7 = .ok (.getfield 22, 3) := by decide +kernel
theorem d29_10 : decode jdk_68_method_68_code 10 = .ok (.ifCond .ne 7, 3) := by decide +kernel
theorem d29_13 : decode jdk_68_method_68_code 13 = .ok (.iconst 1, 1) := by decide +kernel
theorem d29_14 : decode jdk_68_method_68_code 14 = .ok (.goto 4, 3) := by decide +kernel
theorem d29_18 : decode jdk_68_method_68_code 18 = .ok (.ireturn, 1) := by decide +kernel
theorem ef_29 (m : MethodId) (x0 : Addr) : entryFrame m #[(.ref x0)] 1 = mkF m 0 #[.val (.ref x0)] [] := by first | (simp [entryFrame, mkF, argsToLocals, Value.category]; done) | rfl
theorem pn_29 : plainName "java/lang/AbstractStringBuilder" = true := by first | (simp [plainName, overriddenIn]; done) | decide +kernel
def Qd8 (Z : State) (sb vb : Addr) (kv : ClassId) (ys : List Int32) (z : Int32) (h0 : Heap) (n0 : Nat) (v : Option Value) (h : Heap) (L : List Loc) : Prop := v = some (.int (1 : Int32)) ∧ Fr n0 L ∧ h = h0
set_option maxRecDepth 65536 in
set_option maxHeartbeats 40000000 in
theorem rmL1 (l : Launch) (Z : State) (a0 : Array Value) (hw : ∀ d ∈ tables_1, d.before a0 Z = true) (ws : List Jvm.Cond) (sb vb : Addr) (kv : ClassId) (ys : List Int32) (z : Int32) (h0 : Heap) (n0 : Nat) (O0 : Old Z n0 h0) (Eb : Exa Z h0 sb "java/lang/StringBuilder") (Vb : Fld Z h0 sb "java/lang/AbstractStringBuilder" "value" "[B" (.ref vb)) (Cb : Fld Z h0 sb "java/lang/AbstractStringBuilder" "coder" "B" (.int (0 : Int32))) (Nb : Fld Z h0 sb "java/lang/AbstractStringBuilder" "count" "I" (.int (Int32.ofNat (ys).length))) (Kb : Arv Z h0 vb kv .byte (Int32.ofNat 16) (((ys).map StrChars.lo8).map Value.int) (.int 0)) (SC : Sta Z Z.heap "java/lang/String" "COMPACT_STRINGS" "Z" (.int z)) (hz : ¬ z = 0) (hc : ys.length < 16) :
    MetFree l (⟨"java/lang/AbstractStringBuilder", "isLatin1", "()Z"⟩ : MethodName) (head1 (Jvm.Cond.code (⟨"java/lang/AbstractStringBuilder", "isLatin1", "()Z"⟩ : MethodName) jdk_68_method_68_code 1 (some .boolean) :: ws) ({ frames := 0, cells := 0, slots := 0, locals := 0 } : Room)) (fun qq U => qq = #[(.ref sb)] ∧ Z.Warmed39 U.vm ∧ U.heap = h0) (fun _ _ _ _ _ => True) (fun _ UU oo UU' => ∃ vv LL, oo = .returned vv ∧ Qd8 Z sb vb kv ys z h0 n0 vv UU'.heap LL ∧ FrameEnd UU oo UU' LL ({ frames := 0, cells := 0, slots := 0, locals := 0 } : Room).cells ({ frames := 0, cells := 0, slots := 0, locals := 0 } : Room).slots) := by
  refine MetFree.of_bodySF (plainFor_of_name pn_29) hisR ?_
  intro p e s m args below meth c s₁ Bd hml0 hP hK
  obtain ⟨rfl, hZ, hh⟩ := hP
  have hx := Bd.exec
  have hby := Bd.bytes
  have hml : c.maxLocals = 1 := hml0
  have hown : s.vm.findClass "java/lang/AbstractStringBuilder" = some m.cls := findClass_of_methodNamed Bd.named
  have hnm := (name_of_methodNamed Bd.named Bd.method).1
  have X0 : Stand p l e ({ frames := 0, cells := 0, slots := 0, locals := 0 } : Room) s m #[(.ref sb)] below meth c s₁ [] 0 0 := Stand.of_body Bd
  have e0 : s₁.heap = h0 := by rw [← hh, Bd.state]; rfl
  have N0 := Fr.nil n0
  have pre0 : ∀ tgt, Steps p.tables e below (s₁.setTop (mkF m 0 #[.val (.ref sb)] [])) tgt → Steps p.tables e below (s₁.setTop (entryFrame m #[(.ref sb)] 1)) tgt := fun tt kk => castTop (ef_29 m sb) kk
  obtain ⟨T1, X1, e1, st1⟩ := getS2 X0 hx hZ hown (host := "") (Or.inl (ww hw 103 rfl)) Via.refl e0 (SC.ext O0.2) (g := (mkF m 0 #[.val (.ref sb)] [])) rfl (hb hby d29_0)
  obtain ⟨T2, X2, e2, st2⟩ := getF X1 hx hZ hown (host := "") (Or.inl (ww hw 106 rfl)) Via.refl e1 Cb (g := (mkF m 7 #[.val (.ref sb)] [(.ref sb)])) rfl rfl (hb hby d29_7)
  obtain ⟨fs, hr, hrun, hended, hW, hsame⟩ := X2.leave (v := some (.int (1 : Int32))) (fun h => by rw [Bd.returns] at h; cases h)
  refine ⟨_, _, pre0 _ ?_, hrun, hended, _, _, rfl, ?_, ⟨_, rfl⟩, hW, hsame.mono (by decide) (by decide)⟩
  · show Steps p.tables e below (s₁.setTop (mkF m 0 #[.val (.ref sb)] [])) _
    refine st1 _ ?_
    show Steps p.tables e below (T1.setTop (mkF m 3 #[.val (.ref sb)] [(.int z)])) _
    refine XS.ifNo X1.here hx rfl (hb hby d29_3) rfl ((if0 _ _).trans (feq (hz : ¬ (z = (0 : Int32)))).1) ?_
    show Steps p.tables e below (T1.setTop (mkF m 6 #[.val (.ref sb)] [])) _
    refine XS.aloadN X1.here hx rfl (hb hby d29_6) rfl rfl ?_
    show Steps p.tables e below (T1.setTop (mkF m 7 #[.val (.ref sb)] [(.ref sb)])) _
    refine st2 _ ?_
    show Steps p.tables e below (T2.setTop (mkF m 10 #[.val (.ref sb)] [(.int (0 : Int32))])) _
    refine XS.ifNo X2.here hx rfl (hb hby d29_10) rfl ((if0 _ _).trans (teq (rfl : (0 : Int32) = (0 : Int32))).2) ?_
    show Steps p.tables e below (T2.setTop (mkF m 13 #[.val (.ref sb)] [])) _
    refine XS.iconst X2.here hx rfl (hb hby d29_13) ?_
    show Steps p.tables e below (T2.setTop (mkF m 14 #[.val (.ref sb)] [(.int (1 : Int32))])) _
    refine XS.goto X2.here hx rfl (pc0 := 14) (pc' := 18) rfl (hb hby d29_14) (by decide) (by decide) ?_
    show Steps p.tables e below (T2.setTop (mkF m 18 #[.val (.ref sb)] [(.int (1 : Int32))])) _
    exact retN X2 hx (t := .boolean) Bd.returns (by simp) (hb hby d29_18) hr
  · show Qd8 Z sb vb kv ys z h0 n0 _ T2.heap _
    rw [e2]
    exact ⟨rfl, N0, rfl⟩
theorem d32_0 : decode jdk_65_method_131_code 0 = .ok (.iload_n 1, 1) := by decide +kernel
theorem d32_1 : decode jdk_65_method_131_code 1 = .ok (.iload_n 0, 1) := by decide +kernel
theorem d32_2 : decode jdk_65_method_131_code 2 = .ok (.if_icmp .ge 35, 3) := by decide +kernel
theorem d32_37 : decode jdk_65_method_131_code 37 = .ok (.return_, 1) := by decide +kernel
theorem ef_32 (m : MethodId) (x0 : Int32) (x1 : Int32) : entryFrame m #[(.int x0), (.int x1)] 2 = mkF m 0 #[.val (.int x0), .val (.int x1)] [] := by first | (simp [entryFrame, mkF, argsToLocals, Value.category]; done) | rfl
theorem pn_32 : plainName "java/util/Arrays" = true := by first | (simp [plainName, overriddenIn]; done) | decide +kernel
def Qd9 (Z : State) (ys : List Int32) (h0 : Heap) (n0 : Nat) (v : Option Value) (h : Heap) (L : List Loc) : Prop := v = none ∧ Fr n0 L ∧ h = h0
set_option maxRecDepth 65536 in
set_option maxHeartbeats 40000000 in
theorem rmCL (l : Launch) (Z : State) (a0 : Array Value) (hw : ∀ d ∈ tables_1, d.before a0 Z = true) (ws : List Jvm.Cond) (ys : List Int32) (h0 : Heap) (n0 : Nat) (hc : ys.length < 16) :
    MetFree l (⟨"java/util/Arrays", "checkLength", "(II)V"⟩ : MethodName) (head1 (Jvm.Cond.code (⟨"java/util/Arrays", "checkLength", "(II)V"⟩ : MethodName) jdk_65_method_131_code 2 none :: ws) ({ frames := 0, cells := 0, slots := 0, locals := 0 } : Room)) (fun qq U => qq = #[(.int (0 : Int32)), (.int (Int32.ofNat ys.length))] ∧ Z.Warmed39 U.vm ∧ U.heap = h0) (fun _ _ _ _ _ => True) (fun _ UU oo UU' => ∃ vv LL, oo = .returned vv ∧ Qd9 Z ys h0 n0 vv UU'.heap LL ∧ FrameEnd UU oo UU' LL ({ frames := 0, cells := 0, slots := 0, locals := 0 } : Room).cells ({ frames := 0, cells := 0, slots := 0, locals := 0 } : Room).slots) := by
  refine MetFree.of_bodySF (plainFor_of_name pn_32) hisR ?_
  intro p e s m args below meth c s₁ Bd hml0 hP hK
  obtain ⟨rfl, hZ, hh⟩ := hP
  have hx := Bd.exec
  have hby := Bd.bytes
  have hml : c.maxLocals = 2 := hml0
  have hown : s.vm.findClass "java/util/Arrays" = some m.cls := findClass_of_methodNamed Bd.named
  have hnm := (name_of_methodNamed Bd.named Bd.method).1
  have X0 : Stand p l e ({ frames := 0, cells := 0, slots := 0, locals := 0 } : Room) s m #[(.int (0 : Int32)), (.int (Int32.ofNat ys.length))] below meth c s₁ [] 0 0 := Stand.of_body Bd
  have e0 : s₁.heap = h0 := by rw [← hh, Bd.state]; rfl
  have N0 := Fr.nil n0
  have pre0 : ∀ tgt, Steps p.tables e below (s₁.setTop (mkF m 0 #[.val (.int (0 : Int32)), .val (.int (Int32.ofNat ys.length))] [])) tgt → Steps p.tables e below (s₁.setTop (entryFrame m #[(.int (0 : Int32)), (.int (Int32.ofNat ys.length))] 2)) tgt := fun tt kk => castTop (ef_32 m (0 : Int32) (Int32.ofNat ys.length)) kk
  obtain ⟨fs, hr, hrun, hended, hW, hsame⟩ := X0.leave (v := none) (fun _ => rfl)
  refine ⟨_, _, pre0 _ ?_, hrun, hended, _, _, rfl, ?_, ⟨_, rfl⟩, hW, hsame.mono (by decide) (by decide)⟩
  · show Steps p.tables e below (s₁.setTop (mkF m 0 #[.val (.int (0 : Int32)), .val (.int (Int32.ofNat ys.length))] [])) _
    refine XS.iloadN X0.here hx rfl (hb hby d32_0) rfl ?_
    show Steps p.tables e below (s₁.setTop (mkF m 1 #[.val (.int (0 : Int32)), .val (.int (Int32.ofNat ys.length))] [(.int (Int32.ofNat ys.length))])) _
    refine XS.iloadN X0.here hx rfl (hb hby d32_1) rfl ?_
    show Steps p.tables e below (s₁.setTop (mkF m 2 #[.val (.int (0 : Int32)), .val (.int (Int32.ofNat ys.length))] [(.int (0 : Int32)), (.int (Int32.ofNat ys.length))])) _
    refine XS.icmpYes X0.here hx rfl (pc0 := 2) (pc' := 37) rfl (hb hby d32_2) rfl (flt (own_nn0 hc : ¬ ((Int32.ofNat ys.length) < (0 : Int32)))).2.1 (by decide) (by decide) ?_
    show Steps p.tables e below (s₁.setTop (mkF m 37 #[.val (.int (0 : Int32)), .val (.int (Int32.ofNat ys.length))] [])) _
    exact X0.returnOut hx Bd.returns (hb hby d32_37) hr
  · show Qd9 Z ys h0 n0 _ s₁.heap _
    rw [e0]
    exact ⟨rfl, N0, rfl⟩
theorem d33_0 : decode jdk_29_method_69_code 0 = .ok (.iload_n 0, 1) := by decide +kernel
theorem d33_1 : decode jdk_29_method_69_code 1 = .ok (.iload_n 1, 1) := by decide +kernel
theorem d33_2 : decode jdk_29_method_69_code 2 = .ok (.if_icmp .gt 7, 3) := by decide +kernel
theorem d33_9 : decode jdk_29_method_69_code 9 = .ok (.iload_n 1, 1) := by decide +kernel
theorem d33_10 : decode jdk_29_method_69_code 10 = .ok (.ireturn, 1) := by decide +kernel
theorem ef_33 (m : MethodId) (x0 : Int32) (x1 : Int32) : entryFrame m #[(.int x0), (.int x1)] 2 = mkF m 0 #[.val (.int x0), .val (.int x1)] [] := by first | (simp [entryFrame, mkF, argsToLocals, Value.category]; done) | rfl
def Qd10 (Z : State) (ys : List Int32) (h0 : Heap) (n0 : Nat) (v : Option Value) (h : Heap) (L : List Loc) : Prop := v = some (.int (Int32.ofNat ys.length)) ∧ Fr n0 L ∧ h = h0
set_option maxRecDepth 65536 in
set_option maxHeartbeats 40000000 in
theorem rmMi (l : Launch) (Z : State) (a0 : Array Value) (hw : ∀ d ∈ tables_1, d.before a0 Z = true) (ws : List Jvm.Cond) (ys : List Int32) (h0 : Heap) (n0 : Nat) (hc : ys.length < 16) :
    MetFree l (⟨"java/lang/Math", "min", "(II)I"⟩ : MethodName) (head1 (Jvm.Cond.code (⟨"java/lang/Math", "min", "(II)I"⟩ : MethodName) jdk_29_method_69_code 2 (some .int) :: ws) ({ frames := 0, cells := 0, slots := 0, locals := 0 } : Room)) (fun qq U => qq = #[(.int (Int32.ofNat 16)), (.int (Int32.ofNat ys.length))] ∧ Z.Warmed39 U.vm ∧ U.heap = h0) (fun _ _ _ _ _ => True) (fun _ UU oo UU' => ∃ vv LL, oo = .returned vv ∧ Qd10 Z ys h0 n0 vv UU'.heap LL ∧ FrameEnd UU oo UU' LL ({ frames := 0, cells := 0, slots := 0, locals := 0 } : Room).cells ({ frames := 0, cells := 0, slots := 0, locals := 0 } : Room).slots) := by
  refine MetFree.of_bodySF (Jvm.Free.JP.mathPlain rfl (by decide +kernel)) hisR ?_
  intro p e s m args below meth c s₁ Bd hml0 hP hK
  obtain ⟨rfl, hZ, hh⟩ := hP
  have hx := Bd.exec
  have hby := Bd.bytes
  have hml : c.maxLocals = 2 := hml0
  have hown : s.vm.findClass "java/lang/Math" = some m.cls := findClass_of_methodNamed Bd.named
  have hnm := (name_of_methodNamed Bd.named Bd.method).1
  have X0 : Stand p l e ({ frames := 0, cells := 0, slots := 0, locals := 0 } : Room) s m #[(.int (Int32.ofNat 16)), (.int (Int32.ofNat ys.length))] below meth c s₁ [] 0 0 := Stand.of_body Bd
  have e0 : s₁.heap = h0 := by rw [← hh, Bd.state]; rfl
  have N0 := Fr.nil n0
  have pre0 : ∀ tgt, Steps p.tables e below (s₁.setTop (mkF m 0 #[.val (.int (Int32.ofNat 16)), .val (.int (Int32.ofNat ys.length))] [])) tgt → Steps p.tables e below (s₁.setTop (entryFrame m #[(.int (Int32.ofNat 16)), (.int (Int32.ofNat ys.length))] 2)) tgt := fun tt kk => castTop (ef_33 m (Int32.ofNat 16) (Int32.ofNat ys.length)) kk
  obtain ⟨fs, hr, hrun, hended, hW, hsame⟩ := X0.leave (v := some (.int (Int32.ofNat ys.length))) (fun h => by rw [Bd.returns] at h; cases h)
  refine ⟨_, _, pre0 _ ?_, hrun, hended, _, _, rfl, ?_, ⟨_, rfl⟩, hW, hsame.mono (by decide) (by decide)⟩
  · show Steps p.tables e below (s₁.setTop (mkF m 0 #[.val (.int (Int32.ofNat 16)), .val (.int (Int32.ofNat ys.length))] [])) _
    refine XS.iloadN X0.here hx rfl (hb hby d33_0) rfl ?_
    show Steps p.tables e below (s₁.setTop (mkF m 1 #[.val (.int (Int32.ofNat 16)), .val (.int (Int32.ofNat ys.length))] [(.int (Int32.ofNat 16))])) _
    refine XS.iloadN X0.here hx rfl (hb hby d33_1) rfl ?_
    show Steps p.tables e below (s₁.setTop (mkF m 2 #[.val (.int (Int32.ofNat 16)), .val (.int (Int32.ofNat ys.length))] [(.int (Int32.ofNat ys.length)), (.int (Int32.ofNat 16))])) _
    refine XS.icmpYes X0.here hx rfl (pc0 := 2) (pc' := 9) rfl (hb hby d33_2) rfl (tlt (own_lt16 hc : (Int32.ofNat ys.length) < (Int32.ofNat 16))).2.2.1 (by decide) (by decide) ?_
    show Steps p.tables e below (s₁.setTop (mkF m 9 #[.val (.int (Int32.ofNat 16)), .val (.int (Int32.ofNat ys.length))] [])) _
    refine XS.iloadN X0.here hx rfl (hb hby d33_9) rfl ?_
    show Steps p.tables e below (s₁.setTop (mkF m 10 #[.val (.int (Int32.ofNat 16)), .val (.int (Int32.ofNat ys.length))] [(.int (Int32.ofNat ys.length))])) _
    exact retI X0 hx Bd.returns (hb hby d33_10) hr
  · show Qd10 Z ys h0 n0 _ s₁.heap _
    rw [e0]
    exact ⟨rfl, N0, rfl⟩
theorem d31_0 : decode jdk_65_method_133_code 0 = .ok (.iload_n 1, 1) := by decide +kernel
theorem d31_1 : decode jdk_65_method_133_code 1 = .ok (.iload_n 2, 1) := by decide +kernel
theorem d31_2 : decode jdk_65_method_133_code 2 = .ok (.invokestatic 343, 3) := by decide +kernel
theorem own_pd7 : parseMethodDescriptor "(II)V" = some ⟨[.int, .int], none⟩ := by decide +kernel
theorem d31_5 : decode jdk_65_method_133_code 5 = .ok (.iload_n 2, 1) := by decide +kernel
theorem d31_6 : decode jdk_65_method_133_code 6 = .ok (.iload_n 1, 1) := by decide +kernel
theorem d31_7 : decode jdk_65_method_133_code 7 = .ok (.isub, 1) := by decide +kernel
theorem d31_8 : decode jdk_65_method_133_code 8 = .ok (.istore_n 3, 1) := by decide +kernel
theorem d31_9 : decode jdk_65_method_133_code 9 = .ok (.iload_n 3, 1) := by decide +kernel
theorem d31_10 : decode jdk_65_method_133_code 10 = .ok (.newarray .byte, 2) := by decide +kernel
theorem d31_12 : decode jdk_65_method_133_code 12 = .ok (.astore 4, 2) := by decide +kernel
theorem d31_14 : decode jdk_65_method_133_code 14 = .ok (.aload_n 0, 1) := by decide +kernel
theorem d31_15 : decode jdk_65_method_133_code 15 = .ok (.iload_n 1, 1) := by decide +kernel
theorem d31_16 : decode jdk_65_method_133_code 16 = .ok (.aload 4, 2) := by decide +kernel
theorem d31_18 : decode jdk_65_method_133_code 18 = .ok (.iconst 0, 1) := by decide +kernel
theorem d31_19 : decode jdk_65_method_133_code 19 = .ok (.aload_n 0, 1) := by decide +kernel
theorem d31_20 : decode jdk_65_method_133_code 20 = .ok (.arraylength, 1) := by decide +kernel
theorem d31_21 : decode jdk_65_method_133_code 21 = .ok (.iload_n 1, 1) := by decide +kernel
theorem d31_22 : decode jdk_65_method_133_code 22 = .ok (.isub, 1) := by decide +kernel
theorem d31_23 : decode jdk_65_method_133_code 23 = .ok (.iload_n 3, 1) := by decide +kernel
theorem d31_24 : decode jdk_65_method_133_code 24 = .ok (.invokestatic 304, 3) := by decide +kernel
theorem own_pd8 : parseMethodDescriptor "(II)I" = some ⟨[.int, .int], some .int⟩ := by decide +kernel
theorem d31_27 : decode jdk_65_method_133_code 27 = .ok (.invokestatic 150, 3) := by decide +kernel
theorem d31_30 : decode jdk_65_method_133_code 30 = .ok (.aload 4, 2) := by decide +kernel
theorem d31_32 : decode jdk_65_method_133_code 32 = .ok (.areturn, 1) := by decide +kernel
theorem ef_31 (m : MethodId) (x0 : Addr) (x1 : Int32) (x2 : Int32) : entryFrame m #[(.ref x0), (.int x1), (.int x2)] 5 = mkF m 0 #[.val (.ref x0), .val (.int x1), .val (.int x2), .unset, .unset] [] := by first | (simp [entryFrame, mkF, argsToLocals, Value.category]; done) | rfl
theorem pn_31 : plainName "java/util/Arrays" = true := by first | (simp [plainName, overriddenIn]; done) | decide +kernel
def Qd11 (Z : State) (vb : Addr) (kv : ClassId) (ys : List Int32) (h0 : Heap) (n0 : Nat) (v : Option Value) (h : Heap) (L : List Loc) : Prop := ∃ nb kn, v = some (.ref nb) ∧ Fr n0 L ∧ Keep h0 h [] ∧ h0.size ≤ nb ∧ n0 ≤ nb ∧ Arv Z h nb kn .byte (Int32.ofNat (ys).length) (((ys).map StrChars.lo8).map Value.int) (.int 0)
set_option maxRecDepth 65536 in
set_option maxHeartbeats 40000000 in
theorem rmCB (l : Launch) (Z : State) (a0 : Array Value) (hw : ∀ d ∈ tables_1, d.before a0 Z = true) (ws : List Jvm.Cond) (vb : Addr) (kv : ClassId) (ys : List Int32) (h0 : Heap) (n0 : Nat) (O0 : Old Z n0 h0) (Kb : Arv Z h0 vb kv .byte (Int32.ofNat 16) (((ys).map StrChars.lo8).map Value.int) (.int 0)) (hc : ys.length < 16) :
    MetFree l (⟨"java/util/Arrays", "copyOfRangeByte", "([BII)[B"⟩ : MethodName) (head1 (Jvm.Cond.code (⟨"java/util/Arrays", "copyOfRangeByte", "([BII)[B"⟩ : MethodName) jdk_65_method_133_code 5 (some (.array .byte)) :: ws) ({ frames := 1, cells := 1, slots := 16, locals := 18 } : Room)) (fun qq U => qq = #[(.ref vb), (.int (0 : Int32)), (.int (Int32.ofNat ys.length))] ∧ Z.Warmed39 U.vm ∧ U.heap = h0) (fun _ _ _ _ _ => True) (fun _ UU oo UU' => ∃ vv LL, oo = .returned vv ∧ Qd11 Z vb kv ys h0 n0 vv UU'.heap LL ∧ FrameEnd UU oo UU' LL ({ frames := 1, cells := 1, slots := 16, locals := 18 } : Room).cells ({ frames := 1, cells := 1, slots := 16, locals := 18 } : Room).slots) := by
  refine MetFree.of_bodySF (plainFor_of_name pn_31) hisR ?_
  intro p e s m args below meth c s₁ Bd hml0 hP hK
  obtain ⟨rfl, hZ, hh⟩ := hP
  have hx := Bd.exec
  have hby := Bd.bytes
  have hml : c.maxLocals = 5 := hml0
  have hown : s.vm.findClass "java/util/Arrays" = some m.cls := findClass_of_methodNamed Bd.named
  have hnm := (name_of_methodNamed Bd.named Bd.method).1
  have X0 : Stand p l e ({ frames := 1, cells := 1, slots := 16, locals := 18 } : Room) s m #[(.ref vb), (.int (0 : Int32)), (.int (Int32.ofNat ys.length))] below meth c s₁ [] 0 0 := Stand.of_body Bd
  have e0 : s₁.heap = h0 := by rw [← hh, Bd.state]; rfl
  have N0 := Fr.nil n0
  have pre0 : ∀ tgt, Steps p.tables e below (s₁.setTop (mkF m 0 #[.val (.ref vb), .val (.int (0 : Int32)), .val (.int (Int32.ofNat ys.length)), .unset, .unset] [])) tgt → Steps p.tables e below (s₁.setTop (entryFrame m #[(.ref vb), (.int (0 : Int32)), (.int (Int32.ofNat ys.length))] 5)) tgt := fun tt kk => castTop (ef_31 m vb (0 : Int32) (Int32.ofNat ys.length)) kk
  obtain ⟨_, _, ⟨T1, L1, k1, n1⟩, -, X1, ⟨Lc1, hQ1, l1, y1, z1⟩, st1⟩ := Jvm.LawKit.callS X0 hx (y := (⟨"java/util/Arrays", "checkLength", "(II)V"⟩ : MethodName)) hown (mvT hZ (ww hw 206 rfl)) (mvT hZ (ww hw 207 rfl)) (mvT hZ (ww hw 201 rfl)) (mvT hZ (ww hw 208 rfl)) (by decide) (backOf (W := 0) (rmCL l Z a0 hw [] ys h0 n0 hc) hZ (ww hw 208 rfl) (ww hw 201 rfl) (by decide) (by decide)) (g := (mkF m 2 #[.val (.ref vb), .val (.int (0 : Int32)), .val (.int (Int32.ofNat ys.length)), .unset, .unset] [(.int (Int32.ofNat ys.length)), (.int (0 : Int32))])) rfl (by rw [hml]; rfl) (argsL := [(.int (0 : Int32)), (.int (Int32.ofNat ys.length))]) (rest := []) (lenOf own_pd7 rfl) rfl (by show 2 * 0 + _ ≤ _; exact Nat.le_of_eq rfl) (hb hby d31_2) (fun _ _ => ⟨rfl, e0, (by decide : 0 + 0 ≤ _), (by decide : 0 + 0 ≤ _)⟩)
  dsimp only [Pt.U, Pt.locs, Pt.cells, Pt.slots] at X1 l1 y1 z1 st1 hQ1
  subst l1 y1 z1
  obtain ⟨rfl, N1q, e1⟩ := hQ1
  have N1 := Fr.app N0 N1q
  obtain ⟨T2, h2, k2, X2, e2, E2, A2, st2⟩ := newP X1 hx hZ (ww hw 22 rfl) e1 (g := (mkF m 10 #[.val (.ref vb), .val (.int (0 : Int32)), .val (.int (Int32.ofNat ys.length)), .val (.int (Int32.ofNat ys.length)), .unset] [(.int (Int32.ofNat ys.length))])) rfl (hb hby d31_10) rfl (own_nn0 hc) (cap := 16) (by rw [(own_n _ (by omega)).2]; omega) (by decide) (by decide) (by decide)
  obtain ⟨b2, q2⟩ : ∃ z, z = h0.size := ⟨_, rfl⟩
  rw [← q2] at A2 st2
  have g_b2 : n0 ≤ b2 := by rw [q2]; exact (O0).1 ▸ (O0).2.1
  have ne_vb_b2 : vb ≠ b2 := by rw [q2]; exact Nat.ne_of_lt Kb.lt
  have sz_b2 : h0.size ≤ b2 := by rw [q2]; exact ((Keep.refl h0 [])).1
  have O2 := Old.ext O0 E2
  have K2 := Keep.ext (Keep.refl h0 []) E2
  have V2 : Arv Z h2 b2 k2 .byte (Int32.ofNat ys.length) [] (.int (0 : Int32)) := Arv.new A2 (own_nn0 hc)
  obtain ⟨cl, Ar, qk, Sz, Mz, Hz, Uz⟩ := id (Kb.ext E2)
  obtain ⟨_, _, ⟨T3, L3, k3, n3⟩, -, X3, ⟨Lc3, hQ3, l3, y3, z3⟩, st3⟩ := Jvm.LawKit.callS X2 hx (y := (⟨"java/lang/Math", "min", "(II)I"⟩ : MethodName)) hown (mvT hZ (ww hw 209 rfl)) (mvT hZ (ww hw 210 rfl)) (mvT hZ (ww hw 211 rfl)) (mvT hZ (ww hw 212 rfl)) (by decide) (backOf (W := 4) (rmMi l Z a0 hw [] ys h2 n0 hc) hZ (ww hw 212 rfl) (ww hw 211 rfl) (by decide) (by decide)) (g := (mkF m 24 #[.val (.ref vb), .val (.int (0 : Int32)), .val (.int (Int32.ofNat ys.length)), .val (.int (Int32.ofNat ys.length)), .val (.ref b2)] [(.int (Int32.ofNat ys.length)), (.int (Int32.ofNat 16)), (.int (0 : Int32)), (.ref b2), (.int (0 : Int32)), (.ref vb)])) rfl (by rw [hml]; rfl) (argsL := [(.int (Int32.ofNat 16)), (.int (Int32.ofNat ys.length))]) (rest := [(.int (0 : Int32)), (.ref b2), (.int (0 : Int32)), (.ref vb)]) (lenOf own_pd8 rfl) rfl (by show 2 * 0 + _ ≤ _; exact Nat.le_of_eq rfl) (hb hby d31_24) (fun _ _ => ⟨rfl, e2, (by decide : 1 + 0 ≤ _), (by decide : 16 + 0 ≤ _)⟩)
  dsimp only [Pt.U, Pt.locs, Pt.cells, Pt.slots] at X3 l3 y3 z3 st3 hQ3
  subst l3 y3 z3
  obtain ⟨rfl, N3q, e3⟩ := hQ3
  have N3 := Fr.app N1 N3q
  obtain ⟨T4, h4, L4, X4, e4, N4, KK4, V4, st4⟩ := own_cp X3 hx hZ hown (ww hw 213 rfl) (ww hw 156 rfl) (ww hw 154 rfl) (ww hw 155 rfl) e3 (M := ys.length) (Kb.ext E2) V2 (by rw [own_bl]; exact Nat.le_of_lt hc) (by omega) (by rw [own_bl]; simp) rfl (by rw [own_bl]) N3 g_b2 (g := (mkF m 27 #[.val (.ref vb), .val (.int (0 : Int32)), .val (.int (Int32.ofNat ys.length)), .val (.int (Int32.ofNat ys.length)), .val (.ref b2)] [(.int (Int32.ofNat ys.length)), (.int (0 : Int32)), (.ref b2), (.int (0 : Int32)), (.ref vb)])) rfl (by rw [hml]; rfl) rfl (hb hby d31_27) (by decide) (W := 0) (by show 2 * 0 + _ ≤ _; exact Nat.le_of_eq rfl) (by decide)
  have O4 := Old.keep O2 KK4 (allS g_b2 all0)
  have K4 := Keep.trans K2 KK4 (allS (Or.inr sz_b2) all0)
  obtain ⟨fs, hr, hrun, hended, hW, hsame⟩ := X4.leave (v := some (.ref b2)) (fun h => by rw [Bd.returns] at h; cases h)
  refine ⟨_, _, pre0 _ ?_, hrun, hended, _, _, rfl, ?_, ⟨_, rfl⟩, hW, hsame.mono (by decide) (by decide)⟩
  · show Steps p.tables e below (s₁.setTop (mkF m 0 #[.val (.ref vb), .val (.int (0 : Int32)), .val (.int (Int32.ofNat ys.length)), .unset, .unset] [])) _
    refine XS.iloadN X0.here hx rfl (hb hby d31_0) rfl ?_
    show Steps p.tables e below (s₁.setTop (mkF m 1 #[.val (.ref vb), .val (.int (0 : Int32)), .val (.int (Int32.ofNat ys.length)), .unset, .unset] [(.int (0 : Int32))])) _
    refine XS.iloadN X0.here hx rfl (hb hby d31_1) rfl ?_
    show Steps p.tables e below (s₁.setTop (mkF m 2 #[.val (.ref vb), .val (.int (0 : Int32)), .val (.int (Int32.ofNat ys.length)), .unset, .unset] [(.int (Int32.ofNat ys.length)), (.int (0 : Int32))])) _
    refine st1 _ ?_
    show Steps p.tables e below (T1.setTop (mkF m 5 #[.val (.ref vb), .val (.int (0 : Int32)), .val (.int (Int32.ofNat ys.length)), .unset, .unset] [])) _
    refine XS.iloadN X1.here hx rfl (hb hby d31_5) rfl ?_
    show Steps p.tables e below (T1.setTop (mkF m 6 #[.val (.ref vb), .val (.int (0 : Int32)), .val (.int (Int32.ofNat ys.length)), .unset, .unset] [(.int (Int32.ofNat ys.length))])) _
    refine XS.iloadN X1.here hx rfl (hb hby d31_6) rfl ?_
    show Steps p.tables e below (T1.setTop (mkF m 7 #[.val (.ref vb), .val (.int (0 : Int32)), .val (.int (Int32.ofNat ys.length)), .unset, .unset] [(.int (0 : Int32)), (.int (Int32.ofNat ys.length))])) _
    refine XS.isub X1.here hx rfl (hb hby d31_7) rfl ?_
    rw [own_sub0]
    show Steps p.tables e below (T1.setTop (mkF m 8 #[.val (.ref vb), .val (.int (0 : Int32)), .val (.int (Int32.ofNat ys.length)), .unset, .unset] [(.int (Int32.ofNat ys.length))])) _
    refine XS.istoreN X1.here hx rfl (hb hby d31_8) rfl (l' := #[.val (.ref vb), .val (.int (0 : Int32)), .val (.int (Int32.ofNat ys.length)), .val (.int (Int32.ofNat ys.length)), .unset]) rfl ?_
    show Steps p.tables e below (T1.setTop (mkF m 9 #[.val (.ref vb), .val (.int (0 : Int32)), .val (.int (Int32.ofNat ys.length)), .val (.int (Int32.ofNat ys.length)), .unset] [])) _
    refine XS.iloadN X1.here hx rfl (hb hby d31_9) rfl ?_
    show Steps p.tables e below (T1.setTop (mkF m 10 #[.val (.ref vb), .val (.int (0 : Int32)), .val (.int (Int32.ofNat ys.length)), .val (.int (Int32.ofNat ys.length)), .unset] [(.int (Int32.ofNat ys.length))])) _
    refine st2 _ ?_
    show Steps p.tables e below (T2.setTop (mkF m 12 #[.val (.ref vb), .val (.int (0 : Int32)), .val (.int (Int32.ofNat ys.length)), .val (.int (Int32.ofNat ys.length)), .unset] [(.ref b2)])) _
    refine XS.astore X2.here hx rfl (hb hby d31_12) rfl rfl (l' := #[.val (.ref vb), .val (.int (0 : Int32)), .val (.int (Int32.ofNat ys.length)), .val (.int (Int32.ofNat ys.length)), .val (.ref b2)]) rfl ?_
    show Steps p.tables e below (T2.setTop (mkF m 14 #[.val (.ref vb), .val (.int (0 : Int32)), .val (.int (Int32.ofNat ys.length)), .val (.int (Int32.ofNat ys.length)), .val (.ref b2)] [])) _
    refine XS.aloadN X2.here hx rfl (hb hby d31_14) rfl rfl ?_
    show Steps p.tables e below (T2.setTop (mkF m 15 #[.val (.ref vb), .val (.int (0 : Int32)), .val (.int (Int32.ofNat ys.length)), .val (.int (Int32.ofNat ys.length)), .val (.ref b2)] [(.ref vb)])) _
    refine XS.iloadN X2.here hx rfl (hb hby d31_15) rfl ?_
    show Steps p.tables e below (T2.setTop (mkF m 16 #[.val (.ref vb), .val (.int (0 : Int32)), .val (.int (Int32.ofNat ys.length)), .val (.int (Int32.ofNat ys.length)), .val (.ref b2)] [(.int (0 : Int32)), (.ref vb)])) _
    refine XS.aload X2.here hx rfl (hb hby d31_16) rfl rfl ?_
    show Steps p.tables e below (T2.setTop (mkF m 18 #[.val (.ref vb), .val (.int (0 : Int32)), .val (.int (Int32.ofNat ys.length)), .val (.int (Int32.ofNat ys.length)), .val (.ref b2)] [(.ref b2), (.int (0 : Int32)), (.ref vb)])) _
    refine XS.iconst X2.here hx rfl (hb hby d31_18) ?_
    show Steps p.tables e below (T2.setTop (mkF m 19 #[.val (.ref vb), .val (.int (0 : Int32)), .val (.int (Int32.ofNat ys.length)), .val (.int (Int32.ofNat ys.length)), .val (.ref b2)] [(.int (0 : Int32)), (.ref b2), (.int (0 : Int32)), (.ref vb)])) _
    refine XS.aloadN X2.here hx rfl (hb hby d31_19) rfl rfl ?_
    show Steps p.tables e below (T2.setTop (mkF m 20 #[.val (.ref vb), .val (.int (0 : Int32)), .val (.int (Int32.ofNat ys.length)), .val (.int (Int32.ofNat ys.length)), .val (.ref b2)] [(.ref vb), (.int (0 : Int32)), (.ref b2), (.int (0 : Int32)), (.ref vb)])) _
    refine X2.arraylength hx (by rw [e2]; exact Ar.1) (State.isArrayOf_alike hZ.alike Ar.2.1) (g := (mkF m 20 #[.val (.ref vb), .val (.int (0 : Int32)), .val (.int (Int32.ofNat ys.length)), .val (.int (Int32.ofNat ys.length)), .val (.ref b2)] [(.ref vb), (.int (0 : Int32)), (.ref b2), (.int (0 : Int32)), (.ref vb)])) rfl rfl (hb hby d31_20) _ ?_
    rw [len_of Sz Mz]
    show Steps p.tables e below (T2.setTop (mkF m 21 #[.val (.ref vb), .val (.int (0 : Int32)), .val (.int (Int32.ofNat ys.length)), .val (.int (Int32.ofNat ys.length)), .val (.ref b2)] [(.int (Int32.ofNat 16)), (.int (0 : Int32)), (.ref b2), (.int (0 : Int32)), (.ref vb)])) _
    refine XS.iloadN X2.here hx rfl (hb hby d31_21) rfl ?_
    show Steps p.tables e below (T2.setTop (mkF m 22 #[.val (.ref vb), .val (.int (0 : Int32)), .val (.int (Int32.ofNat ys.length)), .val (.int (Int32.ofNat ys.length)), .val (.ref b2)] [(.int (0 : Int32)), (.int (Int32.ofNat 16)), (.int (0 : Int32)), (.ref b2), (.int (0 : Int32)), (.ref vb)])) _
    refine XS.isub X2.here hx rfl (hb hby d31_22) rfl ?_
    rw [own_sub0]
    show Steps p.tables e below (T2.setTop (mkF m 23 #[.val (.ref vb), .val (.int (0 : Int32)), .val (.int (Int32.ofNat ys.length)), .val (.int (Int32.ofNat ys.length)), .val (.ref b2)] [(.int (Int32.ofNat 16)), (.int (0 : Int32)), (.ref b2), (.int (0 : Int32)), (.ref vb)])) _
    refine XS.iloadN X2.here hx rfl (hb hby d31_23) rfl ?_
    show Steps p.tables e below (T2.setTop (mkF m 24 #[.val (.ref vb), .val (.int (0 : Int32)), .val (.int (Int32.ofNat ys.length)), .val (.int (Int32.ofNat ys.length)), .val (.ref b2)] [(.int (Int32.ofNat ys.length)), (.int (Int32.ofNat 16)), (.int (0 : Int32)), (.ref b2), (.int (0 : Int32)), (.ref vb)])) _
    refine st3 _ ?_
    show Steps p.tables e below (T3.setTop (mkF m 27 #[.val (.ref vb), .val (.int (0 : Int32)), .val (.int (Int32.ofNat ys.length)), .val (.int (Int32.ofNat ys.length)), .val (.ref b2)] [(.int (Int32.ofNat ys.length)), (.int (0 : Int32)), (.ref b2), (.int (0 : Int32)), (.ref vb)])) _
    refine st4 _ ?_
    show Steps p.tables e below (T4.setTop (mkF m 30 #[.val (.ref vb), .val (.int (0 : Int32)), .val (.int (Int32.ofNat ys.length)), .val (.int (Int32.ofNat ys.length)), .val (.ref b2)] [])) _
    refine XS.aload X4.here hx rfl (hb hby d31_30) rfl rfl ?_
    show Steps p.tables e below (T4.setTop (mkF m 32 #[.val (.ref vb), .val (.int (0 : Int32)), .val (.int (Int32.ofNat ys.length)), .val (.int (Int32.ofNat ys.length)), .val (.ref b2)] [(.ref b2)])) _
    exact retOut X4 hx Bd.returns rfl (Or.inr (Or.inr (Or.inr (Or.inr ⟨rfl, rfl, rfl⟩)))) (hb hby d31_32) hr
  · show Qd11 Z vb kv ys h0 n0 _ T4.heap _
    rw [e4]
    exact ⟨b2, k2, rfl, N4, K4, sz_b2, g_b2, V4⟩
theorem d30_0 : decode jdk_65_method_132_code 0 = .ok (.iload_n 1, 1) := by decide +kernel
theorem d30_1 : decode jdk_65_method_132_code 1 = .ok (.ifCond .ne 9, 3) := by decide +kernel
theorem d30_4 : decode jdk_65_method_132_code 4 = .ok (.iload_n 2, 1) := by decide +kernel
theorem d30_5 : decode jdk_65_method_132_code 5 = .ok (.aload_n 0, 1) := by decide +kernel
theorem d30_6 : decode jdk_65_method_132_code 6 = .ok (.arraylength, 1) := by decide +kernel
theorem d30_7 : decode jdk_65_method_132_code 7 = .ok (.if_icmp .eq 10, 3) := by decide +kernel
theorem d30_10 : decode jdk_65_method_132_code 10 = .ok (.aload_n 0, 1) := by decide +kernel
theorem d30_11 : decode jdk_65_method_132_code 11 = .ok (.iload_n 1, 1) := by decide +kernel
theorem d30_12 : decode jdk_65_method_132_code 12 = .ok (.iload_n 2, 1) := by decide +kernel
theorem d30_13 : decode jdk_65_method_132_code 13 = .ok (.invokestatic 339, 3) := by decide +kernel
theorem own_pd9 : parseMethodDescriptor "([BII)[B" = some ⟨[(.array .byte), .int, .int], some (.array .byte)⟩ := by decide +kernel
theorem d30_16 : decode jdk_65_method_132_code 16 = .ok (.areturn, 1) := by decide +kernel
theorem ef_30 (m : MethodId) (x0 : Addr) (x1 : Int32) (x2 : Int32) : entryFrame m #[(.ref x0), (.int x1), (.int x2)] 3 = mkF m 0 #[.val (.ref x0), .val (.int x1), .val (.int x2)] [] := by first | (simp [entryFrame, mkF, argsToLocals, Value.category]; done) | rfl
theorem pn_30 : plainName "java/util/Arrays" = true := by first | (simp [plainName, overriddenIn]; done) | decide +kernel
set_option maxRecDepth 65536 in
set_option maxHeartbeats 40000000 in
theorem rmCR (l : Launch) (Z : State) (a0 : Array Value) (hw : ∀ d ∈ tables_1, d.before a0 Z = true) (ws : List Jvm.Cond) (vb : Addr) (kv : ClassId) (ys : List Int32) (h0 : Heap) (n0 : Nat) (O0 : Old Z n0 h0) (Kb : Arv Z h0 vb kv .byte (Int32.ofNat 16) (((ys).map StrChars.lo8).map Value.int) (.int 0)) (hc : ys.length < 16) :
    MetFree l (⟨"java/util/Arrays", "copyOfRange", "([BII)[B"⟩ : MethodName) (head1 (Jvm.Cond.code (⟨"java/util/Arrays", "copyOfRange", "([BII)[B"⟩ : MethodName) jdk_65_method_132_code 3 (some (.array .byte)) :: ws) ({ frames := 2, cells := 1, slots := 16, locals := 34 } : Room)) (fun qq U => qq = #[(.ref vb), (.int (0 : Int32)), (.int (Int32.ofNat ys.length))] ∧ Z.Warmed39 U.vm ∧ U.heap = h0) (fun _ _ _ _ _ => True) (fun _ UU oo UU' => ∃ vv LL, oo = .returned vv ∧ Qd11 Z vb kv ys h0 n0 vv UU'.heap LL ∧ FrameEnd UU oo UU' LL ({ frames := 2, cells := 1, slots := 16, locals := 34 } : Room).cells ({ frames := 2, cells := 1, slots := 16, locals := 34 } : Room).slots) := by
  refine MetFree.of_bodySF (plainFor_of_name pn_30) hisR ?_
  intro p e s m args below meth c s₁ Bd hml0 hP hK
  obtain ⟨rfl, hZ, hh⟩ := hP
  have hx := Bd.exec
  have hby := Bd.bytes
  have hml : c.maxLocals = 3 := hml0
  have hown : s.vm.findClass "java/util/Arrays" = some m.cls := findClass_of_methodNamed Bd.named
  have hnm := (name_of_methodNamed Bd.named Bd.method).1
  have X0 : Stand p l e ({ frames := 2, cells := 1, slots := 16, locals := 34 } : Room) s m #[(.ref vb), (.int (0 : Int32)), (.int (Int32.ofNat ys.length))] below meth c s₁ [] 0 0 := Stand.of_body Bd
  have e0 : s₁.heap = h0 := by rw [← hh, Bd.state]; rfl
  have N0 := Fr.nil n0
  have pre0 : ∀ tgt, Steps p.tables e below (s₁.setTop (mkF m 0 #[.val (.ref vb), .val (.int (0 : Int32)), .val (.int (Int32.ofNat ys.length))] [])) tgt → Steps p.tables e below (s₁.setTop (entryFrame m #[(.ref vb), (.int (0 : Int32)), (.int (Int32.ofNat ys.length))] 3)) tgt := fun tt kk => castTop (ef_30 m vb (0 : Int32) (Int32.ofNat ys.length)) kk
  obtain ⟨cl, Ar, qk, Sz, Mz, Hz, Uz⟩ := id Kb
  obtain ⟨_, _, ⟨T1, L1, k1, n1⟩, -, X1, ⟨Lc1, hQ1, l1, y1, z1⟩, st1⟩ := Jvm.LawKit.callS X0 hx (y := (⟨"java/util/Arrays", "copyOfRangeByte", "([BII)[B"⟩ : MethodName)) hown (mvT hZ (ww hw 203 rfl)) (mvT hZ (ww hw 204 rfl)) (mvT hZ (ww hw 201 rfl)) (mvT hZ (ww hw 205 rfl)) (by decide) (backOf (W := 0) (rmCB l Z a0 hw [] vb kv ys h0 n0 O0 Kb hc) hZ (ww hw 205 rfl) (ww hw 201 rfl) (by decide) (by decide)) (g := (mkF m 13 #[.val (.ref vb), .val (.int (0 : Int32)), .val (.int (Int32.ofNat ys.length))] [(.int (Int32.ofNat ys.length)), (.int (0 : Int32)), (.ref vb)])) rfl (by rw [hml]; rfl) (argsL := [(.ref vb), (.int (0 : Int32)), (.int (Int32.ofNat ys.length))]) (rest := []) (lenOf own_pd9 rfl) rfl (by show 2 * 0 + _ ≤ _; exact Nat.le_of_eq rfl) (hb hby d30_13) (fun _ _ => ⟨rfl, e0, (by decide : 0 + 1 ≤ _), (by decide : 0 + 16 ≤ _)⟩)
  dsimp only [Pt.U, Pt.locs, Pt.cells, Pt.slots] at X1 l1 y1 z1 st1 hQ1
  subst l1 y1 z1
  obtain ⟨nb, kn, rfl, N1q, KK1, szn, gn, fK⟩ := hQ1
  have N1 := Fr.app N0 N1q
  have O1 := Old.keep O0 KK1 all0
  have K1 := Keep.trans (Keep.refl h0 []) KK1 all0
  obtain ⟨fs, hr, hrun, hended, hW, hsame⟩ := X1.leave (v := some (.ref nb)) (fun h => by rw [Bd.returns] at h; cases h)
  refine ⟨_, _, pre0 _ ?_, hrun, hended, _, _, rfl, ?_, ⟨_, rfl⟩, hW, hsame.mono (by decide) (by decide)⟩
  · show Steps p.tables e below (s₁.setTop (mkF m 0 #[.val (.ref vb), .val (.int (0 : Int32)), .val (.int (Int32.ofNat ys.length))] [])) _
    refine XS.iloadN X0.here hx rfl (hb hby d30_0) rfl ?_
    show Steps p.tables e below (s₁.setTop (mkF m 1 #[.val (.ref vb), .val (.int (0 : Int32)), .val (.int (Int32.ofNat ys.length))] [(.int (0 : Int32))])) _
    refine XS.ifNo X0.here hx rfl (hb hby d30_1) rfl ((if0 _ _).trans (teq (rfl : (0 : Int32) = (0 : Int32))).2) ?_
    show Steps p.tables e below (s₁.setTop (mkF m 4 #[.val (.ref vb), .val (.int (0 : Int32)), .val (.int (Int32.ofNat ys.length))] [])) _
    refine XS.iloadN X0.here hx rfl (hb hby d30_4) rfl ?_
    show Steps p.tables e below (s₁.setTop (mkF m 5 #[.val (.ref vb), .val (.int (0 : Int32)), .val (.int (Int32.ofNat ys.length))] [(.int (Int32.ofNat ys.length))])) _
    refine XS.aloadN X0.here hx rfl (hb hby d30_5) rfl rfl ?_
    show Steps p.tables e below (s₁.setTop (mkF m 6 #[.val (.ref vb), .val (.int (0 : Int32)), .val (.int (Int32.ofNat ys.length))] [(.ref vb), (.int (Int32.ofNat ys.length))])) _
    refine X0.arraylength hx (by rw [e0]; exact Ar.1) (State.isArrayOf_alike hZ.alike Ar.2.1) (g := (mkF m 6 #[.val (.ref vb), .val (.int (0 : Int32)), .val (.int (Int32.ofNat ys.length))] [(.ref vb), (.int (Int32.ofNat ys.length))])) rfl rfl (hb hby d30_6) _ ?_
    rw [len_of Sz Mz]
    show Steps p.tables e below (s₁.setTop (mkF m 7 #[.val (.ref vb), .val (.int (0 : Int32)), .val (.int (Int32.ofNat ys.length))] [(.int (Int32.ofNat 16)), (.int (Int32.ofNat ys.length))])) _
    refine XS.icmpNo X0.here hx rfl (hb hby d30_7) rfl (feq (own_ne16 hc : ¬ ((Int32.ofNat ys.length) = (Int32.ofNat 16)))).1 ?_
    show Steps p.tables e below (s₁.setTop (mkF m 10 #[.val (.ref vb), .val (.int (0 : Int32)), .val (.int (Int32.ofNat ys.length))] [])) _
    refine XS.aloadN X0.here hx rfl (hb hby d30_10) rfl rfl ?_
    show Steps p.tables e below (s₁.setTop (mkF m 11 #[.val (.ref vb), .val (.int (0 : Int32)), .val (.int (Int32.ofNat ys.length))] [(.ref vb)])) _
    refine XS.iloadN X0.here hx rfl (hb hby d30_11) rfl ?_
    show Steps p.tables e below (s₁.setTop (mkF m 12 #[.val (.ref vb), .val (.int (0 : Int32)), .val (.int (Int32.ofNat ys.length))] [(.int (0 : Int32)), (.ref vb)])) _
    refine XS.iloadN X0.here hx rfl (hb hby d30_12) rfl ?_
    show Steps p.tables e below (s₁.setTop (mkF m 13 #[.val (.ref vb), .val (.int (0 : Int32)), .val (.int (Int32.ofNat ys.length))] [(.int (Int32.ofNat ys.length)), (.int (0 : Int32)), (.ref vb)])) _
    refine st1 _ ?_
    show Steps p.tables e below (T1.setTop (mkF m 16 #[.val (.ref vb), .val (.int (0 : Int32)), .val (.int (Int32.ofNat ys.length))] [(.ref nb)])) _
    exact retOut X1 hx Bd.returns rfl (Or.inr (Or.inr (Or.inr (Or.inr ⟨rfl, rfl, rfl⟩)))) (hb hby d30_16) hr
  · show Qd11 Z vb kv ys h0 n0 _ T1.heap _
    exact ⟨nb, kn, rfl, N1, K1, szn, gn, fK⟩
theorem d25_0 : decode jdk_42_method_150_code 0 = .ok (.aload_n 0, 1) := by decide +kernel
theorem d25_1 : decode jdk_42_method_150_code 1 = .ok (.invokespecial 1, 3) := by decide +kernel
theorem d25_4 : decode jdk_42_method_150_code 4 = .ok (.aload_n 1, 1) := by decide +kernel
theorem d25_5 : decode jdk_42_method_150_code 5 = .ok (.invokevirtual 552, 3) := by decide +kernel
theorem own_pd10 : parseMethodDescriptor "()[B" = some ⟨[], some (.array .byte)⟩ := by decide +kernel
theorem d25_8 : decode jdk_42_method_150_code 8 = .ok (.astore_n 3, 1) := by decide +kernel
theorem d25_9 : decode jdk_42_method_150_code 9 = .ok (.aload_n 1, 1) := by decide +kernel
theorem d25_10 : decode jdk_42_method_150_code 10 = .ok (.invokevirtual 549, 3) := by decide +kernel
theorem d25_13 : decode jdk_42_method_150_code 13 = .ok (.istore 4, 2) := by decide +kernel
theorem d25_15 : decode jdk_42_method_150_code 15 = .ok (.aload_n 1, 1) := by decide +kernel
theorem d25_16 : decode jdk_42_method_150_code 16 = .ok (.invokevirtual 1047, 3) := by decide +kernel
theorem own_pd11 : parseMethodDescriptor "()Z" = some ⟨[], some .boolean⟩ := by decide +kernel
theorem d25_19 : decode jdk_42_method_150_code 19 = .ok (.ifCond .eq 22, 3) := by decide +kernel
theorem d25_22 : decode jdk_42_method_150_code 22 = .ok (.aload_n 0, 1) := by decide +kernel
theorem d25_23 : decode jdk_42_method_150_code 23 = .ok (.iconst 0, 1) := by decide +kernel
theorem d25_24 : decode jdk_42_method_150_code 24 = .ok (.putfield 15, 3) := by decide +kernel
theorem d25_27 : decode jdk_42_method_150_code 27 = .ok (.aload_n 0, 1) := by decide +kernel
theorem d25_28 : decode jdk_42_method_150_code 28 = .ok (.aload_n 3, 1) := by decide +kernel
theorem d25_29 : decode jdk_42_method_150_code 29 = .ok (.iconst 0, 1) := by decide +kernel
theorem d25_30 : decode jdk_42_method_150_code 30 = .ok (.iload 4, 2) := by decide +kernel
theorem d25_32 : decode jdk_42_method_150_code 32 = .ok (.invokestatic 54, 3) := by decide +kernel
theorem d25_35 : decode jdk_42_method_150_code 35 = .ok (.putfield 9, 3) := by decide +kernel
theorem d25_38 : decode jdk_42_method_150_code 38 = .ok (.goto 59, 3) := by decide +kernel
theorem d25_97 : decode jdk_42_method_150_code 97 = .ok (.return_, 1) := by decide +kernel
theorem ef_25n (m : MethodId) (x0 : Addr) (x1 : Addr) : entryFrame m #[(.ref x0), (.ref x1), .null] 5 = mkF m 0 #[.val (.ref x0), .val (.ref x1), .val .null, .unset, .unset] [] := by first | (simp [entryFrame, mkF, argsToLocals, Value.category]; done) | rfl
theorem pn_25 : plainName "java/lang/String" = true := by first | (simp [plainName, overriddenIn]; done) | decide +kernel
def Qd12 (Z : State) (sb vb xs : Addr) (kv : ClassId) (ys : List Int32) (z : Int32) (h0 : Heap) (n0 : Nat) (v : Option Value) (h : Heap) (L : List Loc) : Prop := ∃ nb kn, v = none ∧ Fr n0 L ∧ Keep h0 h [xs] ∧ h0.size ≤ nb ∧ Exa Z h xs "java/lang/String" ∧ Fld Z h xs "java/lang/String" "value" "[B" (.ref nb) ∧ Fld Z h xs "java/lang/String" "coder" "B" (.int 0) ∧ Arv Z h nb kn .byte (Int32.ofNat (ys).length) (((ys).map StrChars.lo8).map Value.int) (.int 0)
set_option maxRecDepth 65536 in
set_option maxHeartbeats 40000000 in
theorem rmSA (l : Launch) (Z : State) (a0 : Array Value) (hw : ∀ d ∈ tables_1, d.before a0 Z = true) (ws : List Jvm.Cond) (sb vb xs : Addr) (kv : ClassId) (ys : List Int32) (z : Int32) (h0 : Heap) (n0 : Nat) (O0 : Old Z n0 h0) (Eb : Exa Z h0 sb "java/lang/StringBuilder") (Vb : Fld Z h0 sb "java/lang/AbstractStringBuilder" "value" "[B" (.ref vb)) (Cb : Fld Z h0 sb "java/lang/AbstractStringBuilder" "coder" "B" (.int (0 : Int32))) (Nb : Fld Z h0 sb "java/lang/AbstractStringBuilder" "count" "I" (.int (Int32.ofNat (ys).length))) (Kb : Arv Z h0 vb kv .byte (Int32.ofNat 16) (((ys).map StrChars.lo8).map Value.int) (.int 0)) (SC : Sta Z Z.heap "java/lang/String" "COMPACT_STRINGS" "Z" (.int z)) (hz : ¬ z = 0) (hc : ys.length < 16) (gx : n0 ≤ xs) (Ex : Exa Z h0 xs "java/lang/String") (Fv : Fld Z h0 xs "java/lang/String" "value" "[B" .null) (Fc : Fld Z h0 xs "java/lang/String" "coder" "B" (.int (0 : Int32))) (hxv : vb ≠ xs) (hxs : sb ≠ xs) :
    MetFree l (⟨"java/lang/String", "<init>", "(Ljava/lang/AbstractStringBuilder;Ljava/lang/Void;)V"⟩ : MethodName) (head1 (Jvm.Cond.code (⟨"java/lang/String", "<init>", "(Ljava/lang/AbstractStringBuilder;Ljava/lang/Void;)V"⟩ : MethodName) jdk_42_method_150_code 5 none :: ws) ({ frames := 3, cells := 1, slots := 16, locals := 49 } : Room)) (fun qq U => qq = #[(.ref xs), (.ref sb), .null] ∧ Z.Warmed39 U.vm ∧ U.heap = h0) (fun _ _ _ _ _ => True) (fun _ UU oo UU' => ∃ vv LL, oo = .returned vv ∧ Qd12 Z sb vb xs kv ys z h0 n0 vv UU'.heap LL ∧ FrameEnd UU oo UU' LL ({ frames := 3, cells := 1, slots := 16, locals := 49 } : Room).cells ({ frames := 3, cells := 1, slots := 16, locals := 49 } : Room).slots) := by
  refine MetFree.of_bodySF (plainFor_of_name pn_25) hisR ?_
  intro p e s m args below meth c s₁ Bd hml0 hP hK
  obtain ⟨rfl, hZ, hh⟩ := hP
  have hx := Bd.exec
  have hby := Bd.bytes
  have hml : c.maxLocals = 5 := hml0
  have hown : s.vm.findClass "java/lang/String" = some m.cls := findClass_of_methodNamed Bd.named
  have hnm := (name_of_methodNamed Bd.named Bd.method).1
  have X0 : Stand p l e ({ frames := 3, cells := 1, slots := 16, locals := 49 } : Room) s m #[(.ref xs), (.ref sb), .null] below meth c s₁ [] 0 0 := Stand.of_body Bd
  have e0 : s₁.heap = h0 := by rw [← hh, Bd.state]; rfl
  have N0 := Fr.nil n0
  have pre0 : ∀ tgt, Steps p.tables e below (s₁.setTop (mkF m 0 #[.val (.ref xs), .val (.ref sb), .val .null, .unset, .unset] [])) tgt → Steps p.tables e below (s₁.setTop (entryFrame m #[(.ref xs), (.ref sb), .null] 5)) tgt := fun tt kk => castTop (ef_25n m xs sb) kk
  obtain ⟨T1, X1, e1, st1⟩ := initO X0 hx hZ hown (ww hw 18 rfl) (ww hw 19 rfl) (ww hw 20 rfl) e0 (g := (mkF m 1 #[.val (.ref xs), .val (.ref sb), .val .null, .unset, .unset] [(.ref xs)])) rfl (by rw [hml]; rfl) rfl (hb hby d25_1) (by decide) (W := 0) (by show 2 * 0 + _ ≤ _; exact Nat.le_of_eq rfl) (by decide)
  obtain ⟨cq2, kq2, q2a, q2b, q2c⟩ := isOf hZ e1 Eb
  obtain ⟨_, _, ⟨T2, L2, k2, n2⟩, -, X2, ⟨Lc2, hQ2, l2, y2, z2⟩, st2⟩ := X1.virtualBack hx (y := (⟨"java/lang/AbstractStringBuilder", "getValue", "()[B"⟩ : MethodName)) (z := (⟨"java/lang/AbstractStringBuilder", "getValue", "()[B"⟩ : MethodName)) hown (mvT hZ (ww hw 181 rfl)) (mvT hZ (ww hw 182 rfl)) (notFace_of_selects (args := #[]) (mvT hZ (ww hw 184 rfl))) (mvT hZ (ww hw 184 rfl)) (mvT hZ (ww hw 183 rfl)) (by decide) (backOf (W := 0) (rmGV l Z a0 hw [] sb vb kv ys z h0 n0 O0 Eb Vb Cb Nb Kb SC hz hc) hZ (ww hw 185 rfl) (ww hw 100 rfl) (by decide) (by decide)) q2a q2c (g := (mkF m 5 #[.val (.ref xs), .val (.ref sb), .val .null, .unset, .unset] [(.ref sb)])) rfl (by rw [hml]; rfl) (Steps.refl _) (argsL := []) (rest := []) (lenOf own_pd10 rfl) rfl (by show 2 * 0 + _ ≤ _; exact Nat.le_of_eq rfl) (hb hby d25_5) (fun _ _ => ⟨rfl, e1, (by decide : 0 + 0 ≤ _), (by decide : 0 + 0 ≤ _)⟩)
  dsimp only [Pt.U, Pt.locs, Pt.cells, Pt.slots] at X2 l2 y2 z2 st2 hQ2
  subst l2 y2 z2
  obtain ⟨rfl, N2q, e2⟩ := hQ2
  have N2 := Fr.app N0 N2q
  obtain ⟨cq3, kq3, q3a, q3b, q3c⟩ := isOf hZ e2 Eb
  obtain ⟨_, _, ⟨T3, L3, k3, n3⟩, -, X3, ⟨Lc3, hQ3, l3, y3, z3⟩, st3⟩ := X2.virtualBack hx (y := (⟨"java/lang/AbstractStringBuilder", "length", "()I"⟩ : MethodName)) (z := (⟨"java/lang/StringBuilder", "length", "()I"⟩ : MethodName)) hown (mvT hZ (ww hw 186 rfl)) (mvT hZ (ww hw 187 rfl)) (own_nf2 (y1 := (⟨"java/lang/AbstractStringBuilder", "getValue", "()[B"⟩ : MethodName)) (a0 := #[]) (notFace_of_selects (args := #[]) (mvT hZ (ww hw 184 rfl))) (mvT hZ (ww hw 182 rfl)) rfl) (mvT hZ (ww hw 189 rfl)) (mvT hZ (ww hw 190 rfl)) (by decide) (backOf (W := 0) (rmBL l Z a0 hw [] sb vb kv ys z h0 n0 O0 Eb Vb Cb Nb Kb SC hz hc) hZ (ww hw 191 rfl) (ww hw 92 rfl) (by decide) (by decide)) q3a q3c (g := (mkF m 10 #[.val (.ref xs), .val (.ref sb), .val .null, .val (.ref vb), .unset] [(.ref sb)])) rfl (by rw [hml]; rfl) (Steps.refl _) (argsL := []) (rest := []) (lenOf own_pd4 rfl) rfl (by show 2 * 0 + _ ≤ _; exact Nat.le_of_eq rfl) (hb hby d25_10) (fun _ _ => ⟨rfl, e2, (by decide : 0 + 0 ≤ _), (by decide : 0 + 0 ≤ _)⟩)
  dsimp only [Pt.U, Pt.locs, Pt.cells, Pt.slots] at X3 l3 y3 z3 st3 hQ3
  subst l3 y3 z3
  obtain ⟨rfl, N3q, e3⟩ := hQ3
  have N3 := Fr.app N2 N3q
  obtain ⟨cq4, kq4, q4a, q4b, q4c⟩ := isOf hZ e3 Eb
  obtain ⟨_, _, ⟨T4, L4, k4, n4⟩, -, X4, ⟨Lc4, hQ4, l4, y4, z4⟩, st4⟩ := X3.virtualBack hx (y := (⟨"java/lang/AbstractStringBuilder", "isLatin1", "()Z"⟩ : MethodName)) (z := (⟨"java/lang/AbstractStringBuilder", "isLatin1", "()Z"⟩ : MethodName)) hown (mvT hZ (ww hw 194 rfl)) (mvT hZ (ww hw 195 rfl)) (notFace_of_selects (args := #[]) (mvT hZ (ww hw 197 rfl))) (mvT hZ (ww hw 197 rfl)) (mvT hZ (ww hw 196 rfl)) (by decide) (backOf (W := 0) (rmL1 l Z a0 hw [] sb vb kv ys z h0 n0 O0 Eb Vb Cb Nb Kb SC hz hc) hZ (ww hw 198 rfl) (ww hw 100 rfl) (by decide) (by decide)) q4a q4c (g := (mkF m 16 #[.val (.ref xs), .val (.ref sb), .val .null, .val (.ref vb), .val (.int (Int32.ofNat ys.length))] [(.ref sb)])) rfl (by rw [hml]; rfl) (Steps.refl _) (argsL := []) (rest := []) (lenOf own_pd11 rfl) rfl (by show 2 * 0 + _ ≤ _; exact Nat.le_of_eq rfl) (hb hby d25_16) (fun _ _ => ⟨rfl, e3, (by decide : 0 + 0 ≤ _), (by decide : 0 + 0 ≤ _)⟩)
  dsimp only [Pt.U, Pt.locs, Pt.cells, Pt.slots] at X4 l4 y4 z4 st4 hQ4
  subst l4 y4 z4
  obtain ⟨rfl, N4q, e4⟩ := hQ4
  have N4 := Fr.app N3 N4q
  obtain ⟨T5, h5, X5, e5, W5, st5⟩ := putFN X4 hx hZ hown (ww hw 28 rfl) Via.refl e4 Fc Ex (Or.inr ⟨(ww hw 24 rfl), rfl, hnm⟩) (ww hw 8 rfl) (ty := .byte) (v' := (.int (0 : Int32))) (by decide) rfl rfl (g := (mkF m 24 #[.val (.ref xs), .val (.ref sb), .val .null, .val (.ref vb), .val (.int (Int32.ofNat ys.length))] [(.int (0 : Int32)), (.ref xs)])) rfl rfl (hb hby d25_24)
  have Fw5 := Fld.same W5 Fc
  have N5 := Fr.snoc X5 N4 gx
  have O5 := Old.wr O0 W5 gx
  have K5 := Keep.wr (Keep.refl h0 [xs]) W5 (Or.inl (List.mem_of_getElem? (i := 0) rfl))
  obtain ⟨_, _, ⟨T6, L6, k6, n6⟩, -, X6, ⟨Lc6, hQ6, l6, y6, z6⟩, st6⟩ := Jvm.LawKit.callS X5 hx (y := (⟨"java/util/Arrays", "copyOfRange", "([BII)[B"⟩ : MethodName)) hown (mvT hZ (ww hw 199 rfl)) (mvT hZ (ww hw 200 rfl)) (mvT hZ (ww hw 201 rfl)) (mvT hZ (ww hw 202 rfl)) (by decide) (backOf (W := 1) (rmCR l Z a0 hw [] vb kv ys h5 n0 O5 (Kb.other W5 hxv) hc) hZ (ww hw 202 rfl) (ww hw 201 rfl) (by decide) (by decide)) (g := (mkF m 32 #[.val (.ref xs), .val (.ref sb), .val .null, .val (.ref vb), .val (.int (Int32.ofNat ys.length))] [(.int (Int32.ofNat ys.length)), (.int (0 : Int32)), (.ref vb), (.ref xs)])) rfl (by rw [hml]; rfl) (argsL := [(.ref vb), (.int (0 : Int32)), (.int (Int32.ofNat ys.length))]) (rest := [(.ref xs)]) (lenOf own_pd9 rfl) rfl (by show 2 * 0 + _ ≤ _; exact Nat.le_of_eq rfl) (hb hby d25_32) (fun _ _ => ⟨rfl, e5, (by decide : 0 + 1 ≤ _), (by decide : 0 + 16 ≤ _)⟩)
  dsimp only [Pt.U, Pt.locs, Pt.cells, Pt.slots] at X6 l6 y6 z6 st6 hQ6
  subst l6 y6 z6
  obtain ⟨nb, kn, rfl, N6q, KK6, szn, gn, fK⟩ := hQ6
  have N6 := Fr.app N5 N6q
  have O6 := Old.keep O5 KK6 all0
  have K6 := Keep.trans K5 KK6 all0
  have neN : xs ≠ nb := Exa.neArv ((Exa.wr W5 Ex).keep KK6) fK (ww hw 8 rfl)
  have c7 := ((Fld.other W5 Fv (Or.inr (slot_ne (a0 := a0) (Or.inr (ww hw 23 rfl)) (Or.inr (ww hw 24 rfl)) (by decide) (t := (.array .byte)) (t' := .byte) (by decide) (by decide)))).keep KK6 nin0)
  obtain ⟨T8, h8, X8, e8, W8, st8⟩ := putF X6 hx hZ hown (host := "") (Or.inl (ww hw 27 rfl)) Via.refl rfl c7 ((Exa.wr W5 Ex).keep KK6) (Or.inr ⟨(ww hw 23 rfl), rfl, hnm⟩) (ww hw 8 rfl) (ty := (.array .byte)) (by decide) rfl rfl (g := (mkF m 35 #[.val (.ref xs), .val (.ref sb), .val .null, .val (.ref vb), .val (.int (Int32.ofNat ys.length))] [(.ref nb), (.ref xs)])) rfl rfl (hb hby d25_35)
  have Fw8 := Fld.same W8 c7
  have N8 := Fr.snoc X8 N6 gx
  have O8 := Old.wr O6 W8 gx
  have K8 := Keep.wr K6 W8 (Or.inl (List.mem_of_getElem? (i := 0) rfl))
  have szN : h0.size ≤ nb := Nat.le_trans (K5).1 szn
  have c9 := (Fld.other W8 (Fw5.keep KK6 nin0) (Or.inr (slot_ne (a0 := a0) (Or.inr (ww hw 24 rfl)) (Or.inr (ww hw 23 rfl)) (by decide) (t := .byte) (t' := (.array .byte)) (by decide) (by decide))))
  obtain ⟨fs, hr, hrun, hended, hW, hsame⟩ := X8.leave (v := none) (fun _ => rfl)
  refine ⟨_, _, pre0 _ ?_, hrun, hended, _, _, rfl, ?_, ⟨_, rfl⟩, hW, hsame.mono (by decide) (by decide)⟩
  · show Steps p.tables e below (s₁.setTop (mkF m 0 #[.val (.ref xs), .val (.ref sb), .val .null, .unset, .unset] [])) _
    refine XS.aloadN X0.here hx rfl (hb hby d25_0) rfl rfl ?_
    show Steps p.tables e below (s₁.setTop (mkF m 1 #[.val (.ref xs), .val (.ref sb), .val .null, .unset, .unset] [(.ref xs)])) _
    refine st1 _ ?_
    show Steps p.tables e below (T1.setTop (mkF m 4 #[.val (.ref xs), .val (.ref sb), .val .null, .unset, .unset] [])) _
    refine XS.aloadN X1.here hx rfl (hb hby d25_4) rfl rfl ?_
    show Steps p.tables e below (T1.setTop (mkF m 5 #[.val (.ref xs), .val (.ref sb), .val .null, .unset, .unset] [(.ref sb)])) _
    refine st2.trans ?_
    show Steps p.tables e below (T2.setTop (mkF m 8 #[.val (.ref xs), .val (.ref sb), .val .null, .unset, .unset] [(.ref vb)])) _
    refine XS.astoreN X2.here hx rfl (hb hby d25_8) rfl rfl (l' := #[.val (.ref xs), .val (.ref sb), .val .null, .val (.ref vb), .unset]) rfl ?_
    show Steps p.tables e below (T2.setTop (mkF m 9 #[.val (.ref xs), .val (.ref sb), .val .null, .val (.ref vb), .unset] [])) _
    refine XS.aloadN X2.here hx rfl (hb hby d25_9) rfl rfl ?_
    show Steps p.tables e below (T2.setTop (mkF m 10 #[.val (.ref xs), .val (.ref sb), .val .null, .val (.ref vb), .unset] [(.ref sb)])) _
    refine st3.trans ?_
    show Steps p.tables e below (T3.setTop (mkF m 13 #[.val (.ref xs), .val (.ref sb), .val .null, .val (.ref vb), .unset] [(.int (Int32.ofNat ys.length))])) _
    refine XS.istore X3.here hx rfl (hb hby d25_13) rfl (l' := #[.val (.ref xs), .val (.ref sb), .val .null, .val (.ref vb), .val (.int (Int32.ofNat ys.length))]) rfl ?_
    show Steps p.tables e below (T3.setTop (mkF m 15 #[.val (.ref xs), .val (.ref sb), .val .null, .val (.ref vb), .val (.int (Int32.ofNat ys.length))] [])) _
    refine XS.aloadN X3.here hx rfl (hb hby d25_15) rfl rfl ?_
    show Steps p.tables e below (T3.setTop (mkF m 16 #[.val (.ref xs), .val (.ref sb), .val .null, .val (.ref vb), .val (.int (Int32.ofNat ys.length))] [(.ref sb)])) _
    refine st4.trans ?_
    show Steps p.tables e below (T4.setTop (mkF m 19 #[.val (.ref xs), .val (.ref sb), .val .null, .val (.ref vb), .val (.int (Int32.ofNat ys.length))] [(.int (1 : Int32))])) _
    refine XS.ifNo X4.here hx rfl (hb hby d25_19) rfl ((if0 _ _).trans (feq (by decide : ¬ ((1 : Int32) = (0 : Int32)))).1) ?_
    show Steps p.tables e below (T4.setTop (mkF m 22 #[.val (.ref xs), .val (.ref sb), .val .null, .val (.ref vb), .val (.int (Int32.ofNat ys.length))] [])) _
    refine XS.aloadN X4.here hx rfl (hb hby d25_22) rfl rfl ?_
    show Steps p.tables e below (T4.setTop (mkF m 23 #[.val (.ref xs), .val (.ref sb), .val .null, .val (.ref vb), .val (.int (Int32.ofNat ys.length))] [(.ref xs)])) _
    refine XS.iconst X4.here hx rfl (hb hby d25_23) ?_
    show Steps p.tables e below (T4.setTop (mkF m 24 #[.val (.ref xs), .val (.ref sb), .val .null, .val (.ref vb), .val (.int (Int32.ofNat ys.length))] [(.int (0 : Int32)), (.ref xs)])) _
    refine st5 _ ?_
    show Steps p.tables e below (T5.setTop (mkF m 27 #[.val (.ref xs), .val (.ref sb), .val .null, .val (.ref vb), .val (.int (Int32.ofNat ys.length))] [])) _
    refine XS.aloadN X5.here hx rfl (hb hby d25_27) rfl rfl ?_
    show Steps p.tables e below (T5.setTop (mkF m 28 #[.val (.ref xs), .val (.ref sb), .val .null, .val (.ref vb), .val (.int (Int32.ofNat ys.length))] [(.ref xs)])) _
    refine XS.aloadN X5.here hx rfl (hb hby d25_28) rfl rfl ?_
    show Steps p.tables e below (T5.setTop (mkF m 29 #[.val (.ref xs), .val (.ref sb), .val .null, .val (.ref vb), .val (.int (Int32.ofNat ys.length))] [(.ref vb), (.ref xs)])) _
    refine XS.iconst X5.here hx rfl (hb hby d25_29) ?_
    show Steps p.tables e below (T5.setTop (mkF m 30 #[.val (.ref xs), .val (.ref sb), .val .null, .val (.ref vb), .val (.int (Int32.ofNat ys.length))] [(.int (0 : Int32)), (.ref vb), (.ref xs)])) _
    refine XS.iload X5.here hx rfl (hb hby d25_30) rfl ?_
    show Steps p.tables e below (T5.setTop (mkF m 32 #[.val (.ref xs), .val (.ref sb), .val .null, .val (.ref vb), .val (.int (Int32.ofNat ys.length))] [(.int (Int32.ofNat ys.length)), (.int (0 : Int32)), (.ref vb), (.ref xs)])) _
    refine st6 _ ?_
    show Steps p.tables e below (T6.setTop (mkF m 35 #[.val (.ref xs), .val (.ref sb), .val .null, .val (.ref vb), .val (.int (Int32.ofNat ys.length))] [(.ref nb), (.ref xs)])) _
    refine st8 _ ?_
    show Steps p.tables e below (T8.setTop (mkF m 38 #[.val (.ref xs), .val (.ref sb), .val .null, .val (.ref vb), .val (.int (Int32.ofNat ys.length))] [])) _
    refine XS.goto X8.here hx rfl (pc0 := 38) (pc' := 97) rfl (hb hby d25_38) (by decide) (by decide) ?_
    show Steps p.tables e below (T8.setTop (mkF m 97 #[.val (.ref xs), .val (.ref sb), .val .null, .val (.ref vb), .val (.int (Int32.ofNat ys.length))] [])) _
    exact X8.returnOut hx Bd.returns (hb hby d25_97) hr
  · show Qd12 Z sb vb xs kv ys z h0 n0 _ T8.heap _
    rw [e8]
    exact ⟨nb, kn, rfl, N8, K8, szN, (Exa.wr W8 ((Exa.wr W5 Ex).keep KK6)), Fw8, c9, (fK.other W8 (Ne.symm neN))⟩
theorem d24_0 : decode jdk_42_method_53_code 0 = .ok (.aload_n 0, 1) := by decide +kernel
theorem d24_1 : decode jdk_42_method_53_code 1 = .ok (.aload_n 1, 1) := by decide +kernel
theorem d24_2 : decode jdk_42_method_53_code 2 = .ok (.aconst_null, 1) := by decide +kernel
theorem d24_3 : decode jdk_42_method_53_code 3 = .ok (.invokespecial 489, 3) := by decide +kernel
theorem own_pd12 : parseMethodDescriptor "(Ljava/lang/AbstractStringBuilder;Ljava/lang/Void;)V" = some ⟨[(.object "java/lang/AbstractStringBuilder"), (.object "java/lang/Void")], none⟩ := by decide +kernel
theorem d24_6 : decode jdk_42_method_53_code 6 = .ok (.return_, 1) := by decide +kernel
theorem ef_24 (m : MethodId) (x0 : Addr) (x1 : Addr) : entryFrame m #[(.ref x0), (.ref x1)] 2 = mkF m 0 #[.val (.ref x0), .val (.ref x1)] [] := by first | (simp [entryFrame, mkF, argsToLocals, Value.category]; done) | rfl
theorem pn_24 : plainName "java/lang/String" = true := by first | (simp [plainName, overriddenIn]; done) | decide +kernel
set_option maxRecDepth 65536 in
set_option maxHeartbeats 40000000 in
theorem rmSS (l : Launch) (Z : State) (a0 : Array Value) (hw : ∀ d ∈ tables_1, d.before a0 Z = true) (ws : List Jvm.Cond) (sb vb xs : Addr) (kv : ClassId) (ys : List Int32) (z : Int32) (h0 : Heap) (n0 : Nat) (O0 : Old Z n0 h0) (Eb : Exa Z h0 sb "java/lang/StringBuilder") (Vb : Fld Z h0 sb "java/lang/AbstractStringBuilder" "value" "[B" (.ref vb)) (Cb : Fld Z h0 sb "java/lang/AbstractStringBuilder" "coder" "B" (.int (0 : Int32))) (Nb : Fld Z h0 sb "java/lang/AbstractStringBuilder" "count" "I" (.int (Int32.ofNat (ys).length))) (Kb : Arv Z h0 vb kv .byte (Int32.ofNat 16) (((ys).map StrChars.lo8).map Value.int) (.int 0)) (SC : Sta Z Z.heap "java/lang/String" "COMPACT_STRINGS" "Z" (.int z)) (hz : ¬ z = 0) (hc : ys.length < 16) (gx : n0 ≤ xs) (Ex : Exa Z h0 xs "java/lang/String") (Fv : Fld Z h0 xs "java/lang/String" "value" "[B" .null) (Fc : Fld Z h0 xs "java/lang/String" "coder" "B" (.int (0 : Int32))) (hxv : vb ≠ xs) (hxs : sb ≠ xs) :
    MetFree l (⟨"java/lang/String", "<init>", "(Ljava/lang/StringBuilder;)V"⟩ : MethodName) (head1 (Jvm.Cond.code (⟨"java/lang/String", "<init>", "(Ljava/lang/StringBuilder;)V"⟩ : MethodName) jdk_42_method_53_code 2 none :: ws) ({ frames := 4, cells := 1, slots := 16, locals := 65 } : Room)) (fun qq U => qq = #[(.ref xs), (.ref sb)] ∧ Z.Warmed39 U.vm ∧ U.heap = h0) (fun _ _ _ _ _ => True) (fun _ UU oo UU' => ∃ vv LL, oo = .returned vv ∧ Qd12 Z sb vb xs kv ys z h0 n0 vv UU'.heap LL ∧ FrameEnd UU oo UU' LL ({ frames := 4, cells := 1, slots := 16, locals := 65 } : Room).cells ({ frames := 4, cells := 1, slots := 16, locals := 65 } : Room).slots) := by
  refine MetFree.of_bodySF (plainFor_of_name pn_24) hisR ?_
  intro p e s m args below meth c s₁ Bd hml0 hP hK
  obtain ⟨rfl, hZ, hh⟩ := hP
  have hx := Bd.exec
  have hby := Bd.bytes
  have hml : c.maxLocals = 2 := hml0
  have hown : s.vm.findClass "java/lang/String" = some m.cls := findClass_of_methodNamed Bd.named
  have hnm := (name_of_methodNamed Bd.named Bd.method).1
  have X0 : Stand p l e ({ frames := 4, cells := 1, slots := 16, locals := 65 } : Room) s m #[(.ref xs), (.ref sb)] below meth c s₁ [] 0 0 := Stand.of_body Bd
  have e0 : s₁.heap = h0 := by rw [← hh, Bd.state]; rfl
  have N0 := Fr.nil n0
  have pre0 : ∀ tgt, Steps p.tables e below (s₁.setTop (mkF m 0 #[.val (.ref xs), .val (.ref sb)] [])) tgt → Steps p.tables e below (s₁.setTop (entryFrame m #[(.ref xs), (.ref sb)] 2)) tgt := fun tt kk => castTop (ef_24 m xs sb) kk
  obtain ⟨_, _, ⟨T1, L1, k1, n1⟩, -, X1, ⟨Lc1, hQ1, l1, y1, z1⟩, st1⟩ := X0.specialBack hx (y := (⟨"java/lang/String", "<init>", "(Ljava/lang/AbstractStringBuilder;Ljava/lang/Void;)V"⟩ : MethodName)) rfl hown (mvT hZ (ww hw 178 rfl)) (mvT hZ (ww hw 179 rfl)) (mvT hZ (ww hw 180 rfl)) (by decide) (backOf (W := 0) (rmSA l Z a0 hw [] sb vb xs kv ys z h0 n0 O0 Eb Vb Cb Nb Kb SC hz hc gx Ex Fv Fc hxv hxs) hZ (ww hw 180 rfl) (ww hw 9 rfl) (by decide) (by decide)) (g := (mkF m 3 #[.val (.ref xs), .val (.ref sb)] [.null, (.ref sb), (.ref xs)])) rfl (by rw [hml]; rfl) (Steps.refl _) (a := xs) (argsL := [(.ref sb), .null]) (rest := []) (lenOf own_pd12 rfl) rfl (by show 2 * 0 + _ ≤ _; exact Nat.le_of_eq rfl) (hb hby d24_3) (fun _ _ => ⟨rfl, e0, (by decide : 0 + 1 ≤ _), (by decide : 0 + 16 ≤ _)⟩)
  dsimp only [Pt.U, Pt.locs, Pt.cells, Pt.slots] at X1 l1 y1 z1 st1 hQ1
  subst l1 y1 z1
  obtain ⟨nb, kn, rfl, N1q, KK1, szn, fE, fV, fC, fK⟩ := hQ1
  have N1 := Fr.app N0 N1q
  have O1 := Old.keep O0 KK1 (allS gx all0)
  have K1 := Keep.trans (Keep.refl h0 [xs]) KK1 (allS (Or.inl (List.mem_of_getElem? (i := 0) rfl)) all0)
  obtain ⟨fs, hr, hrun, hended, hW, hsame⟩ := X1.leave (v := none) (fun _ => rfl)
  refine ⟨_, _, pre0 _ ?_, hrun, hended, _, _, rfl, ?_, ⟨_, rfl⟩, hW, hsame.mono (by decide) (by decide)⟩
  · show Steps p.tables e below (s₁.setTop (mkF m 0 #[.val (.ref xs), .val (.ref sb)] [])) _
    refine XS.aloadN X0.here hx rfl (hb hby d24_0) rfl rfl ?_
    show Steps p.tables e below (s₁.setTop (mkF m 1 #[.val (.ref xs), .val (.ref sb)] [(.ref xs)])) _
    refine XS.aloadN X0.here hx rfl (hb hby d24_1) rfl rfl ?_
    show Steps p.tables e below (s₁.setTop (mkF m 2 #[.val (.ref xs), .val (.ref sb)] [(.ref sb), (.ref xs)])) _
    refine XS.aconstNull X0.here hx rfl (hb hby d24_2) ?_
    show Steps p.tables e below (s₁.setTop (mkF m 3 #[.val (.ref xs), .val (.ref sb)] [.null, (.ref sb), (.ref xs)])) _
    refine st1.trans ?_
    show Steps p.tables e below (T1.setTop (mkF m 6 #[.val (.ref xs), .val (.ref sb)] [])) _
    exact X1.returnOut hx Bd.returns (hb hby d24_6) hr
  · show Qd12 Z sb vb xs kv ys z h0 n0 _ T1.heap _
    exact ⟨nb, kn, rfl, N1, K1, szn, fE, fV, fC, fK⟩
theorem d23_0 : decode jdk_67_method_42_code 0 = .ok (.new 18, 3) := by decide +kernel
theorem d23_3 : decode jdk_67_method_42_code 3 = .ok (.dup, 1) := by decide +kernel
theorem d23_4 : decode jdk_67_method_42_code 4 = .ok (.aload_n 0, 1) := by decide +kernel
theorem d23_5 : decode jdk_67_method_42_code 5 = .ok (.invokespecial 137, 3) := by decide +kernel
theorem own_pd13 : parseMethodDescriptor "(Ljava/lang/StringBuilder;)V" = some ⟨[(.object "java/lang/StringBuilder")], none⟩ := by decide +kernel
theorem d23_8 : decode jdk_67_method_42_code 8 = .ok (.areturn, 1) := by decide +kernel
theorem ef_23 (m : MethodId) (x0 : Addr) : entryFrame m #[(.ref x0)] 1 = mkF m 0 #[.val (.ref x0)] [] := by first | (simp [entryFrame, mkF, argsToLocals, Value.category]; done) | rfl
theorem pn_23 : plainName "java/lang/StringBuilder" = true := by first | (simp [plainName, overriddenIn]; done) | decide +kernel
def Qd13 (Z : State) (sb vb : Addr) (kv : ClassId) (ys : List Int32) (z : Int32) (h0 : Heap) (n0 : Nat) (v : Option Value) (h : Heap) (L : List Loc) : Prop := ∃ xs nb kn, v = some (.ref xs) ∧ Fr n0 L ∧ Keep h0 h [] ∧ h0.size ≤ nb ∧ Exa Z h xs "java/lang/String" ∧ Fld Z h xs "java/lang/String" "value" "[B" (.ref nb) ∧ Fld Z h xs "java/lang/String" "coder" "B" (.int 0) ∧ Arv Z h nb kn .byte (Int32.ofNat (ys).length) (((ys).map StrChars.lo8).map Value.int) (.int 0)
set_option maxRecDepth 65536 in
set_option maxHeartbeats 40000000 in
theorem rmTS (l : Launch) (Z : State) (a0 : Array Value) (hw : ∀ d ∈ tables_1, d.before a0 Z = true) (ws : List Jvm.Cond) (sb vb : Addr) (kv : ClassId) (ys : List Int32) (z : Int32) (h0 : Heap) (n0 : Nat) (O0 : Old Z n0 h0) (Eb : Exa Z h0 sb "java/lang/StringBuilder") (Vb : Fld Z h0 sb "java/lang/AbstractStringBuilder" "value" "[B" (.ref vb)) (Cb : Fld Z h0 sb "java/lang/AbstractStringBuilder" "coder" "B" (.int (0 : Int32))) (Nb : Fld Z h0 sb "java/lang/AbstractStringBuilder" "count" "I" (.int (Int32.ofNat (ys).length))) (Kb : Arv Z h0 vb kv .byte (Int32.ofNat 16) (((ys).map StrChars.lo8).map Value.int) (.int 0)) (SC : Sta Z Z.heap "java/lang/String" "COMPACT_STRINGS" "Z" (.int z)) (hz : ¬ z = 0) (hc : ys.length < 16) :
    MetFree l (⟨"java/lang/StringBuilder", "toString", "()Ljava/lang/String;"⟩ : MethodName) (head1 (Jvm.Cond.code (⟨"java/lang/StringBuilder", "toString", "()Ljava/lang/String;"⟩ : MethodName) jdk_67_method_42_code 1 (some (.object "java/lang/String")) :: ws) ({ frames := 5, cells := 2, slots := 20, locals := 79 } : Room)) (fun qq U => qq = #[(.ref sb)] ∧ Z.Warmed39 U.vm ∧ U.heap = h0) (fun _ _ _ _ _ => True) (fun _ UU oo UU' => ∃ vv LL, oo = .returned vv ∧ Qd13 Z sb vb kv ys z h0 n0 vv UU'.heap LL ∧ FrameEnd UU oo UU' LL ({ frames := 5, cells := 2, slots := 20, locals := 79 } : Room).cells ({ frames := 5, cells := 2, slots := 20, locals := 79 } : Room).slots) := by
  refine MetFree.of_bodySF (plainFor_of_name pn_23) hisR ?_
  intro p e s m args below meth c s₁ Bd hml0 hP hK
  obtain ⟨rfl, hZ, hh⟩ := hP
  have hx := Bd.exec
  have hby := Bd.bytes
  have hml : c.maxLocals = 1 := hml0
  have hown : s.vm.findClass "java/lang/StringBuilder" = some m.cls := findClass_of_methodNamed Bd.named
  have hnm := (name_of_methodNamed Bd.named Bd.method).1
  have X0 : Stand p l e ({ frames := 5, cells := 2, slots := 20, locals := 79 } : Room) s m #[(.ref sb)] below meth c s₁ [] 0 0 := Stand.of_body Bd
  have e0 : s₁.heap = h0 := by rw [← hh, Bd.state]; rfl
  have N0 := Fr.nil n0
  have pre0 : ∀ tgt, Steps p.tables e below (s₁.setTop (mkF m 0 #[.val (.ref sb)] [])) tgt → Steps p.tables e below (s₁.setTop (entryFrame m #[(.ref sb)] 1)) tgt := fun tt kk => castTop (ef_23 m sb) kk
  obtain ⟨T1, h1, X1, e1, E1, A1, D1, -, st1⟩ := newO X0 hx hZ hown (ww hw 174 rfl) (ww hw 8 rfl) (ww hw 9 rfl) e0 (g := (mkF m 0 #[.val (.ref sb)] [])) rfl (hb hby d23_0) (by decide) (by decide)
  obtain ⟨b1, q1⟩ : ∃ z, z = h0.size := ⟨_, rfl⟩
  rw [← q1] at A1 D1 st1
  have g_b1 : n0 ≤ b1 := by rw [q1]; exact (O0).1 ▸ (O0).2.1
  have ne_sb_b1 : sb ≠ b1 := by rw [q1]; exact Nat.ne_of_lt Eb.lt
  have ne_vb_b1 : vb ≠ b1 := by rw [q1]; exact Nat.ne_of_lt Kb.lt
  have sz_b1 : h0.size ≤ b1 := by rw [q1]; exact ((Keep.refl h0 [])).1
  have O1 := Old.ext O0 E1
  have K1 := Keep.ext (Keep.refl h0 []) E1
  have F1_value : Fld Z h1 b1 "java/lang/String" "value" "[B" .null := D1 (Or.inr (ww hw 23 rfl)) (ty := (.array .byte)) (by decide)
  have F1_coder : Fld Z h1 b1 "java/lang/String" "coder" "B" (.int (0 : Int32)) := D1 (Or.inr (ww hw 24 rfl)) (ty := .byte) (by decide)
  obtain ⟨_, _, ⟨T2, L2, k2, n2⟩, -, X2, ⟨Lc2, hQ2, l2, y2, z2⟩, st2⟩ := X1.specialBack hx (y := (⟨"java/lang/String", "<init>", "(Ljava/lang/StringBuilder;)V"⟩ : MethodName)) rfl hown (mvT hZ (ww hw 175 rfl)) (mvT hZ (ww hw 176 rfl)) (mvT hZ (ww hw 177 rfl)) (by decide) (backOf (W := 1) (rmSS l Z a0 hw [] sb vb b1 kv ys z h1 n0 O1 (Exa.ext E1 Eb) (Fld.ext E1 Vb) (Fld.ext E1 Cb) (Fld.ext E1 Nb) (Kb.ext E1) SC hz hc g_b1 A1 F1_value F1_coder ne_vb_b1 ne_sb_b1) hZ (ww hw 177 rfl) (ww hw 9 rfl) (by decide) (by decide)) (g := (mkF m 5 #[.val (.ref sb)] [(.ref sb), (.ref b1), (.ref b1)])) rfl (by rw [hml]; rfl) (Steps.refl _) (a := b1) (argsL := [(.ref sb)]) (rest := [(.ref b1)]) (lenOf own_pd13 rfl) rfl (by show 2 * 0 + _ ≤ _; exact Nat.le_of_eq rfl) (hb hby d23_5) (fun _ _ => ⟨rfl, e1, (by decide : 1 + 1 ≤ _), (by decide : 4 + 16 ≤ _)⟩)
  dsimp only [Pt.U, Pt.locs, Pt.cells, Pt.slots] at X2 l2 y2 z2 st2 hQ2
  subst l2 y2 z2
  obtain ⟨nb, kn, rfl, N2q, KK2, szn, fE, fV, fC, fK⟩ := hQ2
  have N2 := Fr.app N0 N2q
  have O2 := Old.keep O1 KK2 (allS g_b1 all0)
  have K2 := Keep.trans K1 KK2 (allS (Or.inr sz_b1) all0)
  have szT := Nat.le_trans (K1).1 szn
  obtain ⟨fs, hr, hrun, hended, hW, hsame⟩ := X2.leave (v := some (.ref b1)) (fun h => by rw [Bd.returns] at h; cases h)
  refine ⟨_, _, pre0 _ ?_, hrun, hended, _, _, rfl, ?_, ⟨_, rfl⟩, hW, hsame.mono (by decide) (by decide)⟩
  · show Steps p.tables e below (s₁.setTop (mkF m 0 #[.val (.ref sb)] [])) _
    refine st1 _ ?_
    show Steps p.tables e below (T1.setTop (mkF m 3 #[.val (.ref sb)] [(.ref b1)])) _
    refine XS.dup X1.here hx rfl (hb hby d23_3) rfl rfl ?_
    show Steps p.tables e below (T1.setTop (mkF m 4 #[.val (.ref sb)] [(.ref b1), (.ref b1)])) _
    refine XS.aloadN X1.here hx rfl (hb hby d23_4) rfl rfl ?_
    show Steps p.tables e below (T1.setTop (mkF m 5 #[.val (.ref sb)] [(.ref sb), (.ref b1), (.ref b1)])) _
    refine st2.trans ?_
    show Steps p.tables e below (T2.setTop (mkF m 8 #[.val (.ref sb)] [(.ref b1)])) _
    exact retOut X2 hx Bd.returns rfl (Or.inr (Or.inr (Or.inr (Or.inr ⟨rfl, rfl, rfl⟩)))) (hb hby d23_8) hr
  · show Qd13 Z sb vb kv ys z h0 n0 _ T2.heap _
    exact ⟨b1, nb, kn, rfl, N2, K2, szT, fE, fV, fC, fK⟩
theorem own_safeN {Z : State} {EL : List (String × Nat)} {vm : Vm} {h : Heap} {x : Addr} (hal : Z.vm.Alike vm) (E : Exa Z h x "java/lang/String") (F : Fld Z h x "java/lang/String" "value" "[B" .null) : Safe Z EL vm h x := fun B => by
  obtain ⟨pp, -, u, a, -, q, -, G, hy⟩ := B
  rcases hy with rfl | rfl
  · obtain ⟨cell, cf, k, i, f, f1, f2, -, -, -, -, f7⟩ := F
    cases (show h[q.sa]? = some q.sC from G.ha).symm.trans f1
    obtain ⟨cS, ⟨⟨-, -, -, ⟨cv, kv, iv, s4, -⟩, -, -, -, s8, -⟩, -⟩, -⟩ := G
    obtain ⟨kv', z4⟩ := ff_back (U := Wst Z vm h) hal s4
    cases f2.symm.trans z4
    cases f7.symm.trans s8
  · obtain ⟨cell, k, e1, e2, -⟩ := E
    cases (show h[q.sd]? = some q.SA from G.hd).symm.trans e1
    obtain ⟨cS, -, -, f, -⟩ := G
    have f' : Z.vm.findClass "[B" = some q.SA.cls := by rw [← hal.findClass]; exact f
    exact ids_ne f' e2 (by decide) rfl

theorem d4_0 : decode jdk_42_method_149_code 0 = .ok (.aload_n 0, 1) := by decide +kernel
theorem d4_1 : decode jdk_42_method_149_code 1 = .ok (.invokespecial 1, 3) := by decide +kernel
theorem d4_4 : decode jdk_42_method_149_code 4 = .ok (.iload_n 3, 1) := by decide +kernel
theorem d4_5 : decode jdk_42_method_149_code 5 = .ok (.ifCond .ne 22, 3) := by decide +kernel
theorem d4_8 : decode jdk_42_method_149_code 8 = .ok (.aload_n 0, 1) := by decide +kernel
theorem d4_9 : decode jdk_42_method_149_code 9 = .ok (.ldc 7, 2) := by decide +kernel
theorem d4_11 : decode jdk_42_method_149_code 11 = .ok (.getfield 9, 3) := by decide +kernel
theorem d4_14 : decode jdk_42_method_149_code 14 = .ok (.putfield 9, 3) := by decide +kernel
theorem d4_17 : decode jdk_42_method_149_code 17 = .ok (.aload_n 0, 1) := by decide +kernel
theorem d4_18 : decode jdk_42_method_149_code 18 = .ok (.ldc 7, 2) := by decide +kernel
theorem d4_20 : decode jdk_42_method_149_code 20 = .ok (.getfield 15, 3) := by decide +kernel
theorem d4_23 : decode jdk_42_method_149_code 23 = .ok (.putfield 15, 3) := by decide +kernel
theorem d4_26 : decode jdk_42_method_149_code 26 = .ok (.return_, 1) := by decide +kernel
theorem ef_4n (m : MethodId) (x0 : Addr) (x1 : Addr) (x2 : Int32) (x3 : Int32) : entryFrame m #[(.ref x0), (.ref x1), (.int x2), (.int x3), .null] 6 = mkF m 0 #[.val (.ref x0), .val (.ref x1), .val (.int x2), .val (.int x3), .val .null, .unset] [] := by first | (simp [entryFrame, mkF, argsToLocals, Value.category]; done) | rfl
theorem pn_4 : plainName "java/lang/String" = true := by first | (simp [plainName, overriddenIn]; done) | decide +kernel
def Qd14 (Z : State) (xs ca : Addr) (h0 : Heap) (n0 : Nat) (v : Option Value) (h : Heap) (L : List Loc) : Prop := ∃ tt kb, v = none ∧ Fr n0 L ∧ Keep h0 h [xs] ∧ Exa Z h xs "java/lang/String" ∧ Fld Z h xs "java/lang/String" "value" "[B" (.ref tt) ∧ Fld Z h xs "java/lang/String" "coder" "B" (.int 0) ∧ Arv Z h tt kb .byte (Int32.ofNat (([] : List Int32)).length) (((([] : List Int32)).map StrChars.lo8).map Value.int) (.int 0)
set_option maxRecDepth 65536 in
set_option maxHeartbeats 40000000 in
theorem rmI0 (l : Launch) (Z : State) (a0 : Array Value) (hw : ∀ d ∈ tables_1, d.before a0 Z = true) (ws : List Jvm.Cond) (xs ca : Addr) (h0 : Heap) (n0 : Nat) (O0 : Old Z n0 h0) (gx : n0 ≤ xs) (Ex : Exa Z h0 xs "java/lang/String") (Fv : Fld Z h0 xs "java/lang/String" "value" "[B" .null) (Fc : Fld Z h0 xs "java/lang/String" "coder" "B" (.int (0 : Int32))) :
    MetFree l (⟨"java/lang/String", "<init>", "([CIILjava/lang/Void;)V"⟩ : MethodName) (head1 (Jvm.Cond.code (⟨"java/lang/String", "<init>", "([CIILjava/lang/Void;)V"⟩ : MethodName) jdk_42_method_149_code 6 none :: ws) ({ frames := 1, cells := 4, slots := 8, locals := 12 } : Room)) (fun qq U => qq = #[(.ref xs), (.ref ca), (.int (0 : Int32)), (.int (0 : Int32)), .null] ∧ Z.Warmed39 U.vm ∧ U.heap = h0 ∧ CHv Z consts_1 U.vm h0) (fun _ _ _ _ _ => True) (fun _ UU oo UU' => ∃ vv LL, oo = .returned vv ∧ Qd14 Z xs ca h0 n0 vv UU'.heap LL ∧ CHr Z consts_1 UU.vm UU.heap UU'.vm UU'.heap ∧ ReturnedEndW UU oo UU' LL ({ frames := 1, cells := 4, slots := 8, locals := 12 } : Room).cells ({ frames := 1, cells := 4, slots := 8, locals := 12 } : Room).slots) := by
  refine MetFree.of_bodySF (plainFor_of_name pn_4) hisR ?_
  intro p e s m args below meth c s₁ Bd hml0 hP hK
  obtain ⟨rfl, hZ, hh, hC0⟩ := hP
  have hZ : Z.Warmed39 (s.setVm s.vm).vm := hZ
  have CR0 := CHr.refl hC0
  have hx := Bd.exec
  have hby := Bd.bytes
  have hml : c.maxLocals = 6 := hml0
  have hown : (s.setVm s.vm).vm.findClass "java/lang/String" = some m.cls := findClass_of_methodNamed Bd.named
  have hnm := (name_of_methodNamed Bd.named Bd.method).1
  have X0 : Stand p l e ({ frames := 1, cells := 4, slots := 8, locals := 12 } : Room) (s.setVm s.vm) m #[(.ref xs), (.ref ca), (.int (0 : Int32)), (.int (0 : Int32)), .null] below meth c s₁ [] 0 0 := Stand.of_body Bd
  have e0 : s₁.heap = h0 := by rw [← hh, Bd.state]; rfl
  have N0 := Fr.nil n0
  have pre0 : ∀ tgt, Steps p.tables e below (s₁.setTop (mkF m 0 #[.val (.ref xs), .val (.ref ca), .val (.int (0 : Int32)), .val (.int (0 : Int32)), .val .null, .unset] [])) tgt → Steps p.tables e below (s₁.setTop (entryFrame m #[(.ref xs), (.ref ca), (.int (0 : Int32)), (.int (0 : Int32)), .null] 6)) tgt := fun tt kk => castTop (ef_4n m xs ca (0 : Int32) (0 : Int32)) kk
  have SX0 := own_safeN (EL := consts_1) hZ.alike Ex Fv
  obtain ⟨T1, X1, e1, st1⟩ := initO X0 hx hZ hown (ww hw 18 rfl) (ww hw 19 rfl) (ww hw 20 rfl) e0 (g := (mkF m 1 #[.val (.ref xs), .val (.ref ca), .val (.int (0 : Int32)), .val (.int (0 : Int32)), .val .null, .unset] [(.ref xs)])) rfl (by rw [hml]; rfl) rfl (hb hby d4_1) (by decide) (W := 0) (by show 2 * 0 + _ ≤ _; exact Nat.le_of_eq rfl) (by decide)
  obtain ⟨a2, T2, h2, k2, b2, kc2, X2, e2, E2, S2, sw2, hZ2, hown2, Le2, Lc2, Lv2, La2, -, -, CC2, -, ns2, st2⟩ := ldcCH (s := s) (vm0 := s.vm) X1 hx hZ hown (ww hw 21 rfl) (own_atoms hw) e1 (State.WarmedH.since (State.WarmedH.refl s) 0) (Nat.zero_le _) (own_EW hw) (EL := consts_1) (List.mem_of_getElem? (i := 3) rfl) CR0.1 (vs := ((([] : List Int32).map StrChars.lo8).map Value.int)) (z := Int32.ofNat (([] : List Int32)).length) ⟨by decide +kernel, by decide +kernel⟩ (by decide +kernel) (by decide +kernel) (g := (mkF m 9 #[.val (.ref xs), .val (.ref ca), .val (.int (0 : Int32)), .val (.int (0 : Int32)), .val .null, .unset] [(.ref xs)])) rfl (hb hby d4_9) (n := 0) (by decide +kernel) (by decide) (by decide) (by decide)
  have SC2 := CC2
  have CR2 := CHr.trans CR0 SC2
  have SF2_xs := CHr.safe SC2 (Ex.lt) SX0
  have O2 := Old.ext O0 E2
  have K2 := Keep.ext (Keep.refl h0 [xs]) E2
  have neXB : xs ≠ b2 := Exa.neArv (Exa.ext E2 Ex) La2 (ww hw 8 rfl)
  obtain ⟨T3, X3, e3, st3⟩ := getF X2 hx hZ2 hown2 (host := "") (Or.inl (ww hw 27 rfl)) Via.refl e2 Lv2 (g := (mkF m 11 #[.val (.ref xs), .val (.ref ca), .val (.int (0 : Int32)), .val (.int (0 : Int32)), .val .null, .unset] [(.ref a2), (.ref xs)])) rfl rfl (hb hby d4_11)
  obtain ⟨T4, h4, X4, e4, W4, st4⟩ := putF X3 hx hZ2 hown2 (host := "") (Or.inl (ww hw 27 rfl)) Via.refl e3 (Fld.ext E2 Fv) (Exa.ext E2 Ex) (Or.inr ⟨(ww hw 23 rfl), rfl, hnm⟩) (ww hw 8 rfl) (ty := (.array .byte)) (by decide) rfl rfl (g := (mkF m 14 #[.val (.ref xs), .val (.ref ca), .val (.int (0 : Int32)), .val (.int (0 : Int32)), .val .null, .unset] [(.ref b2), (.ref xs)])) rfl rfl (hb hby d4_14)
  have Fw4 := Fld.same W4 (Fld.ext E2 Fv)
  have SC4 := CHr.wr W4 SF2_xs CR2.1
  have CR4 := CHr.trans CR2 SC4
  have SF4_xs := CHr.safe SC4 ((Exa.ext E2 Ex).lt) SF2_xs
  have sz4 := Nat.le_trans sw2 (Nat.le_of_eq W4.size.symm)
  have N4 := Fr.snoc X4 N0 gx
  have O4 := Old.wr O2 W4 gx
  have K4 := Keep.wr K2 W4 (Or.inl (List.mem_of_getElem? (i := 0) rfl))
  obtain ⟨a5, T5, h5, k5, b5, kc5, X5, e5, E5, S5, sw5, hZ5, hown5, Le5, Lc5, Lv5, La5, -, -, CC5, -, ns5, st5⟩ := ldcCH (s := s) (vm0 := T2.vm) X4 hx hZ2 hown2 (ww hw 21 rfl) (own_atoms hw) e4 S2 sz4 (own_EW hw) (EL := consts_1) (List.mem_of_getElem? (i := 3) rfl) CR4.1 (vs := ((([] : List Int32).map StrChars.lo8).map Value.int)) (z := Int32.ofNat (([] : List Int32)).length) ⟨by decide +kernel, by decide +kernel⟩ (by decide +kernel) (by decide +kernel) (g := (mkF m 18 #[.val (.ref xs), .val (.ref ca), .val (.int (0 : Int32)), .val (.int (0 : Int32)), .val .null, .unset] [(.ref xs)])) rfl (hb hby d4_18) (n := 0) (by decide +kernel) (by decide) (by decide) (by decide)
  have SC5 := CC5
  have CR5 := CHr.trans CR4 SC5
  have SF5_xs := CHr.safe SC5 ((Exa.wr W4 (Exa.ext E2 Ex)).lt) SF4_xs
  have O5 := Old.ext O4 E5
  have K5 := Keep.ext K4 E5
  obtain ⟨T6, X6, e6, st6⟩ := getF X5 hx hZ5 hown5 (host := "") (Or.inl (ww hw 28 rfl)) Via.refl e5 Lc5 (g := (mkF m 20 #[.val (.ref xs), .val (.ref ca), .val (.int (0 : Int32)), .val (.int (0 : Int32)), .val .null, .unset] [(.ref a5), (.ref xs)])) rfl rfl (hb hby d4_20)
  have c7 := (Fld.ext E5 (Fld.other W4 (Fld.ext E2 Fc) (Or.inr (slot_ne (a0 := a0) (Or.inr (ww hw 24 rfl)) (Or.inr (ww hw 23 rfl)) (by decide) (t := .byte) (t' := (.array .byte)) (by decide) (by decide)))))
  obtain ⟨T8, h8, X8, e8, W8, st8⟩ := putFN X6 hx hZ5 hown5 (ww hw 28 rfl) Via.refl e6 c7 (Exa.ext E5 (Exa.wr W4 (Exa.ext E2 Ex))) (Or.inr ⟨(ww hw 24 rfl), rfl, hnm⟩) (ww hw 8 rfl) (ty := .byte) (v' := (.int (0 : Int32))) (by decide) rfl rfl (g := (mkF m 23 #[.val (.ref xs), .val (.ref ca), .val (.int (0 : Int32)), .val (.int (0 : Int32)), .val .null, .unset] [(.int (0 : Int32)), (.ref xs)])) rfl rfl (hb hby d4_23)
  have Fw8 := Fld.same W8 c7
  have SC8 := CHr.wr W8 SF5_xs CR5.1
  have CR8 := CHr.trans CR5 SC8
  have SF8_xs := CHr.safe SC8 ((Exa.ext E5 (Exa.wr W4 (Exa.ext E2 Ex))).lt) SF5_xs
  have sz8 := Nat.le_trans sw5 (Nat.le_of_eq W8.size.symm)
  have N8 := Fr.snoc X8 N4 gx
  have O8 := Old.wr O5 W8 gx
  have K8 := Keep.wr K5 W8 (Or.inl (List.mem_of_getElem? (i := 0) rfl))
  have c9 := (Fld.other W8 (Fld.ext E5 Fw4) (Or.inr (slot_ne (a0 := a0) (Or.inr (ww hw 23 rfl)) (Or.inr (ww hw 24 rfl)) (by decide) (t := (.array .byte)) (t' := .byte) (by decide) (by decide))))
  have c10 := (((La2.other W4 (Ne.symm neXB)).ext E5).other W8 (Ne.symm neXB))
  obtain ⟨fs, hr, hrun, hended, hE⟩ := X8.leaveW (s := s) (vm₁ := T5.vm) S5 (by rw [e8]; exact sz8) (v := none) (fun _ => rfl)
  have CE : CHr Z consts_1 s.vm s.heap T8.vm T8.heap := by
    rw [hh, e8]
    exact CHr.trans CR8 (CHv.at X8 hZ5 (own_EW hw) CR8.1)
  refine ⟨_, _, pre0 _ ?_, hrun, hended, _, _, rfl, ?_, CE, hE.1, hE.2.1, hE.2.2.1, hE.2.2.2.mono (by decide) (by decide)⟩
  · show Steps p.tables e below (s₁.setTop (mkF m 0 #[.val (.ref xs), .val (.ref ca), .val (.int (0 : Int32)), .val (.int (0 : Int32)), .val .null, .unset] [])) _
    refine XS.aloadN X0.here hx rfl (hb hby d4_0) rfl rfl ?_
    show Steps p.tables e below (s₁.setTop (mkF m 1 #[.val (.ref xs), .val (.ref ca), .val (.int (0 : Int32)), .val (.int (0 : Int32)), .val .null, .unset] [(.ref xs)])) _
    refine st1 _ ?_
    show Steps p.tables e below (T1.setTop (mkF m 4 #[.val (.ref xs), .val (.ref ca), .val (.int (0 : Int32)), .val (.int (0 : Int32)), .val .null, .unset] [])) _
    refine XS.iloadN X1.here hx rfl (hb hby d4_4) rfl ?_
    show Steps p.tables e below (T1.setTop (mkF m 5 #[.val (.ref xs), .val (.ref ca), .val (.int (0 : Int32)), .val (.int (0 : Int32)), .val .null, .unset] [(.int (0 : Int32))])) _
    refine XS.ifNo X1.here hx rfl (hb hby d4_5) rfl ((if0 _ _).trans (teq (rfl : (0 : Int32) = (0 : Int32))).2) ?_
    show Steps p.tables e below (T1.setTop (mkF m 8 #[.val (.ref xs), .val (.ref ca), .val (.int (0 : Int32)), .val (.int (0 : Int32)), .val .null, .unset] [])) _
    refine XS.aloadN X1.here hx rfl (hb hby d4_8) rfl rfl ?_
    show Steps p.tables e below (T1.setTop (mkF m 9 #[.val (.ref xs), .val (.ref ca), .val (.int (0 : Int32)), .val (.int (0 : Int32)), .val .null, .unset] [(.ref xs)])) _
    refine st2 _ ?_
    show Steps p.tables e below (T2.setTop (mkF m 11 #[.val (.ref xs), .val (.ref ca), .val (.int (0 : Int32)), .val (.int (0 : Int32)), .val .null, .unset] [(.ref a2), (.ref xs)])) _
    refine st3 _ ?_
    show Steps p.tables e below (T3.setTop (mkF m 14 #[.val (.ref xs), .val (.ref ca), .val (.int (0 : Int32)), .val (.int (0 : Int32)), .val .null, .unset] [(.ref b2), (.ref xs)])) _
    refine st4 _ ?_
    show Steps p.tables e below (T4.setTop (mkF m 17 #[.val (.ref xs), .val (.ref ca), .val (.int (0 : Int32)), .val (.int (0 : Int32)), .val .null, .unset] [])) _
    refine XS.aloadN X4.here hx rfl (hb hby d4_17) rfl rfl ?_
    show Steps p.tables e below (T4.setTop (mkF m 18 #[.val (.ref xs), .val (.ref ca), .val (.int (0 : Int32)), .val (.int (0 : Int32)), .val .null, .unset] [(.ref xs)])) _
    refine st5 _ ?_
    show Steps p.tables e below (T5.setTop (mkF m 20 #[.val (.ref xs), .val (.ref ca), .val (.int (0 : Int32)), .val (.int (0 : Int32)), .val .null, .unset] [(.ref a5), (.ref xs)])) _
    refine st6 _ ?_
    show Steps p.tables e below (T6.setTop (mkF m 23 #[.val (.ref xs), .val (.ref ca), .val (.int (0 : Int32)), .val (.int (0 : Int32)), .val .null, .unset] [(.int (0 : Int32)), (.ref xs)])) _
    refine st8 _ ?_
    show Steps p.tables e below (T8.setTop (mkF m 26 #[.val (.ref xs), .val (.ref ca), .val (.int (0 : Int32)), .val (.int (0 : Int32)), .val .null, .unset] [])) _
    exact X8.returnOut hx Bd.returns (hb hby d4_26) hr
  · show Qd14 Z xs ca h0 n0 _ T8.heap _
    rw [e8]
    exact ⟨b2, kc2, rfl, N8, K8, (Exa.wr W8 (Exa.ext E5 (Exa.wr W4 (Exa.ext E2 Ex)))), c9, Fw8, c10⟩
theorem d3_0 : decode jdk_42_method_3_code 0 = .ok (.aload_n 0, 1) := by decide +kernel
theorem d3_1 : decode jdk_42_method_3_code 1 = .ok (.aload_n 1, 1) := by decide +kernel
theorem d3_2 : decode jdk_42_method_3_code 2 = .ok (.iconst 0, 1) := by decide +kernel
theorem d3_3 : decode jdk_42_method_3_code 3 = .ok (.aload_n 1, 1) := by decide +kernel
theorem d3_4 : decode jdk_42_method_3_code 4 = .ok (.arraylength, 1) := by decide +kernel
theorem d3_5 : decode jdk_42_method_3_code 5 = .ok (.aconst_null, 1) := by decide +kernel
theorem d3_6 : decode jdk_42_method_3_code 6 = .ok (.invokespecial 27, 3) := by decide +kernel
theorem own_pd14 : parseMethodDescriptor "([CIILjava/lang/Void;)V" = some ⟨[(.array .char), .int, .int, (.object "java/lang/Void")], none⟩ := by decide +kernel
theorem d3_9 : decode jdk_42_method_3_code 9 = .ok (.return_, 1) := by decide +kernel
theorem ef_3 (m : MethodId) (x0 : Addr) (x1 : Addr) : entryFrame m #[(.ref x0), (.ref x1)] 2 = mkF m 0 #[.val (.ref x0), .val (.ref x1)] [] := by first | (simp [entryFrame, mkF, argsToLocals, Value.category]; done) | rfl
theorem pn_3 : plainName "java/lang/String" = true := by first | (simp [plainName, overriddenIn]; done) | decide +kernel
def Qd15 (Z : State) (xs ca : Addr) (kC : ClassId) (h0 : Heap) (n0 : Nat) (v : Option Value) (h : Heap) (L : List Loc) : Prop := ∃ tt kb, v = none ∧ Fr n0 L ∧ Keep h0 h [xs] ∧ Exa Z h xs "java/lang/String" ∧ Fld Z h xs "java/lang/String" "value" "[B" (.ref tt) ∧ Fld Z h xs "java/lang/String" "coder" "B" (.int 0) ∧ Arv Z h tt kb .byte (Int32.ofNat (([] : List Int32)).length) (((([] : List Int32)).map StrChars.lo8).map Value.int) (.int 0)
set_option maxRecDepth 65536 in
set_option maxHeartbeats 40000000 in
theorem rmI (l : Launch) (Z : State) (a0 : Array Value) (hw : ∀ d ∈ tables_1, d.before a0 Z = true) (ws : List Jvm.Cond) (xs ca : Addr) (kC : ClassId) (h0 : Heap) (n0 : Nat) (O0 : Old Z n0 h0) (gx : n0 ≤ xs) (Ex : Exa Z h0 xs "java/lang/String") (Fv : Fld Z h0 xs "java/lang/String" "value" "[B" .null) (Fc : Fld Z h0 xs "java/lang/String" "coder" "B" (.int (0 : Int32))) (VC : Arv Z h0 ca kC .char (0 : Int32) [] (.int 0)) :
    MetFree l (⟨"java/lang/String", "<init>", "([C)V"⟩ : MethodName) (head1 (Jvm.Cond.code (⟨"java/lang/String", "<init>", "([C)V"⟩ : MethodName) jdk_42_method_3_code 2 none :: ws) ({ frames := 2, cells := 4, slots := 8, locals := 29 } : Room)) (fun qq U => qq = #[(.ref xs), (.ref ca)] ∧ Z.Warmed39 U.vm ∧ U.heap = h0 ∧ CHv Z consts_1 U.vm h0) (fun _ _ _ _ _ => True) (fun _ UU oo UU' => ∃ vv LL, oo = .returned vv ∧ Qd15 Z xs ca kC h0 n0 vv UU'.heap LL ∧ CHr Z consts_1 UU.vm UU.heap UU'.vm UU'.heap ∧ ReturnedEndW UU oo UU' LL ({ frames := 2, cells := 4, slots := 8, locals := 29 } : Room).cells ({ frames := 2, cells := 4, slots := 8, locals := 29 } : Room).slots) := by
  refine MetFree.of_bodySF (plainFor_of_name pn_3) hisR ?_
  intro p e s m args below meth c s₁ Bd hml0 hP hK
  obtain ⟨rfl, hZ, hh, hC0⟩ := hP
  have hZ : Z.Warmed39 (s.setVm s.vm).vm := hZ
  have CR0 := CHr.refl hC0
  have hx := Bd.exec
  have hby := Bd.bytes
  have hml : c.maxLocals = 2 := hml0
  have hown : (s.setVm s.vm).vm.findClass "java/lang/String" = some m.cls := findClass_of_methodNamed Bd.named
  have hnm := (name_of_methodNamed Bd.named Bd.method).1
  have X0 : Stand p l e ({ frames := 2, cells := 4, slots := 8, locals := 29 } : Room) (s.setVm s.vm) m #[(.ref xs), (.ref ca)] below meth c s₁ [] 0 0 := Stand.of_body Bd
  have e0 : s₁.heap = h0 := by rw [← hh, Bd.state]; rfl
  have N0 := Fr.nil n0
  have pre0 : ∀ tgt, Steps p.tables e below (s₁.setTop (mkF m 0 #[.val (.ref xs), .val (.ref ca)] [])) tgt → Steps p.tables e below (s₁.setTop (entryFrame m #[(.ref xs), (.ref ca)] 2)) tgt := fun tt kk => castTop (ef_3 m xs ca) kk
  obtain ⟨cl, Ar, qk, Sz, Mz, Hz, Uz⟩ := id VC
  obtain ⟨_, _, ⟨T1, L1, k1, n1⟩, -, X1, Sq1, gq1, ⟨Lc1, hQ1, l1, y1, z1, CC1⟩, st1⟩ := X0.specialBackS hx (y := (⟨"java/lang/String", "<init>", "([CIILjava/lang/Void;)V"⟩ : MethodName)) rfl hown (mvT hZ (ww hw 14 rfl)) (mvT hZ (ww hw 15 rfl)) (mvT hZ (ww hw 17 rfl)) (by decide) (backOfSH (W := 0) (rmI0 l Z a0 hw [] xs ca h0 n0 O0 gx Ex Fv Fc) hZ (ww hw 17 rfl) (ww hw 9 rfl) (by decide) (by decide) (own_EW hw) CR0.1) (g := (mkF m 6 #[.val (.ref xs), .val (.ref ca)] [.null, (.int (0 : Int32)), (.int (0 : Int32)), (.ref ca), (.ref xs)])) rfl (by rw [hml]; rfl) (Steps.refl _) (a := xs) (argsL := [(.ref ca), (.int (0 : Int32)), (.int (0 : Int32)), .null]) (rest := []) (lenOf own_pd14 rfl) rfl (by show 2 * 0 + _ ≤ _; exact Nat.le_of_eq rfl) (hb hby d3_6) (fun _ _ => ⟨rfl, e0, (by decide : 0 + 4 ≤ _), (by decide : 0 + 8 ≤ _)⟩)
  dsimp only [Pt.U, Pt.locs, Pt.cells, Pt.slots] at X1 l1 y1 z1 st1 hQ1 Sq1 gq1 CC1
  subst l1 y1 z1
  obtain ⟨X1, S1, hZ1, hown1⟩ := rebS (n1 := s₁.heap.size) (State.WarmedH.since (State.WarmedH.refl s) 0) (by rw [e0]; exact (Nat.zero_le _)) X1 Sq1 gq1 hZ hown
  obtain ⟨tt, kb, rfl, N1q, KK1, f1_0, f1_1, f1_2, f1_3⟩ := hQ1
  have N1 := Fr.app N0 N1q
  have SC1 := CC1
  have CR1 := CHr.trans CR0 SC1
  have O1 := Old.keep O0 KK1 (allS gx all0)
  have K1 := Keep.trans (Keep.refl h0 [xs]) KK1 (allS (Or.inl (List.mem_of_getElem? (i := 0) rfl)) all0)
  obtain ⟨fs, hr, hrun, hended, hE⟩ := X1.leaveW (s := s) (vm₁ := T1.vm) S1 ((Nat.le_refl _)) (v := none) (fun _ => rfl)
  have CE : CHr Z consts_1 s.vm s.heap T1.vm T1.heap := by
    rw [hh]
    exact CHr.trans CR1 (CHv.at X1 hZ1 (own_EW hw) CR1.1)
  refine ⟨_, _, pre0 _ ?_, hrun, hended, _, _, rfl, ?_, CE, hE.1, hE.2.1, hE.2.2.1, hE.2.2.2.mono (by decide) (by decide)⟩
  · show Steps p.tables e below (s₁.setTop (mkF m 0 #[.val (.ref xs), .val (.ref ca)] [])) _
    refine XS.aloadN X0.here hx rfl (hb hby d3_0) rfl rfl ?_
    show Steps p.tables e below (s₁.setTop (mkF m 1 #[.val (.ref xs), .val (.ref ca)] [(.ref xs)])) _
    refine XS.aloadN X0.here hx rfl (hb hby d3_1) rfl rfl ?_
    show Steps p.tables e below (s₁.setTop (mkF m 2 #[.val (.ref xs), .val (.ref ca)] [(.ref ca), (.ref xs)])) _
    refine XS.iconst X0.here hx rfl (hb hby d3_2) ?_
    show Steps p.tables e below (s₁.setTop (mkF m 3 #[.val (.ref xs), .val (.ref ca)] [(.int (0 : Int32)), (.ref ca), (.ref xs)])) _
    refine XS.aloadN X0.here hx rfl (hb hby d3_3) rfl rfl ?_
    show Steps p.tables e below (s₁.setTop (mkF m 4 #[.val (.ref xs), .val (.ref ca)] [(.ref ca), (.int (0 : Int32)), (.ref ca), (.ref xs)])) _
    refine X0.arraylength hx (by rw [e0]; exact Ar.1) (State.isArrayOf_alike hZ.alike Ar.2.1) (g := (mkF m 4 #[.val (.ref xs), .val (.ref ca)] [(.ref ca), (.int (0 : Int32)), (.ref ca), (.ref xs)])) rfl rfl (hb hby d3_4) _ ?_
    rw [len_of Sz Mz]
    show Steps p.tables e below (s₁.setTop (mkF m 5 #[.val (.ref xs), .val (.ref ca)] [(.int (0 : Int32)), (.int (0 : Int32)), (.ref ca), (.ref xs)])) _
    refine XS.aconstNull X0.here hx rfl (hb hby d3_5) ?_
    show Steps p.tables e below (s₁.setTop (mkF m 6 #[.val (.ref xs), .val (.ref ca)] [.null, (.int (0 : Int32)), (.int (0 : Int32)), (.ref ca), (.ref xs)])) _
    refine st1.trans ?_
    show Steps p.tables e below (T1.setTop (mkF m 9 #[.val (.ref xs), .val (.ref ca)] [])) _
    exact X1.returnOut hx Bd.returns (hb hby d3_9) hr
  · show Qd15 Z xs ca kC h0 n0 _ T1.heap _
    exact ⟨tt, kb, rfl, N1, K1, f1_0, f1_1, f1_2, f1_3⟩
abbrev own_ch (c : Int32) : Prop := nar .char c = c ∧ ¬ c < 0 ∧ ¬ (255 : Int32) < c
theorem own_chE (x : Int32) : own_ch ((x &&& (255 : Int32)).toUInt32.toUInt16.toUInt32.toInt32) := by
  have t : ∀ k : Fin 256, own_ch ((Int32.ofNat k.val).toUInt32.toUInt16.toUInt32.toInt32) := by decide +kernel
  have h : (x &&& 255).toBitVec.toNat < 256 := by
    simp only [Int32.toBitVec_and, BitVec.toNat_and]
    exact Nat.lt_succ_of_le Nat.and_le_right
  have e : (x &&& 255) = Int32.ofNat (x &&& 255).toBitVec.toNat := by
    apply Int32.toBitVec_inj.mp
    show _ = BitVec.ofNat 32 _
    rw [BitVec.ofNat_toNat]; simp
  rw [e]
  exact t ⟨_, h⟩

theorem d1_0 : decode method_3_code 0 = .ok (.iload_n 0, 1) := by decide +kernel
theorem d1_1 : decode method_3_code 1 = .ok (.iload_n 1, 1) := by decide +kernel
theorem d1_2 : decode method_3_code 2 = .ok (.iushr, 1) := by decide +kernel
theorem d1_3 : decode method_3_code 3 = .ok (.sipush 255, 3) := by decide +kernel
theorem d1_6 : decode method_3_code 6 = .ok (.iand, 1) := by decide +kernel
theorem d1_7 : decode method_3_code 7 = .ok (.i2c, 1) := by decide +kernel
theorem d1_8 : decode method_3_code 8 = .ok (.ireturn, 1) := by decide +kernel
theorem ef_1 (m : MethodId) (x0 : Int32) (x1 : Int32) : entryFrame m #[(.int x0), (.int x1)] 2 = mkF m 0 #[.val (.int x0), .val (.int x1)] [] := by first | (simp [entryFrame, mkF, argsToLocals, Value.category]; done) | rfl
theorem pn_1 : plainName "com/example/riverside/riverside/RefusedExceptionReplyLinePinLaw" = true := by first | (simp [plainName, overriddenIn]; done) | decide +kernel
def Qd16 (Z : State) (xx sh : Int32) (h0 : Heap) (n0 : Nat) (v : Option Value) (h : Heap) (L : List Loc) : Prop := ∃ cc, v = some (.int cc) ∧ Fr n0 L ∧ h = h0 ∧ own_ch cc
set_option maxRecDepth 65536 in
set_option maxHeartbeats 40000000 in
theorem rmCh (l : Launch) (Z : State) (a0 : Array Value) (hw : ∀ d ∈ tables_1, d.before a0 Z = true) (ws : List Jvm.Cond) (xx sh : Int32) (h0 : Heap) (n0 : Nat) :
    MetFree l (⟨"com/example/riverside/riverside/RefusedExceptionReplyLinePinLaw", "ch", "(II)C"⟩ : MethodName) (head1 (Jvm.Cond.code (⟨"com/example/riverside/riverside/RefusedExceptionReplyLinePinLaw", "ch", "(II)C"⟩ : MethodName) method_3_code 2 (some .char) :: ws) ({ frames := 0, cells := 0, slots := 0, locals := 0 } : Room)) (fun qq U => qq = #[(.int xx), (.int sh)] ∧ Z.Warmed39 U.vm ∧ U.heap = h0) (fun _ _ _ _ _ => True) (fun _ UU oo UU' => ∃ vv LL, oo = .returned vv ∧ Qd16 Z xx sh h0 n0 vv UU'.heap LL ∧ FrameEnd UU oo UU' LL ({ frames := 0, cells := 0, slots := 0, locals := 0 } : Room).cells ({ frames := 0, cells := 0, slots := 0, locals := 0 } : Room).slots) := by
  refine MetFree.of_bodySF (plainFor_of_name pn_1) hisR ?_
  intro p e s m args below meth c s₁ Bd hml0 hP hK
  obtain ⟨rfl, hZ, hh⟩ := hP
  have hx := Bd.exec
  have hby := Bd.bytes
  have hml : c.maxLocals = 2 := hml0
  have hown : s.vm.findClass "com/example/riverside/riverside/RefusedExceptionReplyLinePinLaw" = some m.cls := findClass_of_methodNamed Bd.named
  have hnm := (name_of_methodNamed Bd.named Bd.method).1
  have X0 : Stand p l e ({ frames := 0, cells := 0, slots := 0, locals := 0 } : Room) s m #[(.int xx), (.int sh)] below meth c s₁ [] 0 0 := Stand.of_body Bd
  have e0 : s₁.heap = h0 := by rw [← hh, Bd.state]; rfl
  have N0 := Fr.nil n0
  have pre0 : ∀ tgt, Steps p.tables e below (s₁.setTop (mkF m 0 #[.val (.int xx), .val (.int sh)] [])) tgt → Steps p.tables e below (s₁.setTop (entryFrame m #[(.int xx), (.int sh)] 2)) tgt := fun tt kk => castTop (ef_1 m xx sh) kk
  have HC : own_ch (nar .char ((((xx.toUInt32 >>> (sh &&& 31).toUInt32).toInt32) &&& (255 : Int32)).toUInt32.toUInt16.toUInt32.toInt32)) := by rw [(own_chE _).1]; exact own_chE _
  obtain ⟨fs, hr, hrun, hended, hW, hsame⟩ := X0.leave (v := some (.int (nar .char ((((xx.toUInt32 >>> (sh &&& 31).toUInt32).toInt32) &&& (255 : Int32)).toUInt32.toUInt16.toUInt32.toInt32)))) (fun h => by rw [Bd.returns] at h; cases h)
  refine ⟨_, _, pre0 _ ?_, hrun, hended, _, _, rfl, ?_, ⟨_, rfl⟩, hW, hsame.mono (by decide) (by decide)⟩
  · show Steps p.tables e below (s₁.setTop (mkF m 0 #[.val (.int xx), .val (.int sh)] [])) _
    refine XS.iloadN X0.here hx rfl (hb hby d1_0) rfl ?_
    show Steps p.tables e below (s₁.setTop (mkF m 1 #[.val (.int xx), .val (.int sh)] [(.int xx)])) _
    refine XS.iloadN X0.here hx rfl (hb hby d1_1) rfl ?_
    show Steps p.tables e below (s₁.setTop (mkF m 2 #[.val (.int xx), .val (.int sh)] [(.int sh), (.int xx)])) _
    refine XS.iushr X0.here hx rfl (hb hby d1_2) rfl ?_
    show Steps p.tables e below (s₁.setTop (mkF m 3 #[.val (.int xx), .val (.int sh)] [(.int ((xx.toUInt32 >>> (sh &&& 31).toUInt32).toInt32))])) _
    refine XS.sipush X0.here hx rfl (hb hby d1_3) ?_
    show Steps p.tables e below (s₁.setTop (mkF m 6 #[.val (.int xx), .val (.int sh)] [(.int (255 : Int32)), (.int ((xx.toUInt32 >>> (sh &&& 31).toUInt32).toInt32))])) _
    refine XS.iand X0.here hx rfl (hb hby d1_6) rfl ?_
    show Steps p.tables e below (s₁.setTop (mkF m 7 #[.val (.int xx), .val (.int sh)] [(.int (((xx.toUInt32 >>> (sh &&& 31).toUInt32).toInt32) &&& (255 : Int32)))])) _
    refine XS.i2c X0.here hx rfl (hb hby d1_7) rfl ?_
    show Steps p.tables e below (s₁.setTop (mkF m 8 #[.val (.int xx), .val (.int sh)] [(.int ((((xx.toUInt32 >>> (sh &&& 31).toUInt32).toInt32) &&& (255 : Int32)).toUInt32.toUInt16.toUInt32.toInt32))])) _
    exact retN X0 hx (t := .char) Bd.returns (by simp) (hb hby d1_8) hr
  · show Qd16 Z xx sh h0 n0 _ s₁.heap _
    rw [e0]
    exact ⟨_, rfl, N0, rfl, HC⟩
def own_mk (x c0 c1 c2 : Int32) : List Int32 := if x = 0 then [] else if x = 1 then [c0] else if x = 2 then [c0, c1] else [c0, c1, c2]
theorem d2_0 : decode method_2_code 0 = .ok (.iload_n 0, 1) := by decide +kernel
theorem d2_1 : decode method_2_code 1 = .ok (.ifCond .ne 14, 3) := by decide +kernel
theorem d2_4 : decode method_2_code 4 = .ok (.new 7, 3) := by decide +kernel
theorem d2_7 : decode method_2_code 7 = .ok (.dup, 1) := by decide +kernel
theorem d2_8 : decode method_2_code 8 = .ok (.iconst 0, 1) := by decide +kernel
theorem d2_9 : decode method_2_code 9 = .ok (.newarray .char, 2) := by decide +kernel
theorem d2_11 : decode method_2_code 11 = .ok (.invokespecial 9, 3) := by decide +kernel
theorem own_pd15 : parseMethodDescriptor "([C)V" = some ⟨[(.array .char)], none⟩ := by decide +kernel
theorem d2_14 : decode method_2_code 14 = .ok (.areturn, 1) := by decide +kernel
theorem ef_2 (m : MethodId) (x0 : Int32) (x1 : Int32) (x2 : Int32) (x3 : Int32) : entryFrame m #[(.int x0), (.int x1), (.int x2), (.int x3)] 4 = mkF m 0 #[.val (.int x0), .val (.int x1), .val (.int x2), .val (.int x3)] [] := by first | (simp [entryFrame, mkF, argsToLocals, Value.category]; done) | rfl
theorem pn_2 : plainName "com/example/riverside/riverside/RefusedExceptionReplyLinePinLaw" = true := by first | (simp [plainName, overriddenIn]; done) | decide +kernel
def Qd17 (Z : State) (nn c0 c1 c2 z : Int32) (h0 : Heap) (n0 : Nat) (v : Option Value) (h : Heap) (L : List Loc) : Prop := ∃ xs tt kb, v = some (.ref xs) ∧ Fr n0 L ∧ Keep h0 h [] ∧ Exa Z h xs "java/lang/String" ∧ Fld Z h xs "java/lang/String" "value" "[B" (.ref tt) ∧ Fld Z h xs "java/lang/String" "coder" "B" (.int 0) ∧ Arv Z h tt kb .byte (Int32.ofNat (own_mk nn c0 c1 c2).length) (((own_mk nn c0 c1 c2).map StrChars.lo8).map Value.int) (.int 0)
set_option maxRecDepth 65536 in
set_option maxHeartbeats 40000000 in
theorem rmM0 (l : Launch) (Z : State) (a0 : Array Value) (hw : ∀ d ∈ tables_1, d.before a0 Z = true) (ws : List Jvm.Cond) (nn c0 c1 c2 z : Int32) (h0 : Heap) (n0 : Nat) (O0 : Old Z n0 h0) (SC : Sta Z Z.heap "java/lang/String" "COMPACT_STRINGS" "Z" (.int z)) (hz : ¬ z = 0) (H0 : own_ch c0) (H1 : own_ch c1) (H2 : own_ch c2) (hc1 : nn = (0 : Int32)) :
    MetFree l (⟨"com/example/riverside/riverside/RefusedExceptionReplyLinePinLaw", "mk", "(ICCC)Ljava/lang/String;"⟩ : MethodName) (head1 (Jvm.Cond.code (⟨"com/example/riverside/riverside/RefusedExceptionReplyLinePinLaw", "mk", "(ICCC)Ljava/lang/String;"⟩ : MethodName) method_2_code 4 (some (.object "java/lang/String")) :: ws) ({ frames := 4, cells := 6, slots := 16, locals := 66 } : Room)) (fun qq U => qq = #[(.int nn), (.int c0), (.int c1), (.int c2)] ∧ Z.Warmed39 U.vm ∧ U.heap = h0 ∧ CHv Z consts_1 U.vm h0) (fun _ _ _ _ _ => True) (fun _ UU oo UU' => ∃ vv LL, oo = .returned vv ∧ Qd17 Z nn c0 c1 c2 z h0 n0 vv UU'.heap LL ∧ CHr Z consts_1 UU.vm UU.heap UU'.vm UU'.heap ∧ ReturnedEndW UU oo UU' LL ({ frames := 4, cells := 6, slots := 16, locals := 66 } : Room).cells ({ frames := 4, cells := 6, slots := 16, locals := 66 } : Room).slots) := by
  refine MetFree.of_bodySF (plainFor_of_name pn_2) hisR ?_
  intro p e s m args below meth c s₁ Bd hml0 hP hK
  obtain ⟨rfl, hZ, hh, hC0⟩ := hP
  have hZ : Z.Warmed39 (s.setVm s.vm).vm := hZ
  have CR0 := CHr.refl hC0
  have hx := Bd.exec
  have hby := Bd.bytes
  have hml : c.maxLocals = 4 := hml0
  have hown : (s.setVm s.vm).vm.findClass "com/example/riverside/riverside/RefusedExceptionReplyLinePinLaw" = some m.cls := findClass_of_methodNamed Bd.named
  have hnm := (name_of_methodNamed Bd.named Bd.method).1
  have X0 : Stand p l e ({ frames := 4, cells := 6, slots := 16, locals := 66 } : Room) (s.setVm s.vm) m #[(.int nn), (.int c0), (.int c1), (.int c2)] below meth c s₁ [] 0 0 := Stand.of_body Bd
  have e0 : s₁.heap = h0 := by rw [← hh, Bd.state]; rfl
  have N0 := Fr.nil n0
  have pre0 : ∀ tgt, Steps p.tables e below (s₁.setTop (mkF m 0 #[.val (.int nn), .val (.int c0), .val (.int c1), .val (.int c2)] [])) tgt → Steps p.tables e below (s₁.setTop (entryFrame m #[(.int nn), (.int c0), (.int c1), (.int c2)] 4)) tgt := fun tt kk => castTop (ef_2 m nn c0 c1 c2) kk
  obtain ⟨T1, h1, X1, e1, E1, A1, D1, -, st1⟩ := newO X0 hx hZ hown (ww hw 7 rfl) (ww hw 8 rfl) (ww hw 9 rfl) e0 (g := (mkF m 4 #[.val (.int nn), .val (.int c0), .val (.int c1), .val (.int c2)] [])) rfl (hb hby d2_4) (by decide) (by decide)
  obtain ⟨b1, q1⟩ : ∃ z, z = h0.size := ⟨_, rfl⟩
  rw [← q1] at A1 D1 st1
  have g_b1 : n0 ≤ b1 := by rw [q1]; exact (O0).1 ▸ (O0).2.1
  have sz_b1 : h0.size ≤ b1 := by rw [q1]; exact ((Keep.refl h0 [])).1
  have SC1 := CHr.ext E1 CR0.1
  have CR1 := CHr.trans CR0 SC1
  have O1 := Old.ext O0 E1
  have K1 := Keep.ext (Keep.refl h0 []) E1
  have SN1 := Safe.ext E1 CR0.1 (Safe.new (Nat.le_of_eq q1.symm))
  have F1_value : Fld Z h1 b1 "java/lang/String" "value" "[B" .null := D1 (Or.inr (ww hw 23 rfl)) (ty := (.array .byte)) (by decide)
  have F1_coder : Fld Z h1 b1 "java/lang/String" "coder" "B" (.int (0 : Int32)) := D1 (Or.inr (ww hw 24 rfl)) (ty := .byte) (by decide)
  obtain ⟨T2, h2, k2, X2, e2, E2, A2, st2⟩ := newP X1 hx hZ (ww hw 10 rfl) e1 (g := (mkF m 9 #[.val (.int nn), .val (.int c0), .val (.int c1), .val (.int c2)] [(.int (0 : Int32)), (.ref b1), (.ref b1)])) rfl (hb hby d2_9) rfl (by decide) (cap := 0) (by decide) (by decide) (by decide) (by decide)
  obtain ⟨b2, q2⟩ : ∃ z, z = h1.size := ⟨_, rfl⟩
  rw [← q2] at A2 st2
  have g_b2 : n0 ≤ b2 := by rw [q2]; exact (O1).1 ▸ (O1).2.1
  have ne_b1_b2 : b1 ≠ b2 := by rw [q2]; exact Nat.ne_of_lt A1.lt
  have sz_b2 : h0.size ≤ b2 := by rw [q2]; exact (K1).1
  have SC2 := CHr.ext E2 CR1.1
  have CR2 := CHr.trans CR1 SC2
  have SF2_b1 := CHr.safe SC2 (A1.lt) SN1
  have O2 := Old.ext O1 E2
  have K2 := Keep.ext K1 E2
  have V2 : Arv Z h2 b2 k2 .char (0 : Int32) [] (.int (0 : Int32)) := Arv.new A2 (by decide)
  obtain ⟨_, _, ⟨T3, L3, k3, n3⟩, -, X3, Sq3, gq3, ⟨Lc3, hQ3, l3, y3, z3, CC3⟩, st3⟩ := X2.specialBackS hx (y := (⟨"java/lang/String", "<init>", "([C)V"⟩ : MethodName)) rfl hown (mvT hZ (ww hw 11 rfl)) (mvT hZ (ww hw 12 rfl)) (mvT hZ (ww hw 13 rfl)) (by decide) (backOfSH (W := 1) (rmI l Z a0 hw [] b1 b2 k2 h2 n0 O2 g_b1 (Exa.ext E2 A1) (Fld.ext E2 F1_value) (Fld.ext E2 F1_coder) V2) hZ (ww hw 13 rfl) (ww hw 9 rfl) (by decide) (by decide) (own_EW hw) CR2.1) (g := (mkF m 11 #[.val (.int nn), .val (.int c0), .val (.int c1), .val (.int c2)] [(.ref b2), (.ref b1), (.ref b1)])) rfl (by rw [hml]; rfl) (Steps.refl _) (a := b1) (argsL := [(.ref b2)]) (rest := [(.ref b1)]) (lenOf own_pd15 rfl) rfl (by show 2 * 0 + _ ≤ _; exact Nat.le_of_eq rfl) (hb hby d2_11) (fun _ _ => ⟨rfl, e2, (by decide : 2 + 4 ≤ _), (by decide : 4 + 8 ≤ _)⟩)
  dsimp only [Pt.U, Pt.locs, Pt.cells, Pt.slots] at X3 l3 y3 z3 st3 hQ3 Sq3 gq3 CC3
  subst l3 y3 z3
  obtain ⟨X3, S3, hZ3, hown3⟩ := rebS (n1 := T2.heap.size) (State.WarmedH.since (State.WarmedH.refl s) 0) (by rw [e2]; exact (Nat.zero_le _)) X3 Sq3 gq3 hZ hown
  obtain ⟨tt, kx, rfl, N3q, KK3, f3_0, f3_1, f3_2, f3_3⟩ := hQ3
  have N3 := Fr.app N0 N3q
  have SC3 := CC3
  have CR3 := CHr.trans CR2 SC3
  have SF3_b1 := CHr.safe SC3 ((Exa.ext E2 A1).lt) SF2_b1
  have O3 := Old.keep O2 KK3 (allS g_b1 all0)
  have K3 := Keep.trans K2 KK3 (allS (Or.inr sz_b1) all0)
  have hcs : own_mk nn c0 c1 c2 = ([] : List Int32) := by unfold own_mk; rw [if_pos hc1]
  obtain ⟨fs, hr, hrun, hended, hE⟩ := X3.leaveW (s := s) (vm₁ := T3.vm) S3 ((Nat.le_refl _)) (v := some (.ref b1)) (fun h => by rw [Bd.returns] at h; cases h)
  have CE : CHr Z consts_1 s.vm s.heap T3.vm T3.heap := by
    rw [hh]
    exact CHr.trans CR3 (CHv.at X3 hZ3 (own_EW hw) CR3.1)
  refine ⟨_, _, pre0 _ ?_, hrun, hended, _, _, rfl, ?_, CE, hE.1, hE.2.1, hE.2.2.1, hE.2.2.2.mono (by decide) (by decide)⟩
  · show Steps p.tables e below (s₁.setTop (mkF m 0 #[.val (.int nn), .val (.int c0), .val (.int c1), .val (.int c2)] [])) _
    refine XS.iloadN X0.here hx rfl (hb hby d2_0) rfl ?_
    show Steps p.tables e below (s₁.setTop (mkF m 1 #[.val (.int nn), .val (.int c0), .val (.int c1), .val (.int c2)] [(.int nn)])) _
    refine XS.ifNo X0.here hx rfl (hb hby d2_1) rfl ((if0 _ _).trans (teq hc1).2) ?_
    show Steps p.tables e below (s₁.setTop (mkF m 4 #[.val (.int nn), .val (.int c0), .val (.int c1), .val (.int c2)] [])) _
    refine st1 _ ?_
    show Steps p.tables e below (T1.setTop (mkF m 7 #[.val (.int nn), .val (.int c0), .val (.int c1), .val (.int c2)] [(.ref b1)])) _
    refine XS.dup X1.here hx rfl (hb hby d2_7) rfl rfl ?_
    show Steps p.tables e below (T1.setTop (mkF m 8 #[.val (.int nn), .val (.int c0), .val (.int c1), .val (.int c2)] [(.ref b1), (.ref b1)])) _
    refine XS.iconst X1.here hx rfl (hb hby d2_8) ?_
    show Steps p.tables e below (T1.setTop (mkF m 9 #[.val (.int nn), .val (.int c0), .val (.int c1), .val (.int c2)] [(.int (0 : Int32)), (.ref b1), (.ref b1)])) _
    refine st2 _ ?_
    show Steps p.tables e below (T2.setTop (mkF m 11 #[.val (.int nn), .val (.int c0), .val (.int c1), .val (.int c2)] [(.ref b2), (.ref b1), (.ref b1)])) _
    refine st3.trans ?_
    show Steps p.tables e below (T3.setTop (mkF m 14 #[.val (.int nn), .val (.int c0), .val (.int c1), .val (.int c2)] [(.ref b1)])) _
    exact retOut X3 hx Bd.returns rfl (Or.inr (Or.inr (Or.inr (Or.inr ⟨rfl, rfl, rfl⟩)))) (hb hby d2_14) hr
  · show Qd17 Z nn c0 c1 c2 z h0 n0 _ T3.heap _
    exact ⟨b1, tt, kx, rfl, N3, K3, f3_0, f3_1, f3_2, by rw [hcs]; exact f3_3⟩
theorem d2_15 : decode method_2_code 15 = .ok (.iload_n 0, 1) := by decide +kernel
theorem d2_16 : decode method_2_code 16 = .ok (.iconst 1, 1) := by decide +kernel
theorem d2_17 : decode method_2_code 17 = .ok (.if_icmp .ne 18, 3) := by decide +kernel
theorem d2_20 : decode method_2_code 20 = .ok (.new 7, 3) := by decide +kernel
theorem d2_23 : decode method_2_code 23 = .ok (.dup, 1) := by decide +kernel
theorem d2_24 : decode method_2_code 24 = .ok (.iconst 1, 1) := by decide +kernel
theorem d2_25 : decode method_2_code 25 = .ok (.newarray .char, 2) := by decide +kernel
theorem d2_27 : decode method_2_code 27 = .ok (.dup, 1) := by decide +kernel
theorem d2_28 : decode method_2_code 28 = .ok (.iconst 0, 1) := by decide +kernel
theorem d2_29 : decode method_2_code 29 = .ok (.iload_n 1, 1) := by decide +kernel
theorem d2_30 : decode method_2_code 30 = .ok (.castore, 1) := by decide +kernel
theorem d2_31 : decode method_2_code 31 = .ok (.invokespecial 9, 3) := by decide +kernel
theorem d2_34 : decode method_2_code 34 = .ok (.areturn, 1) := by decide +kernel
set_option maxRecDepth 65536 in
set_option maxHeartbeats 40000000 in
theorem rmM1 (l : Launch) (Z : State) (a0 : Array Value) (hw : ∀ d ∈ tables_1, d.before a0 Z = true) (ws : List Jvm.Cond) (nn c0 c1 c2 z : Int32) (h0 : Heap) (n0 : Nat) (O0 : Old Z n0 h0) (SC : Sta Z Z.heap "java/lang/String" "COMPACT_STRINGS" "Z" (.int z)) (hz : ¬ z = 0) (H0 : own_ch c0) (H1 : own_ch c1) (H2 : own_ch c2) (hc1 : ¬ (nn = (0 : Int32))) (hc17 : nn = (1 : Int32)) :
    MetFree l (⟨"com/example/riverside/riverside/RefusedExceptionReplyLinePinLaw", "mk", "(ICCC)Ljava/lang/String;"⟩ : MethodName) (head1 (Jvm.Cond.code (⟨"com/example/riverside/riverside/RefusedExceptionReplyLinePinLaw", "mk", "(ICCC)Ljava/lang/String;"⟩ : MethodName) method_2_code 4 (some (.object "java/lang/String")) :: ws) ({ frames := 4, cells := 6, slots := 16, locals := 66 } : Room)) (fun qq U => qq = #[(.int nn), (.int c0), (.int c1), (.int c2)] ∧ Z.Warmed39 U.vm ∧ U.heap = h0 ∧ CHv Z consts_1 U.vm h0) (fun _ _ _ _ _ => True) (fun _ UU oo UU' => ∃ vv LL, oo = .returned vv ∧ Qd17 Z nn c0 c1 c2 z h0 n0 vv UU'.heap LL ∧ CHr Z consts_1 UU.vm UU.heap UU'.vm UU'.heap ∧ ReturnedEndW UU oo UU' LL ({ frames := 4, cells := 6, slots := 16, locals := 66 } : Room).cells ({ frames := 4, cells := 6, slots := 16, locals := 66 } : Room).slots) := by
  refine MetFree.of_bodySF (plainFor_of_name pn_2) hisR ?_
  intro p e s m args below meth c s₁ Bd hml0 hP hK
  obtain ⟨rfl, hZ, hh, hC0⟩ := hP
  have hZ : Z.Warmed39 (s.setVm s.vm).vm := hZ
  have CR0 := CHr.refl hC0
  have hx := Bd.exec
  have hby := Bd.bytes
  have hml : c.maxLocals = 4 := hml0
  have hown : (s.setVm s.vm).vm.findClass "com/example/riverside/riverside/RefusedExceptionReplyLinePinLaw" = some m.cls := findClass_of_methodNamed Bd.named
  have hnm := (name_of_methodNamed Bd.named Bd.method).1
  have X0 : Stand p l e ({ frames := 4, cells := 6, slots := 16, locals := 66 } : Room) (s.setVm s.vm) m #[(.int nn), (.int c0), (.int c1), (.int c2)] below meth c s₁ [] 0 0 := Stand.of_body Bd
  have e0 : s₁.heap = h0 := by rw [← hh, Bd.state]; rfl
  have N0 := Fr.nil n0
  have pre0 : ∀ tgt, Steps p.tables e below (s₁.setTop (mkF m 0 #[.val (.int nn), .val (.int c0), .val (.int c1), .val (.int c2)] [])) tgt → Steps p.tables e below (s₁.setTop (entryFrame m #[(.int nn), (.int c0), (.int c1), (.int c2)] 4)) tgt := fun tt kk => castTop (ef_2 m nn c0 c1 c2) kk
  obtain ⟨T1, h1, X1, e1, E1, A1, D1, -, st1⟩ := newO X0 hx hZ hown (ww hw 7 rfl) (ww hw 8 rfl) (ww hw 9 rfl) e0 (g := (mkF m 20 #[.val (.int nn), .val (.int c0), .val (.int c1), .val (.int c2)] [])) rfl (hb hby d2_20) (by decide) (by decide)
  obtain ⟨b1, q1⟩ : ∃ z, z = h0.size := ⟨_, rfl⟩
  rw [← q1] at A1 D1 st1
  have g_b1 : n0 ≤ b1 := by rw [q1]; exact (O0).1 ▸ (O0).2.1
  have sz_b1 : h0.size ≤ b1 := by rw [q1]; exact ((Keep.refl h0 [])).1
  have SC1 := CHr.ext E1 CR0.1
  have CR1 := CHr.trans CR0 SC1
  have O1 := Old.ext O0 E1
  have K1 := Keep.ext (Keep.refl h0 []) E1
  have SN1 := Safe.ext E1 CR0.1 (Safe.new (Nat.le_of_eq q1.symm))
  have F1_value : Fld Z h1 b1 "java/lang/String" "value" "[B" .null := D1 (Or.inr (ww hw 23 rfl)) (ty := (.array .byte)) (by decide)
  have F1_coder : Fld Z h1 b1 "java/lang/String" "coder" "B" (.int (0 : Int32)) := D1 (Or.inr (ww hw 24 rfl)) (ty := .byte) (by decide)
  obtain ⟨T2, h2, k2, X2, e2, E2, A2, st2⟩ := newP X1 hx hZ (ww hw 10 rfl) e1 (g := (mkF m 25 #[.val (.int nn), .val (.int c0), .val (.int c1), .val (.int c2)] [(.int (1 : Int32)), (.ref b1), (.ref b1)])) rfl (hb hby d2_25) rfl (by decide) (cap := 1) (by decide) (by decide) (by decide) (by decide)
  obtain ⟨b2, q2⟩ : ∃ z, z = h1.size := ⟨_, rfl⟩
  rw [← q2] at A2 st2
  have g_b2 : n0 ≤ b2 := by rw [q2]; exact (O1).1 ▸ (O1).2.1
  have ne_b1_b2 : b1 ≠ b2 := by rw [q2]; exact Nat.ne_of_lt A1.lt
  have sz_b2 : h0.size ≤ b2 := by rw [q2]; exact (K1).1
  have SC2 := CHr.ext E2 CR1.1
  have CR2 := CHr.trans CR1 SC2
  have SF2_b1 := CHr.safe SC2 (A1.lt) SN1
  have O2 := Old.ext O1 E2
  have K2 := Keep.ext K1 E2
  have V2 : Arv Z h2 b2 k2 .char (1 : Int32) [] (.int (0 : Int32)) := Arv.new A2 (by decide)
  obtain ⟨T3, h3, X3, e3, W3, V3, st3⟩ := own_putC X2 hx hZ e2 V2 (j := (0 : Int32)) rfl (by decide) (Nat.le_of_ble_eq_true rfl) (g := (mkF m 30 #[.val (.int nn), .val (.int c0), .val (.int c1), .val (.int c2)] [(.int c0), (.int (0 : Int32)), (.ref b2), (.ref b2), (.ref b1), (.ref b1)])) rfl rfl (hb hby d2_30)
  have SC3 := CHr.wr W3 (Safe.arv hZ.alike V2 (by decide)) CR2.1
  have CR3 := CHr.trans CR2 SC3
  have SF3_b1 := CHr.safe SC3 ((Exa.ext E2 A1).lt) SF2_b1
  have N3 := Fr.snoc X3 N0 g_b2
  have O3 := Old.wr O2 W3 g_b2
  have K3 := Keep.wr K2 W3 (Or.inr sz_b2)
  have Vq : Arv Z h3 b2 k2 .char (1 : Int32) (([c0] : List Int32).map Value.int) (.int 0) := by
    have q := V3
    rw [H0.1] at q
    exact q
  have hp : ∀ c ∈ ([c0] : List Int32), ¬ c < 0 ∧ ¬ (255 : Int32) < c := by
    intro c hc
    simp only [List.mem_cons, List.not_mem_nil, or_false] at hc
    rcases hc with rfl
    · exact H0.2
  obtain ⟨_, _, ⟨T4, L4, k4, n4⟩, -, X4, ⟨Lc4, hQ4, l4, y4, z4⟩, st4⟩ := X3.specialBack hx (y := (⟨"java/lang/String", "<init>", "([C)V"⟩ : MethodName)) rfl hown (mvT hZ (ww hw 11 rfl)) (mvT hZ (ww hw 12 rfl)) (mvT hZ (ww hw 13 rfl)) (by decide) (StrChars.Road.backV (W := 1) hZ (own_wB hw) (kI := 4) (ww hw 8 rfl) (cs := ([c0] : List Int32)) (bs := (([c0] : List Int32)).map StrChars.lo8) (n := 1) (n0 := n0) g_b1 (show n0 ≤ h3.size from (O3).1 ▸ (O3).2.1) (Exa.wr W3 (Exa.ext E2 A1)) (Fld.other W3 (Fld.ext E2 F1_value) (Or.inl ne_b1_b2)) (Fld.other W3 (Fld.ext E2 F1_coder) (Or.inl ne_b1_b2)) Vq (Sta.ext O3.2 SC) hz rfl rfl (by decide) (by decide) hp rfl (by decide) (by decide)) (g := (mkF m 31 #[.val (.int nn), .val (.int c0), .val (.int c1), .val (.int c2)] [(.ref b2), (.ref b1), (.ref b1)])) rfl (by rw [hml]; rfl) (Steps.refl _) (a := b1) (argsL := [(.ref b2)]) (rest := [(.ref b1)]) (lenOf own_pd15 rfl) rfl (by show 2 * 0 + _ ≤ _; exact Nat.le_of_eq rfl) (hb hby d2_31) (fun _ _ => ⟨rfl, e3, (by decide : 2 + 1 ≤ _), (by decide : 5 + 1 ≤ _)⟩)
  dsimp only [Pt.U, Pt.locs, Pt.cells, Pt.slots] at X4 l4 y4 z4 st4 hQ4
  subst l4 y4 z4
  obtain ⟨rfl, N4q, KK4, fE, fC, tt, kx, _, _, _, fV, fK⟩ := hQ4
  have N4 := Fr.app N3 N4q
  have SC4 := CHr.keep KK4 (sfS SF3_b1 sf0) CR3.1
  have CR4 := CHr.trans CR3 SC4
  have SF4_b1 := CHr.safe SC4 ((Exa.wr W3 (Exa.ext E2 A1)).lt) SF3_b1
  have O4 := Old.keep O3 KK4 (allS g_b1 all0)
  have K4 := Keep.trans K3 KK4 (allS (Or.inr sz_b1) all0)
  have hcs : own_mk nn c0 c1 c2 = ([c0] : List Int32) := by unfold own_mk; rw [if_neg hc1, if_pos hc17]
  obtain ⟨fs, hr, hrun, hended, hE⟩ := X4.leaveW (s := s) (vm₁ := s.vm) (State.WarmedH.since (State.WarmedH.refl s) 0) ((Nat.zero_le _)) (v := some (.ref b1)) (fun h => by rw [Bd.returns] at h; cases h)
  have CE : CHr Z consts_1 s.vm s.heap T4.vm T4.heap := by
    rw [hh]
    exact CHr.trans CR4 (CHv.at X4 hZ (own_EW hw) CR4.1)
  refine ⟨_, _, pre0 _ ?_, hrun, hended, _, _, rfl, ?_, CE, hE.1, hE.2.1, hE.2.2.1, hE.2.2.2.mono (by decide) (by decide)⟩
  · show Steps p.tables e below (s₁.setTop (mkF m 0 #[.val (.int nn), .val (.int c0), .val (.int c1), .val (.int c2)] [])) _
    refine XS.iloadN X0.here hx rfl (hb hby d2_0) rfl ?_
    show Steps p.tables e below (s₁.setTop (mkF m 1 #[.val (.int nn), .val (.int c0), .val (.int c1), .val (.int c2)] [(.int nn)])) _
    refine XS.ifYes X0.here hx rfl (pc0 := 1) (pc' := 15) rfl (hb hby d2_1) rfl ((if0 _ _).trans (feq hc1).2) (by decide) (by decide) ?_
    show Steps p.tables e below (s₁.setTop (mkF m 15 #[.val (.int nn), .val (.int c0), .val (.int c1), .val (.int c2)] [])) _
    refine XS.iloadN X0.here hx rfl (hb hby d2_15) rfl ?_
    show Steps p.tables e below (s₁.setTop (mkF m 16 #[.val (.int nn), .val (.int c0), .val (.int c1), .val (.int c2)] [(.int nn)])) _
    refine XS.iconst X0.here hx rfl (hb hby d2_16) ?_
    show Steps p.tables e below (s₁.setTop (mkF m 17 #[.val (.int nn), .val (.int c0), .val (.int c1), .val (.int c2)] [(.int (1 : Int32)), (.int nn)])) _
    refine XS.icmpNo X0.here hx rfl (hb hby d2_17) rfl (teq hc17).2 ?_
    show Steps p.tables e below (s₁.setTop (mkF m 20 #[.val (.int nn), .val (.int c0), .val (.int c1), .val (.int c2)] [])) _
    refine st1 _ ?_
    show Steps p.tables e below (T1.setTop (mkF m 23 #[.val (.int nn), .val (.int c0), .val (.int c1), .val (.int c2)] [(.ref b1)])) _
    refine XS.dup X1.here hx rfl (hb hby d2_23) rfl rfl ?_
    show Steps p.tables e below (T1.setTop (mkF m 24 #[.val (.int nn), .val (.int c0), .val (.int c1), .val (.int c2)] [(.ref b1), (.ref b1)])) _
    refine XS.iconst X1.here hx rfl (hb hby d2_24) ?_
    show Steps p.tables e below (T1.setTop (mkF m 25 #[.val (.int nn), .val (.int c0), .val (.int c1), .val (.int c2)] [(.int (1 : Int32)), (.ref b1), (.ref b1)])) _
    refine st2 _ ?_
    show Steps p.tables e below (T2.setTop (mkF m 27 #[.val (.int nn), .val (.int c0), .val (.int c1), .val (.int c2)] [(.ref b2), (.ref b1), (.ref b1)])) _
    refine XS.dup X2.here hx rfl (hb hby d2_27) rfl rfl ?_
    show Steps p.tables e below (T2.setTop (mkF m 28 #[.val (.int nn), .val (.int c0), .val (.int c1), .val (.int c2)] [(.ref b2), (.ref b2), (.ref b1), (.ref b1)])) _
    refine XS.iconst X2.here hx rfl (hb hby d2_28) ?_
    show Steps p.tables e below (T2.setTop (mkF m 29 #[.val (.int nn), .val (.int c0), .val (.int c1), .val (.int c2)] [(.int (0 : Int32)), (.ref b2), (.ref b2), (.ref b1), (.ref b1)])) _
    refine XS.iloadN X2.here hx rfl (hb hby d2_29) rfl ?_
    show Steps p.tables e below (T2.setTop (mkF m 30 #[.val (.int nn), .val (.int c0), .val (.int c1), .val (.int c2)] [(.int c0), (.int (0 : Int32)), (.ref b2), (.ref b2), (.ref b1), (.ref b1)])) _
    refine st3 _ ?_
    show Steps p.tables e below (T3.setTop (mkF m 31 #[.val (.int nn), .val (.int c0), .val (.int c1), .val (.int c2)] [(.ref b2), (.ref b1), (.ref b1)])) _
    refine st4.trans ?_
    show Steps p.tables e below (T4.setTop (mkF m 34 #[.val (.int nn), .val (.int c0), .val (.int c1), .val (.int c2)] [(.ref b1)])) _
    exact retOut X4 hx Bd.returns rfl (Or.inr (Or.inr (Or.inr (Or.inr ⟨rfl, rfl, rfl⟩)))) (hb hby d2_34) hr
  · show Qd17 Z nn c0 c1 c2 z h0 n0 _ T4.heap _
    exact ⟨b1, tt, kx, rfl, N4, K4, fE, fV, fC, by rw [hcs]; exact fK⟩
theorem d2_35 : decode method_2_code 35 = .ok (.iload_n 0, 1) := by decide +kernel
theorem d2_36 : decode method_2_code 36 = .ok (.iconst 2, 1) := by decide +kernel
theorem d2_37 : decode method_2_code 37 = .ok (.if_icmp .ne 22, 3) := by decide +kernel
theorem d2_40 : decode method_2_code 40 = .ok (.new 7, 3) := by decide +kernel
theorem d2_43 : decode method_2_code 43 = .ok (.dup, 1) := by decide +kernel
theorem d2_44 : decode method_2_code 44 = .ok (.iconst 2, 1) := by decide +kernel
theorem d2_45 : decode method_2_code 45 = .ok (.newarray .char, 2) := by decide +kernel
theorem d2_47 : decode method_2_code 47 = .ok (.dup, 1) := by decide +kernel
theorem d2_48 : decode method_2_code 48 = .ok (.iconst 0, 1) := by decide +kernel
theorem d2_49 : decode method_2_code 49 = .ok (.iload_n 1, 1) := by decide +kernel
theorem d2_50 : decode method_2_code 50 = .ok (.castore, 1) := by decide +kernel
theorem d2_51 : decode method_2_code 51 = .ok (.dup, 1) := by decide +kernel
theorem d2_52 : decode method_2_code 52 = .ok (.iconst 1, 1) := by decide +kernel
theorem d2_53 : decode method_2_code 53 = .ok (.iload_n 2, 1) := by decide +kernel
theorem d2_54 : decode method_2_code 54 = .ok (.castore, 1) := by decide +kernel
theorem d2_55 : decode method_2_code 55 = .ok (.invokespecial 9, 3) := by decide +kernel
theorem d2_58 : decode method_2_code 58 = .ok (.areturn, 1) := by decide +kernel
set_option maxRecDepth 65536 in
set_option maxHeartbeats 40000000 in
theorem rmM2 (l : Launch) (Z : State) (a0 : Array Value) (hw : ∀ d ∈ tables_1, d.before a0 Z = true) (ws : List Jvm.Cond) (nn c0 c1 c2 z : Int32) (h0 : Heap) (n0 : Nat) (O0 : Old Z n0 h0) (SC : Sta Z Z.heap "java/lang/String" "COMPACT_STRINGS" "Z" (.int z)) (hz : ¬ z = 0) (H0 : own_ch c0) (H1 : own_ch c1) (H2 : own_ch c2) (hc1 : ¬ (nn = (0 : Int32))) (hc17 : ¬ (nn = (1 : Int32))) (hc37 : nn = (2 : Int32)) :
    MetFree l (⟨"com/example/riverside/riverside/RefusedExceptionReplyLinePinLaw", "mk", "(ICCC)Ljava/lang/String;"⟩ : MethodName) (head1 (Jvm.Cond.code (⟨"com/example/riverside/riverside/RefusedExceptionReplyLinePinLaw", "mk", "(ICCC)Ljava/lang/String;"⟩ : MethodName) method_2_code 4 (some (.object "java/lang/String")) :: ws) ({ frames := 4, cells := 6, slots := 16, locals := 66 } : Room)) (fun qq U => qq = #[(.int nn), (.int c0), (.int c1), (.int c2)] ∧ Z.Warmed39 U.vm ∧ U.heap = h0 ∧ CHv Z consts_1 U.vm h0) (fun _ _ _ _ _ => True) (fun _ UU oo UU' => ∃ vv LL, oo = .returned vv ∧ Qd17 Z nn c0 c1 c2 z h0 n0 vv UU'.heap LL ∧ CHr Z consts_1 UU.vm UU.heap UU'.vm UU'.heap ∧ ReturnedEndW UU oo UU' LL ({ frames := 4, cells := 6, slots := 16, locals := 66 } : Room).cells ({ frames := 4, cells := 6, slots := 16, locals := 66 } : Room).slots) := by
  refine MetFree.of_bodySF (plainFor_of_name pn_2) hisR ?_
  intro p e s m args below meth c s₁ Bd hml0 hP hK
  obtain ⟨rfl, hZ, hh, hC0⟩ := hP
  have hZ : Z.Warmed39 (s.setVm s.vm).vm := hZ
  have CR0 := CHr.refl hC0
  have hx := Bd.exec
  have hby := Bd.bytes
  have hml : c.maxLocals = 4 := hml0
  have hown : (s.setVm s.vm).vm.findClass "com/example/riverside/riverside/RefusedExceptionReplyLinePinLaw" = some m.cls := findClass_of_methodNamed Bd.named
  have hnm := (name_of_methodNamed Bd.named Bd.method).1
  have X0 : Stand p l e ({ frames := 4, cells := 6, slots := 16, locals := 66 } : Room) (s.setVm s.vm) m #[(.int nn), (.int c0), (.int c1), (.int c2)] below meth c s₁ [] 0 0 := Stand.of_body Bd
  have e0 : s₁.heap = h0 := by rw [← hh, Bd.state]; rfl
  have N0 := Fr.nil n0
  have pre0 : ∀ tgt, Steps p.tables e below (s₁.setTop (mkF m 0 #[.val (.int nn), .val (.int c0), .val (.int c1), .val (.int c2)] [])) tgt → Steps p.tables e below (s₁.setTop (entryFrame m #[(.int nn), (.int c0), (.int c1), (.int c2)] 4)) tgt := fun tt kk => castTop (ef_2 m nn c0 c1 c2) kk
  obtain ⟨T1, h1, X1, e1, E1, A1, D1, -, st1⟩ := newO X0 hx hZ hown (ww hw 7 rfl) (ww hw 8 rfl) (ww hw 9 rfl) e0 (g := (mkF m 40 #[.val (.int nn), .val (.int c0), .val (.int c1), .val (.int c2)] [])) rfl (hb hby d2_40) (by decide) (by decide)
  obtain ⟨b1, q1⟩ : ∃ z, z = h0.size := ⟨_, rfl⟩
  rw [← q1] at A1 D1 st1
  have g_b1 : n0 ≤ b1 := by rw [q1]; exact (O0).1 ▸ (O0).2.1
  have sz_b1 : h0.size ≤ b1 := by rw [q1]; exact ((Keep.refl h0 [])).1
  have SC1 := CHr.ext E1 CR0.1
  have CR1 := CHr.trans CR0 SC1
  have O1 := Old.ext O0 E1
  have K1 := Keep.ext (Keep.refl h0 []) E1
  have SN1 := Safe.ext E1 CR0.1 (Safe.new (Nat.le_of_eq q1.symm))
  have F1_value : Fld Z h1 b1 "java/lang/String" "value" "[B" .null := D1 (Or.inr (ww hw 23 rfl)) (ty := (.array .byte)) (by decide)
  have F1_coder : Fld Z h1 b1 "java/lang/String" "coder" "B" (.int (0 : Int32)) := D1 (Or.inr (ww hw 24 rfl)) (ty := .byte) (by decide)
  obtain ⟨T2, h2, k2, X2, e2, E2, A2, st2⟩ := newP X1 hx hZ (ww hw 10 rfl) e1 (g := (mkF m 45 #[.val (.int nn), .val (.int c0), .val (.int c1), .val (.int c2)] [(.int (2 : Int32)), (.ref b1), (.ref b1)])) rfl (hb hby d2_45) rfl (by decide) (cap := 2) (by decide) (by decide) (by decide) (by decide)
  obtain ⟨b2, q2⟩ : ∃ z, z = h1.size := ⟨_, rfl⟩
  rw [← q2] at A2 st2
  have g_b2 : n0 ≤ b2 := by rw [q2]; exact (O1).1 ▸ (O1).2.1
  have ne_b1_b2 : b1 ≠ b2 := by rw [q2]; exact Nat.ne_of_lt A1.lt
  have sz_b2 : h0.size ≤ b2 := by rw [q2]; exact (K1).1
  have SC2 := CHr.ext E2 CR1.1
  have CR2 := CHr.trans CR1 SC2
  have SF2_b1 := CHr.safe SC2 (A1.lt) SN1
  have O2 := Old.ext O1 E2
  have K2 := Keep.ext K1 E2
  have V2 : Arv Z h2 b2 k2 .char (2 : Int32) [] (.int (0 : Int32)) := Arv.new A2 (by decide)
  obtain ⟨T3, h3, X3, e3, W3, V3, st3⟩ := own_putC X2 hx hZ e2 V2 (j := (0 : Int32)) rfl (by decide) (Nat.le_of_ble_eq_true rfl) (g := (mkF m 50 #[.val (.int nn), .val (.int c0), .val (.int c1), .val (.int c2)] [(.int c0), (.int (0 : Int32)), (.ref b2), (.ref b2), (.ref b1), (.ref b1)])) rfl rfl (hb hby d2_50)
  have SC3 := CHr.wr W3 (Safe.arv hZ.alike V2 (by decide)) CR2.1
  have CR3 := CHr.trans CR2 SC3
  have SF3_b1 := CHr.safe SC3 ((Exa.ext E2 A1).lt) SF2_b1
  have N3 := Fr.snoc X3 N0 g_b2
  have O3 := Old.wr O2 W3 g_b2
  have K3 := Keep.wr K2 W3 (Or.inr sz_b2)
  obtain ⟨T4, h4, X4, e4, W4, V4, st4⟩ := own_putC X3 hx hZ e3 V3 (j := (1 : Int32)) rfl (by decide) (Nat.le_of_ble_eq_true rfl) (g := (mkF m 54 #[.val (.int nn), .val (.int c0), .val (.int c1), .val (.int c2)] [(.int c1), (.int (1 : Int32)), (.ref b2), (.ref b2), (.ref b1), (.ref b1)])) rfl rfl (hb hby d2_54)
  have SC4 := CHr.wr W4 (Safe.arv hZ.alike V3 (by decide)) CR3.1
  have CR4 := CHr.trans CR3 SC4
  have SF4_b1 := CHr.safe SC4 ((Exa.wr W3 (Exa.ext E2 A1)).lt) SF3_b1
  have N4 := Fr.snoc X4 N3 g_b2
  have O4 := Old.wr O3 W4 g_b2
  have K4 := Keep.wr K3 W4 (Or.inr sz_b2)
  have Vq : Arv Z h4 b2 k2 .char (2 : Int32) (([c0, c1] : List Int32).map Value.int) (.int 0) := by
    have q := V4
    rw [H0.1, H1.1] at q
    exact q
  have hp : ∀ c ∈ ([c0, c1] : List Int32), ¬ c < 0 ∧ ¬ (255 : Int32) < c := by
    intro c hc
    simp only [List.mem_cons, List.not_mem_nil, or_false] at hc
    rcases hc with rfl | rfl
    · exact H0.2
    · exact H1.2
  have c5 := (Fld.other W4 (Fld.other W3 (Fld.ext E2 F1_value) (Or.inl ne_b1_b2)) (Or.inl ne_b1_b2))
  have c6 := (Fld.other W4 (Fld.other W3 (Fld.ext E2 F1_coder) (Or.inl ne_b1_b2)) (Or.inl ne_b1_b2))
  obtain ⟨_, _, ⟨T7, L7, k7, n7⟩, -, X7, ⟨Lc7, hQ7, l7, y7, z7⟩, st7⟩ := X4.specialBack hx (y := (⟨"java/lang/String", "<init>", "([C)V"⟩ : MethodName)) rfl hown (mvT hZ (ww hw 11 rfl)) (mvT hZ (ww hw 12 rfl)) (mvT hZ (ww hw 13 rfl)) (by decide) (StrChars.Road.backV (W := 1) hZ (own_wB hw) (kI := 4) (ww hw 8 rfl) (cs := ([c0, c1] : List Int32)) (bs := (([c0, c1] : List Int32)).map StrChars.lo8) (n := 2) (n0 := n0) g_b1 (show n0 ≤ h4.size from (O4).1 ▸ (O4).2.1) (Exa.wr W4 (Exa.wr W3 (Exa.ext E2 A1))) c5 c6 Vq (Sta.ext O4.2 SC) hz rfl rfl (by decide) (by decide) hp rfl (by decide) (by decide)) (g := (mkF m 55 #[.val (.int nn), .val (.int c0), .val (.int c1), .val (.int c2)] [(.ref b2), (.ref b1), (.ref b1)])) rfl (by rw [hml]; rfl) (Steps.refl _) (a := b1) (argsL := [(.ref b2)]) (rest := [(.ref b1)]) (lenOf own_pd15 rfl) rfl (by show 2 * 0 + _ ≤ _; exact Nat.le_of_eq rfl) (hb hby d2_55) (fun _ _ => ⟨rfl, e4, (by decide : 2 + 1 ≤ _), (by decide : 6 + 2 ≤ _)⟩)
  dsimp only [Pt.U, Pt.locs, Pt.cells, Pt.slots] at X7 l7 y7 z7 st7 hQ7
  subst l7 y7 z7
  obtain ⟨rfl, N7q, KK7, fE, fC, tt, kx, _, _, _, fV, fK⟩ := hQ7
  have N7 := Fr.app N4 N7q
  have SC7 := CHr.keep KK7 (sfS SF4_b1 sf0) CR4.1
  have CR7 := CHr.trans CR4 SC7
  have SF7_b1 := CHr.safe SC7 ((Exa.wr W4 (Exa.wr W3 (Exa.ext E2 A1))).lt) SF4_b1
  have O7 := Old.keep O4 KK7 (allS g_b1 all0)
  have K7 := Keep.trans K4 KK7 (allS (Or.inr sz_b1) all0)
  have hcs : own_mk nn c0 c1 c2 = ([c0, c1] : List Int32) := by unfold own_mk; rw [if_neg hc1, if_neg hc17, if_pos hc37]
  obtain ⟨fs, hr, hrun, hended, hE⟩ := X7.leaveW (s := s) (vm₁ := s.vm) (State.WarmedH.since (State.WarmedH.refl s) 0) ((Nat.zero_le _)) (v := some (.ref b1)) (fun h => by rw [Bd.returns] at h; cases h)
  have CE : CHr Z consts_1 s.vm s.heap T7.vm T7.heap := by
    rw [hh]
    exact CHr.trans CR7 (CHv.at X7 hZ (own_EW hw) CR7.1)
  refine ⟨_, _, pre0 _ ?_, hrun, hended, _, _, rfl, ?_, CE, hE.1, hE.2.1, hE.2.2.1, hE.2.2.2.mono (by decide) (by decide)⟩
  · show Steps p.tables e below (s₁.setTop (mkF m 0 #[.val (.int nn), .val (.int c0), .val (.int c1), .val (.int c2)] [])) _
    refine XS.iloadN X0.here hx rfl (hb hby d2_0) rfl ?_
    show Steps p.tables e below (s₁.setTop (mkF m 1 #[.val (.int nn), .val (.int c0), .val (.int c1), .val (.int c2)] [(.int nn)])) _
    refine XS.ifYes X0.here hx rfl (pc0 := 1) (pc' := 15) rfl (hb hby d2_1) rfl ((if0 _ _).trans (feq hc1).2) (by decide) (by decide) ?_
    show Steps p.tables e below (s₁.setTop (mkF m 15 #[.val (.int nn), .val (.int c0), .val (.int c1), .val (.int c2)] [])) _
    refine XS.iloadN X0.here hx rfl (hb hby d2_15) rfl ?_
    show Steps p.tables e below (s₁.setTop (mkF m 16 #[.val (.int nn), .val (.int c0), .val (.int c1), .val (.int c2)] [(.int nn)])) _
    refine XS.iconst X0.here hx rfl (hb hby d2_16) ?_
    show Steps p.tables e below (s₁.setTop (mkF m 17 #[.val (.int nn), .val (.int c0), .val (.int c1), .val (.int c2)] [(.int (1 : Int32)), (.int nn)])) _
    refine XS.icmpYes X0.here hx rfl (pc0 := 17) (pc' := 35) rfl (hb hby d2_17) rfl (feq hc17).2 (by decide) (by decide) ?_
    show Steps p.tables e below (s₁.setTop (mkF m 35 #[.val (.int nn), .val (.int c0), .val (.int c1), .val (.int c2)] [])) _
    refine XS.iloadN X0.here hx rfl (hb hby d2_35) rfl ?_
    show Steps p.tables e below (s₁.setTop (mkF m 36 #[.val (.int nn), .val (.int c0), .val (.int c1), .val (.int c2)] [(.int nn)])) _
    refine XS.iconst X0.here hx rfl (hb hby d2_36) ?_
    show Steps p.tables e below (s₁.setTop (mkF m 37 #[.val (.int nn), .val (.int c0), .val (.int c1), .val (.int c2)] [(.int (2 : Int32)), (.int nn)])) _
    refine XS.icmpNo X0.here hx rfl (hb hby d2_37) rfl (teq hc37).2 ?_
    show Steps p.tables e below (s₁.setTop (mkF m 40 #[.val (.int nn), .val (.int c0), .val (.int c1), .val (.int c2)] [])) _
    refine st1 _ ?_
    show Steps p.tables e below (T1.setTop (mkF m 43 #[.val (.int nn), .val (.int c0), .val (.int c1), .val (.int c2)] [(.ref b1)])) _
    refine XS.dup X1.here hx rfl (hb hby d2_43) rfl rfl ?_
    show Steps p.tables e below (T1.setTop (mkF m 44 #[.val (.int nn), .val (.int c0), .val (.int c1), .val (.int c2)] [(.ref b1), (.ref b1)])) _
    refine XS.iconst X1.here hx rfl (hb hby d2_44) ?_
    show Steps p.tables e below (T1.setTop (mkF m 45 #[.val (.int nn), .val (.int c0), .val (.int c1), .val (.int c2)] [(.int (2 : Int32)), (.ref b1), (.ref b1)])) _
    refine st2 _ ?_
    show Steps p.tables e below (T2.setTop (mkF m 47 #[.val (.int nn), .val (.int c0), .val (.int c1), .val (.int c2)] [(.ref b2), (.ref b1), (.ref b1)])) _
    refine XS.dup X2.here hx rfl (hb hby d2_47) rfl rfl ?_
    show Steps p.tables e below (T2.setTop (mkF m 48 #[.val (.int nn), .val (.int c0), .val (.int c1), .val (.int c2)] [(.ref b2), (.ref b2), (.ref b1), (.ref b1)])) _
    refine XS.iconst X2.here hx rfl (hb hby d2_48) ?_
    show Steps p.tables e below (T2.setTop (mkF m 49 #[.val (.int nn), .val (.int c0), .val (.int c1), .val (.int c2)] [(.int (0 : Int32)), (.ref b2), (.ref b2), (.ref b1), (.ref b1)])) _
    refine XS.iloadN X2.here hx rfl (hb hby d2_49) rfl ?_
    show Steps p.tables e below (T2.setTop (mkF m 50 #[.val (.int nn), .val (.int c0), .val (.int c1), .val (.int c2)] [(.int c0), (.int (0 : Int32)), (.ref b2), (.ref b2), (.ref b1), (.ref b1)])) _
    refine st3 _ ?_
    show Steps p.tables e below (T3.setTop (mkF m 51 #[.val (.int nn), .val (.int c0), .val (.int c1), .val (.int c2)] [(.ref b2), (.ref b1), (.ref b1)])) _
    refine XS.dup X3.here hx rfl (hb hby d2_51) rfl rfl ?_
    show Steps p.tables e below (T3.setTop (mkF m 52 #[.val (.int nn), .val (.int c0), .val (.int c1), .val (.int c2)] [(.ref b2), (.ref b2), (.ref b1), (.ref b1)])) _
    refine XS.iconst X3.here hx rfl (hb hby d2_52) ?_
    show Steps p.tables e below (T3.setTop (mkF m 53 #[.val (.int nn), .val (.int c0), .val (.int c1), .val (.int c2)] [(.int (1 : Int32)), (.ref b2), (.ref b2), (.ref b1), (.ref b1)])) _
    refine XS.iloadN X3.here hx rfl (hb hby d2_53) rfl ?_
    show Steps p.tables e below (T3.setTop (mkF m 54 #[.val (.int nn), .val (.int c0), .val (.int c1), .val (.int c2)] [(.int c1), (.int (1 : Int32)), (.ref b2), (.ref b2), (.ref b1), (.ref b1)])) _
    refine st4 _ ?_
    show Steps p.tables e below (T4.setTop (mkF m 55 #[.val (.int nn), .val (.int c0), .val (.int c1), .val (.int c2)] [(.ref b2), (.ref b1), (.ref b1)])) _
    refine st7.trans ?_
    show Steps p.tables e below (T7.setTop (mkF m 58 #[.val (.int nn), .val (.int c0), .val (.int c1), .val (.int c2)] [(.ref b1)])) _
    exact retOut X7 hx Bd.returns rfl (Or.inr (Or.inr (Or.inr (Or.inr ⟨rfl, rfl, rfl⟩)))) (hb hby d2_58) hr
  · show Qd17 Z nn c0 c1 c2 z h0 n0 _ T7.heap _
    exact ⟨b1, tt, kx, rfl, N7, K7, fE, fV, fC, by rw [hcs]; exact fK⟩
theorem d2_59 : decode method_2_code 59 = .ok (.new 7, 3) := by decide +kernel
theorem d2_62 : decode method_2_code 62 = .ok (.dup, 1) := by decide +kernel
theorem d2_63 : decode method_2_code 63 = .ok (.iconst 3, 1) := by decide +kernel
theorem d2_64 : decode method_2_code 64 = .ok (.newarray .char, 2) := by decide +kernel
theorem d2_66 : decode method_2_code 66 = .ok (.dup, 1) := by decide +kernel
theorem d2_67 : decode method_2_code 67 = .ok (.iconst 0, 1) := by decide +kernel
theorem d2_68 : decode method_2_code 68 = .ok (.iload_n 1, 1) := by decide +kernel
theorem d2_69 : decode method_2_code 69 = .ok (.castore, 1) := by decide +kernel
theorem d2_70 : decode method_2_code 70 = .ok (.dup, 1) := by decide +kernel
theorem d2_71 : decode method_2_code 71 = .ok (.iconst 1, 1) := by decide +kernel
theorem d2_72 : decode method_2_code 72 = .ok (.iload_n 2, 1) := by decide +kernel
theorem d2_73 : decode method_2_code 73 = .ok (.castore, 1) := by decide +kernel
theorem d2_74 : decode method_2_code 74 = .ok (.dup, 1) := by decide +kernel
theorem d2_75 : decode method_2_code 75 = .ok (.iconst 2, 1) := by decide +kernel
theorem d2_76 : decode method_2_code 76 = .ok (.iload_n 3, 1) := by decide +kernel
theorem d2_77 : decode method_2_code 77 = .ok (.castore, 1) := by decide +kernel
theorem d2_78 : decode method_2_code 78 = .ok (.invokespecial 9, 3) := by decide +kernel
theorem d2_81 : decode method_2_code 81 = .ok (.areturn, 1) := by decide +kernel
set_option maxRecDepth 65536 in
set_option maxHeartbeats 40000000 in
theorem rmM3 (l : Launch) (Z : State) (a0 : Array Value) (hw : ∀ d ∈ tables_1, d.before a0 Z = true) (ws : List Jvm.Cond) (nn c0 c1 c2 z : Int32) (h0 : Heap) (n0 : Nat) (O0 : Old Z n0 h0) (SC : Sta Z Z.heap "java/lang/String" "COMPACT_STRINGS" "Z" (.int z)) (hz : ¬ z = 0) (H0 : own_ch c0) (H1 : own_ch c1) (H2 : own_ch c2) (hc1 : ¬ (nn = (0 : Int32))) (hc17 : ¬ (nn = (1 : Int32))) (hc37 : ¬ (nn = (2 : Int32))) :
    MetFree l (⟨"com/example/riverside/riverside/RefusedExceptionReplyLinePinLaw", "mk", "(ICCC)Ljava/lang/String;"⟩ : MethodName) (head1 (Jvm.Cond.code (⟨"com/example/riverside/riverside/RefusedExceptionReplyLinePinLaw", "mk", "(ICCC)Ljava/lang/String;"⟩ : MethodName) method_2_code 4 (some (.object "java/lang/String")) :: ws) ({ frames := 4, cells := 6, slots := 16, locals := 66 } : Room)) (fun qq U => qq = #[(.int nn), (.int c0), (.int c1), (.int c2)] ∧ Z.Warmed39 U.vm ∧ U.heap = h0 ∧ CHv Z consts_1 U.vm h0) (fun _ _ _ _ _ => True) (fun _ UU oo UU' => ∃ vv LL, oo = .returned vv ∧ Qd17 Z nn c0 c1 c2 z h0 n0 vv UU'.heap LL ∧ CHr Z consts_1 UU.vm UU.heap UU'.vm UU'.heap ∧ ReturnedEndW UU oo UU' LL ({ frames := 4, cells := 6, slots := 16, locals := 66 } : Room).cells ({ frames := 4, cells := 6, slots := 16, locals := 66 } : Room).slots) := by
  refine MetFree.of_bodySF (plainFor_of_name pn_2) hisR ?_
  intro p e s m args below meth c s₁ Bd hml0 hP hK
  obtain ⟨rfl, hZ, hh, hC0⟩ := hP
  have hZ : Z.Warmed39 (s.setVm s.vm).vm := hZ
  have CR0 := CHr.refl hC0
  have hx := Bd.exec
  have hby := Bd.bytes
  have hml : c.maxLocals = 4 := hml0
  have hown : (s.setVm s.vm).vm.findClass "com/example/riverside/riverside/RefusedExceptionReplyLinePinLaw" = some m.cls := findClass_of_methodNamed Bd.named
  have hnm := (name_of_methodNamed Bd.named Bd.method).1
  have X0 : Stand p l e ({ frames := 4, cells := 6, slots := 16, locals := 66 } : Room) (s.setVm s.vm) m #[(.int nn), (.int c0), (.int c1), (.int c2)] below meth c s₁ [] 0 0 := Stand.of_body Bd
  have e0 : s₁.heap = h0 := by rw [← hh, Bd.state]; rfl
  have N0 := Fr.nil n0
  have pre0 : ∀ tgt, Steps p.tables e below (s₁.setTop (mkF m 0 #[.val (.int nn), .val (.int c0), .val (.int c1), .val (.int c2)] [])) tgt → Steps p.tables e below (s₁.setTop (entryFrame m #[(.int nn), (.int c0), (.int c1), (.int c2)] 4)) tgt := fun tt kk => castTop (ef_2 m nn c0 c1 c2) kk
  obtain ⟨T1, h1, X1, e1, E1, A1, D1, -, st1⟩ := newO X0 hx hZ hown (ww hw 7 rfl) (ww hw 8 rfl) (ww hw 9 rfl) e0 (g := (mkF m 59 #[.val (.int nn), .val (.int c0), .val (.int c1), .val (.int c2)] [])) rfl (hb hby d2_59) (by decide) (by decide)
  obtain ⟨b1, q1⟩ : ∃ z, z = h0.size := ⟨_, rfl⟩
  rw [← q1] at A1 D1 st1
  have g_b1 : n0 ≤ b1 := by rw [q1]; exact (O0).1 ▸ (O0).2.1
  have sz_b1 : h0.size ≤ b1 := by rw [q1]; exact ((Keep.refl h0 [])).1
  have SC1 := CHr.ext E1 CR0.1
  have CR1 := CHr.trans CR0 SC1
  have O1 := Old.ext O0 E1
  have K1 := Keep.ext (Keep.refl h0 []) E1
  have SN1 := Safe.ext E1 CR0.1 (Safe.new (Nat.le_of_eq q1.symm))
  have F1_value : Fld Z h1 b1 "java/lang/String" "value" "[B" .null := D1 (Or.inr (ww hw 23 rfl)) (ty := (.array .byte)) (by decide)
  have F1_coder : Fld Z h1 b1 "java/lang/String" "coder" "B" (.int (0 : Int32)) := D1 (Or.inr (ww hw 24 rfl)) (ty := .byte) (by decide)
  obtain ⟨T2, h2, k2, X2, e2, E2, A2, st2⟩ := newP X1 hx hZ (ww hw 10 rfl) e1 (g := (mkF m 64 #[.val (.int nn), .val (.int c0), .val (.int c1), .val (.int c2)] [(.int (3 : Int32)), (.ref b1), (.ref b1)])) rfl (hb hby d2_64) rfl (by decide) (cap := 3) (by decide) (by decide) (by decide) (by decide)
  obtain ⟨b2, q2⟩ : ∃ z, z = h1.size := ⟨_, rfl⟩
  rw [← q2] at A2 st2
  have g_b2 : n0 ≤ b2 := by rw [q2]; exact (O1).1 ▸ (O1).2.1
  have ne_b1_b2 : b1 ≠ b2 := by rw [q2]; exact Nat.ne_of_lt A1.lt
  have sz_b2 : h0.size ≤ b2 := by rw [q2]; exact (K1).1
  have SC2 := CHr.ext E2 CR1.1
  have CR2 := CHr.trans CR1 SC2
  have SF2_b1 := CHr.safe SC2 (A1.lt) SN1
  have O2 := Old.ext O1 E2
  have K2 := Keep.ext K1 E2
  have V2 : Arv Z h2 b2 k2 .char (3 : Int32) [] (.int (0 : Int32)) := Arv.new A2 (by decide)
  obtain ⟨T3, h3, X3, e3, W3, V3, st3⟩ := own_putC X2 hx hZ e2 V2 (j := (0 : Int32)) rfl (by decide) (Nat.le_of_ble_eq_true rfl) (g := (mkF m 69 #[.val (.int nn), .val (.int c0), .val (.int c1), .val (.int c2)] [(.int c0), (.int (0 : Int32)), (.ref b2), (.ref b2), (.ref b1), (.ref b1)])) rfl rfl (hb hby d2_69)
  have SC3 := CHr.wr W3 (Safe.arv hZ.alike V2 (by decide)) CR2.1
  have CR3 := CHr.trans CR2 SC3
  have SF3_b1 := CHr.safe SC3 ((Exa.ext E2 A1).lt) SF2_b1
  have N3 := Fr.snoc X3 N0 g_b2
  have O3 := Old.wr O2 W3 g_b2
  have K3 := Keep.wr K2 W3 (Or.inr sz_b2)
  obtain ⟨T4, h4, X4, e4, W4, V4, st4⟩ := own_putC X3 hx hZ e3 V3 (j := (1 : Int32)) rfl (by decide) (Nat.le_of_ble_eq_true rfl) (g := (mkF m 73 #[.val (.int nn), .val (.int c0), .val (.int c1), .val (.int c2)] [(.int c1), (.int (1 : Int32)), (.ref b2), (.ref b2), (.ref b1), (.ref b1)])) rfl rfl (hb hby d2_73)
  have SC4 := CHr.wr W4 (Safe.arv hZ.alike V3 (by decide)) CR3.1
  have CR4 := CHr.trans CR3 SC4
  have SF4_b1 := CHr.safe SC4 ((Exa.wr W3 (Exa.ext E2 A1)).lt) SF3_b1
  have N4 := Fr.snoc X4 N3 g_b2
  have O4 := Old.wr O3 W4 g_b2
  have K4 := Keep.wr K3 W4 (Or.inr sz_b2)
  obtain ⟨T5, h5, X5, e5, W5, V5, st5⟩ := own_putC X4 hx hZ e4 V4 (j := (2 : Int32)) rfl (by decide) (Nat.le_of_ble_eq_true rfl) (g := (mkF m 77 #[.val (.int nn), .val (.int c0), .val (.int c1), .val (.int c2)] [(.int c2), (.int (2 : Int32)), (.ref b2), (.ref b2), (.ref b1), (.ref b1)])) rfl rfl (hb hby d2_77)
  have SC5 := CHr.wr W5 (Safe.arv hZ.alike V4 (by decide)) CR4.1
  have CR5 := CHr.trans CR4 SC5
  have SF5_b1 := CHr.safe SC5 ((Exa.wr W4 (Exa.wr W3 (Exa.ext E2 A1))).lt) SF4_b1
  have N5 := Fr.snoc X5 N4 g_b2
  have O5 := Old.wr O4 W5 g_b2
  have K5 := Keep.wr K4 W5 (Or.inr sz_b2)
  have Vq : Arv Z h5 b2 k2 .char (3 : Int32) (([c0, c1, c2] : List Int32).map Value.int) (.int 0) := by
    have q := V5
    rw [H0.1, H1.1, H2.1] at q
    exact q
  have hp : ∀ c ∈ ([c0, c1, c2] : List Int32), ¬ c < 0 ∧ ¬ (255 : Int32) < c := by
    intro c hc
    simp only [List.mem_cons, List.not_mem_nil, or_false] at hc
    rcases hc with rfl | rfl | rfl
    · exact H0.2
    · exact H1.2
    · exact H2.2
  have c6 := (Fld.other W5 (Fld.other W4 (Fld.other W3 (Fld.ext E2 F1_value) (Or.inl ne_b1_b2)) (Or.inl ne_b1_b2)) (Or.inl ne_b1_b2))
  have c7 := (Fld.other W5 (Fld.other W4 (Fld.other W3 (Fld.ext E2 F1_coder) (Or.inl ne_b1_b2)) (Or.inl ne_b1_b2)) (Or.inl ne_b1_b2))
  obtain ⟨_, _, ⟨T8, L8, k8, n8⟩, -, X8, ⟨Lc8, hQ8, l8, y8, z8⟩, st8⟩ := X5.specialBack hx (y := (⟨"java/lang/String", "<init>", "([C)V"⟩ : MethodName)) rfl hown (mvT hZ (ww hw 11 rfl)) (mvT hZ (ww hw 12 rfl)) (mvT hZ (ww hw 13 rfl)) (by decide) (StrChars.Road.backV (W := 1) hZ (own_wB hw) (kI := 4) (ww hw 8 rfl) (cs := ([c0, c1, c2] : List Int32)) (bs := (([c0, c1, c2] : List Int32)).map StrChars.lo8) (n := 3) (n0 := n0) g_b1 (show n0 ≤ h5.size from (O5).1 ▸ (O5).2.1) (Exa.wr W5 (Exa.wr W4 (Exa.wr W3 (Exa.ext E2 A1)))) c6 c7 Vq (Sta.ext O5.2 SC) hz rfl rfl (by decide) (by decide) hp rfl (by decide) (by decide)) (g := (mkF m 78 #[.val (.int nn), .val (.int c0), .val (.int c1), .val (.int c2)] [(.ref b2), (.ref b1), (.ref b1)])) rfl (by rw [hml]; rfl) (Steps.refl _) (a := b1) (argsL := [(.ref b2)]) (rest := [(.ref b1)]) (lenOf own_pd15 rfl) rfl (by show 2 * 0 + _ ≤ _; exact Nat.le_of_eq rfl) (hb hby d2_78) (fun _ _ => ⟨rfl, e5, (by decide : 2 + 1 ≤ _), (by decide : 7 + 3 ≤ _)⟩)
  dsimp only [Pt.U, Pt.locs, Pt.cells, Pt.slots] at X8 l8 y8 z8 st8 hQ8
  subst l8 y8 z8
  obtain ⟨rfl, N8q, KK8, fE, fC, tt, kx, _, _, _, fV, fK⟩ := hQ8
  have N8 := Fr.app N5 N8q
  have SC8 := CHr.keep KK8 (sfS SF5_b1 sf0) CR5.1
  have CR8 := CHr.trans CR5 SC8
  have SF8_b1 := CHr.safe SC8 ((Exa.wr W5 (Exa.wr W4 (Exa.wr W3 (Exa.ext E2 A1)))).lt) SF5_b1
  have O8 := Old.keep O5 KK8 (allS g_b1 all0)
  have K8 := Keep.trans K5 KK8 (allS (Or.inr sz_b1) all0)
  have hcs : own_mk nn c0 c1 c2 = ([c0, c1, c2] : List Int32) := by unfold own_mk; rw [if_neg hc1, if_neg hc17, if_neg hc37]
  obtain ⟨fs, hr, hrun, hended, hE⟩ := X8.leaveW (s := s) (vm₁ := s.vm) (State.WarmedH.since (State.WarmedH.refl s) 0) ((Nat.zero_le _)) (v := some (.ref b1)) (fun h => by rw [Bd.returns] at h; cases h)
  have CE : CHr Z consts_1 s.vm s.heap T8.vm T8.heap := by
    rw [hh]
    exact CHr.trans CR8 (CHv.at X8 hZ (own_EW hw) CR8.1)
  refine ⟨_, _, pre0 _ ?_, hrun, hended, _, _, rfl, ?_, CE, hE.1, hE.2.1, hE.2.2.1, hE.2.2.2.mono (by decide) (by decide)⟩
  · show Steps p.tables e below (s₁.setTop (mkF m 0 #[.val (.int nn), .val (.int c0), .val (.int c1), .val (.int c2)] [])) _
    refine XS.iloadN X0.here hx rfl (hb hby d2_0) rfl ?_
    show Steps p.tables e below (s₁.setTop (mkF m 1 #[.val (.int nn), .val (.int c0), .val (.int c1), .val (.int c2)] [(.int nn)])) _
    refine XS.ifYes X0.here hx rfl (pc0 := 1) (pc' := 15) rfl (hb hby d2_1) rfl ((if0 _ _).trans (feq hc1).2) (by decide) (by decide) ?_
    show Steps p.tables e below (s₁.setTop (mkF m 15 #[.val (.int nn), .val (.int c0), .val (.int c1), .val (.int c2)] [])) _
    refine XS.iloadN X0.here hx rfl (hb hby d2_15) rfl ?_
    show Steps p.tables e below (s₁.setTop (mkF m 16 #[.val (.int nn), .val (.int c0), .val (.int c1), .val (.int c2)] [(.int nn)])) _
    refine XS.iconst X0.here hx rfl (hb hby d2_16) ?_
    show Steps p.tables e below (s₁.setTop (mkF m 17 #[.val (.int nn), .val (.int c0), .val (.int c1), .val (.int c2)] [(.int (1 : Int32)), (.int nn)])) _
    refine XS.icmpYes X0.here hx rfl (pc0 := 17) (pc' := 35) rfl (hb hby d2_17) rfl (feq hc17).2 (by decide) (by decide) ?_
    show Steps p.tables e below (s₁.setTop (mkF m 35 #[.val (.int nn), .val (.int c0), .val (.int c1), .val (.int c2)] [])) _
    refine XS.iloadN X0.here hx rfl (hb hby d2_35) rfl ?_
    show Steps p.tables e below (s₁.setTop (mkF m 36 #[.val (.int nn), .val (.int c0), .val (.int c1), .val (.int c2)] [(.int nn)])) _
    refine XS.iconst X0.here hx rfl (hb hby d2_36) ?_
    show Steps p.tables e below (s₁.setTop (mkF m 37 #[.val (.int nn), .val (.int c0), .val (.int c1), .val (.int c2)] [(.int (2 : Int32)), (.int nn)])) _
    refine XS.icmpYes X0.here hx rfl (pc0 := 37) (pc' := 59) rfl (hb hby d2_37) rfl (feq hc37).2 (by decide) (by decide) ?_
    show Steps p.tables e below (s₁.setTop (mkF m 59 #[.val (.int nn), .val (.int c0), .val (.int c1), .val (.int c2)] [])) _
    refine st1 _ ?_
    show Steps p.tables e below (T1.setTop (mkF m 62 #[.val (.int nn), .val (.int c0), .val (.int c1), .val (.int c2)] [(.ref b1)])) _
    refine XS.dup X1.here hx rfl (hb hby d2_62) rfl rfl ?_
    show Steps p.tables e below (T1.setTop (mkF m 63 #[.val (.int nn), .val (.int c0), .val (.int c1), .val (.int c2)] [(.ref b1), (.ref b1)])) _
    refine XS.iconst X1.here hx rfl (hb hby d2_63) ?_
    show Steps p.tables e below (T1.setTop (mkF m 64 #[.val (.int nn), .val (.int c0), .val (.int c1), .val (.int c2)] [(.int (3 : Int32)), (.ref b1), (.ref b1)])) _
    refine st2 _ ?_
    show Steps p.tables e below (T2.setTop (mkF m 66 #[.val (.int nn), .val (.int c0), .val (.int c1), .val (.int c2)] [(.ref b2), (.ref b1), (.ref b1)])) _
    refine XS.dup X2.here hx rfl (hb hby d2_66) rfl rfl ?_
    show Steps p.tables e below (T2.setTop (mkF m 67 #[.val (.int nn), .val (.int c0), .val (.int c1), .val (.int c2)] [(.ref b2), (.ref b2), (.ref b1), (.ref b1)])) _
    refine XS.iconst X2.here hx rfl (hb hby d2_67) ?_
    show Steps p.tables e below (T2.setTop (mkF m 68 #[.val (.int nn), .val (.int c0), .val (.int c1), .val (.int c2)] [(.int (0 : Int32)), (.ref b2), (.ref b2), (.ref b1), (.ref b1)])) _
    refine XS.iloadN X2.here hx rfl (hb hby d2_68) rfl ?_
    show Steps p.tables e below (T2.setTop (mkF m 69 #[.val (.int nn), .val (.int c0), .val (.int c1), .val (.int c2)] [(.int c0), (.int (0 : Int32)), (.ref b2), (.ref b2), (.ref b1), (.ref b1)])) _
    refine st3 _ ?_
    show Steps p.tables e below (T3.setTop (mkF m 70 #[.val (.int nn), .val (.int c0), .val (.int c1), .val (.int c2)] [(.ref b2), (.ref b1), (.ref b1)])) _
    refine XS.dup X3.here hx rfl (hb hby d2_70) rfl rfl ?_
    show Steps p.tables e below (T3.setTop (mkF m 71 #[.val (.int nn), .val (.int c0), .val (.int c1), .val (.int c2)] [(.ref b2), (.ref b2), (.ref b1), (.ref b1)])) _
    refine XS.iconst X3.here hx rfl (hb hby d2_71) ?_
    show Steps p.tables e below (T3.setTop (mkF m 72 #[.val (.int nn), .val (.int c0), .val (.int c1), .val (.int c2)] [(.int (1 : Int32)), (.ref b2), (.ref b2), (.ref b1), (.ref b1)])) _
    refine XS.iloadN X3.here hx rfl (hb hby d2_72) rfl ?_
    show Steps p.tables e below (T3.setTop (mkF m 73 #[.val (.int nn), .val (.int c0), .val (.int c1), .val (.int c2)] [(.int c1), (.int (1 : Int32)), (.ref b2), (.ref b2), (.ref b1), (.ref b1)])) _
    refine st4 _ ?_
    show Steps p.tables e below (T4.setTop (mkF m 74 #[.val (.int nn), .val (.int c0), .val (.int c1), .val (.int c2)] [(.ref b2), (.ref b1), (.ref b1)])) _
    refine XS.dup X4.here hx rfl (hb hby d2_74) rfl rfl ?_
    show Steps p.tables e below (T4.setTop (mkF m 75 #[.val (.int nn), .val (.int c0), .val (.int c1), .val (.int c2)] [(.ref b2), (.ref b2), (.ref b1), (.ref b1)])) _
    refine XS.iconst X4.here hx rfl (hb hby d2_75) ?_
    show Steps p.tables e below (T4.setTop (mkF m 76 #[.val (.int nn), .val (.int c0), .val (.int c1), .val (.int c2)] [(.int (2 : Int32)), (.ref b2), (.ref b2), (.ref b1), (.ref b1)])) _
    refine XS.iloadN X4.here hx rfl (hb hby d2_76) rfl ?_
    show Steps p.tables e below (T4.setTop (mkF m 77 #[.val (.int nn), .val (.int c0), .val (.int c1), .val (.int c2)] [(.int c2), (.int (2 : Int32)), (.ref b2), (.ref b2), (.ref b1), (.ref b1)])) _
    refine st5 _ ?_
    show Steps p.tables e below (T5.setTop (mkF m 78 #[.val (.int nn), .val (.int c0), .val (.int c1), .val (.int c2)] [(.ref b2), (.ref b1), (.ref b1)])) _
    refine st8.trans ?_
    show Steps p.tables e below (T8.setTop (mkF m 81 #[.val (.int nn), .val (.int c0), .val (.int c1), .val (.int c2)] [(.ref b1)])) _
    exact retOut X8 hx Bd.returns rfl (Or.inr (Or.inr (Or.inr (Or.inr ⟨rfl, rfl, rfl⟩)))) (hb hby d2_81) hr
  · show Qd17 Z nn c0 c1 c2 z h0 n0 _ T8.heap _
    exact ⟨b1, tt, kx, rfl, N8, K8, fE, fV, fC, by rw [hcs]; exact fK⟩
theorem rmM (l : Launch) (Z : State) (a0 : Array Value) (hw : ∀ d ∈ tables_1, d.before a0 Z = true) (ws : List Jvm.Cond) (nn c0 c1 c2 z : Int32) (h0 : Heap) (n0 : Nat) (O0 : Old Z n0 h0) (SC : Sta Z Z.heap "java/lang/String" "COMPACT_STRINGS" "Z" (.int z)) (hz : ¬ z = 0) (H0 : own_ch c0) (H1 : own_ch c1) (H2 : own_ch c2) :
    MetFree l (⟨"com/example/riverside/riverside/RefusedExceptionReplyLinePinLaw", "mk", "(ICCC)Ljava/lang/String;"⟩ : MethodName) (head1 (Jvm.Cond.code (⟨"com/example/riverside/riverside/RefusedExceptionReplyLinePinLaw", "mk", "(ICCC)Ljava/lang/String;"⟩ : MethodName) method_2_code 4 (some (.object "java/lang/String")) :: ws) ({ frames := 4, cells := 6, slots := 16, locals := 66 } : Room)) (fun qq U => qq = #[(.int nn), (.int c0), (.int c1), (.int c2)] ∧ Z.Warmed39 U.vm ∧ U.heap = h0 ∧ CHv Z consts_1 U.vm h0) (fun _ _ _ _ _ => True) (fun _ UU oo UU' => ∃ vv LL, oo = .returned vv ∧ Qd17 Z nn c0 c1 c2 z h0 n0 vv UU'.heap LL ∧ CHr Z consts_1 UU.vm UU.heap UU'.vm UU'.heap ∧ ReturnedEndW UU oo UU' LL ({ frames := 4, cells := 6, slots := 16, locals := 66 } : Room).cells ({ frames := 4, cells := 6, slots := 16, locals := 66 } : Room).slots) := by
  by_cases q1 : nn = (0 : Int32)
  · exact rmM0 l Z a0 hw ws nn c0 c1 c2 z h0 n0 O0 SC hz H0 H1 H2 q1
  by_cases q2 : nn = (1 : Int32)
  · exact rmM1 l Z a0 hw ws nn c0 c1 c2 z h0 n0 O0 SC hz H0 H1 H2 q1 q2
  by_cases q3 : nn = (2 : Int32)
  · exact rmM2 l Z a0 hw ws nn c0 c1 c2 z h0 n0 O0 SC hz H0 H1 H2 q1 q2 q3
  · exact rmM3 l Z a0 hw ws nn c0 c1 c2 z h0 n0 O0 SC hz H0 H1 H2 q1 q2 q3
theorem own_T {args : Array Value} {s : State} {pl : Platform} (o1 : pl.frameOwnsMonitors = true) (o2 : pl.finalization = false) (o3 : pl.magicAccessors = ({} : Platform).magicAccessors) (A : ∀ {d : Jvm.Cond} (i : Nat), tables_1[i]? = some d → Jvm.RoadKit.xOk d = true → d.holds args s none s [] = true) :
    ∃ t : ThrowableC, t.Links pl s ∧ s.vm.findClass Bundle.tN = some t.cT ∧ s.methodNamed? Bundle.tFill = some t.fill ∧ s.methodNamed? Bundle.tFill0 = some t.fill0 ∧ s.fieldFound? Bundle.tN "stackTrace" Bundle.steD = some (t.cT, t.kT, t.i17, t.fStack) ∧ s.fieldFound? Bundle.tN "UNASSIGNED_STACK" Bundle.steD = some (t.cT, t.kT, t.i13, t.fUnassigned) ∧ t.fStack.type = .array (.object "java/lang/StackTraceElement") := by
  obtain ⟨⟨q, j0⟩, w0, a1, a2, a3, a4, a5, a6⟩ := Cond.native_spec (x := Bundle.tFill0) (A 65 rfl rfl)
  have fq : s.vm.findClass Bundle.tN = some q := findClass_of_methodNamed a1
  obtain ⟨kk, ck, nk⟩ := Vm.findClass_spec fq
  obtain ⟨-, k1, -, -, c1, -, -, -, -, ni⟩ := Cond.superclass_spec fq (A 62 rfl rfl)
  cases ck.symm.trans c1
  obtain ⟨j1, w1, b1, b2, b3, b4, b5, -, -⟩ := Cond.ownMethod (x := Bundle.tFill) fq ck (A 57 rfl rfl)
  obtain ⟨w1', z1, d1, d2, d3, d4, d5, d6, -, d7⟩ := Cond.codeSync_spec b1 (A 63 rfl rfl)
  cases b2.symm.trans d1
  obtain ⟨j0', w0', e1, e2, e3, e4, e5, e6, e7⟩ := Cond.ownMethod (x := Bundle.tFill0) fq ck (A 64 rfl rfl)
  cases a1.symm.trans e1
  cases a2.symm.trans e2
  obtain ⟨jo, wo, f1, f2, f3, f4⟩ := Cond.instanceMethod_spec (x := Bundle.oInit) (A 19 rfl rfl)
  obtain ⟨wo', zo, g1, g2, g3, -, -, g5, -, g6⟩ := Cond.code_spec f1 (A 20 rfl rfl)
  cases f2.symm.trans g1
  obtain ⟨ko, h1, h2⟩ := Vm.findClass_spec (findClass_of_methodNamed f1)
  obtain ⟨h3, h4⟩ := name_of_methodNamed f1 f2
  obtain ⟨u1, v1, cf, l1, l2, l3, l4⟩ := Cond.linkedMethod fq ck f1 (A 46 rfl rfl) pl o3
  obtain ⟨u27, v27, cf', m1, m2, m3, m4⟩ := Cond.linkedMethod fq ck b1 (A 55 rfl rfl) pl o3
  cases l3.symm.trans m3
  obtain ⟨u202, v202, cf'', p1, p2, p3, p4⟩ := Cond.linkedMethod fq ck a1 (A 68 rfl rfl) pl o3
  cases l3.symm.trans p3
  obtain ⟨x7, i7, y7, r1, r2, r3, r4, r5, r6, r7, r8⟩ := Cond.ownField (t := .object Bundle.tN) fq ck (by decide +kernel) (A 47 rfl rfl) (A 48 rfl rfl) pl o3
  obtain ⟨x17, i17, y17, s1, s2, s3, s4, s5, s6, s7, s8⟩ := Cond.ownField (t := .array (.object "java/lang/StackTraceElement")) fq ck (by decide +kernel) (A 50 rfl rfl) (A 51 rfl rfl) pl o3
  obtain ⟨x24, i24, y24, t1, t2, t3, t4, t5, t6, t7, t8⟩ := Cond.ownField (t := .object "java/util/List") fq ck (by decide +kernel) (A 53 rfl rfl) (A 54 rfl rfl) pl o3
  obtain ⟨x13, i13, y13, st, cs, n1, n2, n3, n4, -, -, n7, -, -, -, -, n12⟩ := Cond.ownStatic (t := .array (.object "java/lang/StackTraceElement")) fq ck (by decide +kernel) (A 49 rfl rfl) (A 75 rfl rfl) pl o3
  obtain ⟨x20, i20, y20, st', cs', k1', k2', k3', k4', -⟩ := Cond.ownStatic (t := .object "java/util/List") fq ck (by decide +kernel) (A 52 rfl rfl) (A 76 rfl rfl) pl o3
  obtain ⟨-, -, -, -, -, ym, -, -, -, q1, q2, -⟩ := Cond.lays_spec (A 78 rfl rfl)
  obtain ⟨cX, kX, -, -, -, -, x1, x2, -⟩ := Cond.lays_spec (A 54 rfl rfl)
  obtain ⟨-, da, db, dc⟩ := Cond.laysAt x1 x2 s8 (A 51 rfl rfl)
  obtain ⟨-, ea, eb, ec⟩ := Cond.laysAt x1 x2 t8 (A 54 rfl rfl)
  have apart := Cond.laysApart db eb dc ec (by rw [s6, t6]; decide)
  have pp1 : w1.sig.parameters = [] := by
    have z : (parseMethodDescriptor Bundle.tFill.desc).map (·.parameters) = some [] := by decide +kernel
    rw [d7] at z; exact Option.some.inj z
  have pp0 : w0.sig.parameters = [.int] := by
    have z : (parseMethodDescriptor Bundle.tFill0.desc).map (·.parameters) = some [.int] := by decide +kernel
    rw [a6] at z; exact Option.some.inj z
  have ppo : wo.sig.parameters.length = 0 := by
    have z : (parseMethodDescriptor Bundle.oInit.desc).map (·.parameters.length) = some 0 := by decide +kernel
    rw [g6] at z; exact Option.some.inj z
  exact ⟨{ cT := q, kT := kk, cO := q, aS := st, fillIdx := j1, fill0Idx := j0, initSIdx := j0, obj := jo, kObj := ko, methFill := w1, methFill0 := w0, methInitS := w0, methObj := wo, codeFill := z1, codeInitS := z1, codeObj := zo, fBack := y7, fDepth := y7, fStack := y17, fCause := y7, fSupp := y24, fMsg := ym, fUnassigned := y13, fSentinel := y20, cfT := cf, ci1 := u1, n1 := v1, ci27 := u27, n27 := v27, ci202 := u202, n202 := v202, ci7 := x7, i7 := i7, ci13 := x13, i13 := i13, ci17 := x17, i17 := i17, ci20 := x20, i20 := i20, ci24 := x24, i24 := i24 },
    ⟨o1, o2, ck, nk, Vm.findClass_boot fq ck, ni, Cond.initialized_spec fq ck (A 44 rfl rfl), n7,
     b3, d2, d3.trans (by decide +kernel), d4, d6, b4, b5, d5, pp1,
     e3, e6, e7, pp0, e4, a3, a4, a5, e5,
     s4, s5, n4,
     h1, h2, f2, h3, f3, f4, (by show lookupSpecial s.vm jo.cls "<init>" wo.desc = .method jo; rw [h4]; exact lookupSpecial_of_named f1 f2 f3), ppo, g2, g3.trans (by decide +kernel), g5,
     r4, r5, k4', t4, t5, q1, q2, apart,
     l3, l1, l2, l4, m1, m2, m4, p1, p2, p4,
     r1, r2, r3, n1, n2, n3, s1, s2, s3, k1', k2', k3', t1, t2, t3⟩, fq, b1, a1, s8, n12, s7⟩
set_option maxHeartbeats 4000000 in
theorem own_fill {p : Program} {l : Launch} {e : Env} {R : Room} {s : State} {m : MethodId} {args : Array Value} {below : List Frame} {meth : Method} {c : Code} {T : State} {locs : List Loc} {cells slots : Nat} {Z : State} {a0 : Array Value} {h : Heap} (X : Stand p l e R s m args below meth c T locs cells slots) (hx : p.tables.exec = Jvm.exec) (hl : l.stackTraces = true) (hZ : Z.Warmed39 s.vm) (hw : ∀ d ∈ tables_1, d.before a0 Z = true) (hown : s.vm.findClass "java/lang/Throwable" = some m.cls) (hT0 : ThS Z s.heap) (hTK : s.vm.MethodsKnown) (hBelow : s.vm.FramesKnown below) (eT : T.heap = h) (hsz : s.heap.size = h.size)
    {a : Addr} (hloc : ∀ y ∈ locs, y.base = a) (E : Exa Z h a "com/example/riverside/riverside/RefusedException") (N : Unt h a) (FB : Fld Z h a Bundle.tN "backtrace" "Ljava/lang/Object;" .null) {u : Value} (hu : u.isRef = true) (FS : Fld Z h a Bundle.tN "stackTrace" Bundle.steD u) (SU : Sta Z h Bundle.tN "UNASSIGNED_STACK" Bundle.steD u)
    {g : JFrame} (hg : g.method = m) (hsize : g.locals.size = c.maxLocals) {rest : List Value} (hs : g.stack = .ref a :: rest) (hd : decode c.code g.pc = .ok (.invokevirtual 27, 3)) (hlk : 2 * g.monitorRoom + (rest.map fun v => v.category).sum ≤ 0) (hf : 2 < R.frames) (hlo : 0 + 42 ≤ R.locals) (hc : cells + 1 ≤ R.cells) (hsl : slots + 2752 ≤ R.slots) :
    ∃ (T' : State) (h' : Heap), Stand p l e R s m args below meth c T' (locs ++ sixLocs Z a) (cells + 1) (slots + 2752) ∧ T'.heap = h' ∧ Kp Z h h' a ∧ ∀ target, Steps p.tables e below (T'.setTop { g with pc := g.pc + 3, stack := .ref a :: rest }) target → Steps p.tables e below (T.setTop g) target := by
  have A : ∀ {d : Jvm.Cond} (i : Nat), tables_1[i]? = some d → Jvm.RoadKit.xOk d = true → d.before args s = true := fun i q ok => mvX hT0 hZ ok (hw _ (List.mem_of_getElem? q))
  have hal : Z.vm.Alike s.vm := hZ.alike
  have htr : e.platform.stackTraces = true := by rw [X.admits.platform]; exact hl
  have hpl : e.platform.magicAccessors = ({} : Platform).magicAccessors := by rw [X.admits.platform]
  obtain ⟨t, L, fq, nF, nF0, gS, gU, tS⟩ := own_T (args := args) (s := s) (pl := e.platform) (by rw [X.admits.platform]) (by rw [X.admits.platform]) hpl (fun i q ok => A i q ok)
  obtain ⟨cell, kc, h1, h2, h3, -, h5⟩ := E
  obtain ⟨c2, u1, u2, u3⟩ := N
  cases h1.symm.trans u1
  obtain ⟨c3, _, _, _, fb0, b1, b2, -, -, -, -, b7⟩ := FB
  cases h1.symm.trans b1
  obtain ⟨c4, _, _, _, fs0, s1, s2, -, -, -, -, s7⟩ := FS
  cases h1.symm.trans s1
  obtain ⟨_, _, ks, fu, st, cs, w1, -, -, w4, w5, w6, w7⟩ := SU
  obtain ⟨k5, q5, -⟩ := State.fieldFound?_setVm (s := Z) hal s2
  cases (show s.fieldFound? Bundle.tN "stackTrace" Bundle.steD = _ from q5).symm.trans gS
  obtain ⟨k6, q6, q7⟩ := State.fieldFound?_setVm (s := Z) hal w1
  have hst : t.aS = st := by
    have z := Option.some.inj ((show s.fieldFound? Bundle.tN "UNASSIGNED_STACK" Bundle.steD = _ from q6).symm.trans gU)
    have z2 : k6 = t.kT := congrArg (fun y => y.2.1) z
    have z3 : k6.statics = some st := by rw [q7]; exact w4
    rw [z2] at z3
    exact Option.some.inj (L.statics.symm.trans z3)
  have hfu : t.fUnassigned = fu := (congrArg (fun y => y.2.2.2) (Option.some.inj ((show s.fieldFound? Bundle.tN "UNASSIGNED_STACK" Bundle.steD = _ from q6).symm.trans gU))).symm
  obtain ⟨cz, kz, i1, i2, i3, -⟩ := Cond.instantiable_spec (ww hw 30 rfl)
  cases h2.symm.trans i1
  cases h3.symm.trans i2
  obtain ⟨kX, v1, v2⟩ := hal.2.2 _ _ h3
  have fX : s.vm.findClass "com/example/riverside/riverside/RefusedException" = some cell.cls := by rw [hal.findClass]; exact h2
  have oX : kX.kind = .ordinary := by rw [v2]; exact i3
  have zX : cell.slots.size = kX.instanceTypes.size := by rw [v2]; exact h5 i3
  have tk : ∀ {f : Field} {v : Value}, kX.instanceTypes[f.slot]? = some f.type → fits f.type v = true → Jvm.Takes s cell f v := fun {f v} y1 y2 => by
    obtain ⟨z1, z2⟩ := Takes.of_laid (s := s) (v := v) v1 oX y1 y2
    exact ⟨by rw [zX]; simpa using z1, by rw [u2]; exact z2⟩
  have hsel0 : selectMethod e.platform s.vm cell.cls t.fill0 = .method t.fill0 := by
    obtain ⟨y1, y2, y3, z1, z2, z3, z4, -⟩ := Cond.selects_spec (A 77 rfl rfl)
    cases z1.symm.trans fX
    cases z2.symm.trans (State.methodFound?_of_named nF0 (by decide))
    cases z3.symm.trans nF0
    rw [Launch.admits_selectMethod X.admits]; exact z4
  have hneS : t.aS ≠ a := fun z => by
    rw [hst] at z; subst z
    cases h1.symm.trans w5
    rw [u2] at w6; cases w6
  obtain ⟨ci, ib, fB, y1, y2, y3, y4, -, y5, y6, y7⟩ := Cond.ownField (t := .object "java/lang/Object") fq L.cls (by decide +kernel) (A 73 rfl rfl) (A 79 rfl rfl) e.platform hpl
  have hnB : cell.slots[fB.slot]? = some .null := by
    obtain ⟨k8, q8, -⟩ := State.fieldFound?_setVm (s := Z) hal b2
    cases (show s.fieldFound? Bundle.tN "backtrace" "Ljava/lang/Object;" = _ from q8).symm.trans y7
    exact b7
  obtain ⟨-, -, cD, kD, iD, fD, -, -, z1, z2, -⟩ := Cond.lays_spec (A 80 rfl rfl)
  have eD := (Cond.lays_declared (A 80 rfl rfl) z1).symm.trans fq
  cases eD
  obtain ⟨z3, z4⟩ := State.fieldFound?_spec z1
  cases z3.symm.trans L.cls
  obtain ⟨z5, z6⟩ := State.fieldFound?_type z1 (t := .int) (by decide +kernel)
  obtain ⟨cp, cO, kO, -, -, x1, x2, x3⟩ := Cond.arrayOver_spec (A 59 rfl rfl)
  have tyS := (Cond.laysAt fX v1 gS (A 51 rfl rfl)).1
  have tyB := (Cond.laysAt fX v1 y7 (A 79 rfl rfl)).1
  have tyD := (Cond.laysAt fX v1 z1 (A 80 rfl rfl)).1
  have SE : (Jvm.Cond.selects "com/example/riverside/riverside/RefusedException" Bundle.tFill Bundle.tFill).before args s = true := A 58 rfl rfl
  obtain ⟨v6, vm6, ⟨T6, L6, c6, n6⟩, W6, X6, ⟨hv6, C6, n, hn, D6, k1, k2, k3, k4, hL6, hc6, hn6⟩, come⟩ := X.virtualBack hx (own := Bundle.tN) (C := "com/example/riverside/riverside/RefusedException") (index := 27) (y := Bundle.tFill) (z := Bundle.tFill) hown (A 55 rfl rfl) (A 56 rfl rfl) (notFace_of_selects SE) SE (A 57 rfl rfl) (by decide)
    (Jvm.Free.Exc.fillPaysAny (l := l) (W := 0) hx htr t L nF (u0 := ⟨u, hu⟩) (self := a) (cell := cell) (cellS := cs) (fun _ => by rw [u2]; simp) (by rw [u2]; simp) (by rw [u3]) (by rw [u3]) s7 hsel0 hneS (fun z => by rw [z] at w6; cases w6) (by rw [hfu]; exact w7) (tk tyS (by rw [tS]; exact fits_refV_array _ ⟨u, hu⟩))
      ⟨{ ci198 := ci, i198 := ib, fBack := fB }, ⟨y1, y2, y3, y4⟩, hnB⟩ hTK hBelow fq x3 x1 x2 (Cond.soleField_find fq L.cls (A 60 rfl rfl) y3 y5 y4) (Cond.soleField_find fq L.cls (A 61 rfl rfl) z4 z5 z2)
      (fun x => tk tyB (by rw [y6]; rfl)) (fun x => tk tyD (by rw [z6]; rfl)) hf hlo)
    (b := a) (cB := cell.cls) fX ⟨cell, by rw [eT]; exact h1, rfl, by rw [u2]; rfl⟩ (g := g) hg hsize (Steps.refl _) (argsL := []) (rest := rest)
    (fun sig z => by rw [show parseMethodDescriptor Bundle.tFill.desc = some ⟨[], some (.object Bundle.tN)⟩ from by decide +kernel] at z; rw [← Option.some.inj z]; rfl) hs hlk hd
    (fun vmx hWx => ⟨rfl, hc, hsl, by show T.heap[a]? = _; rw [eT]; exact h1, by show T.heap[t.aS]? = _; rw [eT, hst]; exact w5⟩)
  dsimp only [Pt.U, Pt.locs, Pt.cells, Pt.slots] at X6 D6 hL6 hc6 hn6 come
  subst hv6 hL6 hc6 hn6
  have six : ∀ x ∈ [(⟨a, fB.slot⟩ : Loc), ⟨a, fD.slot⟩, ⟨a, t.fStack.slot⟩], Jvm.Free.Exc.Six s a x := fun x hx => by
    simp only [List.mem_cons, List.not_mem_nil, or_false] at hx
    rcases hx with rfl | rfl | rfl
    · exact ⟨("backtrace", "Ljava/lang/Object;"), fB, by simp [Jvm.Free.Exc.sixNames], ⟨_, _, _, y7⟩, rfl⟩
    · exact ⟨("depth", "I"), fD, by simp [Jvm.Free.Exc.sixNames], ⟨_, _, _, z1⟩, rfl⟩
    · exact ⟨("stackTrace", Bundle.steD), _, by simp [Jvm.Free.Exc.sixNames], ⟨_, _, _, gS⟩, rfl⟩
  have S0 := X.same.2.2.2.2.2
  have S6 := X6.same.2.2.2.2.2
  have loc6 : ∀ y : Addr, y ≠ a → ∀ i, (⟨y, i⟩ : Loc) ∉ locs ++ [(⟨a, fB.slot⟩ : Loc), ⟨a, fD.slot⟩, ⟨a, t.fStack.slot⟩] := fun y ne i hm => by
    rcases List.mem_append.mp hm with z | z
    · exact ne (hloc _ z)
    · exact ne (six _ z).base
  refine ⟨T6, T6.heap, (wider X6 hZ six).more (Nat.le_refl _) (Nat.add_le_add_left hn _), rfl, ⟨?_, fun y cy hy => ?_⟩, fun target kt => come.trans kt⟩
  · rw [← hsz]; exact X6.same.2.1
  · have hlt : y < s.heap.size := by rw [hsz]; exact (Array.getElem?_eq_some_iff.mp hy).1
    obtain ⟨p0, hp0⟩ : ∃ p0, s.heap[y]? = some p0 := ⟨_, Array.getElem?_eq_getElem hlt⟩
    obtain ⟨p1, e1, e2, e3, e4⟩ := S0 y p0 hp0
    have e1' : h[y]? = some p1 := by rw [← eT]; exact e1
    cases hy.symm.trans e1'
    obtain ⟨p2, e5, e6, e7, e8⟩ := S6 y p0 hp0
    have e5' : T6.heap[y]? = some p2 := e5
    have e9 : p2 = { cy with slots := p2.slots } := by rw [e2]; exact e6
    refine ⟨p2, e5', e9, by rw [e7, e3], fun ne => ?_, fun i hi => ?_⟩
    · have : p2.slots = cy.slots := Array.ext_getElem? fun i => (e8 i (loc6 y ne i)).trans (e4 i fun hm => loc6 y ne i (List.mem_append_left _ hm)).symm
      rw [e9, this]
    · by_cases ne : y = a
      · subst ne
        cases D6.symm.trans e5'
        cases h1.symm.trans hy
        have no : ∀ {x : Loc}, Jvm.Free.Exc.Six s y x → x.slot ≠ i := fun {x} z ze => by
          obtain ⟨nd, z1, z2⟩ := six_slot hZ z
          exact hi nd z1 (by rw [← ze, z2])
        exact k4 i (fun z => no (six ⟨y, fB.slot⟩ (by simp)) z.symm) (fun z => no (six ⟨y, fD.slot⟩ (by simp)) z.symm) (fun z => no (six ⟨y, t.fStack.slot⟩ (by simp)) z.symm)
      · exact (e8 i (loc6 y ne i)).trans (e4 i fun hm => loc6 y ne i (List.mem_append_left _ hm)).symm

theorem own_six {Z : State} {a0 : Array Value} (hw : ∀ d ∈ tables_1, d.before a0 Z = true) : ∀ nd ∈ Jvm.Free.Exc.sixNames, Jvm.RoadKit.slotOf Z Bundle.tN nd.1 nd.2 ≠ Jvm.RoadKit.slotOf Z "com/example/riverside/riverside/RefusedException" "word" "Ljava/lang/String;" := by
  intro nd hd
  rcases List.mem_cons.mp hd with rfl | hd
  · exact Jvm.RoadKit.slot_ne (a0 := a0) (C := "com/example/riverside/riverside/RefusedException") (Or.inl (ww hw 48 rfl)) (Or.inr (ww hw 84 rfl)) (by decide) (t := (.object "java/lang/Throwable")) (t' := (.object "java/lang/String")) (by decide) (by decide)
  rcases List.mem_cons.mp hd with rfl | hd
  · exact Jvm.RoadKit.slot_ne (a0 := a0) (C := "com/example/riverside/riverside/RefusedException") (Or.inl (ww hw 51 rfl)) (Or.inr (ww hw 84 rfl)) (by decide) (t := (.array (.object "java/lang/StackTraceElement"))) (t' := (.object "java/lang/String")) (by decide) (by decide)
  rcases List.mem_cons.mp hd with rfl | hd
  · exact Jvm.RoadKit.slot_ne (a0 := a0) (C := "com/example/riverside/riverside/RefusedException") (Or.inl (ww hw 54 rfl)) (Or.inr (ww hw 84 rfl)) (by decide) (t := (.object "java/util/List")) (t' := (.object "java/lang/String")) (by decide) (by decide)
  rcases List.mem_cons.mp hd with rfl | hd
  · exact Jvm.RoadKit.slot_ne (a0 := a0) (C := "com/example/riverside/riverside/RefusedException") (Or.inl (ww hw 79 rfl)) (Or.inr (ww hw 84 rfl)) (by decide) (t := (.object "java/lang/Object")) (t' := (.object "java/lang/String")) (by decide) (by decide)
  rcases List.mem_cons.mp hd with rfl | hd
  · exact Jvm.RoadKit.slot_ne (a0 := a0) (C := "com/example/riverside/riverside/RefusedException") (Or.inl (ww hw 80 rfl)) (Or.inr (ww hw 84 rfl)) (by decide) (t := .int) (t' := (.object "java/lang/String")) (by decide) (by decide)
  rcases List.mem_cons.mp hd with rfl | hd
  · exact Jvm.RoadKit.slot_ne (a0 := a0) (C := "com/example/riverside/riverside/RefusedException") (Or.inl (ww hw 78 rfl)) (Or.inr (ww hw 84 rfl)) (by decide) (t := (.object "java/lang/String")) (t' := (.object "java/lang/String")) (by decide) (by decide)
  exact nomatch hd
theorem d8_0 : decode jdk_78_method_2_code 0 = .ok (.aload_n 0, 1) := by decide +kernel
theorem d8_1 : decode jdk_78_method_2_code 1 = .ok (.invokespecial 1, 3) := by decide +kernel
theorem d8_4 : decode jdk_78_method_2_code 4 = .ok (.aload_n 0, 1) := by decide +kernel
theorem d8_5 : decode jdk_78_method_2_code 5 = .ok (.aload_n 0, 1) := by decide +kernel
theorem d8_6 : decode jdk_78_method_2_code 6 = .ok (.putfield 7, 3) := by decide +kernel
theorem d8_9 : decode jdk_78_method_2_code 9 = .ok (.aload_n 0, 1) := by decide +kernel
theorem d8_10 : decode jdk_78_method_2_code 10 = .ok (.getstatic 13, 3) := by decide +kernel
theorem d8_13 : decode jdk_78_method_2_code 13 = .ok (.putfield 17, 3) := by decide +kernel
theorem d8_16 : decode jdk_78_method_2_code 16 = .ok (.aload_n 0, 1) := by decide +kernel
theorem d8_17 : decode jdk_78_method_2_code 17 = .ok (.getstatic 20, 3) := by decide +kernel
theorem d8_20 : decode jdk_78_method_2_code 20 = .ok (.putfield 24, 3) := by decide +kernel
theorem d8_23 : decode jdk_78_method_2_code 23 = .ok (.aload_n 0, 1) := by decide +kernel
theorem d8_24 : decode jdk_78_method_2_code 24 = .ok (.invokevirtual 27, 3) := by decide +kernel
theorem d8_27 : decode jdk_78_method_2_code 27 = .ok (.pop, 1) := by decide +kernel
theorem d8_28 : decode jdk_78_method_2_code 28 = .ok (.aload_n 0, 1) := by decide +kernel
theorem d8_29 : decode jdk_78_method_2_code 29 = .ok (.aload_n 1, 1) := by decide +kernel
theorem d8_30 : decode jdk_78_method_2_code 30 = .ok (.putfield 31, 3) := by decide +kernel
theorem d8_33 : decode jdk_78_method_2_code 33 = .ok (.return_, 1) := by decide +kernel
theorem ef_8 (m : MethodId) (x0 : Addr) (x1 : Addr) : entryFrame m #[(.ref x0), (.ref x1)] 2 = mkF m 0 #[.val (.ref x0), .val (.ref x1)] [] := by first | (simp [entryFrame, mkF, argsToLocals, Value.category]; done) | rfl
theorem pn_8 : plainName "java/lang/Throwable" = true := by first | (simp [plainName, overriddenIn]; done) | decide +kernel
def Qd18 (Z : State) (rx dx : Addr) (uu sen : Value) (h0 : Heap) (n0 : Nat) (v : Option Value) (h : Heap) (L : List Loc) : Prop := v = none ∧ Fr n0 L ∧ Keep h0 h [rx] ∧ Fld Z h rx "com/example/riverside/riverside/RefusedException" "word" "Ljava/lang/String;" .null ∧ Fld Z h rx "java/lang/Throwable" "detailMessage" "Ljava/lang/String;" (.ref dx)
set_option maxRecDepth 65536 in
set_option maxHeartbeats 40000000 in
theorem rmTI (l : Launch) (Z : State) (a0 : Array Value) (hw : ∀ d ∈ tables_1, d.before a0 Z = true) (ws : List Jvm.Cond) (rx dx : Addr) (uu sen : Value) (h0 : Heap) (n0 : Nat) (O0 : Old Z n0 h0) (gx : n0 ≤ rx) (EX : Exa Z h0 rx "com/example/riverside/riverside/RefusedException") (UN : Unt h0 rx) (FC : Fld Z h0 rx "java/lang/Throwable" "cause" "Ljava/lang/Throwable;" .null) (FT : Fld Z h0 rx "java/lang/Throwable" "stackTrace" "[Ljava/lang/StackTraceElement;" .null) (FP : Fld Z h0 rx "java/lang/Throwable" "suppressedExceptions" "Ljava/util/List;" .null) (FB : Fld Z h0 rx "java/lang/Throwable" "backtrace" "Ljava/lang/Object;" .null) (FD : Fld Z h0 rx "java/lang/Throwable" "detailMessage" "Ljava/lang/String;" .null) (FW : Fld Z h0 rx "com/example/riverside/riverside/RefusedException" "word" "Ljava/lang/String;" .null) (SU : Sta Z Z.heap "java/lang/Throwable" "UNASSIGNED_STACK" "[Ljava/lang/StackTraceElement;" uu) (SS : Sta Z Z.heap "java/lang/Throwable" "SUPPRESSED_SENTINEL" "Ljava/util/List;" sen) (hu : uu.isRef = true) (hn : sen.isRef = true) (hST : l.stackTraces = true) :
    MetFree l (⟨"java/lang/Throwable", "<init>", "(Ljava/lang/String;)V"⟩ : MethodName) (head1 (Jvm.Cond.code (⟨"java/lang/Throwable", "<init>", "(Ljava/lang/String;)V"⟩ : MethodName) jdk_78_method_2_code 2 none :: ws) ({ frames := 3, cells := 1, slots := 2752, locals := 42 } : Room)) (fun qq U => qq = #[(.ref rx), (.ref dx)] ∧ Z.Warmed39 U.vm ∧ U.heap = h0) (fun _ _ bl st _ => st.vm.MethodsKnown ∧ st.vm.FramesKnown bl) (fun _ UU oo UU' => ∃ vv LL, oo = .returned vv ∧ Qd18 Z rx dx uu sen h0 n0 vv UU'.heap LL ∧ FrameEnd UU oo UU' LL ({ frames := 3, cells := 1, slots := 2752, locals := 42 } : Room).cells ({ frames := 3, cells := 1, slots := 2752, locals := 42 } : Room).slots) := by
  refine MetFree.of_bodySF (plainFor_of_name pn_8) hisR ?_
  intro p e s m args below meth c s₁ Bd hml0 hP hK
  obtain ⟨rfl, hZ, hh⟩ := hP
  have hx := Bd.exec
  have hby := Bd.bytes
  have hml : c.maxLocals = 2 := hml0
  have hown : s.vm.findClass "java/lang/Throwable" = some m.cls := findClass_of_methodNamed Bd.named
  have hnm := (name_of_methodNamed Bd.named Bd.method).1
  have X0 : Stand p l e ({ frames := 3, cells := 1, slots := 2752, locals := 42 } : Room) s m #[(.ref rx), (.ref dx)] below meth c s₁ [] 0 0 := Stand.of_body Bd
  have e0 : s₁.heap = h0 := by rw [← hh, Bd.state]; rfl
  have N0 := Fr.nil n0
  have pre0 : ∀ tgt, Steps p.tables e below (s₁.setTop (mkF m 0 #[.val (.ref rx), .val (.ref dx)] [])) tgt → Steps p.tables e below (s₁.setTop (entryFrame m #[(.ref rx), (.ref dx)] 2)) tgt := fun tt kk => castTop (ef_8 m rx dx) kk
  obtain ⟨T1, X1, e1, st1⟩ := initO X0 hx hZ hown (ww hw 46 rfl) (ww hw 19 rfl) (ww hw 20 rfl) e0 (g := (mkF m 1 #[.val (.ref rx), .val (.ref dx)] [(.ref rx)])) rfl (by rw [hml]; rfl) rfl (hb hby d8_1) (by decide) (W := 0) (by show 2 * 0 + _ ≤ _; exact Nat.le_of_eq rfl) (by decide)
  obtain ⟨T2, h2, X2, e2, W2, st2⟩ := putF X1 hx hZ hown (host := "") (Or.inl (ww hw 47 rfl)) Via.refl e1 FC EX (Or.inl (ww hw 48 rfl)) (ww hw 30 rfl) (ty := (.object "java/lang/Throwable")) (by decide) rfl rfl (g := (mkF m 6 #[.val (.ref rx), .val (.ref dx)] [(.ref rx), (.ref rx)])) rfl rfl (hb hby d8_6)
  have Fw2 := Fld.same W2 FC
  have N2 := Fr.snoc X2 N0 gx
  have O2 := Old.wr O0 W2 gx
  have K2 := Keep.wr (Keep.refl h0 [rx]) W2 (Or.inl (List.mem_of_getElem? (i := 0) rfl))
  obtain ⟨T3, X3, e3, st3⟩ := getS2 X2 hx hZ hown (host := "") (Or.inl (ww hw 49 rfl)) Via.refl e2 (SU.ext O2.2) (g := (mkF m 10 #[.val (.ref rx), .val (.ref dx)] [(.ref rx)])) rfl (hb hby d8_10)
  have c4 := (Fld.other W2 FT (Or.inr (slot_ne (a0 := a0) (Or.inl (ww hw 51 rfl)) (Or.inl (ww hw 48 rfl)) (by decide) (t := (.array (.object "java/lang/StackTraceElement"))) (t' := (.object "java/lang/Throwable")) (by decide) (by decide))))
  obtain ⟨T5, h5, X5, e5, W5, st5⟩ := putF X3 hx hZ hown (host := "") (Or.inl (ww hw 50 rfl)) Via.refl e3 c4 (Exa.wr W2 EX) (Or.inl (ww hw 51 rfl)) (ww hw 30 rfl) (ty := (.array (.object "java/lang/StackTraceElement"))) (by decide) (narrow_isRef _ hu) (by rcases ref_cases hu with q | ⟨_, q⟩ <;> rw [q] <;> rfl) (g := (mkF m 13 #[.val (.ref rx), .val (.ref dx)] [uu, (.ref rx)])) rfl rfl (hb hby d8_13)
  have Fw5 := Fld.same W5 c4
  have N5 := Fr.snoc X5 N2 gx
  have O5 := Old.wr O2 W5 gx
  have K5 := Keep.wr K2 W5 (Or.inl (List.mem_of_getElem? (i := 0) rfl))
  obtain ⟨T6, X6, e6, st6⟩ := getS2 X5 hx hZ hown (host := "") (Or.inl (ww hw 52 rfl)) Via.refl e5 (SS.ext O5.2) (g := (mkF m 17 #[.val (.ref rx), .val (.ref dx)] [(.ref rx)])) rfl (hb hby d8_17)
  have c7 := (Fld.other W5 (Fld.other W2 FP (Or.inr (slot_ne (a0 := a0) (Or.inl (ww hw 54 rfl)) (Or.inl (ww hw 48 rfl)) (by decide) (t := (.object "java/util/List")) (t' := (.object "java/lang/Throwable")) (by decide) (by decide)))) (Or.inr (slot_ne (a0 := a0) (Or.inl (ww hw 54 rfl)) (Or.inl (ww hw 51 rfl)) (by decide) (t := (.object "java/util/List")) (t' := (.array (.object "java/lang/StackTraceElement"))) (by decide) (by decide))))
  obtain ⟨T8, h8, X8, e8, W8, st8⟩ := putF X6 hx hZ hown (host := "") (Or.inl (ww hw 53 rfl)) Via.refl e6 c7 (Exa.wr W5 (Exa.wr W2 EX)) (Or.inl (ww hw 54 rfl)) (ww hw 30 rfl) (ty := (.object "java/util/List")) (by decide) (narrow_isRef _ hn) (by rcases ref_cases hn with q | ⟨_, q⟩ <;> rw [q] <;> rfl) (g := (mkF m 20 #[.val (.ref rx), .val (.ref dx)] [sen, (.ref rx)])) rfl rfl (hb hby d8_20)
  have Fw8 := Fld.same W8 c7
  have N8 := Fr.snoc X8 N5 gx
  have O8 := Old.wr O5 W8 gx
  have K8 := Keep.wr K5 W8 (Or.inl (List.mem_of_getElem? (i := 0) rfl))
  have UNw := (Unt.wr W8 (Unt.wr W5 (Unt.wr W2 UN)))
  have hsz : s.heap.size = h8.size := by rw [W8.size, W5.size, W2.size, hh]
  have c9 := (Fld.other W8 (Fld.other W5 (Fld.other W2 FB (Or.inr (slot_ne (a0 := a0) (Or.inl (ww hw 79 rfl)) (Or.inl (ww hw 48 rfl)) (by decide) (t := (.object "java/lang/Object")) (t' := (.object "java/lang/Throwable")) (by decide) (by decide)))) (Or.inr (slot_ne (a0 := a0) (Or.inl (ww hw 79 rfl)) (Or.inl (ww hw 51 rfl)) (by decide) (t := (.object "java/lang/Object")) (t' := (.array (.object "java/lang/StackTraceElement"))) (by decide) (by decide)))) (Or.inr (slot_ne (a0 := a0) (Or.inl (ww hw 79 rfl)) (Or.inl (ww hw 54 rfl)) (by decide) (t := (.object "java/lang/Object")) (t' := (.object "java/util/List")) (by decide) (by decide))))
  have c10 := (Fld.other W8 Fw5 (Or.inr (slot_ne (a0 := a0) (Or.inl (ww hw 51 rfl)) (Or.inl (ww hw 54 rfl)) (by decide) (t := (.array (.object "java/lang/StackTraceElement"))) (t' := (.object "java/util/List")) (by decide) (by decide))))
  obtain ⟨T11, h11, X11, e11, P11, st11⟩ := own_fill X8 hx hST hZ hw hown (by rw [hh]; exact ThS.ext O0.2 ThS.start) hK.1 hK.2 e8 hsz (a := rx) (fun y hy => by simp only [List.nil_append, List.cons_append, List.mem_append, List.mem_cons, List.not_mem_nil, or_false] at hy; rcases hy with rfl | rfl | rfl <;> rfl) (Exa.wr W8 (Exa.wr W5 (Exa.wr W2 EX))) UNw c9 (u := uu) hu c10 (SU.ext O8.2) (g := (mkF m 24 #[.val (.ref rx), .val (.ref dx)] [(.ref rx)])) rfl (by rw [hml]; rfl) (rest := []) rfl (hb hby d8_24) (by show 2 * 0 + 0 ≤ 0; decide) (by decide) (by decide) (by decide) (by decide)
  have c12 := (Fld.other W8 (Fld.other W5 (Fld.other W2 FW (Or.inr (slot_ne (a0 := a0) (Or.inr (ww hw 84 rfl)) (Or.inl (ww hw 48 rfl)) (by decide) (t := (.object "java/lang/String")) (t' := (.object "java/lang/Throwable")) (by decide) (by decide)))) (Or.inr (slot_ne (a0 := a0) (Or.inr (ww hw 84 rfl)) (Or.inl (ww hw 51 rfl)) (by decide) (t := (.object "java/lang/String")) (t' := (.array (.object "java/lang/StackTraceElement"))) (by decide) (by decide)))) (Or.inr (slot_ne (a0 := a0) (Or.inr (ww hw 84 rfl)) (Or.inl (ww hw 54 rfl)) (by decide) (t := (.object "java/lang/String")) (t' := (.object "java/util/List")) (by decide) (by decide))))
  have KK11 := keep_of_kp P11
  have FW11 := Fld.kp P11 c12 (Or.inr (own_six hw))
  have EX11 := Exa.kp P11 (Exa.wr W8 (Exa.wr W5 (Exa.wr W2 EX)))
  obtain ⟨od11, FD11⟩ := fld_laid (O := "java/lang/Throwable") (n := "detailMessage") (d := "Ljava/lang/String;") EX11 (Unt.known (Unt.kp P11 UNw)) (ww hw 30 rfl) (Or.inl (ww hw 78 rfl))
  have N11 := Fr.six N8 gx (Z := Z)
  have O11 := Old.keep O8 KK11 (allS gx all0)
  have K11 := Keep.trans K8 KK11 (allS (Or.inl (List.mem_of_getElem? (i := 0) rfl)) all0)
  obtain ⟨T13, h13, X13, e13, W13, st13⟩ := putF X11 hx hZ hown (host := "") (Or.inl (ww hw 82 rfl)) Via.refl e11 FD11 EX11 (Or.inl (ww hw 78 rfl)) (ww hw 30 rfl) (ty := (.object "java/lang/String")) (by decide) rfl rfl (g := (mkF m 30 #[.val (.ref rx), .val (.ref dx)] [(.ref dx), (.ref rx)])) rfl rfl (hb hby d8_30)
  have Fw13 := Fld.same W13 FD11
  have N13 := Fr.snoc X13 N11 gx
  have O13 := Old.wr O11 W13 gx
  have K13 := Keep.wr K11 W13 (Or.inl (List.mem_of_getElem? (i := 0) rfl))
  have c14 := (Fld.other W13 FW11 (Or.inr (slot_ne (a0 := a0) (Or.inr (ww hw 84 rfl)) (Or.inl (ww hw 78 rfl)) (by decide) (t := (.object "java/lang/String")) (t' := (.object "java/lang/String")) (by decide) (by decide))))
  obtain ⟨fs, hr, hrun, hended, hW, hsame⟩ := X13.leave (v := none) (fun _ => rfl)
  refine ⟨_, _, pre0 _ ?_, hrun, hended, _, _, rfl, ?_, ⟨_, rfl⟩, hW, hsame.mono (by decide) (by decide)⟩
  · show Steps p.tables e below (s₁.setTop (mkF m 0 #[.val (.ref rx), .val (.ref dx)] [])) _
    refine XS.aloadN X0.here hx rfl (hb hby d8_0) rfl rfl ?_
    show Steps p.tables e below (s₁.setTop (mkF m 1 #[.val (.ref rx), .val (.ref dx)] [(.ref rx)])) _
    refine st1 _ ?_
    show Steps p.tables e below (T1.setTop (mkF m 4 #[.val (.ref rx), .val (.ref dx)] [])) _
    refine XS.aloadN X1.here hx rfl (hb hby d8_4) rfl rfl ?_
    show Steps p.tables e below (T1.setTop (mkF m 5 #[.val (.ref rx), .val (.ref dx)] [(.ref rx)])) _
    refine XS.aloadN X1.here hx rfl (hb hby d8_5) rfl rfl ?_
    show Steps p.tables e below (T1.setTop (mkF m 6 #[.val (.ref rx), .val (.ref dx)] [(.ref rx), (.ref rx)])) _
    refine st2 _ ?_
    show Steps p.tables e below (T2.setTop (mkF m 9 #[.val (.ref rx), .val (.ref dx)] [])) _
    refine XS.aloadN X2.here hx rfl (hb hby d8_9) rfl rfl ?_
    show Steps p.tables e below (T2.setTop (mkF m 10 #[.val (.ref rx), .val (.ref dx)] [(.ref rx)])) _
    refine st3 _ ?_
    show Steps p.tables e below (T3.setTop (mkF m 13 #[.val (.ref rx), .val (.ref dx)] [uu, (.ref rx)])) _
    refine st5 _ ?_
    show Steps p.tables e below (T5.setTop (mkF m 16 #[.val (.ref rx), .val (.ref dx)] [])) _
    refine XS.aloadN X5.here hx rfl (hb hby d8_16) rfl rfl ?_
    show Steps p.tables e below (T5.setTop (mkF m 17 #[.val (.ref rx), .val (.ref dx)] [(.ref rx)])) _
    refine st6 _ ?_
    show Steps p.tables e below (T6.setTop (mkF m 20 #[.val (.ref rx), .val (.ref dx)] [sen, (.ref rx)])) _
    refine st8 _ ?_
    show Steps p.tables e below (T8.setTop (mkF m 23 #[.val (.ref rx), .val (.ref dx)] [])) _
    refine XS.aloadN X8.here hx rfl (hb hby d8_23) rfl rfl ?_
    show Steps p.tables e below (T8.setTop (mkF m 24 #[.val (.ref rx), .val (.ref dx)] [(.ref rx)])) _
    refine st11 _ ?_
    show Steps p.tables e below (T11.setTop (mkF m 27 #[.val (.ref rx), .val (.ref dx)] [(.ref rx)])) _
    refine XS.pop X11.here hx rfl (hb hby d8_27) rfl rfl ?_
    show Steps p.tables e below (T11.setTop (mkF m 28 #[.val (.ref rx), .val (.ref dx)] [])) _
    refine XS.aloadN X11.here hx rfl (hb hby d8_28) rfl rfl ?_
    show Steps p.tables e below (T11.setTop (mkF m 29 #[.val (.ref rx), .val (.ref dx)] [(.ref rx)])) _
    refine XS.aloadN X11.here hx rfl (hb hby d8_29) rfl rfl ?_
    show Steps p.tables e below (T11.setTop (mkF m 30 #[.val (.ref rx), .val (.ref dx)] [(.ref dx), (.ref rx)])) _
    refine st13 _ ?_
    show Steps p.tables e below (T13.setTop (mkF m 33 #[.val (.ref rx), .val (.ref dx)] [])) _
    exact X13.returnOut hx Bd.returns (hb hby d8_33) hr
  · show Qd18 Z rx dx uu sen h0 n0 _ T13.heap _
    rw [e13]
    exact ⟨rfl, N13, K13, c14, Fw13⟩
theorem d7_0 : decode jdk_59_method_2_code 0 = .ok (.aload_n 0, 1) := by decide +kernel
theorem d7_1 : decode jdk_59_method_2_code 1 = .ok (.aload_n 1, 1) := by decide +kernel
theorem d7_2 : decode jdk_59_method_2_code 2 = .ok (.invokespecial 7, 3) := by decide +kernel
theorem d7_5 : decode jdk_59_method_2_code 5 = .ok (.return_, 1) := by decide +kernel
theorem ef_7 (m : MethodId) (x0 : Addr) (x1 : Addr) : entryFrame m #[(.ref x0), (.ref x1)] 2 = mkF m 0 #[.val (.ref x0), .val (.ref x1)] [] := by first | (simp [entryFrame, mkF, argsToLocals, Value.category]; done) | rfl
theorem pn_7 : plainName "java/lang/Exception" = true := by first | (simp [plainName, overriddenIn]; done) | decide +kernel
set_option maxRecDepth 65536 in
set_option maxHeartbeats 40000000 in
theorem rmEI (l : Launch) (Z : State) (a0 : Array Value) (hw : ∀ d ∈ tables_1, d.before a0 Z = true) (ws : List Jvm.Cond) (rx dx : Addr) (uu sen : Value) (h0 : Heap) (n0 : Nat) (O0 : Old Z n0 h0) (gx : n0 ≤ rx) (EX : Exa Z h0 rx "com/example/riverside/riverside/RefusedException") (UN : Unt h0 rx) (FC : Fld Z h0 rx "java/lang/Throwable" "cause" "Ljava/lang/Throwable;" .null) (FT : Fld Z h0 rx "java/lang/Throwable" "stackTrace" "[Ljava/lang/StackTraceElement;" .null) (FP : Fld Z h0 rx "java/lang/Throwable" "suppressedExceptions" "Ljava/util/List;" .null) (FB : Fld Z h0 rx "java/lang/Throwable" "backtrace" "Ljava/lang/Object;" .null) (FD : Fld Z h0 rx "java/lang/Throwable" "detailMessage" "Ljava/lang/String;" .null) (FW : Fld Z h0 rx "com/example/riverside/riverside/RefusedException" "word" "Ljava/lang/String;" .null) (SU : Sta Z Z.heap "java/lang/Throwable" "UNASSIGNED_STACK" "[Ljava/lang/StackTraceElement;" uu) (SS : Sta Z Z.heap "java/lang/Throwable" "SUPPRESSED_SENTINEL" "Ljava/util/List;" sen) (hu : uu.isRef = true) (hn : sen.isRef = true) (hST : l.stackTraces = true) :
    MetFree l (⟨"java/lang/Exception", "<init>", "(Ljava/lang/String;)V"⟩ : MethodName) (head1 (Jvm.Cond.code (⟨"java/lang/Exception", "<init>", "(Ljava/lang/String;)V"⟩ : MethodName) jdk_59_method_2_code 2 none :: ws) ({ frames := 4, cells := 1, slots := 2752, locals := 55 } : Room)) (fun qq U => qq = #[(.ref rx), (.ref dx)] ∧ Z.Warmed39 U.vm ∧ U.heap = h0) (fun _ _ bl st _ => st.vm.MethodsKnown ∧ st.vm.FramesKnown bl) (fun _ UU oo UU' => ∃ vv LL, oo = .returned vv ∧ Qd18 Z rx dx uu sen h0 n0 vv UU'.heap LL ∧ FrameEnd UU oo UU' LL ({ frames := 4, cells := 1, slots := 2752, locals := 55 } : Room).cells ({ frames := 4, cells := 1, slots := 2752, locals := 55 } : Room).slots) := by
  refine MetFree.of_bodySF (plainFor_of_name pn_7) hisR ?_
  intro p e s m args below meth c s₁ Bd hml0 hP hK
  obtain ⟨rfl, hZ, hh⟩ := hP
  have hx := Bd.exec
  have hby := Bd.bytes
  have hml : c.maxLocals = 2 := hml0
  have hown : s.vm.findClass "java/lang/Exception" = some m.cls := findClass_of_methodNamed Bd.named
  have hnm := (name_of_methodNamed Bd.named Bd.method).1
  have X0 : Stand p l e ({ frames := 4, cells := 1, slots := 2752, locals := 55 } : Room) s m #[(.ref rx), (.ref dx)] below meth c s₁ [] 0 0 := Stand.of_body Bd
  have e0 : s₁.heap = h0 := by rw [← hh, Bd.state]; rfl
  have N0 := Fr.nil n0
  have pre0 : ∀ tgt, Steps p.tables e below (s₁.setTop (mkF m 0 #[.val (.ref rx), .val (.ref dx)] [])) tgt → Steps p.tables e below (s₁.setTop (entryFrame m #[(.ref rx), (.ref dx)] 2)) tgt := fun tt kk => castTop (ef_7 m rx dx) kk
  obtain ⟨_, _, ⟨T1, L1, k1, n1⟩, -, X1, ⟨Lc1, hQ1, l1, y1, z1⟩, st1⟩ := X0.specialBack hx (y := (⟨"java/lang/Throwable", "<init>", "(Ljava/lang/String;)V"⟩ : MethodName)) rfl hown (mvT hZ (ww hw 40 rfl)) (mvT hZ (ww hw 41 rfl)) (mvT hZ (ww hw 45 rfl)) (by decide) (backOfKL (W := 0) (rmTI l Z a0 hw [] rx dx uu sen h0 n0 O0 gx EX UN FC FT FP FB FD FW SU SS hu hn hST) hZ (ww hw 45 rfl) (ww hw 44 rfl) (by decide) (by decide) hK.1 hK.2) (g := (mkF m 2 #[.val (.ref rx), .val (.ref dx)] [(.ref dx), (.ref rx)])) rfl (by rw [hml]; rfl) (Steps.refl _) (a := rx) (argsL := [(.ref dx)]) (rest := []) (lenOf own_pd2 rfl) rfl (by show 2 * 0 + _ ≤ _; exact Nat.le_of_eq rfl) (hb hby d7_2) (fun _ _ => ⟨rfl, e0, (by decide : 0 + 1 ≤ _), (by decide : 0 + 2752 ≤ _)⟩)
  dsimp only [Pt.U, Pt.locs, Pt.cells, Pt.slots] at X1 l1 y1 z1 st1 hQ1
  subst l1 y1 z1
  obtain ⟨rfl, N1q, KK1, f1_0, f1_1⟩ := hQ1
  have N1 := Fr.app N0 N1q
  have O1 := Old.keep O0 KK1 (allS gx all0)
  have K1 := Keep.trans (Keep.refl h0 [rx]) KK1 (allS (Or.inl (List.mem_of_getElem? (i := 0) rfl)) all0)
  obtain ⟨fs, hr, hrun, hended, hW, hsame⟩ := X1.leave (v := none) (fun _ => rfl)
  refine ⟨_, _, pre0 _ ?_, hrun, hended, _, _, rfl, ?_, ⟨_, rfl⟩, hW, hsame.mono (by decide) (by decide)⟩
  · show Steps p.tables e below (s₁.setTop (mkF m 0 #[.val (.ref rx), .val (.ref dx)] [])) _
    refine XS.aloadN X0.here hx rfl (hb hby d7_0) rfl rfl ?_
    show Steps p.tables e below (s₁.setTop (mkF m 1 #[.val (.ref rx), .val (.ref dx)] [(.ref rx)])) _
    refine XS.aloadN X0.here hx rfl (hb hby d7_1) rfl rfl ?_
    show Steps p.tables e below (s₁.setTop (mkF m 2 #[.val (.ref rx), .val (.ref dx)] [(.ref dx), (.ref rx)])) _
    refine st1.trans ?_
    show Steps p.tables e below (T1.setTop (mkF m 5 #[.val (.ref rx), .val (.ref dx)] [])) _
    exact X1.returnOut hx Bd.returns (hb hby d7_5) hr
  · show Qd18 Z rx dx uu sen h0 n0 _ T1.heap _
    exact ⟨rfl, N1, K1, f1_0, f1_1⟩
theorem d6_0 : decode prog_14_method_1_code 0 = .ok (.aload_n 0, 1) := by decide +kernel
theorem d6_1 : decode prog_14_method_1_code 1 = .ok (.aload_n 2, 1) := by decide +kernel
theorem d6_2 : decode prog_14_method_1_code 2 = .ok (.invokespecial 1, 3) := by decide +kernel
theorem d6_5 : decode prog_14_method_1_code 5 = .ok (.aload_n 0, 1) := by decide +kernel
theorem d6_6 : decode prog_14_method_1_code 6 = .ok (.aload_n 1, 1) := by decide +kernel
theorem d6_7 : decode prog_14_method_1_code 7 = .ok (.putfield 7, 3) := by decide +kernel
theorem d6_10 : decode prog_14_method_1_code 10 = .ok (.return_, 1) := by decide +kernel
theorem ef_6 (m : MethodId) (x0 : Addr) (x1 : Addr) (x2 : Addr) : entryFrame m #[(.ref x0), (.ref x1), (.ref x2)] 3 = mkF m 0 #[.val (.ref x0), .val (.ref x1), .val (.ref x2)] [] := by first | (simp [entryFrame, mkF, argsToLocals, Value.category]; done) | rfl
theorem pn_6 : plainName "com/example/riverside/riverside/RefusedException" = true := by first | (simp [plainName, overriddenIn]; done) | decide +kernel
def Qd19 (Z : State) (rx wx dx : Addr) (uu sen : Value) (h0 : Heap) (n0 : Nat) (v : Option Value) (h : Heap) (L : List Loc) : Prop := v = none ∧ Fr n0 L ∧ Keep h0 h [rx] ∧ Fld Z h rx "com/example/riverside/riverside/RefusedException" "word" "Ljava/lang/String;" (.ref wx) ∧ Fld Z h rx "java/lang/Throwable" "detailMessage" "Ljava/lang/String;" (.ref dx)
set_option maxRecDepth 65536 in
set_option maxHeartbeats 40000000 in
theorem rmRI (l : Launch) (Z : State) (a0 : Array Value) (hw : ∀ d ∈ tables_1, d.before a0 Z = true) (ws : List Jvm.Cond) (rx wx dx : Addr) (uu sen : Value) (h0 : Heap) (n0 : Nat) (O0 : Old Z n0 h0) (gx : n0 ≤ rx) (EX : Exa Z h0 rx "com/example/riverside/riverside/RefusedException") (UN : Unt h0 rx) (FC : Fld Z h0 rx "java/lang/Throwable" "cause" "Ljava/lang/Throwable;" .null) (FT : Fld Z h0 rx "java/lang/Throwable" "stackTrace" "[Ljava/lang/StackTraceElement;" .null) (FP : Fld Z h0 rx "java/lang/Throwable" "suppressedExceptions" "Ljava/util/List;" .null) (FB : Fld Z h0 rx "java/lang/Throwable" "backtrace" "Ljava/lang/Object;" .null) (FD : Fld Z h0 rx "java/lang/Throwable" "detailMessage" "Ljava/lang/String;" .null) (FW : Fld Z h0 rx "com/example/riverside/riverside/RefusedException" "word" "Ljava/lang/String;" .null) (SU : Sta Z Z.heap "java/lang/Throwable" "UNASSIGNED_STACK" "[Ljava/lang/StackTraceElement;" uu) (SS : Sta Z Z.heap "java/lang/Throwable" "SUPPRESSED_SENTINEL" "Ljava/util/List;" sen) (hu : uu.isRef = true) (hn : sen.isRef = true) (hST : l.stackTraces = true) :
    MetFree l (⟨"com/example/riverside/riverside/RefusedException", "<init>", "(Ljava/lang/String;Ljava/lang/String;)V"⟩ : MethodName) (head1 (Jvm.Cond.code (⟨"com/example/riverside/riverside/RefusedException", "<init>", "(Ljava/lang/String;Ljava/lang/String;)V"⟩ : MethodName) prog_14_method_1_code 3 none :: ws) ({ frames := 5, cells := 1, slots := 2752, locals := 68 } : Room)) (fun qq U => qq = #[(.ref rx), (.ref wx), (.ref dx)] ∧ Z.Warmed39 U.vm ∧ U.heap = h0) (fun _ _ bl st _ => st.vm.MethodsKnown ∧ st.vm.FramesKnown bl) (fun _ UU oo UU' => ∃ vv LL, oo = .returned vv ∧ Qd19 Z rx wx dx uu sen h0 n0 vv UU'.heap LL ∧ FrameEnd UU oo UU' LL ({ frames := 5, cells := 1, slots := 2752, locals := 68 } : Room).cells ({ frames := 5, cells := 1, slots := 2752, locals := 68 } : Room).slots) := by
  refine MetFree.of_bodySF (plainFor_of_name pn_6) hisR ?_
  intro p e s m args below meth c s₁ Bd hml0 hP hK
  obtain ⟨rfl, hZ, hh⟩ := hP
  have hx := Bd.exec
  have hby := Bd.bytes
  have hml : c.maxLocals = 3 := hml0
  have hown : s.vm.findClass "com/example/riverside/riverside/RefusedException" = some m.cls := findClass_of_methodNamed Bd.named
  have hnm := (name_of_methodNamed Bd.named Bd.method).1
  have X0 : Stand p l e ({ frames := 5, cells := 1, slots := 2752, locals := 68 } : Room) s m #[(.ref rx), (.ref wx), (.ref dx)] below meth c s₁ [] 0 0 := Stand.of_body Bd
  have e0 : s₁.heap = h0 := by rw [← hh, Bd.state]; rfl
  have N0 := Fr.nil n0
  have pre0 : ∀ tgt, Steps p.tables e below (s₁.setTop (mkF m 0 #[.val (.ref rx), .val (.ref wx), .val (.ref dx)] [])) tgt → Steps p.tables e below (s₁.setTop (entryFrame m #[(.ref rx), (.ref wx), (.ref dx)] 3)) tgt := fun tt kk => castTop (ef_6 m rx wx dx) kk
  obtain ⟨_, _, ⟨T1, L1, k1, n1⟩, -, X1, ⟨Lc1, hQ1, l1, y1, z1⟩, st1⟩ := X0.specialBack hx (y := (⟨"java/lang/Exception", "<init>", "(Ljava/lang/String;)V"⟩ : MethodName)) rfl hown (mvT hZ (ww hw 35 rfl)) (mvT hZ (ww hw 36 rfl)) (mvT hZ (ww hw 39 rfl)) (by decide) (backOfKL (W := 0) (rmEI l Z a0 hw [] rx dx uu sen h0 n0 O0 gx EX UN FC FT FP FB FD FW SU SS hu hn hST) hZ (ww hw 39 rfl) (ww hw 38 rfl) (by decide) (by decide) hK.1 hK.2) (g := (mkF m 2 #[.val (.ref rx), .val (.ref wx), .val (.ref dx)] [(.ref dx), (.ref rx)])) rfl (by rw [hml]; rfl) (Steps.refl _) (a := rx) (argsL := [(.ref dx)]) (rest := []) (lenOf own_pd2 rfl) rfl (by show 2 * 0 + _ ≤ _; exact Nat.le_of_eq rfl) (hb hby d6_2) (fun _ _ => ⟨rfl, e0, (by decide : 0 + 1 ≤ _), (by decide : 0 + 2752 ≤ _)⟩)
  dsimp only [Pt.U, Pt.locs, Pt.cells, Pt.slots] at X1 l1 y1 z1 st1 hQ1
  subst l1 y1 z1
  obtain ⟨rfl, N1q, KK1, f1_0, f1_1⟩ := hQ1
  have N1 := Fr.app N0 N1q
  have O1 := Old.keep O0 KK1 (allS gx all0)
  have K1 := Keep.trans (Keep.refl h0 [rx]) KK1 (allS (Or.inl (List.mem_of_getElem? (i := 0) rfl)) all0)
  obtain ⟨T2, h2, X2, e2, W2, st2⟩ := putF X1 hx hZ hown (host := "") (Or.inl (ww hw 83 rfl)) Via.refl rfl f1_0 (EX.keep KK1) (Or.inr ⟨(ww hw 84 rfl), rfl, hnm⟩) (ww hw 30 rfl) (ty := (.object "java/lang/String")) (by decide) rfl rfl (g := (mkF m 7 #[.val (.ref rx), .val (.ref wx), .val (.ref dx)] [(.ref wx), (.ref rx)])) rfl rfl (hb hby d6_7)
  have Fw2 := Fld.same W2 f1_0
  have N2 := Fr.snoc X2 N1 gx
  have O2 := Old.wr O1 W2 gx
  have K2 := Keep.wr K1 W2 (Or.inl (List.mem_of_getElem? (i := 0) rfl))
  have c3 := (Fld.other W2 f1_1 (Or.inr (slot_ne (a0 := a0) (Or.inl (ww hw 78 rfl)) (Or.inr (ww hw 84 rfl)) (by decide) (t := (.object "java/lang/String")) (t' := (.object "java/lang/String")) (by decide) (by decide))))
  obtain ⟨fs, hr, hrun, hended, hW, hsame⟩ := X2.leave (v := none) (fun _ => rfl)
  refine ⟨_, _, pre0 _ ?_, hrun, hended, _, _, rfl, ?_, ⟨_, rfl⟩, hW, hsame.mono (by decide) (by decide)⟩
  · show Steps p.tables e below (s₁.setTop (mkF m 0 #[.val (.ref rx), .val (.ref wx), .val (.ref dx)] [])) _
    refine XS.aloadN X0.here hx rfl (hb hby d6_0) rfl rfl ?_
    show Steps p.tables e below (s₁.setTop (mkF m 1 #[.val (.ref rx), .val (.ref wx), .val (.ref dx)] [(.ref rx)])) _
    refine XS.aloadN X0.here hx rfl (hb hby d6_1) rfl rfl ?_
    show Steps p.tables e below (s₁.setTop (mkF m 2 #[.val (.ref rx), .val (.ref wx), .val (.ref dx)] [(.ref dx), (.ref rx)])) _
    refine st1.trans ?_
    show Steps p.tables e below (T1.setTop (mkF m 5 #[.val (.ref rx), .val (.ref wx), .val (.ref dx)] [])) _
    refine XS.aloadN X1.here hx rfl (hb hby d6_5) rfl rfl ?_
    show Steps p.tables e below (T1.setTop (mkF m 6 #[.val (.ref rx), .val (.ref wx), .val (.ref dx)] [(.ref rx)])) _
    refine XS.aloadN X1.here hx rfl (hb hby d6_6) rfl rfl ?_
    show Steps p.tables e below (T1.setTop (mkF m 7 #[.val (.ref rx), .val (.ref wx), .val (.ref dx)] [(.ref wx), (.ref rx)])) _
    refine st2 _ ?_
    show Steps p.tables e below (T2.setTop (mkF m 10 #[.val (.ref rx), .val (.ref wx), .val (.ref dx)] [])) _
    exact X2.returnOut hx Bd.returns (hb hby d6_10) hr
  · show Qd19 Z rx wx dx uu sen h0 n0 _ T2.heap _
    rw [e2]
    exact ⟨rfl, N2, K2, Fw2, c3⟩
theorem d21_0 : decode jdk_78_method_6_code 0 = .ok (.aload_n 0, 1) := by decide +kernel
theorem d21_1 : decode jdk_78_method_6_code 1 = .ok (.getfield 31, 3) := by decide +kernel
theorem d21_4 : decode jdk_78_method_6_code 4 = .ok (.areturn, 1) := by decide +kernel
theorem ef_21 (m : MethodId) (x0 : Addr) : entryFrame m #[(.ref x0)] 1 = mkF m 0 #[.val (.ref x0)] [] := by first | (simp [entryFrame, mkF, argsToLocals, Value.category]; done) | rfl
theorem pn_21 : plainName "java/lang/Throwable" = true := by first | (simp [plainName, overriddenIn]; done) | decide +kernel
def Qd20 (Z : State) (rx dx : Addr) (h0 : Heap) (n0 : Nat) (v : Option Value) (h : Heap) (L : List Loc) : Prop := v = some (.ref dx) ∧ Fr n0 L ∧ h = h0
set_option maxRecDepth 65536 in
set_option maxHeartbeats 40000000 in
theorem rmGM (l : Launch) (Z : State) (a0 : Array Value) (hw : ∀ d ∈ tables_1, d.before a0 Z = true) (ws : List Jvm.Cond) (rx dx : Addr) (h0 : Heap) (n0 : Nat) (FM : Fld Z h0 rx "java/lang/Throwable" "detailMessage" "Ljava/lang/String;" (.ref dx)) :
    MetFree l (⟨"java/lang/Throwable", "getMessage", "()Ljava/lang/String;"⟩ : MethodName) (head1 (Jvm.Cond.code (⟨"java/lang/Throwable", "getMessage", "()Ljava/lang/String;"⟩ : MethodName) jdk_78_method_6_code 1 (some (.object "java/lang/String")) :: ws) ({ frames := 0, cells := 0, slots := 0, locals := 0 } : Room)) (fun qq U => qq = #[(.ref rx)] ∧ Z.Warmed39 U.vm ∧ U.heap = h0) (fun _ _ _ _ _ => True) (fun _ UU oo UU' => ∃ vv LL, oo = .returned vv ∧ Qd20 Z rx dx h0 n0 vv UU'.heap LL ∧ FrameEnd UU oo UU' LL ({ frames := 0, cells := 0, slots := 0, locals := 0 } : Room).cells ({ frames := 0, cells := 0, slots := 0, locals := 0 } : Room).slots) := by
  refine MetFree.of_bodySF (plainFor_of_name pn_21) hisR ?_
  intro p e s m args below meth c s₁ Bd hml0 hP hK
  obtain ⟨rfl, hZ, hh⟩ := hP
  have hx := Bd.exec
  have hby := Bd.bytes
  have hml : c.maxLocals = 1 := hml0
  have hown : s.vm.findClass "java/lang/Throwable" = some m.cls := findClass_of_methodNamed Bd.named
  have hnm := (name_of_methodNamed Bd.named Bd.method).1
  have X0 : Stand p l e ({ frames := 0, cells := 0, slots := 0, locals := 0 } : Room) s m #[(.ref rx)] below meth c s₁ [] 0 0 := Stand.of_body Bd
  have e0 : s₁.heap = h0 := by rw [← hh, Bd.state]; rfl
  have N0 := Fr.nil n0
  have pre0 : ∀ tgt, Steps p.tables e below (s₁.setTop (mkF m 0 #[.val (.ref rx)] [])) tgt → Steps p.tables e below (s₁.setTop (entryFrame m #[(.ref rx)] 1)) tgt := fun tt kk => castTop (ef_21 m rx) kk
  obtain ⟨T1, X1, e1, st1⟩ := getF X0 hx hZ hown (host := "") (Or.inl (ww hw 82 rfl)) Via.refl e0 FM (g := (mkF m 1 #[.val (.ref rx)] [(.ref rx)])) rfl rfl (hb hby d21_1)
  obtain ⟨fs, hr, hrun, hended, hW, hsame⟩ := X1.leave (v := some (.ref dx)) (fun h => by rw [Bd.returns] at h; cases h)
  refine ⟨_, _, pre0 _ ?_, hrun, hended, _, _, rfl, ?_, ⟨_, rfl⟩, hW, hsame.mono (by decide) (by decide)⟩
  · show Steps p.tables e below (s₁.setTop (mkF m 0 #[.val (.ref rx)] [])) _
    refine XS.aloadN X0.here hx rfl (hb hby d21_0) rfl rfl ?_
    show Steps p.tables e below (s₁.setTop (mkF m 1 #[.val (.ref rx)] [(.ref rx)])) _
    refine st1 _ ?_
    show Steps p.tables e below (T1.setTop (mkF m 4 #[.val (.ref rx)] [(.ref dx)])) _
    exact retOut X1 hx Bd.returns rfl (Or.inr (Or.inr (Or.inr (Or.inr ⟨rfl, rfl, rfl⟩)))) (hb hby d21_4) hr
  · show Qd20 Z rx dx h0 n0 _ T1.heap _
    rw [e1]
    exact ⟨rfl, N0, rfl⟩
theorem d22_0 : decode jdk_42_method_55_code 0 = .ok (.aload_n 0, 1) := by decide +kernel
theorem d22_1 : decode jdk_42_method_55_code 1 = .ok (.getfield 9, 3) := by decide +kernel
theorem d22_4 : decode jdk_42_method_55_code 4 = .ok (.arraylength, 1) := by decide +kernel
theorem d22_5 : decode jdk_42_method_55_code 5 = .ok (.ifCond .ne 7, 3) := by decide +kernel
theorem d22_12 : decode jdk_42_method_55_code 12 = .ok (.iconst 0, 1) := by decide +kernel
theorem d22_13 : decode jdk_42_method_55_code 13 = .ok (.ireturn, 1) := by decide +kernel
theorem ef_22 (m : MethodId) (x0 : Addr) : entryFrame m #[(.ref x0)] 1 = mkF m 0 #[.val (.ref x0)] [] := by first | (simp [entryFrame, mkF, argsToLocals, Value.category]; done) | rfl
theorem pn_22 : plainName "java/lang/String" = true := by first | (simp [plainName, overriddenIn]; done) | decide +kernel
def Qd21 (Z : State) (xs tt : Addr) (kb : ClassId) (cs : List Int32) (h0 : Heap) (n0 : Nat) (v : Option Value) (h : Heap) (L : List Loc) : Prop := v = some (.int (0 : Int32)) ∧ Fr n0 L ∧ h = h0
set_option maxRecDepth 65536 in
set_option maxHeartbeats 40000000 in
theorem rmEm0 (l : Launch) (Z : State) (a0 : Array Value) (hw : ∀ d ∈ tables_1, d.before a0 Z = true) (ws : List Jvm.Cond) (xs tt : Addr) (kb : ClassId) (cs : List Int32) (h0 : Heap) (n0 : Nat) (Ex : Exa Z h0 xs "java/lang/String") (Vx : Fld Z h0 xs "java/lang/String" "value" "[B" (.ref tt)) (Cx : Fld Z h0 xs "java/lang/String" "coder" "B" (.int 0)) (Kx : Arv Z h0 tt kb .byte (Int32.ofNat (cs).length) (((cs).map StrChars.lo8).map Value.int) (.int 0)) (hl0 : ¬ (Int32.ofNat cs.length = (0 : Int32))) :
    MetFree l (⟨"java/lang/String", "isEmpty", "()Z"⟩ : MethodName) (head1 (Jvm.Cond.code (⟨"java/lang/String", "isEmpty", "()Z"⟩ : MethodName) jdk_42_method_55_code 1 (some .boolean) :: ws) ({ frames := 0, cells := 0, slots := 0, locals := 0 } : Room)) (fun qq U => qq = #[(.ref xs)] ∧ Z.Warmed39 U.vm ∧ U.heap = h0) (fun _ _ _ _ _ => True) (fun _ UU oo UU' => ∃ vv LL, oo = .returned vv ∧ Qd21 Z xs tt kb cs h0 n0 vv UU'.heap LL ∧ FrameEnd UU oo UU' LL ({ frames := 0, cells := 0, slots := 0, locals := 0 } : Room).cells ({ frames := 0, cells := 0, slots := 0, locals := 0 } : Room).slots) := by
  refine MetFree.of_bodySF (plainFor_of_name pn_22) hisR ?_
  intro p e s m args below meth c s₁ Bd hml0 hP hK
  obtain ⟨rfl, hZ, hh⟩ := hP
  have hx := Bd.exec
  have hby := Bd.bytes
  have hml : c.maxLocals = 1 := hml0
  have hown : s.vm.findClass "java/lang/String" = some m.cls := findClass_of_methodNamed Bd.named
  have hnm := (name_of_methodNamed Bd.named Bd.method).1
  have X0 : Stand p l e ({ frames := 0, cells := 0, slots := 0, locals := 0 } : Room) s m #[(.ref xs)] below meth c s₁ [] 0 0 := Stand.of_body Bd
  have e0 : s₁.heap = h0 := by rw [← hh, Bd.state]; rfl
  have N0 := Fr.nil n0
  have pre0 : ∀ tgt, Steps p.tables e below (s₁.setTop (mkF m 0 #[.val (.ref xs)] [])) tgt → Steps p.tables e below (s₁.setTop (entryFrame m #[(.ref xs)] 1)) tgt := fun tt kk => castTop (ef_22 m xs) kk
  obtain ⟨T1, X1, e1, st1⟩ := getF X0 hx hZ hown (host := "") (Or.inl (ww hw 27 rfl)) Via.refl e0 Vx (g := (mkF m 1 #[.val (.ref xs)] [(.ref xs)])) rfl rfl (hb hby d22_1)
  obtain ⟨cl, Ar, qk, Sz, Mz, Hz, Uz⟩ := id Kx
  obtain ⟨fs, hr, hrun, hended, hW, hsame⟩ := X1.leave (v := some (.int (0 : Int32))) (fun h => by rw [Bd.returns] at h; cases h)
  refine ⟨_, _, pre0 _ ?_, hrun, hended, _, _, rfl, ?_, ⟨_, rfl⟩, hW, hsame.mono (by decide) (by decide)⟩
  · show Steps p.tables e below (s₁.setTop (mkF m 0 #[.val (.ref xs)] [])) _
    refine XS.aloadN X0.here hx rfl (hb hby d22_0) rfl rfl ?_
    show Steps p.tables e below (s₁.setTop (mkF m 1 #[.val (.ref xs)] [(.ref xs)])) _
    refine st1 _ ?_
    show Steps p.tables e below (T1.setTop (mkF m 4 #[.val (.ref xs)] [(.ref tt)])) _
    refine X1.arraylength hx (by rw [e1]; exact Ar.1) (State.isArrayOf_alike hZ.alike Ar.2.1) (g := (mkF m 4 #[.val (.ref xs)] [(.ref tt)])) rfl rfl (hb hby d22_4) _ ?_
    rw [len_of Sz Mz]
    show Steps p.tables e below (T1.setTop (mkF m 5 #[.val (.ref xs)] [(.int (Int32.ofNat cs.length))])) _
    refine XS.ifYes X1.here hx rfl (pc0 := 5) (pc' := 12) rfl (hb hby d22_5) rfl ((if0 _ _).trans (feq (hl0 : ¬ ((Int32.ofNat cs.length) = (0 : Int32)))).2) (by decide) (by decide) ?_
    show Steps p.tables e below (T1.setTop (mkF m 12 #[.val (.ref xs)] [])) _
    refine XS.iconst X1.here hx rfl (hb hby d22_12) ?_
    show Steps p.tables e below (T1.setTop (mkF m 13 #[.val (.ref xs)] [(.int (0 : Int32))])) _
    exact retN X1 hx (t := .boolean) Bd.returns (by simp) (hb hby d22_13) hr
  · show Qd21 Z xs tt kb cs h0 n0 _ T1.heap _
    rw [e1]
    exact ⟨rfl, N0, rfl⟩
theorem d22_8 : decode jdk_42_method_55_code 8 = .ok (.iconst 1, 1) := by decide +kernel
theorem d22_9 : decode jdk_42_method_55_code 9 = .ok (.goto 4, 3) := by decide +kernel
def Qd22 (Z : State) (xs tt : Addr) (kb : ClassId) (cs : List Int32) (h0 : Heap) (n0 : Nat) (v : Option Value) (h : Heap) (L : List Loc) : Prop := v = some (.int (1 : Int32)) ∧ Fr n0 L ∧ h = h0
set_option maxRecDepth 65536 in
set_option maxHeartbeats 40000000 in
theorem rmEm1 (l : Launch) (Z : State) (a0 : Array Value) (hw : ∀ d ∈ tables_1, d.before a0 Z = true) (ws : List Jvm.Cond) (xs tt : Addr) (kb : ClassId) (cs : List Int32) (h0 : Heap) (n0 : Nat) (Ex : Exa Z h0 xs "java/lang/String") (Vx : Fld Z h0 xs "java/lang/String" "value" "[B" (.ref tt)) (Cx : Fld Z h0 xs "java/lang/String" "coder" "B" (.int 0)) (Kx : Arv Z h0 tt kb .byte (Int32.ofNat (cs).length) (((cs).map StrChars.lo8).map Value.int) (.int 0)) (hl0 : Int32.ofNat cs.length = (0 : Int32)) :
    MetFree l (⟨"java/lang/String", "isEmpty", "()Z"⟩ : MethodName) (head1 (Jvm.Cond.code (⟨"java/lang/String", "isEmpty", "()Z"⟩ : MethodName) jdk_42_method_55_code 1 (some .boolean) :: ws) ({ frames := 0, cells := 0, slots := 0, locals := 0 } : Room)) (fun qq U => qq = #[(.ref xs)] ∧ Z.Warmed39 U.vm ∧ U.heap = h0) (fun _ _ _ _ _ => True) (fun _ UU oo UU' => ∃ vv LL, oo = .returned vv ∧ Qd22 Z xs tt kb cs h0 n0 vv UU'.heap LL ∧ FrameEnd UU oo UU' LL ({ frames := 0, cells := 0, slots := 0, locals := 0 } : Room).cells ({ frames := 0, cells := 0, slots := 0, locals := 0 } : Room).slots) := by
  refine MetFree.of_bodySF (plainFor_of_name pn_22) hisR ?_
  intro p e s m args below meth c s₁ Bd hml0 hP hK
  obtain ⟨rfl, hZ, hh⟩ := hP
  have hx := Bd.exec
  have hby := Bd.bytes
  have hml : c.maxLocals = 1 := hml0
  have hown : s.vm.findClass "java/lang/String" = some m.cls := findClass_of_methodNamed Bd.named
  have hnm := (name_of_methodNamed Bd.named Bd.method).1
  have X0 : Stand p l e ({ frames := 0, cells := 0, slots := 0, locals := 0 } : Room) s m #[(.ref xs)] below meth c s₁ [] 0 0 := Stand.of_body Bd
  have e0 : s₁.heap = h0 := by rw [← hh, Bd.state]; rfl
  have N0 := Fr.nil n0
  have pre0 : ∀ tgt, Steps p.tables e below (s₁.setTop (mkF m 0 #[.val (.ref xs)] [])) tgt → Steps p.tables e below (s₁.setTop (entryFrame m #[(.ref xs)] 1)) tgt := fun tt kk => castTop (ef_22 m xs) kk
  obtain ⟨T1, X1, e1, st1⟩ := getF X0 hx hZ hown (host := "") (Or.inl (ww hw 27 rfl)) Via.refl e0 Vx (g := (mkF m 1 #[.val (.ref xs)] [(.ref xs)])) rfl rfl (hb hby d22_1)
  obtain ⟨cl, Ar, qk, Sz, Mz, Hz, Uz⟩ := id Kx
  obtain ⟨fs, hr, hrun, hended, hW, hsame⟩ := X1.leave (v := some (.int (1 : Int32))) (fun h => by rw [Bd.returns] at h; cases h)
  refine ⟨_, _, pre0 _ ?_, hrun, hended, _, _, rfl, ?_, ⟨_, rfl⟩, hW, hsame.mono (by decide) (by decide)⟩
  · show Steps p.tables e below (s₁.setTop (mkF m 0 #[.val (.ref xs)] [])) _
    refine XS.aloadN X0.here hx rfl (hb hby d22_0) rfl rfl ?_
    show Steps p.tables e below (s₁.setTop (mkF m 1 #[.val (.ref xs)] [(.ref xs)])) _
    refine st1 _ ?_
    show Steps p.tables e below (T1.setTop (mkF m 4 #[.val (.ref xs)] [(.ref tt)])) _
    refine X1.arraylength hx (by rw [e1]; exact Ar.1) (State.isArrayOf_alike hZ.alike Ar.2.1) (g := (mkF m 4 #[.val (.ref xs)] [(.ref tt)])) rfl rfl (hb hby d22_4) _ ?_
    rw [len_of Sz Mz]
    show Steps p.tables e below (T1.setTop (mkF m 5 #[.val (.ref xs)] [(.int (Int32.ofNat cs.length))])) _
    refine XS.ifNo X1.here hx rfl (hb hby d22_5) rfl ((if0 _ _).trans (teq (hl0 : (Int32.ofNat cs.length) = (0 : Int32))).2) ?_
    show Steps p.tables e below (T1.setTop (mkF m 8 #[.val (.ref xs)] [])) _
    refine XS.iconst X1.here hx rfl (hb hby d22_8) ?_
    show Steps p.tables e below (T1.setTop (mkF m 9 #[.val (.ref xs)] [(.int (1 : Int32))])) _
    refine XS.goto X1.here hx rfl (pc0 := 9) (pc' := 13) rfl (hb hby d22_9) (by decide) (by decide) ?_
    show Steps p.tables e below (T1.setTop (mkF m 13 #[.val (.ref xs)] [(.int (1 : Int32))])) _
    exact retN X1 hx (t := .boolean) Bd.returns (by simp) (hb hby d22_13) hr
  · show Qd22 Z xs tt kb cs h0 n0 _ T1.heap _
    rw [e1]
    exact ⟨rfl, N0, rfl⟩
theorem own_gE : own_good ([69, 82, 82, 32] : List Int32) := ⟨by decide, by decide⟩
theorem own_gS : own_good ([32] : List Int32) := ⟨by decide, by decide⟩
theorem own_gN : own_good ([] : List Int32) := ⟨by decide, by decide⟩
theorem own_gapp {a b : List Int32} (ha : own_good a) (hb : own_good b) (hl : a.length + b.length ≤ 17) : own_good (a ++ b) := ⟨by rw [List.length_append]; exact hl, fun c hc => by
  rcases List.mem_append.mp hc with q | q
  · exact ha.2 c q
  · exact hb.2 c q⟩
theorem d10_0 : decode prog_14_method_3_code 0 = .ok (.new 13, 3) := by decide +kernel
theorem d10_3 : decode prog_14_method_3_code 3 = .ok (.dup, 1) := by decide +kernel
theorem d10_4 : decode prog_14_method_3_code 4 = .ok (.invokespecial 15, 3) := by decide +kernel
theorem own_pd16 : parseMethodDescriptor "()V" = some ⟨[], none⟩ := by decide +kernel
theorem d10_7 : decode prog_14_method_3_code 7 = .ok (.ldc 18, 2) := by decide +kernel
theorem d10_9 : decode prog_14_method_3_code 9 = .ok (.invokevirtual 20, 3) := by decide +kernel
theorem own_pd17 : parseMethodDescriptor "(Ljava/lang/String;)Ljava/lang/StringBuilder;" = some ⟨[(.object "java/lang/String")], some (.object "java/lang/StringBuilder")⟩ := by decide +kernel
theorem d10_12 : decode prog_14_method_3_code 12 = .ok (.aload_n 0, 1) := by decide +kernel
theorem d10_13 : decode prog_14_method_3_code 13 = .ok (.getfield 7, 3) := by decide +kernel
theorem d10_16 : decode prog_14_method_3_code 16 = .ok (.invokevirtual 20, 3) := by decide +kernel
theorem d10_19 : decode prog_14_method_3_code 19 = .ok (.aload_n 0, 1) := by decide +kernel
theorem d10_20 : decode prog_14_method_3_code 20 = .ok (.invokevirtual 24, 3) := by decide +kernel
theorem own_pd18 : parseMethodDescriptor "()Ljava/lang/String;" = some ⟨[], some (.object "java/lang/String")⟩ := by decide +kernel
theorem d10_23 : decode prog_14_method_3_code 23 = .ok (.invokevirtual 28, 3) := by decide +kernel
theorem d10_26 : decode prog_14_method_3_code 26 = .ok (.ifCond .eq 8, 3) := by decide +kernel
theorem d10_29 : decode prog_14_method_3_code 29 = .ok (.ldc 34, 2) := by decide +kernel
theorem d10_31 : decode prog_14_method_3_code 31 = .ok (.goto 25, 3) := by decide +kernel
theorem d10_56 : decode prog_14_method_3_code 56 = .ok (.invokevirtual 20, 3) := by decide +kernel
theorem d10_59 : decode prog_14_method_3_code 59 = .ok (.invokevirtual 38, 3) := by decide +kernel
theorem d10_62 : decode prog_14_method_3_code 62 = .ok (.areturn, 1) := by decide +kernel
theorem ef_10 (m : MethodId) (x0 : Addr) : entryFrame m #[(.ref x0)] 1 = mkF m 0 #[.val (.ref x0)] [] := by first | (simp [entryFrame, mkF, argsToLocals, Value.category]; done) | rfl
theorem pn_10 : plainName "com/example/riverside/riverside/RefusedException" = true := by first | (simp [plainName, overriddenIn]; done) | decide +kernel
def Qd23 (Z : State) (rx wx tw dx td : Addr) (kbW kbD : ClassId) (cw cd : List Int32) (z : Int32) (h0 : Heap) (n0 : Nat) (v : Option Value) (h : Heap) (L : List Loc) : Prop := ∃ xs nb kn, v = some (.ref xs) ∧ Fr n0 L ∧ Keep h0 h [] ∧ Exa Z h xs "java/lang/String" ∧ Fld Z h xs "java/lang/String" "value" "[B" (.ref nb) ∧ Fld Z h xs "java/lang/String" "coder" "B" (.int 0) ∧ Arv Z h nb kn .byte (Int32.ofNat (((([] : List Int32) ++ ([69, 82, 82, 32] : List Int32)) ++ cw) ++ ([] : List Int32)).length) (((((([] : List Int32) ++ ([69, 82, 82, 32] : List Int32)) ++ cw) ++ ([] : List Int32)).map StrChars.lo8).map Value.int) (.int 0)
set_option maxRecDepth 65536 in
set_option maxHeartbeats 40000000 in
theorem rmRL0 (l : Launch) (Z : State) (a0 : Array Value) (hw : ∀ d ∈ tables_1, d.before a0 Z = true) (ws : List Jvm.Cond) (rx wx tw dx td : Addr) (kbW kbD : ClassId) (cw cd : List Int32) (z : Int32) (h0 : Heap) (n0 : Nat) (O0 : Old Z n0 h0) (EX : Exa Z h0 rx "com/example/riverside/riverside/RefusedException") (FW : Fld Z h0 rx "com/example/riverside/riverside/RefusedException" "word" "Ljava/lang/String;" (.ref wx)) (FM : Fld Z h0 rx "java/lang/Throwable" "detailMessage" "Ljava/lang/String;" (.ref dx)) (ExW : Exa Z h0 wx "java/lang/String") (VxW : Fld Z h0 wx "java/lang/String" "value" "[B" (.ref tw)) (CxW : Fld Z h0 wx "java/lang/String" "coder" "B" (.int 0)) (KxW : Arv Z h0 tw kbW .byte (Int32.ofNat (cw).length) (((cw).map StrChars.lo8).map Value.int) (.int 0)) (ExD : Exa Z h0 dx "java/lang/String") (VxD : Fld Z h0 dx "java/lang/String" "value" "[B" (.ref td)) (CxD : Fld Z h0 dx "java/lang/String" "coder" "B" (.int 0)) (KxD : Arv Z h0 td kbD .byte (Int32.ofNat (cd).length) (((cd).map StrChars.lo8).map Value.int) (.int 0)) (SC : Sta Z Z.heap "java/lang/String" "COMPACT_STRINGS" "Z" (.int z)) (hz : ¬ z = 0) (hgw : own_good cw) (hgd : own_good cd) (hlw : cw.length ≤ 3) (hld : cd.length ≤ 3) (hl0 : Int32.ofNat cd.length = (0 : Int32)) :
    MetFree l (⟨"com/example/riverside/riverside/RefusedException", "replyLine", "()Ljava/lang/String;"⟩ : MethodName) (head1 (Jvm.Cond.code (⟨"com/example/riverside/riverside/RefusedException", "replyLine", "()Ljava/lang/String;"⟩ : MethodName) prog_14_method_3_code 1 (some (.object "java/lang/String")) :: ws) ({ frames := 6, cells := 8, slots := 64, locals := 91 } : Room)) (fun qq U => qq = #[(.ref rx)] ∧ Z.Warmed39 U.vm ∧ U.heap = h0 ∧ CHv Z consts_1 U.vm h0) (fun _ _ _ _ _ => True) (fun _ UU oo UU' => ∃ vv LL, oo = .returned vv ∧ Qd23 Z rx wx tw dx td kbW kbD cw cd z h0 n0 vv UU'.heap LL ∧ CHr Z consts_1 UU.vm UU.heap UU'.vm UU'.heap ∧ ReturnedEndW UU oo UU' LL ({ frames := 6, cells := 8, slots := 64, locals := 91 } : Room).cells ({ frames := 6, cells := 8, slots := 64, locals := 91 } : Room).slots) := by
  refine MetFree.of_bodySF (plainFor_of_name pn_10) hisR ?_
  intro p e s m args below meth c s₁ Bd hml0 hP hK
  obtain ⟨rfl, hZ, hh, hC0⟩ := hP
  have hZ : Z.Warmed39 (s.setVm s.vm).vm := hZ
  have CR0 := CHr.refl hC0
  have hx := Bd.exec
  have hby := Bd.bytes
  have hml : c.maxLocals = 1 := hml0
  have hown : (s.setVm s.vm).vm.findClass "com/example/riverside/riverside/RefusedException" = some m.cls := findClass_of_methodNamed Bd.named
  have hnm := (name_of_methodNamed Bd.named Bd.method).1
  have X0 : Stand p l e ({ frames := 6, cells := 8, slots := 64, locals := 91 } : Room) (s.setVm s.vm) m #[(.ref rx)] below meth c s₁ [] 0 0 := Stand.of_body Bd
  have e0 : s₁.heap = h0 := by rw [← hh, Bd.state]; rfl
  have N0 := Fr.nil n0
  have pre0 : ∀ tgt, Steps p.tables e below (s₁.setTop (mkF m 0 #[.val (.ref rx)] [])) tgt → Steps p.tables e below (s₁.setTop (entryFrame m #[(.ref rx)] 1)) tgt := fun tt kk => castTop (ef_10 m rx) kk
  obtain ⟨T1, h1, X1, e1, E1, A1, D1, -, st1⟩ := newO X0 hx hZ hown (ww hw 90 rfl) (ww hw 91 rfl) (ww hw 92 rfl) e0 (g := (mkF m 0 #[.val (.ref rx)] [])) rfl (hb hby d10_0) (by decide) (by decide)
  obtain ⟨b1, q1⟩ : ∃ z, z = h0.size := ⟨_, rfl⟩
  rw [← q1] at A1 D1 st1
  have g_b1 : n0 ≤ b1 := by rw [q1]; exact (O0).1 ▸ (O0).2.1
  have ne_rx_b1 : rx ≠ b1 := by rw [q1]; exact Nat.ne_of_lt EX.lt
  have ne_wx_b1 : wx ≠ b1 := by rw [q1]; exact Nat.ne_of_lt ExW.lt
  have ne_tw_b1 : tw ≠ b1 := by rw [q1]; exact Nat.ne_of_lt KxW.lt
  have ne_dx_b1 : dx ≠ b1 := by rw [q1]; exact Nat.ne_of_lt ExD.lt
  have ne_td_b1 : td ≠ b1 := by rw [q1]; exact Nat.ne_of_lt KxD.lt
  have sz_b1 : h0.size ≤ b1 := by rw [q1]; exact ((Keep.refl h0 [])).1
  have SC1 := CHr.ext E1 CR0.1
  have CR1 := CHr.trans CR0 SC1
  have O1 := Old.ext O0 E1
  have K1 := Keep.ext (Keep.refl h0 []) E1
  have F1_value : Fld Z h1 b1 "java/lang/AbstractStringBuilder" "value" "[B" .null := D1 (Or.inl (ww hw 105 rfl)) (ty := (.array .byte)) (by decide)
  have F1_coder : Fld Z h1 b1 "java/lang/AbstractStringBuilder" "coder" "B" (.int (0 : Int32)) := D1 (Or.inl (ww hw 107 rfl)) (ty := .byte) (by decide)
  have F1_count : Fld Z h1 b1 "java/lang/AbstractStringBuilder" "count" "I" (.int (0 : Int32)) := D1 (Or.inl (ww hw 131 rfl)) (ty := .int) (by decide)
  have lt1_rx := (Exa.ext E1 EX).lt
  have lt1_wx := (Exa.ext E1 ExW).lt
  have lt1_tw := (KxW.ext E1).lt
  have lt1_dx := (Exa.ext E1 ExD).lt
  have lt1_td := (KxD.ext E1).lt
  have lt1_b1 := A1.lt
  obtain ⟨_, _, ⟨T2, L2, k2, n2⟩, -, X2, ⟨Lc2, hQ2, l2, y2, z2⟩, st2⟩ := X1.specialBack hx (y := (⟨"java/lang/StringBuilder", "<init>", "()V"⟩ : MethodName)) rfl hown (mvT hZ (ww hw 93 rfl)) (mvT hZ (ww hw 94 rfl)) (mvT hZ (ww hw 95 rfl)) (by decide) (backOf (W := 1) (rmBI l Z a0 hw [] b1 z h1 n0 O1 g_b1 A1 F1_value F1_coder F1_count SC hz) hZ (ww hw 95 rfl) (ww hw 92 rfl) (by decide) (by decide)) (g := (mkF m 4 #[.val (.ref rx)] [(.ref b1), (.ref b1)])) rfl (by rw [hml]; rfl) (Steps.refl _) (a := b1) (argsL := []) (rest := [(.ref b1)]) (lenOf own_pd16 rfl) rfl (by show 2 * 0 + _ ≤ _; exact Nat.le_of_eq rfl) (hb hby d10_4) (fun _ _ => ⟨rfl, e1, (by decide : 1 + 1 ≤ _), (by decide : 4 + 16 ≤ _)⟩)
  dsimp only [Pt.U, Pt.locs, Pt.cells, Pt.slots] at X2 l2 y2 z2 st2 hQ2
  subst l2 y2 z2
  obtain ⟨vb1, kv1, rfl, N2q, KK2, szv1, gv1, fE4, fV4, fC4, fN4, fK4⟩ := hQ2
  have N2 := Fr.app N0 N2q
  have SC2 := CHr.keep KK2 (sfS (Safe.exa hZ.alike A1 (by decide) (by decide)) sf0) CR1.1
  have CR2 := CHr.trans CR1 SC2
  have O2 := Old.keep O1 KK2 (allS g_b1 all0)
  have K2 := Keep.trans K1 KK2 (allS (Or.inr sz_b1) all0)
  have ne1_rx : rx ≠ vb1 := Nat.ne_of_lt (Nat.lt_of_lt_of_le lt1_rx szv1)
  have ne1_wx : wx ≠ vb1 := Nat.ne_of_lt (Nat.lt_of_lt_of_le lt1_wx szv1)
  have ne1_tw : tw ≠ vb1 := Nat.ne_of_lt (Nat.lt_of_lt_of_le lt1_tw szv1)
  have ne1_dx : dx ≠ vb1 := Nat.ne_of_lt (Nat.lt_of_lt_of_le lt1_dx szv1)
  have ne1_td : td ≠ vb1 := Nat.ne_of_lt (Nat.lt_of_lt_of_le lt1_td szv1)
  have ne1_b1 : b1 ≠ vb1 := Nat.ne_of_lt (Nat.lt_of_lt_of_le lt1_b1 szv1)
  have sz_vb1 := Nat.le_trans (K1).1 szv1
  have SV1 := Safe.keep KK2 (sfS (Safe.exa hZ.alike A1 (by decide) (by decide)) sf0) CR1.1 (Safe.new szv1)
  obtain ⟨a3, T3, h3, k3, b3, kc3, X3, e3, E3, S3, sw3, hZ3, hown3, Le3, Lc3, Lv3, La3, -, -, CC3, -, ns3, st3⟩ := ldcCH (s := s) (vm0 := s.vm) X2 hx hZ hown (ww hw 108 rfl) (own_atoms hw) rfl (State.WarmedH.since (State.WarmedH.refl s) 0) (Nat.zero_le _) (own_EW hw) (EL := consts_1) (List.mem_of_getElem? (i := 0) rfl) CR2.1 (vs := ((([69, 82, 82, 32] : List Int32).map StrChars.lo8).map Value.int)) (z := Int32.ofNat (([69, 82, 82, 32] : List Int32)).length) ⟨by decide +kernel, by decide +kernel⟩ (by decide +kernel) (by decide +kernel) (g := (mkF m 7 #[.val (.ref rx)] [(.ref b1)])) rfl (hb hby d10_7) (n := 16) (by decide +kernel) (by decide) (by decide) (by decide)
  have SC3 := CC3
  have CR3 := CHr.trans CR2 SC3
  have SF3_vb1 := CHr.safe SC3 (fK4.lt) SV1
  have O3 := Old.ext O2 E3
  have K3 := Keep.ext K2 E3
  have neL9 : b3 ≠ vb1 := Ne.symm (ns3 _ SF3_vb1).2
  obtain ⟨cq4, kq4, q4a, q4b, q4c⟩ := isOf hZ3 e3 (Exa.ext E3 fE4)
  obtain ⟨_, _, ⟨T4, L4, k4, n4⟩, -, X4, ⟨Lc4, hQ4, l4, y4, z4⟩, st4⟩ := X3.virtualBack hx (y := (⟨"java/lang/StringBuilder", "append", "(Ljava/lang/String;)Ljava/lang/StringBuilder;"⟩ : MethodName)) (z := (⟨"java/lang/StringBuilder", "append", "(Ljava/lang/String;)Ljava/lang/StringBuilder;"⟩ : MethodName)) hown3 (mvT hZ3 (ww hw 109 rfl)) (mvT hZ3 (ww hw 110 rfl)) (notFace_of_selects (args := #[]) (mvT hZ3 (ww hw 112 rfl))) (mvT hZ3 (ww hw 112 rfl)) (mvT hZ3 (ww hw 111 rfl)) (by decide) (backOf (W := 0) (rmBA l Z a0 hw [] b1 vb1 a3 b3 kv1 kc3 (([] : List Int32)) (([69, 82, 82, 32] : List Int32)) z h3 n0 O3 g_b1 gv1 (Exa.ext E3 fE4) (Fld.ext E3 fV4) (Fld.ext E3 fC4) (Fld.ext E3 fN4) (fK4.ext E3) Le3 Lv3 Lc3 La3 SC hz own_gE (by simp only [List.length_append, List.length_nil, List.length_cons]; omega) ne1_b1 neL9) hZ3 (ww hw 113 rfl) (ww hw 92 rfl) (by decide) (by decide)) q4a q4c (g := (mkF m 9 #[.val (.ref rx)] [(.ref a3), (.ref b1)])) rfl (by rw [hml]; rfl) (Steps.refl _) (argsL := [(.ref a3)]) (rest := []) (lenOf own_pd17 rfl) rfl (by show 2 * 0 + _ ≤ _; exact Nat.le_of_eq rfl) (hb hby d10_9) (fun _ _ => ⟨rfl, e3, (by decide : 4 + 0 ≤ _), (by decide : 40 + 0 ≤ _)⟩)
  dsimp only [Pt.U, Pt.locs, Pt.cells, Pt.slots] at X4 l4 y4 z4 st4 hQ4
  subst l4 y4 z4
  obtain ⟨rfl, N4q, KK4, fE9, fV9, fC9, fN9, fK9⟩ := hQ4
  have N4 := Fr.app N2 N4q
  have SC4 := CHr.keep KK4 (sfS (Safe.exa hZ3.alike (Exa.ext E3 fE4) (by decide) (by decide)) (sfS SF3_vb1 sf0)) CR3.1
  have CR4 := CHr.trans CR3 SC4
  have SF4_vb1 := CHr.safe SC4 ((fK4.ext E3).lt) SF3_vb1
  have sz4 := Nat.le_trans sw3 (KK4.1)
  have O4 := Old.keep O3 KK4 (allS g_b1 (allS gv1 all0))
  have K4 := Keep.trans K3 KK4 (allS (Or.inr sz_b1) (allS (Or.inr sz_vb1) all0))
  have c5 := ((Fld.ext E3 ((Fld.ext E1 FW).keep KK2 (ninS ne_rx_b1 nin0))).keep KK4 (ninS ne_rx_b1 (ninS ne1_rx nin0)))
  obtain ⟨T6, X6, e6, st6⟩ := getF X4 hx hZ3 hown3 (host := "") (Or.inl (ww hw 83 rfl)) Via.refl rfl c5 (g := (mkF m 13 #[.val (.ref rx)] [(.ref rx), (.ref b1)])) rfl rfl (hb hby d10_13)
  have c7 := ((Fld.ext E3 ((Fld.ext E1 VxW).keep KK2 (ninS ne_wx_b1 nin0))).keep KK4 (ninS ne_wx_b1 (ninS ne1_wx nin0)))
  have c8 := ((Fld.ext E3 ((Fld.ext E1 CxW).keep KK2 (ninS ne_wx_b1 nin0))).keep KK4 (ninS ne_wx_b1 (ninS ne1_wx nin0)))
  have c9 := ((((KxW.ext E1).keep KK2 (ninS ne_tw_b1 nin0)).ext E3).keep KK4 (ninS ne_tw_b1 (ninS ne1_tw nin0)))
  obtain ⟨cq10, kq10, q10a, q10b, q10c⟩ := isOf hZ3 e6 fE9
  obtain ⟨_, _, ⟨T10, L10, k10, n10⟩, -, X10, ⟨Lc10, hQ10, l10, y10, z10⟩, st10⟩ := X6.virtualBack hx (y := (⟨"java/lang/StringBuilder", "append", "(Ljava/lang/String;)Ljava/lang/StringBuilder;"⟩ : MethodName)) (z := (⟨"java/lang/StringBuilder", "append", "(Ljava/lang/String;)Ljava/lang/StringBuilder;"⟩ : MethodName)) hown3 (mvT hZ3 (ww hw 109 rfl)) (mvT hZ3 (ww hw 110 rfl)) (notFace_of_selects (args := #[]) (mvT hZ3 (ww hw 112 rfl))) (mvT hZ3 (ww hw 112 rfl)) (mvT hZ3 (ww hw 111 rfl)) (by decide) (backOf (W := 0) (rmBA l Z a0 hw [] b1 vb1 wx tw kv1 kbW (([] : List Int32) ++ ([69, 82, 82, 32] : List Int32)) (cw) z T4.heap n0 O4 g_b1 gv1 fE9 fV9 fC9 fN9 fK9 ((Exa.ext E3 ((Exa.ext E1 ExW).keep KK2)).keep KK4) c7 c8 c9 SC hz hgw (by simp only [List.length_append, List.length_nil, List.length_cons]; omega) ne1_b1 ne1_tw) hZ3 (ww hw 113 rfl) (ww hw 92 rfl) (by decide) (by decide)) q10a q10c (g := (mkF m 16 #[.val (.ref rx)] [(.ref wx), (.ref b1)])) rfl (by rw [hml]; rfl) (Steps.refl _) (argsL := [(.ref wx)]) (rest := []) (lenOf own_pd17 rfl) rfl (by show 2 * 0 + _ ≤ _; exact Nat.le_of_eq rfl) (hb hby d10_16) (fun _ _ => ⟨rfl, e6, (by decide : 4 + 0 ≤ _), (by decide : 40 + 0 ≤ _)⟩)
  dsimp only [Pt.U, Pt.locs, Pt.cells, Pt.slots] at X10 l10 y10 z10 st10 hQ10
  subst l10 y10 z10
  obtain ⟨rfl, N10q, KK10, fE16, fV16, fC16, fN16, fK16⟩ := hQ10
  have N10 := Fr.app N4 N10q
  have SC10 := CHr.keep KK10 (sfS (Safe.exa hZ3.alike fE9 (by decide) (by decide)) (sfS SF4_vb1 sf0)) CR4.1
  have CR10 := CHr.trans CR4 SC10
  have SF10_vb1 := CHr.safe SC10 (fK9.lt) SF4_vb1
  have sz10 := Nat.le_trans sz4 (KK10.1)
  have O10 := Old.keep O4 KK10 (allS g_b1 (allS gv1 all0))
  have K10 := Keep.trans K4 KK10 (allS (Or.inr sz_b1) (allS (Or.inr sz_vb1) all0))
  have c11 := (((Fld.ext E3 ((Fld.ext E1 FM).keep KK2 (ninS ne_rx_b1 nin0))).keep KK4 (ninS ne_rx_b1 (ninS ne1_rx nin0))).keep KK10 (ninS ne_rx_b1 (ninS ne1_rx nin0)))
  have c13 := (((Exa.ext E3 ((Exa.ext E1 EX).keep KK2)).keep KK4).keep KK10)
  obtain ⟨cq12, kq12, q12a, q12b, q12c⟩ := isOf hZ3 rfl c13
  obtain ⟨_, _, ⟨T12, L12, k12, n12⟩, -, X12, ⟨Lc12, hQ12, l12, y12, z12⟩, st12⟩ := X10.virtualBackUp hx (x := (⟨"com/example/riverside/riverside/RefusedException", "getMessage", "()Ljava/lang/String;"⟩ : MethodName)) (y := (⟨"java/lang/Throwable", "getMessage", "()Ljava/lang/String;"⟩ : MethodName)) (owner := "java/lang/Throwable") hown3 (mvT hZ3 (ww hw 157 rfl)) (mvT hZ3 (ww hw 158 rfl)) (mvT hZ3 (ww hw 159 rfl)) (by decide) (mvT hZ3 (ww hw 161 rfl)) (mvT hZ3 (ww hw 160 rfl)) (backOf (W := 1) (rmGM l Z a0 hw [] rx dx T10.heap n0 c11) hZ3 (ww hw 162 rfl) (ww hw 44 rfl) (by decide) (by decide)) q12a q12c (g := (mkF m 20 #[.val (.ref rx)] [(.ref rx), (.ref b1)])) rfl (by rw [hml]; rfl) (Steps.refl _) (argsL := []) (rest := [(.ref b1)]) (lenOf own_pd18 rfl) rfl (by show 2 * 0 + _ ≤ _; exact Nat.le_of_eq rfl) (hb hby d10_20) (fun _ _ => ⟨rfl, rfl, (by decide : 4 + 0 ≤ _), (by decide : 40 + 0 ≤ _)⟩)
  dsimp only [Pt.U, Pt.locs, Pt.cells, Pt.slots] at X12 l12 y12 z12 st12 hQ12
  subst l12 y12 z12
  obtain ⟨rfl, N12q, e12⟩ := hQ12
  have N12 := Fr.app N10 N12q
  have c14 := (((Exa.ext E3 ((Exa.ext E1 ExD).keep KK2)).keep KK4).keep KK10)
  have c15 := (((Fld.ext E3 ((Fld.ext E1 VxD).keep KK2 (ninS ne_dx_b1 nin0))).keep KK4 (ninS ne_dx_b1 (ninS ne1_dx nin0))).keep KK10 (ninS ne_dx_b1 (ninS ne1_dx nin0)))
  have c16 := (((Fld.ext E3 ((Fld.ext E1 CxD).keep KK2 (ninS ne_dx_b1 nin0))).keep KK4 (ninS ne_dx_b1 (ninS ne1_dx nin0))).keep KK10 (ninS ne_dx_b1 (ninS ne1_dx nin0)))
  have c17 := (((((KxD.ext E1).keep KK2 (ninS ne_td_b1 nin0)).ext E3).keep KK4 (ninS ne_td_b1 (ninS ne1_td nin0))).keep KK10 (ninS ne_td_b1 (ninS ne1_td nin0)))
  obtain ⟨cq18, kq18, q18a, q18b, q18c⟩ := isOf hZ3 e12 c14
  obtain ⟨_, _, ⟨T18, L18, k18, n18⟩, -, X18, ⟨Lc18, hQ18, l18, y18, z18⟩, st18⟩ := X12.virtualBack hx (y := (⟨"java/lang/String", "isEmpty", "()Z"⟩ : MethodName)) (z := (⟨"java/lang/String", "isEmpty", "()Z"⟩ : MethodName)) hown3 (mvT hZ3 (ww hw 163 rfl)) (mvT hZ3 (ww hw 164 rfl)) (notFace_of_selects (args := #[]) (mvT hZ3 (ww hw 166 rfl))) (mvT hZ3 (ww hw 166 rfl)) (mvT hZ3 (ww hw 165 rfl)) (by decide) (backOf (W := 1) (rmEm1 l Z a0 hw [] dx td kbD cd T10.heap n0 c14 c15 c16 c17 hl0) hZ3 (ww hw 167 rfl) (ww hw 9 rfl) (by decide) (by decide)) q18a q18c (g := (mkF m 23 #[.val (.ref rx)] [(.ref dx), (.ref b1)])) rfl (by rw [hml]; rfl) (Steps.refl _) (argsL := []) (rest := [(.ref b1)]) (lenOf own_pd11 rfl) rfl (by show 2 * 0 + _ ≤ _; exact Nat.le_of_eq rfl) (hb hby d10_23) (fun _ _ => ⟨rfl, e12, (by decide : 4 + 0 ≤ _), (by decide : 40 + 0 ≤ _)⟩)
  dsimp only [Pt.U, Pt.locs, Pt.cells, Pt.slots] at X18 l18 y18 z18 st18 hQ18
  subst l18 y18 z18
  obtain ⟨rfl, N18q, e18⟩ := hQ18
  have N18 := Fr.app N12 N18q
  obtain ⟨a19, T19, h19, k19, b19, kc19, X19, e19, E19, S19, sw19, hZ19, hown19, Le19, Lc19, Lv19, La19, -, -, CC19, -, ns19, st19⟩ := ldcCH (s := s) (vm0 := T3.vm) X18 hx hZ3 hown3 (ww hw 168 rfl) (own_atoms hw) e18 S3 sz10 (own_EW hw) (EL := consts_1) (List.mem_of_getElem? (i := 1) rfl) CR10.1 (vs := ((([] : List Int32).map StrChars.lo8).map Value.int)) (z := Int32.ofNat (([] : List Int32)).length) ⟨by decide +kernel, by decide +kernel⟩ (by decide +kernel) (by decide +kernel) (g := (mkF m 29 #[.val (.ref rx)] [(.ref b1)])) rfl (hb hby d10_29) (n := 0) (by decide +kernel) (by decide) (by decide) (by decide)
  have SC19 := CC19
  have CR19 := CHr.trans CR10 SC19
  have SF19_vb1 := CHr.safe SC19 (fK16.lt) SF10_vb1
  have O19 := Old.ext O10 E19
  have K19 := Keep.ext K10 E19
  have neL56 : b19 ≠ vb1 := Ne.symm (ns19 _ SF19_vb1).2
  obtain ⟨cq20, kq20, q20a, q20b, q20c⟩ := isOf hZ19 e19 (Exa.ext E19 fE16)
  obtain ⟨_, _, ⟨T20, L20, k20, n20⟩, -, X20, ⟨Lc20, hQ20, l20, y20, z20⟩, st20⟩ := X19.virtualBack hx (y := (⟨"java/lang/StringBuilder", "append", "(Ljava/lang/String;)Ljava/lang/StringBuilder;"⟩ : MethodName)) (z := (⟨"java/lang/StringBuilder", "append", "(Ljava/lang/String;)Ljava/lang/StringBuilder;"⟩ : MethodName)) hown19 (mvT hZ19 (ww hw 109 rfl)) (mvT hZ19 (ww hw 110 rfl)) (notFace_of_selects (args := #[]) (mvT hZ19 (ww hw 112 rfl))) (mvT hZ19 (ww hw 112 rfl)) (mvT hZ19 (ww hw 111 rfl)) (by decide) (backOf (W := 0) (rmBA l Z a0 hw [] b1 vb1 a19 b19 kv1 kc19 ((([] : List Int32) ++ ([69, 82, 82, 32] : List Int32)) ++ cw) (([] : List Int32)) z h19 n0 O19 g_b1 gv1 (Exa.ext E19 fE16) (Fld.ext E19 fV16) (Fld.ext E19 fC16) (Fld.ext E19 fN16) (fK16.ext E19) Le19 Lv19 Lc19 La19 SC hz own_gN (by simp only [List.length_append, List.length_nil, List.length_cons]; omega) ne1_b1 neL56) hZ19 (ww hw 113 rfl) (ww hw 92 rfl) (by decide) (by decide)) q20a q20c (g := (mkF m 56 #[.val (.ref rx)] [(.ref a19), (.ref b1)])) rfl (by rw [hml]; rfl) (Steps.refl _) (argsL := [(.ref a19)]) (rest := []) (lenOf own_pd17 rfl) rfl (by show 2 * 0 + _ ≤ _; exact Nat.le_of_eq rfl) (hb hby d10_56) (fun _ _ => ⟨rfl, e19, (by decide : 6 + 0 ≤ _), (by decide : 44 + 0 ≤ _)⟩)
  dsimp only [Pt.U, Pt.locs, Pt.cells, Pt.slots] at X20 l20 y20 z20 st20 hQ20
  subst l20 y20 z20
  obtain ⟨rfl, N20q, KK20, fE56, fV56, fC56, fN56, fK56⟩ := hQ20
  have N20 := Fr.app N18 N20q
  have SC20 := CHr.keep KK20 (sfS (Safe.exa hZ19.alike (Exa.ext E19 fE16) (by decide) (by decide)) (sfS SF19_vb1 sf0)) CR19.1
  have CR20 := CHr.trans CR19 SC20
  have SF20_vb1 := CHr.safe SC20 ((fK16.ext E19).lt) SF19_vb1
  have sz20 := Nat.le_trans sw19 (KK20.1)
  have O20 := Old.keep O19 KK20 (allS g_b1 (allS gv1 all0))
  have K20 := Keep.trans K19 KK20 (allS (Or.inr sz_b1) (allS (Or.inr sz_vb1) all0))
  obtain ⟨cq21, kq21, q21a, q21b, q21c⟩ := isOf hZ19 rfl fE56
  obtain ⟨_, _, ⟨T21, L21, k21, n21⟩, -, X21, ⟨Lc21, hQ21, l21, y21, z21⟩, st21⟩ := X20.virtualBack hx (y := (⟨"java/lang/StringBuilder", "toString", "()Ljava/lang/String;"⟩ : MethodName)) (z := (⟨"java/lang/StringBuilder", "toString", "()Ljava/lang/String;"⟩ : MethodName)) hown19 (mvT hZ19 (ww hw 169 rfl)) (mvT hZ19 (ww hw 170 rfl)) (notFace_of_selects (args := #[]) (mvT hZ19 (ww hw 172 rfl))) (mvT hZ19 (ww hw 172 rfl)) (mvT hZ19 (ww hw 171 rfl)) (by decide) (backOf (W := 0) (rmTS l Z a0 hw [] b1 vb1 kv1 (((([] : List Int32) ++ ([69, 82, 82, 32] : List Int32)) ++ cw) ++ ([] : List Int32)) z T20.heap n0 O20 fE56 fV56 fC56 fN56 fK56 SC hz (by simp only [List.length_append, List.length_nil, List.length_cons]; omega)) hZ19 (ww hw 173 rfl) (ww hw 92 rfl) (by decide) (by decide)) q21a q21c (g := (mkF m 59 #[.val (.ref rx)] [(.ref b1)])) rfl (by rw [hml]; rfl) (Steps.refl _) (argsL := []) (rest := []) (lenOf own_pd18 rfl) rfl (by show 2 * 0 + _ ≤ _; exact Nat.le_of_eq rfl) (hb hby d10_59) (fun _ _ => ⟨rfl, rfl, (by decide : 6 + 2 ≤ _), (by decide : 44 + 20 ≤ _)⟩)
  dsimp only [Pt.U, Pt.locs, Pt.cells, Pt.slots] at X21 l21 y21 z21 st21 hQ21
  subst l21 y21 z21
  obtain ⟨xs, nb, kn, rfl, N21q, KK21, sz59, fE59, fV59, fC59, fK59⟩ := hQ21
  have N21 := Fr.app N20 N21q
  have SC21 := CHr.keep KK21 sf0 CR20.1
  have CR21 := CHr.trans CR20 SC21
  have SF21_vb1 := CHr.safe SC21 (fK56.lt) SF20_vb1
  have sz21 := Nat.le_trans sz20 (KK21.1)
  have O21 := Old.keep O20 KK21 all0
  have K21 := Keep.trans K20 KK21 all0
  obtain ⟨fs, hr, hrun, hended, hE⟩ := X21.leaveW (s := s) (vm₁ := T19.vm) S19 (sz21) (v := some (.ref xs)) (fun h => by rw [Bd.returns] at h; cases h)
  have CE : CHr Z consts_1 s.vm s.heap T21.vm T21.heap := by
    rw [hh]
    exact CHr.trans CR21 (CHv.at X21 hZ19 (own_EW hw) CR21.1)
  refine ⟨_, _, pre0 _ ?_, hrun, hended, _, _, rfl, ?_, CE, hE.1, hE.2.1, hE.2.2.1, hE.2.2.2.mono (by decide) (by decide)⟩
  · show Steps p.tables e below (s₁.setTop (mkF m 0 #[.val (.ref rx)] [])) _
    refine st1 _ ?_
    show Steps p.tables e below (T1.setTop (mkF m 3 #[.val (.ref rx)] [(.ref b1)])) _
    refine XS.dup X1.here hx rfl (hb hby d10_3) rfl rfl ?_
    show Steps p.tables e below (T1.setTop (mkF m 4 #[.val (.ref rx)] [(.ref b1), (.ref b1)])) _
    refine st2.trans ?_
    show Steps p.tables e below (T2.setTop (mkF m 7 #[.val (.ref rx)] [(.ref b1)])) _
    refine st3 _ ?_
    show Steps p.tables e below (T3.setTop (mkF m 9 #[.val (.ref rx)] [(.ref a3), (.ref b1)])) _
    refine st4.trans ?_
    show Steps p.tables e below (T4.setTop (mkF m 12 #[.val (.ref rx)] [(.ref b1)])) _
    refine XS.aloadN X4.here hx rfl (hb hby d10_12) rfl rfl ?_
    show Steps p.tables e below (T4.setTop (mkF m 13 #[.val (.ref rx)] [(.ref rx), (.ref b1)])) _
    refine st6 _ ?_
    show Steps p.tables e below (T6.setTop (mkF m 16 #[.val (.ref rx)] [(.ref wx), (.ref b1)])) _
    refine st10.trans ?_
    show Steps p.tables e below (T10.setTop (mkF m 19 #[.val (.ref rx)] [(.ref b1)])) _
    refine XS.aloadN X10.here hx rfl (hb hby d10_19) rfl rfl ?_
    show Steps p.tables e below (T10.setTop (mkF m 20 #[.val (.ref rx)] [(.ref rx), (.ref b1)])) _
    refine st12.trans ?_
    show Steps p.tables e below (T12.setTop (mkF m 23 #[.val (.ref rx)] [(.ref dx), (.ref b1)])) _
    refine st18.trans ?_
    show Steps p.tables e below (T18.setTop (mkF m 26 #[.val (.ref rx)] [(.int (1 : Int32)), (.ref b1)])) _
    refine XS.ifNo X18.here hx rfl (hb hby d10_26) rfl ((if0 _ _).trans (feq (by decide : ¬ ((1 : Int32) = (0 : Int32)))).1) ?_
    show Steps p.tables e below (T18.setTop (mkF m 29 #[.val (.ref rx)] [(.ref b1)])) _
    refine st19 _ ?_
    show Steps p.tables e below (T19.setTop (mkF m 31 #[.val (.ref rx)] [(.ref a19), (.ref b1)])) _
    refine XS.goto X19.here hx rfl (pc0 := 31) (pc' := 56) rfl (hb hby d10_31) (by decide) (by decide) ?_
    show Steps p.tables e below (T19.setTop (mkF m 56 #[.val (.ref rx)] [(.ref a19), (.ref b1)])) _
    refine st20.trans ?_
    show Steps p.tables e below (T20.setTop (mkF m 59 #[.val (.ref rx)] [(.ref b1)])) _
    refine st21.trans ?_
    show Steps p.tables e below (T21.setTop (mkF m 62 #[.val (.ref rx)] [(.ref xs)])) _
    exact retOut X21 hx Bd.returns rfl (Or.inr (Or.inr (Or.inr (Or.inr ⟨rfl, rfl, rfl⟩)))) (hb hby d10_62) hr
  · show Qd23 Z rx wx tw dx td kbW kbD cw cd z h0 n0 _ T21.heap _
    exact ⟨xs, nb, kn, rfl, N21, K21, fE59, fV59, fC59, fK59⟩
theorem d10_34 : decode prog_14_method_3_code 34 = .ok (.new 13, 3) := by decide +kernel
theorem d10_37 : decode prog_14_method_3_code 37 = .ok (.dup, 1) := by decide +kernel
theorem d10_38 : decode prog_14_method_3_code 38 = .ok (.invokespecial 15, 3) := by decide +kernel
theorem d10_41 : decode prog_14_method_3_code 41 = .ok (.ldc 36, 2) := by decide +kernel
theorem d10_43 : decode prog_14_method_3_code 43 = .ok (.invokevirtual 20, 3) := by decide +kernel
theorem d10_46 : decode prog_14_method_3_code 46 = .ok (.aload_n 0, 1) := by decide +kernel
theorem d10_47 : decode prog_14_method_3_code 47 = .ok (.invokevirtual 24, 3) := by decide +kernel
theorem d10_50 : decode prog_14_method_3_code 50 = .ok (.invokevirtual 20, 3) := by decide +kernel
theorem d10_53 : decode prog_14_method_3_code 53 = .ok (.invokevirtual 38, 3) := by decide +kernel
def Qd24 (Z : State) (rx wx tw dx td : Addr) (kbW kbD : ClassId) (cw cd : List Int32) (z : Int32) (h0 : Heap) (n0 : Nat) (v : Option Value) (h : Heap) (L : List Loc) : Prop := ∃ xs nb kn, v = some (.ref xs) ∧ Fr n0 L ∧ Keep h0 h [] ∧ Exa Z h xs "java/lang/String" ∧ Fld Z h xs "java/lang/String" "value" "[B" (.ref nb) ∧ Fld Z h xs "java/lang/String" "coder" "B" (.int 0) ∧ Arv Z h nb kn .byte (Int32.ofNat (((([] : List Int32) ++ ([69, 82, 82, 32] : List Int32)) ++ cw) ++ ((([] : List Int32) ++ ([32] : List Int32)) ++ cd)).length) (((((([] : List Int32) ++ ([69, 82, 82, 32] : List Int32)) ++ cw) ++ ((([] : List Int32) ++ ([32] : List Int32)) ++ cd)).map StrChars.lo8).map Value.int) (.int 0)
set_option maxRecDepth 65536 in
set_option maxHeartbeats 40000000 in
theorem rmRL1 (l : Launch) (Z : State) (a0 : Array Value) (hw : ∀ d ∈ tables_1, d.before a0 Z = true) (ws : List Jvm.Cond) (rx wx tw dx td : Addr) (kbW kbD : ClassId) (cw cd : List Int32) (z : Int32) (h0 : Heap) (n0 : Nat) (O0 : Old Z n0 h0) (EX : Exa Z h0 rx "com/example/riverside/riverside/RefusedException") (FW : Fld Z h0 rx "com/example/riverside/riverside/RefusedException" "word" "Ljava/lang/String;" (.ref wx)) (FM : Fld Z h0 rx "java/lang/Throwable" "detailMessage" "Ljava/lang/String;" (.ref dx)) (ExW : Exa Z h0 wx "java/lang/String") (VxW : Fld Z h0 wx "java/lang/String" "value" "[B" (.ref tw)) (CxW : Fld Z h0 wx "java/lang/String" "coder" "B" (.int 0)) (KxW : Arv Z h0 tw kbW .byte (Int32.ofNat (cw).length) (((cw).map StrChars.lo8).map Value.int) (.int 0)) (ExD : Exa Z h0 dx "java/lang/String") (VxD : Fld Z h0 dx "java/lang/String" "value" "[B" (.ref td)) (CxD : Fld Z h0 dx "java/lang/String" "coder" "B" (.int 0)) (KxD : Arv Z h0 td kbD .byte (Int32.ofNat (cd).length) (((cd).map StrChars.lo8).map Value.int) (.int 0)) (SC : Sta Z Z.heap "java/lang/String" "COMPACT_STRINGS" "Z" (.int z)) (hz : ¬ z = 0) (hgw : own_good cw) (hgd : own_good cd) (hlw : cw.length ≤ 3) (hld : cd.length ≤ 3) (hl0 : ¬ (Int32.ofNat cd.length = (0 : Int32))) :
    MetFree l (⟨"com/example/riverside/riverside/RefusedException", "replyLine", "()Ljava/lang/String;"⟩ : MethodName) (head1 (Jvm.Cond.code (⟨"com/example/riverside/riverside/RefusedException", "replyLine", "()Ljava/lang/String;"⟩ : MethodName) prog_14_method_3_code 1 (some (.object "java/lang/String")) :: ws) ({ frames := 6, cells := 12, slots := 108, locals := 92 } : Room)) (fun qq U => qq = #[(.ref rx)] ∧ Z.Warmed39 U.vm ∧ U.heap = h0 ∧ CHv Z consts_1 U.vm h0) (fun _ _ _ _ _ => True) (fun _ UU oo UU' => ∃ vv LL, oo = .returned vv ∧ Qd24 Z rx wx tw dx td kbW kbD cw cd z h0 n0 vv UU'.heap LL ∧ CHr Z consts_1 UU.vm UU.heap UU'.vm UU'.heap ∧ ReturnedEndW UU oo UU' LL ({ frames := 6, cells := 12, slots := 108, locals := 92 } : Room).cells ({ frames := 6, cells := 12, slots := 108, locals := 92 } : Room).slots) := by
  refine MetFree.of_bodySF (plainFor_of_name pn_10) hisR ?_
  intro p e s m args below meth c s₁ Bd hml0 hP hK
  obtain ⟨rfl, hZ, hh, hC0⟩ := hP
  have hZ : Z.Warmed39 (s.setVm s.vm).vm := hZ
  have CR0 := CHr.refl hC0
  have hx := Bd.exec
  have hby := Bd.bytes
  have hml : c.maxLocals = 1 := hml0
  have hown : (s.setVm s.vm).vm.findClass "com/example/riverside/riverside/RefusedException" = some m.cls := findClass_of_methodNamed Bd.named
  have hnm := (name_of_methodNamed Bd.named Bd.method).1
  have X0 : Stand p l e ({ frames := 6, cells := 12, slots := 108, locals := 92 } : Room) (s.setVm s.vm) m #[(.ref rx)] below meth c s₁ [] 0 0 := Stand.of_body Bd
  have e0 : s₁.heap = h0 := by rw [← hh, Bd.state]; rfl
  have N0 := Fr.nil n0
  have pre0 : ∀ tgt, Steps p.tables e below (s₁.setTop (mkF m 0 #[.val (.ref rx)] [])) tgt → Steps p.tables e below (s₁.setTop (entryFrame m #[(.ref rx)] 1)) tgt := fun tt kk => castTop (ef_10 m rx) kk
  obtain ⟨T1, h1, X1, e1, E1, A1, D1, -, st1⟩ := newO X0 hx hZ hown (ww hw 90 rfl) (ww hw 91 rfl) (ww hw 92 rfl) e0 (g := (mkF m 0 #[.val (.ref rx)] [])) rfl (hb hby d10_0) (by decide) (by decide)
  obtain ⟨b1, q1⟩ : ∃ z, z = h0.size := ⟨_, rfl⟩
  rw [← q1] at A1 D1 st1
  have g_b1 : n0 ≤ b1 := by rw [q1]; exact (O0).1 ▸ (O0).2.1
  have ne_rx_b1 : rx ≠ b1 := by rw [q1]; exact Nat.ne_of_lt EX.lt
  have ne_wx_b1 : wx ≠ b1 := by rw [q1]; exact Nat.ne_of_lt ExW.lt
  have ne_tw_b1 : tw ≠ b1 := by rw [q1]; exact Nat.ne_of_lt KxW.lt
  have ne_dx_b1 : dx ≠ b1 := by rw [q1]; exact Nat.ne_of_lt ExD.lt
  have ne_td_b1 : td ≠ b1 := by rw [q1]; exact Nat.ne_of_lt KxD.lt
  have sz_b1 : h0.size ≤ b1 := by rw [q1]; exact ((Keep.refl h0 [])).1
  have SC1 := CHr.ext E1 CR0.1
  have CR1 := CHr.trans CR0 SC1
  have O1 := Old.ext O0 E1
  have K1 := Keep.ext (Keep.refl h0 []) E1
  have F1_value : Fld Z h1 b1 "java/lang/AbstractStringBuilder" "value" "[B" .null := D1 (Or.inl (ww hw 105 rfl)) (ty := (.array .byte)) (by decide)
  have F1_coder : Fld Z h1 b1 "java/lang/AbstractStringBuilder" "coder" "B" (.int (0 : Int32)) := D1 (Or.inl (ww hw 107 rfl)) (ty := .byte) (by decide)
  have F1_count : Fld Z h1 b1 "java/lang/AbstractStringBuilder" "count" "I" (.int (0 : Int32)) := D1 (Or.inl (ww hw 131 rfl)) (ty := .int) (by decide)
  have lt1_rx := (Exa.ext E1 EX).lt
  have lt1_wx := (Exa.ext E1 ExW).lt
  have lt1_tw := (KxW.ext E1).lt
  have lt1_dx := (Exa.ext E1 ExD).lt
  have lt1_td := (KxD.ext E1).lt
  have lt1_b1 := A1.lt
  obtain ⟨_, _, ⟨T2, L2, k2, n2⟩, -, X2, ⟨Lc2, hQ2, l2, y2, z2⟩, st2⟩ := X1.specialBack hx (y := (⟨"java/lang/StringBuilder", "<init>", "()V"⟩ : MethodName)) rfl hown (mvT hZ (ww hw 93 rfl)) (mvT hZ (ww hw 94 rfl)) (mvT hZ (ww hw 95 rfl)) (by decide) (backOf (W := 1) (rmBI l Z a0 hw [] b1 z h1 n0 O1 g_b1 A1 F1_value F1_coder F1_count SC hz) hZ (ww hw 95 rfl) (ww hw 92 rfl) (by decide) (by decide)) (g := (mkF m 4 #[.val (.ref rx)] [(.ref b1), (.ref b1)])) rfl (by rw [hml]; rfl) (Steps.refl _) (a := b1) (argsL := []) (rest := [(.ref b1)]) (lenOf own_pd16 rfl) rfl (by show 2 * 0 + _ ≤ _; exact Nat.le_of_eq rfl) (hb hby d10_4) (fun _ _ => ⟨rfl, e1, (by decide : 1 + 1 ≤ _), (by decide : 4 + 16 ≤ _)⟩)
  dsimp only [Pt.U, Pt.locs, Pt.cells, Pt.slots] at X2 l2 y2 z2 st2 hQ2
  subst l2 y2 z2
  obtain ⟨vb1, kv1, rfl, N2q, KK2, szv1, gv1, fE4, fV4, fC4, fN4, fK4⟩ := hQ2
  have N2 := Fr.app N0 N2q
  have SC2 := CHr.keep KK2 (sfS (Safe.exa hZ.alike A1 (by decide) (by decide)) sf0) CR1.1
  have CR2 := CHr.trans CR1 SC2
  have O2 := Old.keep O1 KK2 (allS g_b1 all0)
  have K2 := Keep.trans K1 KK2 (allS (Or.inr sz_b1) all0)
  have ne1_rx : rx ≠ vb1 := Nat.ne_of_lt (Nat.lt_of_lt_of_le lt1_rx szv1)
  have ne1_wx : wx ≠ vb1 := Nat.ne_of_lt (Nat.lt_of_lt_of_le lt1_wx szv1)
  have ne1_tw : tw ≠ vb1 := Nat.ne_of_lt (Nat.lt_of_lt_of_le lt1_tw szv1)
  have ne1_dx : dx ≠ vb1 := Nat.ne_of_lt (Nat.lt_of_lt_of_le lt1_dx szv1)
  have ne1_td : td ≠ vb1 := Nat.ne_of_lt (Nat.lt_of_lt_of_le lt1_td szv1)
  have ne1_b1 : b1 ≠ vb1 := Nat.ne_of_lt (Nat.lt_of_lt_of_le lt1_b1 szv1)
  have sz_vb1 := Nat.le_trans (K1).1 szv1
  have SV1 := Safe.keep KK2 (sfS (Safe.exa hZ.alike A1 (by decide) (by decide)) sf0) CR1.1 (Safe.new szv1)
  obtain ⟨a3, T3, h3, k3, b3, kc3, X3, e3, E3, S3, sw3, hZ3, hown3, Le3, Lc3, Lv3, La3, -, -, CC3, -, ns3, st3⟩ := ldcCH (s := s) (vm0 := s.vm) X2 hx hZ hown (ww hw 108 rfl) (own_atoms hw) rfl (State.WarmedH.since (State.WarmedH.refl s) 0) (Nat.zero_le _) (own_EW hw) (EL := consts_1) (List.mem_of_getElem? (i := 0) rfl) CR2.1 (vs := ((([69, 82, 82, 32] : List Int32).map StrChars.lo8).map Value.int)) (z := Int32.ofNat (([69, 82, 82, 32] : List Int32)).length) ⟨by decide +kernel, by decide +kernel⟩ (by decide +kernel) (by decide +kernel) (g := (mkF m 7 #[.val (.ref rx)] [(.ref b1)])) rfl (hb hby d10_7) (n := 16) (by decide +kernel) (by decide) (by decide) (by decide)
  have SC3 := CC3
  have CR3 := CHr.trans CR2 SC3
  have SF3_vb1 := CHr.safe SC3 (fK4.lt) SV1
  have O3 := Old.ext O2 E3
  have K3 := Keep.ext K2 E3
  have neL9 : b3 ≠ vb1 := Ne.symm (ns3 _ SF3_vb1).2
  obtain ⟨cq4, kq4, q4a, q4b, q4c⟩ := isOf hZ3 e3 (Exa.ext E3 fE4)
  obtain ⟨_, _, ⟨T4, L4, k4, n4⟩, -, X4, ⟨Lc4, hQ4, l4, y4, z4⟩, st4⟩ := X3.virtualBack hx (y := (⟨"java/lang/StringBuilder", "append", "(Ljava/lang/String;)Ljava/lang/StringBuilder;"⟩ : MethodName)) (z := (⟨"java/lang/StringBuilder", "append", "(Ljava/lang/String;)Ljava/lang/StringBuilder;"⟩ : MethodName)) hown3 (mvT hZ3 (ww hw 109 rfl)) (mvT hZ3 (ww hw 110 rfl)) (notFace_of_selects (args := #[]) (mvT hZ3 (ww hw 112 rfl))) (mvT hZ3 (ww hw 112 rfl)) (mvT hZ3 (ww hw 111 rfl)) (by decide) (backOf (W := 0) (rmBA l Z a0 hw [] b1 vb1 a3 b3 kv1 kc3 (([] : List Int32)) (([69, 82, 82, 32] : List Int32)) z h3 n0 O3 g_b1 gv1 (Exa.ext E3 fE4) (Fld.ext E3 fV4) (Fld.ext E3 fC4) (Fld.ext E3 fN4) (fK4.ext E3) Le3 Lv3 Lc3 La3 SC hz own_gE (by simp only [List.length_append, List.length_nil, List.length_cons]; omega) ne1_b1 neL9) hZ3 (ww hw 113 rfl) (ww hw 92 rfl) (by decide) (by decide)) q4a q4c (g := (mkF m 9 #[.val (.ref rx)] [(.ref a3), (.ref b1)])) rfl (by rw [hml]; rfl) (Steps.refl _) (argsL := [(.ref a3)]) (rest := []) (lenOf own_pd17 rfl) rfl (by show 2 * 0 + _ ≤ _; exact Nat.le_of_eq rfl) (hb hby d10_9) (fun _ _ => ⟨rfl, e3, (by decide : 4 + 0 ≤ _), (by decide : 40 + 0 ≤ _)⟩)
  dsimp only [Pt.U, Pt.locs, Pt.cells, Pt.slots] at X4 l4 y4 z4 st4 hQ4
  subst l4 y4 z4
  obtain ⟨rfl, N4q, KK4, fE9, fV9, fC9, fN9, fK9⟩ := hQ4
  have N4 := Fr.app N2 N4q
  have SC4 := CHr.keep KK4 (sfS (Safe.exa hZ3.alike (Exa.ext E3 fE4) (by decide) (by decide)) (sfS SF3_vb1 sf0)) CR3.1
  have CR4 := CHr.trans CR3 SC4
  have SF4_vb1 := CHr.safe SC4 ((fK4.ext E3).lt) SF3_vb1
  have sz4 := Nat.le_trans sw3 (KK4.1)
  have O4 := Old.keep O3 KK4 (allS g_b1 (allS gv1 all0))
  have K4 := Keep.trans K3 KK4 (allS (Or.inr sz_b1) (allS (Or.inr sz_vb1) all0))
  have c5 := ((Fld.ext E3 ((Fld.ext E1 FW).keep KK2 (ninS ne_rx_b1 nin0))).keep KK4 (ninS ne_rx_b1 (ninS ne1_rx nin0)))
  obtain ⟨T6, X6, e6, st6⟩ := getF X4 hx hZ3 hown3 (host := "") (Or.inl (ww hw 83 rfl)) Via.refl rfl c5 (g := (mkF m 13 #[.val (.ref rx)] [(.ref rx), (.ref b1)])) rfl rfl (hb hby d10_13)
  have c7 := ((Fld.ext E3 ((Fld.ext E1 VxW).keep KK2 (ninS ne_wx_b1 nin0))).keep KK4 (ninS ne_wx_b1 (ninS ne1_wx nin0)))
  have c8 := ((Fld.ext E3 ((Fld.ext E1 CxW).keep KK2 (ninS ne_wx_b1 nin0))).keep KK4 (ninS ne_wx_b1 (ninS ne1_wx nin0)))
  have c9 := ((((KxW.ext E1).keep KK2 (ninS ne_tw_b1 nin0)).ext E3).keep KK4 (ninS ne_tw_b1 (ninS ne1_tw nin0)))
  obtain ⟨cq10, kq10, q10a, q10b, q10c⟩ := isOf hZ3 e6 fE9
  obtain ⟨_, _, ⟨T10, L10, k10, n10⟩, -, X10, ⟨Lc10, hQ10, l10, y10, z10⟩, st10⟩ := X6.virtualBack hx (y := (⟨"java/lang/StringBuilder", "append", "(Ljava/lang/String;)Ljava/lang/StringBuilder;"⟩ : MethodName)) (z := (⟨"java/lang/StringBuilder", "append", "(Ljava/lang/String;)Ljava/lang/StringBuilder;"⟩ : MethodName)) hown3 (mvT hZ3 (ww hw 109 rfl)) (mvT hZ3 (ww hw 110 rfl)) (notFace_of_selects (args := #[]) (mvT hZ3 (ww hw 112 rfl))) (mvT hZ3 (ww hw 112 rfl)) (mvT hZ3 (ww hw 111 rfl)) (by decide) (backOf (W := 0) (rmBA l Z a0 hw [] b1 vb1 wx tw kv1 kbW (([] : List Int32) ++ ([69, 82, 82, 32] : List Int32)) (cw) z T4.heap n0 O4 g_b1 gv1 fE9 fV9 fC9 fN9 fK9 ((Exa.ext E3 ((Exa.ext E1 ExW).keep KK2)).keep KK4) c7 c8 c9 SC hz hgw (by simp only [List.length_append, List.length_nil, List.length_cons]; omega) ne1_b1 ne1_tw) hZ3 (ww hw 113 rfl) (ww hw 92 rfl) (by decide) (by decide)) q10a q10c (g := (mkF m 16 #[.val (.ref rx)] [(.ref wx), (.ref b1)])) rfl (by rw [hml]; rfl) (Steps.refl _) (argsL := [(.ref wx)]) (rest := []) (lenOf own_pd17 rfl) rfl (by show 2 * 0 + _ ≤ _; exact Nat.le_of_eq rfl) (hb hby d10_16) (fun _ _ => ⟨rfl, e6, (by decide : 4 + 0 ≤ _), (by decide : 40 + 0 ≤ _)⟩)
  dsimp only [Pt.U, Pt.locs, Pt.cells, Pt.slots] at X10 l10 y10 z10 st10 hQ10
  subst l10 y10 z10
  obtain ⟨rfl, N10q, KK10, fE16, fV16, fC16, fN16, fK16⟩ := hQ10
  have N10 := Fr.app N4 N10q
  have SC10 := CHr.keep KK10 (sfS (Safe.exa hZ3.alike fE9 (by decide) (by decide)) (sfS SF4_vb1 sf0)) CR4.1
  have CR10 := CHr.trans CR4 SC10
  have SF10_vb1 := CHr.safe SC10 (fK9.lt) SF4_vb1
  have sz10 := Nat.le_trans sz4 (KK10.1)
  have O10 := Old.keep O4 KK10 (allS g_b1 (allS gv1 all0))
  have K10 := Keep.trans K4 KK10 (allS (Or.inr sz_b1) (allS (Or.inr sz_vb1) all0))
  have c11 := (((Fld.ext E3 ((Fld.ext E1 FM).keep KK2 (ninS ne_rx_b1 nin0))).keep KK4 (ninS ne_rx_b1 (ninS ne1_rx nin0))).keep KK10 (ninS ne_rx_b1 (ninS ne1_rx nin0)))
  have c13 := (((Exa.ext E3 ((Exa.ext E1 EX).keep KK2)).keep KK4).keep KK10)
  obtain ⟨cq12, kq12, q12a, q12b, q12c⟩ := isOf hZ3 rfl c13
  obtain ⟨_, _, ⟨T12, L12, k12, n12⟩, -, X12, ⟨Lc12, hQ12, l12, y12, z12⟩, st12⟩ := X10.virtualBackUp hx (x := (⟨"com/example/riverside/riverside/RefusedException", "getMessage", "()Ljava/lang/String;"⟩ : MethodName)) (y := (⟨"java/lang/Throwable", "getMessage", "()Ljava/lang/String;"⟩ : MethodName)) (owner := "java/lang/Throwable") hown3 (mvT hZ3 (ww hw 157 rfl)) (mvT hZ3 (ww hw 158 rfl)) (mvT hZ3 (ww hw 159 rfl)) (by decide) (mvT hZ3 (ww hw 161 rfl)) (mvT hZ3 (ww hw 160 rfl)) (backOf (W := 1) (rmGM l Z a0 hw [] rx dx T10.heap n0 c11) hZ3 (ww hw 162 rfl) (ww hw 44 rfl) (by decide) (by decide)) q12a q12c (g := (mkF m 20 #[.val (.ref rx)] [(.ref rx), (.ref b1)])) rfl (by rw [hml]; rfl) (Steps.refl _) (argsL := []) (rest := [(.ref b1)]) (lenOf own_pd18 rfl) rfl (by show 2 * 0 + _ ≤ _; exact Nat.le_of_eq rfl) (hb hby d10_20) (fun _ _ => ⟨rfl, rfl, (by decide : 4 + 0 ≤ _), (by decide : 40 + 0 ≤ _)⟩)
  dsimp only [Pt.U, Pt.locs, Pt.cells, Pt.slots] at X12 l12 y12 z12 st12 hQ12
  subst l12 y12 z12
  obtain ⟨rfl, N12q, e12⟩ := hQ12
  have N12 := Fr.app N10 N12q
  have c14 := (((Exa.ext E3 ((Exa.ext E1 ExD).keep KK2)).keep KK4).keep KK10)
  have c15 := (((Fld.ext E3 ((Fld.ext E1 VxD).keep KK2 (ninS ne_dx_b1 nin0))).keep KK4 (ninS ne_dx_b1 (ninS ne1_dx nin0))).keep KK10 (ninS ne_dx_b1 (ninS ne1_dx nin0)))
  have c16 := (((Fld.ext E3 ((Fld.ext E1 CxD).keep KK2 (ninS ne_dx_b1 nin0))).keep KK4 (ninS ne_dx_b1 (ninS ne1_dx nin0))).keep KK10 (ninS ne_dx_b1 (ninS ne1_dx nin0)))
  have c17 := (((((KxD.ext E1).keep KK2 (ninS ne_td_b1 nin0)).ext E3).keep KK4 (ninS ne_td_b1 (ninS ne1_td nin0))).keep KK10 (ninS ne_td_b1 (ninS ne1_td nin0)))
  obtain ⟨cq18, kq18, q18a, q18b, q18c⟩ := isOf hZ3 e12 c14
  obtain ⟨_, _, ⟨T18, L18, k18, n18⟩, -, X18, ⟨Lc18, hQ18, l18, y18, z18⟩, st18⟩ := X12.virtualBack hx (y := (⟨"java/lang/String", "isEmpty", "()Z"⟩ : MethodName)) (z := (⟨"java/lang/String", "isEmpty", "()Z"⟩ : MethodName)) hown3 (mvT hZ3 (ww hw 163 rfl)) (mvT hZ3 (ww hw 164 rfl)) (notFace_of_selects (args := #[]) (mvT hZ3 (ww hw 166 rfl))) (mvT hZ3 (ww hw 166 rfl)) (mvT hZ3 (ww hw 165 rfl)) (by decide) (backOf (W := 1) (rmEm0 l Z a0 hw [] dx td kbD cd T10.heap n0 c14 c15 c16 c17 hl0) hZ3 (ww hw 167 rfl) (ww hw 9 rfl) (by decide) (by decide)) q18a q18c (g := (mkF m 23 #[.val (.ref rx)] [(.ref dx), (.ref b1)])) rfl (by rw [hml]; rfl) (Steps.refl _) (argsL := []) (rest := [(.ref b1)]) (lenOf own_pd11 rfl) rfl (by show 2 * 0 + _ ≤ _; exact Nat.le_of_eq rfl) (hb hby d10_23) (fun _ _ => ⟨rfl, e12, (by decide : 4 + 0 ≤ _), (by decide : 40 + 0 ≤ _)⟩)
  dsimp only [Pt.U, Pt.locs, Pt.cells, Pt.slots] at X18 l18 y18 z18 st18 hQ18
  subst l18 y18 z18
  obtain ⟨rfl, N18q, e18⟩ := hQ18
  have N18 := Fr.app N12 N18q
  have c19 := (((Exa.ext E3 ((Exa.ext E1 ExW).keep KK2)).keep KK4).keep KK10)
  obtain ⟨T20, h20, X20, e20, E20, A20, D20, -, st20⟩ := newO X18 hx hZ3 hown3 (ww hw 90 rfl) (ww hw 91 rfl) (ww hw 92 rfl) e18 (g := (mkF m 34 #[.val (.ref rx)] [(.ref b1)])) rfl (hb hby d10_34) (by decide) (by decide)
  obtain ⟨b20, q20⟩ : ∃ z, z = T10.heap.size := ⟨_, rfl⟩
  rw [← q20] at A20 D20 st20
  have g_b20 : n0 ≤ b20 := by rw [q20]; exact (O10).1 ▸ (O10).2.1
  have ne_rx_b20 : rx ≠ b20 := by rw [q20]; exact Nat.ne_of_lt c13.lt
  have ne_wx_b20 : wx ≠ b20 := by rw [q20]; exact Nat.ne_of_lt c19.lt
  have ne_tw_b20 : tw ≠ b20 := by rw [q20]; exact Nat.ne_of_lt (c9.keep KK10 (ninS ne_tw_b1 (ninS ne1_tw nin0))).lt
  have ne_dx_b20 : dx ≠ b20 := by rw [q20]; exact Nat.ne_of_lt c14.lt
  have ne_td_b20 : td ≠ b20 := by rw [q20]; exact Nat.ne_of_lt c17.lt
  have ne_b1_b20 : b1 ≠ b20 := by rw [q20]; exact Nat.ne_of_lt fE16.lt
  have ne_vb1_b20 : vb1 ≠ b20 := by rw [q20]; exact Nat.ne_of_lt fK16.lt
  have sz_b20 : h0.size ≤ b20 := by rw [q20]; exact (K10).1
  have SC20 := CHr.ext E20 CR10.1
  have CR20 := CHr.trans CR10 SC20
  have SF20_vb1 := CHr.safe SC20 (fK16.lt) SF10_vb1
  have O20 := Old.ext O10 E20
  have sz20 := Nat.le_trans sz10 (E20.1)
  have K20 := Keep.ext K10 E20
  have F20_value : Fld Z h20 b20 "java/lang/AbstractStringBuilder" "value" "[B" .null := D20 (Or.inl (ww hw 105 rfl)) (ty := (.array .byte)) (by decide)
  have F20_coder : Fld Z h20 b20 "java/lang/AbstractStringBuilder" "coder" "B" (.int (0 : Int32)) := D20 (Or.inl (ww hw 107 rfl)) (ty := .byte) (by decide)
  have F20_count : Fld Z h20 b20 "java/lang/AbstractStringBuilder" "count" "I" (.int (0 : Int32)) := D20 (Or.inl (ww hw 131 rfl)) (ty := .int) (by decide)
  have lt2_rx := (Exa.ext E20 c13).lt
  have lt2_wx := (Exa.ext E20 c19).lt
  have lt2_tw := ((c9.keep KK10 (ninS ne_tw_b1 (ninS ne1_tw nin0))).ext E20).lt
  have lt2_dx := (Exa.ext E20 c14).lt
  have lt2_td := (c17.ext E20).lt
  have lt2_b1 := (Exa.ext E20 fE16).lt
  have lt2_vb1 := (fK16.ext E20).lt
  have lt2_b20 := A20.lt
  obtain ⟨_, _, ⟨T21, L21, k21, n21⟩, -, X21, ⟨Lc21, hQ21, l21, y21, z21⟩, st21⟩ := X20.specialBack hx (y := (⟨"java/lang/StringBuilder", "<init>", "()V"⟩ : MethodName)) rfl hown3 (mvT hZ3 (ww hw 93 rfl)) (mvT hZ3 (ww hw 94 rfl)) (mvT hZ3 (ww hw 95 rfl)) (by decide) (backOf (W := 2) (rmBI l Z a0 hw [] b20 z h20 n0 O20 g_b20 A20 F20_value F20_coder F20_count SC hz) hZ3 (ww hw 95 rfl) (ww hw 92 rfl) (by decide) (by decide)) (g := (mkF m 38 #[.val (.ref rx)] [(.ref b20), (.ref b20), (.ref b1)])) rfl (by rw [hml]; rfl) (Steps.refl _) (a := b20) (argsL := []) (rest := [(.ref b20), (.ref b1)]) (lenOf own_pd16 rfl) rfl (by show 2 * 0 + _ ≤ _; exact Nat.le_of_eq rfl) (hb hby d10_38) (fun _ _ => ⟨rfl, e20, (by decide : 5 + 1 ≤ _), (by decide : 44 + 16 ≤ _)⟩)
  dsimp only [Pt.U, Pt.locs, Pt.cells, Pt.slots] at X21 l21 y21 z21 st21 hQ21
  subst l21 y21 z21
  obtain ⟨vb2, kv2, rfl, N21q, KK21, szv2, gv2, fE38, fV38, fC38, fN38, fK38⟩ := hQ21
  have N21 := Fr.app N18 N21q
  have SC21 := CHr.keep KK21 (sfS (Safe.exa hZ3.alike A20 (by decide) (by decide)) sf0) CR20.1
  have CR21 := CHr.trans CR20 SC21
  have SF21_vb1 := CHr.safe SC21 ((fK16.ext E20).lt) SF20_vb1
  have sz21 := Nat.le_trans sz20 (KK21.1)
  have O21 := Old.keep O20 KK21 (allS g_b20 all0)
  have K21 := Keep.trans K20 KK21 (allS (Or.inr sz_b20) all0)
  have ne2_rx : rx ≠ vb2 := Nat.ne_of_lt (Nat.lt_of_lt_of_le lt2_rx szv2)
  have ne2_wx : wx ≠ vb2 := Nat.ne_of_lt (Nat.lt_of_lt_of_le lt2_wx szv2)
  have ne2_tw : tw ≠ vb2 := Nat.ne_of_lt (Nat.lt_of_lt_of_le lt2_tw szv2)
  have ne2_dx : dx ≠ vb2 := Nat.ne_of_lt (Nat.lt_of_lt_of_le lt2_dx szv2)
  have ne2_td : td ≠ vb2 := Nat.ne_of_lt (Nat.lt_of_lt_of_le lt2_td szv2)
  have ne2_b1 : b1 ≠ vb2 := Nat.ne_of_lt (Nat.lt_of_lt_of_le lt2_b1 szv2)
  have ne2_vb1 : vb1 ≠ vb2 := Nat.ne_of_lt (Nat.lt_of_lt_of_le lt2_vb1 szv2)
  have ne2_b20 : b20 ≠ vb2 := Nat.ne_of_lt (Nat.lt_of_lt_of_le lt2_b20 szv2)
  have sz_vb2 := Nat.le_trans (K20).1 szv2
  have SV2 := Safe.keep KK21 (sfS (Safe.exa hZ3.alike A20 (by decide) (by decide)) sf0) CR20.1 (Safe.new szv2)
  obtain ⟨a22, T22, h22, k22, b22, kc22, X22, e22, E22, S22, sw22, hZ22, hown22, Le22, Lc22, Lv22, La22, -, -, CC22, -, ns22, st22⟩ := ldcCH (s := s) (vm0 := T3.vm) X21 hx hZ3 hown3 (ww hw 247 rfl) (own_atoms hw) rfl S3 sz21 (own_EW hw) (EL := consts_1) (List.mem_of_getElem? (i := 2) rfl) CR21.1 (vs := ((([32] : List Int32).map StrChars.lo8).map Value.int)) (z := Int32.ofNat (([32] : List Int32)).length) ⟨by decide +kernel, by decide +kernel⟩ (by decide +kernel) (by decide +kernel) (g := (mkF m 41 #[.val (.ref rx)] [(.ref b20), (.ref b1)])) rfl (hb hby d10_41) (n := 4) (by decide +kernel) (by decide) (by decide) (by decide)
  have SC22 := CC22
  have CR22 := CHr.trans CR21 SC22
  have SF22_vb1 := CHr.safe SC22 (((fK16.ext E20).keep KK21 (ninS ne_vb1_b20 nin0)).lt) SF21_vb1
  have SF22_vb2 := CHr.safe SC22 (fK38.lt) SV2
  have O22 := Old.ext O21 E22
  have K22 := Keep.ext K21 E22
  have neL43 : b22 ≠ vb2 := Ne.symm (ns22 _ SF22_vb2).2
  obtain ⟨cq23, kq23, q23a, q23b, q23c⟩ := isOf hZ22 e22 (Exa.ext E22 fE38)
  obtain ⟨_, _, ⟨T23, L23, k23, n23⟩, -, X23, ⟨Lc23, hQ23, l23, y23, z23⟩, st23⟩ := X22.virtualBack hx (y := (⟨"java/lang/StringBuilder", "append", "(Ljava/lang/String;)Ljava/lang/StringBuilder;"⟩ : MethodName)) (z := (⟨"java/lang/StringBuilder", "append", "(Ljava/lang/String;)Ljava/lang/StringBuilder;"⟩ : MethodName)) hown22 (mvT hZ22 (ww hw 109 rfl)) (mvT hZ22 (ww hw 110 rfl)) (notFace_of_selects (args := #[]) (mvT hZ22 (ww hw 112 rfl))) (mvT hZ22 (ww hw 112 rfl)) (mvT hZ22 (ww hw 111 rfl)) (by decide) (backOf (W := 1) (rmBA l Z a0 hw [] b20 vb2 a22 b22 kv2 kc22 (([] : List Int32)) (([32] : List Int32)) z h22 n0 O22 g_b20 gv2 (Exa.ext E22 fE38) (Fld.ext E22 fV38) (Fld.ext E22 fC38) (Fld.ext E22 fN38) (fK38.ext E22) Le22 Lv22 Lc22 La22 SC hz own_gS (by simp only [List.length_append, List.length_nil, List.length_cons]; omega) ne2_b20 neL43) hZ22 (ww hw 113 rfl) (ww hw 92 rfl) (by decide) (by decide)) q23a q23c (g := (mkF m 43 #[.val (.ref rx)] [(.ref a22), (.ref b20), (.ref b1)])) rfl (by rw [hml]; rfl) (Steps.refl _) (argsL := [(.ref a22)]) (rest := [(.ref b1)]) (lenOf own_pd17 rfl) rfl (by show 2 * 0 + _ ≤ _; exact Nat.le_of_eq rfl) (hb hby d10_43) (fun _ _ => ⟨rfl, e22, (by decide : 8 + 0 ≤ _), (by decide : 68 + 0 ≤ _)⟩)
  dsimp only [Pt.U, Pt.locs, Pt.cells, Pt.slots] at X23 l23 y23 z23 st23 hQ23
  subst l23 y23 z23
  obtain ⟨rfl, N23q, KK23, fE43, fV43, fC43, fN43, fK43⟩ := hQ23
  have N23 := Fr.app N21 N23q
  have SC23 := CHr.keep KK23 (sfS (Safe.exa hZ22.alike (Exa.ext E22 fE38) (by decide) (by decide)) (sfS SF22_vb2 sf0)) CR22.1
  have CR23 := CHr.trans CR22 SC23
  have SF23_vb1 := CHr.safe SC23 ((((fK16.ext E20).keep KK21 (ninS ne_vb1_b20 nin0)).ext E22).lt) SF22_vb1
  have SF23_vb2 := CHr.safe SC23 ((fK38.ext E22).lt) SF22_vb2
  have sz23 := Nat.le_trans sw22 (KK23.1)
  have O23 := Old.keep O22 KK23 (allS g_b20 (allS gv2 all0))
  have K23 := Keep.trans K22 KK23 (allS (Or.inr sz_b20) (allS (Or.inr sz_vb2) all0))
  have c24 := ((Fld.ext E22 ((Fld.ext E20 c11).keep KK21 (ninS ne_rx_b20 nin0))).keep KK23 (ninS ne_rx_b20 (ninS ne2_rx nin0)))
  obtain ⟨cq25, kq25, q25a, q25b, q25c⟩ := isOf hZ22 rfl ((Exa.ext E22 ((Exa.ext E20 c13).keep KK21)).keep KK23)
  obtain ⟨_, _, ⟨T25, L25, k25, n25⟩, -, X25, ⟨Lc25, hQ25, l25, y25, z25⟩, st25⟩ := X23.virtualBackUp hx (x := (⟨"com/example/riverside/riverside/RefusedException", "getMessage", "()Ljava/lang/String;"⟩ : MethodName)) (y := (⟨"java/lang/Throwable", "getMessage", "()Ljava/lang/String;"⟩ : MethodName)) (owner := "java/lang/Throwable") hown22 (mvT hZ22 (ww hw 157 rfl)) (mvT hZ22 (ww hw 158 rfl)) (mvT hZ22 (ww hw 159 rfl)) (by decide) (mvT hZ22 (ww hw 161 rfl)) (mvT hZ22 (ww hw 160 rfl)) (backOf (W := 2) (rmGM l Z a0 hw [] rx dx T23.heap n0 c24) hZ22 (ww hw 162 rfl) (ww hw 44 rfl) (by decide) (by decide)) q25a q25c (g := (mkF m 47 #[.val (.ref rx)] [(.ref rx), (.ref b20), (.ref b1)])) rfl (by rw [hml]; rfl) (Steps.refl _) (argsL := []) (rest := [(.ref b20), (.ref b1)]) (lenOf own_pd18 rfl) rfl (by show 2 * 0 + _ ≤ _; exact Nat.le_of_eq rfl) (hb hby d10_47) (fun _ _ => ⟨rfl, rfl, (by decide : 8 + 0 ≤ _), (by decide : 68 + 0 ≤ _)⟩)
  dsimp only [Pt.U, Pt.locs, Pt.cells, Pt.slots] at X25 l25 y25 z25 st25 hQ25
  subst l25 y25 z25
  obtain ⟨rfl, N25q, e25⟩ := hQ25
  have N25 := Fr.app N23 N25q
  have c26 := ((Fld.ext E22 ((Fld.ext E20 c15).keep KK21 (ninS ne_dx_b20 nin0))).keep KK23 (ninS ne_dx_b20 (ninS ne2_dx nin0)))
  have c27 := ((Fld.ext E22 ((Fld.ext E20 c16).keep KK21 (ninS ne_dx_b20 nin0))).keep KK23 (ninS ne_dx_b20 (ninS ne2_dx nin0)))
  have c28 := ((((c17.ext E20).keep KK21 (ninS ne_td_b20 nin0)).ext E22).keep KK23 (ninS ne_td_b20 (ninS ne2_td nin0)))
  obtain ⟨cq29, kq29, q29a, q29b, q29c⟩ := isOf hZ22 e25 fE43
  obtain ⟨_, _, ⟨T29, L29, k29, n29⟩, -, X29, ⟨Lc29, hQ29, l29, y29, z29⟩, st29⟩ := X25.virtualBack hx (y := (⟨"java/lang/StringBuilder", "append", "(Ljava/lang/String;)Ljava/lang/StringBuilder;"⟩ : MethodName)) (z := (⟨"java/lang/StringBuilder", "append", "(Ljava/lang/String;)Ljava/lang/StringBuilder;"⟩ : MethodName)) hown22 (mvT hZ22 (ww hw 109 rfl)) (mvT hZ22 (ww hw 110 rfl)) (notFace_of_selects (args := #[]) (mvT hZ22 (ww hw 112 rfl))) (mvT hZ22 (ww hw 112 rfl)) (mvT hZ22 (ww hw 111 rfl)) (by decide) (backOf (W := 1) (rmBA l Z a0 hw [] b20 vb2 dx td kv2 kbD (([] : List Int32) ++ ([32] : List Int32)) (cd) z T23.heap n0 O23 g_b20 gv2 fE43 fV43 fC43 fN43 fK43 ((Exa.ext E22 ((Exa.ext E20 c14).keep KK21)).keep KK23) c26 c27 c28 SC hz hgd (by simp only [List.length_append, List.length_nil, List.length_cons]; omega) ne2_b20 ne2_td) hZ22 (ww hw 113 rfl) (ww hw 92 rfl) (by decide) (by decide)) q29a q29c (g := (mkF m 50 #[.val (.ref rx)] [(.ref dx), (.ref b20), (.ref b1)])) rfl (by rw [hml]; rfl) (Steps.refl _) (argsL := [(.ref dx)]) (rest := [(.ref b1)]) (lenOf own_pd17 rfl) rfl (by show 2 * 0 + _ ≤ _; exact Nat.le_of_eq rfl) (hb hby d10_50) (fun _ _ => ⟨rfl, e25, (by decide : 8 + 0 ≤ _), (by decide : 68 + 0 ≤ _)⟩)
  dsimp only [Pt.U, Pt.locs, Pt.cells, Pt.slots] at X29 l29 y29 z29 st29 hQ29
  subst l29 y29 z29
  obtain ⟨rfl, N29q, KK29, fE50, fV50, fC50, fN50, fK50⟩ := hQ29
  have N29 := Fr.app N25 N29q
  have c30 := ((((fK16.ext E20).keep KK21 (ninS ne_vb1_b20 nin0)).ext E22).keep KK23 (ninS ne_vb1_b20 (ninS ne2_vb1 nin0)))
  have SC29 := CHr.keep KK29 (sfS (Safe.exa hZ22.alike fE43 (by decide) (by decide)) (sfS SF23_vb2 sf0)) CR23.1
  have CR29 := CHr.trans CR23 SC29
  have SF29_vb1 := CHr.safe SC29 (c30.lt) SF23_vb1
  have SF29_vb2 := CHr.safe SC29 (fK43.lt) SF23_vb2
  have sz29 := Nat.le_trans sz23 (KK29.1)
  have O29 := Old.keep O23 KK29 (allS g_b20 (allS gv2 all0))
  have K29 := Keep.trans K23 KK29 (allS (Or.inr sz_b20) (allS (Or.inr sz_vb2) all0))
  have lt53_vb1 := (c30.keep KK29 (ninS ne_vb1_b20 (ninS ne2_vb1 nin0))).lt
  obtain ⟨cq31, kq31, q31a, q31b, q31c⟩ := isOf hZ22 rfl fE50
  obtain ⟨_, _, ⟨T31, L31, k31, n31⟩, -, X31, ⟨Lc31, hQ31, l31, y31, z31⟩, st31⟩ := X29.virtualBack hx (y := (⟨"java/lang/StringBuilder", "toString", "()Ljava/lang/String;"⟩ : MethodName)) (z := (⟨"java/lang/StringBuilder", "toString", "()Ljava/lang/String;"⟩ : MethodName)) hown22 (mvT hZ22 (ww hw 169 rfl)) (mvT hZ22 (ww hw 170 rfl)) (notFace_of_selects (args := #[]) (mvT hZ22 (ww hw 172 rfl))) (mvT hZ22 (ww hw 172 rfl)) (mvT hZ22 (ww hw 171 rfl)) (by decide) (backOf (W := 1) (rmTS l Z a0 hw [] b20 vb2 kv2 ((([] : List Int32) ++ ([32] : List Int32)) ++ cd) z T29.heap n0 O29 fE50 fV50 fC50 fN50 fK50 SC hz (by simp only [List.length_append, List.length_nil, List.length_cons]; omega)) hZ22 (ww hw 173 rfl) (ww hw 92 rfl) (by decide) (by decide)) q31a q31c (g := (mkF m 53 #[.val (.ref rx)] [(.ref b20), (.ref b1)])) rfl (by rw [hml]; rfl) (Steps.refl _) (argsL := []) (rest := [(.ref b1)]) (lenOf own_pd18 rfl) rfl (by show 2 * 0 + _ ≤ _; exact Nat.le_of_eq rfl) (hb hby d10_53) (fun _ _ => ⟨rfl, rfl, (by decide : 8 + 2 ≤ _), (by decide : 68 + 20 ≤ _)⟩)
  dsimp only [Pt.U, Pt.locs, Pt.cells, Pt.slots] at X31 l31 y31 z31 st31 hQ31
  subst l31 y31 z31
  obtain ⟨ix, it, ik, rfl, N31q, KK31, sz53, fE53, fV53, fC53, fK53⟩ := hQ31
  have N31 := Fr.app N29 N31q
  have SC31 := CHr.keep KK31 sf0 CR29.1
  have CR31 := CHr.trans CR29 SC31
  have SF31_vb1 := CHr.safe SC31 ((c30.keep KK29 (ninS ne_vb1_b20 (ninS ne2_vb1 nin0))).lt) SF29_vb1
  have SF31_vb2 := CHr.safe SC31 (fK50.lt) SF29_vb2
  have sz31 := Nat.le_trans sz29 (KK31.1)
  have O31 := Old.keep O29 KK31 all0
  have K31 := Keep.trans K29 KK31 all0
  have ne53_vb1 : vb1 ≠ it := Nat.ne_of_lt (Nat.lt_of_lt_of_le lt53_vb1 sz53)
  have c32 := ((((Exa.ext E22 ((Exa.ext E20 fE16).keep KK21)).keep KK23).keep KK29).keep KK31)
  have c33 := ((((Fld.ext E22 ((Fld.ext E20 fV16).keep KK21 (ninS ne_b1_b20 nin0))).keep KK23 (ninS ne_b1_b20 (ninS ne2_b1 nin0))).keep KK29 (ninS ne_b1_b20 (ninS ne2_b1 nin0))).keep KK31 nin0)
  have c34 := ((((Fld.ext E22 ((Fld.ext E20 fC16).keep KK21 (ninS ne_b1_b20 nin0))).keep KK23 (ninS ne_b1_b20 (ninS ne2_b1 nin0))).keep KK29 (ninS ne_b1_b20 (ninS ne2_b1 nin0))).keep KK31 nin0)
  have c35 := ((((Fld.ext E22 ((Fld.ext E20 fN16).keep KK21 (ninS ne_b1_b20 nin0))).keep KK23 (ninS ne_b1_b20 (ninS ne2_b1 nin0))).keep KK29 (ninS ne_b1_b20 (ninS ne2_b1 nin0))).keep KK31 nin0)
  have c36 := ((c30.keep KK29 (ninS ne_vb1_b20 (ninS ne2_vb1 nin0))).keep KK31 nin0)
  obtain ⟨cq37, kq37, q37a, q37b, q37c⟩ := isOf hZ22 rfl c32
  obtain ⟨_, _, ⟨T37, L37, k37, n37⟩, -, X37, ⟨Lc37, hQ37, l37, y37, z37⟩, st37⟩ := X31.virtualBack hx (y := (⟨"java/lang/StringBuilder", "append", "(Ljava/lang/String;)Ljava/lang/StringBuilder;"⟩ : MethodName)) (z := (⟨"java/lang/StringBuilder", "append", "(Ljava/lang/String;)Ljava/lang/StringBuilder;"⟩ : MethodName)) hown22 (mvT hZ22 (ww hw 109 rfl)) (mvT hZ22 (ww hw 110 rfl)) (notFace_of_selects (args := #[]) (mvT hZ22 (ww hw 112 rfl))) (mvT hZ22 (ww hw 112 rfl)) (mvT hZ22 (ww hw 111 rfl)) (by decide) (backOf (W := 0) (rmBA l Z a0 hw [] b1 vb1 ix it kv1 ik ((([] : List Int32) ++ ([69, 82, 82, 32] : List Int32)) ++ cw) ((([] : List Int32) ++ ([32] : List Int32)) ++ cd) z T31.heap n0 O31 g_b1 gv1 c32 c33 c34 c35 c36 fE53 fV53 fC53 fK53 SC hz (own_gapp own_gS hgd (by simp only [List.length_append, List.length_nil, List.length_cons]; omega)) (by simp only [List.length_append, List.length_nil, List.length_cons]; omega) ne1_b1 (Ne.symm ne53_vb1)) hZ22 (ww hw 113 rfl) (ww hw 92 rfl) (by decide) (by decide)) q37a q37c (g := (mkF m 56 #[.val (.ref rx)] [(.ref ix), (.ref b1)])) rfl (by rw [hml]; rfl) (Steps.refl _) (argsL := [(.ref ix)]) (rest := []) (lenOf own_pd17 rfl) rfl (by show 2 * 0 + _ ≤ _; exact Nat.le_of_eq rfl) (hb hby d10_56) (fun _ _ => ⟨rfl, rfl, (by decide : 10 + 0 ≤ _), (by decide : 88 + 0 ≤ _)⟩)
  dsimp only [Pt.U, Pt.locs, Pt.cells, Pt.slots] at X37 l37 y37 z37 st37 hQ37
  subst l37 y37 z37
  obtain ⟨rfl, N37q, KK37, fE56, fV56, fC56, fN56, fK56⟩ := hQ37
  have N37 := Fr.app N31 N37q
  have SC37 := CHr.keep KK37 (sfS (Safe.exa hZ22.alike c32 (by decide) (by decide)) (sfS SF31_vb1 sf0)) CR31.1
  have CR37 := CHr.trans CR31 SC37
  have SF37_vb1 := CHr.safe SC37 (c36.lt) SF31_vb1
  have SF37_vb2 := CHr.safe SC37 ((fK50.keep KK31 nin0).lt) SF31_vb2
  have sz37 := Nat.le_trans sz31 (KK37.1)
  have O37 := Old.keep O31 KK37 (allS g_b1 (allS gv1 all0))
  have K37 := Keep.trans K31 KK37 (allS (Or.inr sz_b1) (allS (Or.inr sz_vb1) all0))
  obtain ⟨cq38, kq38, q38a, q38b, q38c⟩ := isOf hZ22 rfl fE56
  obtain ⟨_, _, ⟨T38, L38, k38, n38⟩, -, X38, ⟨Lc38, hQ38, l38, y38, z38⟩, st38⟩ := X37.virtualBack hx (y := (⟨"java/lang/StringBuilder", "toString", "()Ljava/lang/String;"⟩ : MethodName)) (z := (⟨"java/lang/StringBuilder", "toString", "()Ljava/lang/String;"⟩ : MethodName)) hown22 (mvT hZ22 (ww hw 169 rfl)) (mvT hZ22 (ww hw 170 rfl)) (notFace_of_selects (args := #[]) (mvT hZ22 (ww hw 172 rfl))) (mvT hZ22 (ww hw 172 rfl)) (mvT hZ22 (ww hw 171 rfl)) (by decide) (backOf (W := 0) (rmTS l Z a0 hw [] b1 vb1 kv1 (((([] : List Int32) ++ ([69, 82, 82, 32] : List Int32)) ++ cw) ++ ((([] : List Int32) ++ ([32] : List Int32)) ++ cd)) z T37.heap n0 O37 fE56 fV56 fC56 fN56 fK56 SC hz (by simp only [List.length_append, List.length_nil, List.length_cons]; omega)) hZ22 (ww hw 173 rfl) (ww hw 92 rfl) (by decide) (by decide)) q38a q38c (g := (mkF m 59 #[.val (.ref rx)] [(.ref b1)])) rfl (by rw [hml]; rfl) (Steps.refl _) (argsL := []) (rest := []) (lenOf own_pd18 rfl) rfl (by show 2 * 0 + _ ≤ _; exact Nat.le_of_eq rfl) (hb hby d10_59) (fun _ _ => ⟨rfl, rfl, (by decide : 10 + 2 ≤ _), (by decide : 88 + 20 ≤ _)⟩)
  dsimp only [Pt.U, Pt.locs, Pt.cells, Pt.slots] at X38 l38 y38 z38 st38 hQ38
  subst l38 y38 z38
  obtain ⟨xs, nb, kn, rfl, N38q, KK38, sz59, fE59, fV59, fC59, fK59⟩ := hQ38
  have N38 := Fr.app N37 N38q
  have c39 := ((fK50.keep KK31 nin0).keep KK37 (ninS (Ne.symm ne2_b1) (ninS (Ne.symm ne2_vb1) nin0)))
  have SC38 := CHr.keep KK38 sf0 CR37.1
  have CR38 := CHr.trans CR37 SC38
  have SF38_vb1 := CHr.safe SC38 (fK56.lt) SF37_vb1
  have SF38_vb2 := CHr.safe SC38 (c39.lt) SF37_vb2
  have sz38 := Nat.le_trans sz37 (KK38.1)
  have O38 := Old.keep O37 KK38 all0
  have K38 := Keep.trans K37 KK38 all0
  obtain ⟨fs, hr, hrun, hended, hE⟩ := X38.leaveW (s := s) (vm₁ := T22.vm) S22 (sz38) (v := some (.ref xs)) (fun h => by rw [Bd.returns] at h; cases h)
  have CE : CHr Z consts_1 s.vm s.heap T38.vm T38.heap := by
    rw [hh]
    exact CHr.trans CR38 (CHv.at X38 hZ22 (own_EW hw) CR38.1)
  refine ⟨_, _, pre0 _ ?_, hrun, hended, _, _, rfl, ?_, CE, hE.1, hE.2.1, hE.2.2.1, hE.2.2.2.mono (by decide) (by decide)⟩
  · show Steps p.tables e below (s₁.setTop (mkF m 0 #[.val (.ref rx)] [])) _
    refine st1 _ ?_
    show Steps p.tables e below (T1.setTop (mkF m 3 #[.val (.ref rx)] [(.ref b1)])) _
    refine XS.dup X1.here hx rfl (hb hby d10_3) rfl rfl ?_
    show Steps p.tables e below (T1.setTop (mkF m 4 #[.val (.ref rx)] [(.ref b1), (.ref b1)])) _
    refine st2.trans ?_
    show Steps p.tables e below (T2.setTop (mkF m 7 #[.val (.ref rx)] [(.ref b1)])) _
    refine st3 _ ?_
    show Steps p.tables e below (T3.setTop (mkF m 9 #[.val (.ref rx)] [(.ref a3), (.ref b1)])) _
    refine st4.trans ?_
    show Steps p.tables e below (T4.setTop (mkF m 12 #[.val (.ref rx)] [(.ref b1)])) _
    refine XS.aloadN X4.here hx rfl (hb hby d10_12) rfl rfl ?_
    show Steps p.tables e below (T4.setTop (mkF m 13 #[.val (.ref rx)] [(.ref rx), (.ref b1)])) _
    refine st6 _ ?_
    show Steps p.tables e below (T6.setTop (mkF m 16 #[.val (.ref rx)] [(.ref wx), (.ref b1)])) _
    refine st10.trans ?_
    show Steps p.tables e below (T10.setTop (mkF m 19 #[.val (.ref rx)] [(.ref b1)])) _
    refine XS.aloadN X10.here hx rfl (hb hby d10_19) rfl rfl ?_
    show Steps p.tables e below (T10.setTop (mkF m 20 #[.val (.ref rx)] [(.ref rx), (.ref b1)])) _
    refine st12.trans ?_
    show Steps p.tables e below (T12.setTop (mkF m 23 #[.val (.ref rx)] [(.ref dx), (.ref b1)])) _
    refine st18.trans ?_
    show Steps p.tables e below (T18.setTop (mkF m 26 #[.val (.ref rx)] [(.int (0 : Int32)), (.ref b1)])) _
    refine XS.ifYes X18.here hx rfl (pc0 := 26) (pc' := 34) rfl (hb hby d10_26) rfl ((if0 _ _).trans (teq (rfl : (0 : Int32) = (0 : Int32))).1) (by decide) (by decide) ?_
    show Steps p.tables e below (T18.setTop (mkF m 34 #[.val (.ref rx)] [(.ref b1)])) _
    refine st20 _ ?_
    show Steps p.tables e below (T20.setTop (mkF m 37 #[.val (.ref rx)] [(.ref b20), (.ref b1)])) _
    refine XS.dup X20.here hx rfl (hb hby d10_37) rfl rfl ?_
    show Steps p.tables e below (T20.setTop (mkF m 38 #[.val (.ref rx)] [(.ref b20), (.ref b20), (.ref b1)])) _
    refine st21.trans ?_
    show Steps p.tables e below (T21.setTop (mkF m 41 #[.val (.ref rx)] [(.ref b20), (.ref b1)])) _
    refine st22 _ ?_
    show Steps p.tables e below (T22.setTop (mkF m 43 #[.val (.ref rx)] [(.ref a22), (.ref b20), (.ref b1)])) _
    refine st23.trans ?_
    show Steps p.tables e below (T23.setTop (mkF m 46 #[.val (.ref rx)] [(.ref b20), (.ref b1)])) _
    refine XS.aloadN X23.here hx rfl (hb hby d10_46) rfl rfl ?_
    show Steps p.tables e below (T23.setTop (mkF m 47 #[.val (.ref rx)] [(.ref rx), (.ref b20), (.ref b1)])) _
    refine st25.trans ?_
    show Steps p.tables e below (T25.setTop (mkF m 50 #[.val (.ref rx)] [(.ref dx), (.ref b20), (.ref b1)])) _
    refine st29.trans ?_
    show Steps p.tables e below (T29.setTop (mkF m 53 #[.val (.ref rx)] [(.ref b20), (.ref b1)])) _
    refine st31.trans ?_
    show Steps p.tables e below (T31.setTop (mkF m 56 #[.val (.ref rx)] [(.ref ix), (.ref b1)])) _
    refine st37.trans ?_
    show Steps p.tables e below (T37.setTop (mkF m 59 #[.val (.ref rx)] [(.ref b1)])) _
    refine st38.trans ?_
    show Steps p.tables e below (T38.setTop (mkF m 62 #[.val (.ref rx)] [(.ref xs)])) _
    exact retOut X38 hx Bd.returns rfl (Or.inr (Or.inr (Or.inr (Or.inr ⟨rfl, rfl, rfl⟩)))) (hb hby d10_62) hr
  · show Qd24 Z rx wx tw dx td kbW kbD cw cd z h0 n0 _ T38.heap _
    exact ⟨xs, nb, kn, rfl, N38, K38, fE59, fV59, fC59, fK59⟩
abbrev own_q (x : Int32) : Prop := x = 0 ∨ x = 1 ∨ x = 2 ∨ x = 3
theorem own_q3 (x : Int32) : own_q (x &&& (3 : Int32)) := by
  have m1 := c_mask x 3 2 (by decide) (by decide)
  rcases (show (x &&& (3 : Int32)).toInt = 0 ∨ (x &&& (3 : Int32)).toInt = 1 ∨ (x &&& (3 : Int32)).toInt = 2 ∨ (x &&& (3 : Int32)).toInt = 3 by omega) with q | q | q | q
  · exact Or.inl (Int32.toInt_inj.mp q)
  · exact Or.inr (Or.inl (Int32.toInt_inj.mp q))
  · exact Or.inr (Or.inr (Or.inl (Int32.toInt_inj.mp q)))
  · exact Or.inr (Or.inr (Or.inr (Int32.toInt_inj.mp q)))
theorem own_mkg {x c0 c1 c2 : Int32} (h : own_q x) (H0 : own_ch c0) (H1 : own_ch c1) (H2 : own_ch c2) : own_good (own_mk x c0 c1 c2) ∧ (own_mk x c0 c1 c2).length ≤ 3 := by
  have l2 : (own_mk x c0 c1 c2).length ≤ 3 := by rcases h with rfl | rfl | rfl | rfl <;> exact Nat.le_of_ble_eq_true rfl
  refine ⟨⟨Nat.le_trans l2 (by decide), ?_⟩, l2⟩
  intro c hc
  have hm : c ∈ [c0, c1, c2] := by
    rcases h with rfl | rfl | rfl | rfl
    · exact nomatch hc
    · exact List.mem_append_left (as := [c0]) [c1, c2] hc
    · exact List.mem_append_left (as := [c0, c1]) [c2] hc
    · exact hc
  simp only [List.mem_cons, List.not_mem_nil, or_false] at hm
  rcases hm with rfl | rfl | rfl
  · exact H0.2
  · exact H1.2
  · exact H2.2
theorem own_mk0 {y : Int32} (h : own_q y) (d0 d1 d2 : Int32) : (Int32.ofNat (own_mk y d0 d1 d2).length = (0 : Int32)) ↔ y = 0 := by
  rcases h with rfl | rfl | rfl | rfl
  · exact (by decide : (Int32.ofNat 0 = (0 : Int32)) ↔ (0 : Int32) = 0)
  · exact (by decide : (Int32.ofNat 1 = (0 : Int32)) ↔ (1 : Int32) = 0)
  · exact (by decide : (Int32.ofNat 2 = (0 : Int32)) ↔ (2 : Int32) = 0)
  · exact (by decide : (Int32.ofNat 3 = (0 : Int32)) ↔ (3 : Int32) = 0)
abbrev own_P (cs : List Int32) (k : Nat) (j v : Int32) : Prop := k < cs.length ∧ j = Int32.ofNat k ∧ cs.getD k 0 = v
abbrev own_F (cs : List Int32) (x w0 w1 w2 : Int32) : Prop := own_P cs 0 0 69 ∧ own_P cs 1 1 82 ∧ own_P cs 2 2 82 ∧ own_P cs 3 3 32 ∧ ((0 : Int32) < x → own_P cs 4 4 w0) ∧ ((1 : Int32) < x → own_P cs 5 5 w1) ∧ ((2 : Int32) < x → own_P cs 6 6 w2)
abbrev own_G (cs : List Int32) (i : Nat) (x y d0 d1 d2 : Int32) : Prop := own_P cs i ((4 : Int32) + x) 32 ∧ own_P cs (i + 1) (((4 : Int32) + x) + (1 : Int32)) d0 ∧ ((1 : Int32) < y → own_P cs (i + 2) (((4 : Int32) + x) + (2 : Int32)) d1) ∧ ((2 : Int32) < y → own_P cs (i + 3) (((4 : Int32) + x) + (3 : Int32)) d2)
theorem own_f0 {x : Int32} (hx : own_q x) (w0 w1 w2 : Int32) : Int32.ofNat (((([] : List Int32) ++ ([69, 82, 82, 32] : List Int32)) ++ (own_mk x w0 w1 w2)) ++ ([] : List Int32)).length = ((4 : Int32) + x) + (0 : Int32) ∧ own_F (((([] : List Int32) ++ ([69, 82, 82, 32] : List Int32)) ++ (own_mk x w0 w1 w2)) ++ ([] : List Int32)) x w0 w1 w2 := by
  rcases hx with rfl | rfl | rfl | rfl <;> exact ⟨rfl, ⟨Nat.le_of_ble_eq_true rfl, rfl, rfl⟩, ⟨Nat.le_of_ble_eq_true rfl, rfl, rfl⟩, ⟨Nat.le_of_ble_eq_true rfl, rfl, rfl⟩, ⟨Nat.le_of_ble_eq_true rfl, rfl, rfl⟩, fun h => by first | exact absurd h (by decide) | exact ⟨Nat.le_of_ble_eq_true rfl, rfl, rfl⟩, fun h => by first | exact absurd h (by decide) | exact ⟨Nat.le_of_ble_eq_true rfl, rfl, rfl⟩, fun h => by first | exact absurd h (by decide) | exact ⟨Nat.le_of_ble_eq_true rfl, rfl, rfl⟩⟩
theorem own_f1 {x y : Int32} (hx : own_q x) (hy : own_q y) (h0 : ¬ y = 0) (w0 w1 w2 d0 d1 d2 : Int32) : Int32.ofNat (((([] : List Int32) ++ ([69, 82, 82, 32] : List Int32)) ++ (own_mk x w0 w1 w2)) ++ ((([] : List Int32) ++ ([32] : List Int32)) ++ (own_mk y d0 d1 d2))).length = ((4 : Int32) + x) + ((1 : Int32) + y) ∧ own_F (((([] : List Int32) ++ ([69, 82, 82, 32] : List Int32)) ++ (own_mk x w0 w1 w2)) ++ ((([] : List Int32) ++ ([32] : List Int32)) ++ (own_mk y d0 d1 d2))) x w0 w1 w2 ∧ ∃ i, own_G (((([] : List Int32) ++ ([69, 82, 82, 32] : List Int32)) ++ (own_mk x w0 w1 w2)) ++ ((([] : List Int32) ++ ([32] : List Int32)) ++ (own_mk y d0 d1 d2))) i x y d0 d1 d2 := by
  rcases hx with rfl | rfl | rfl | rfl <;> rcases hy with rfl | rfl | rfl | rfl <;> first | exact absurd rfl h0 | skip
  all_goals refine ⟨rfl, ⟨⟨Nat.le_of_ble_eq_true rfl, rfl, rfl⟩, ⟨Nat.le_of_ble_eq_true rfl, rfl, rfl⟩, ⟨Nat.le_of_ble_eq_true rfl, rfl, rfl⟩, ⟨Nat.le_of_ble_eq_true rfl, rfl, rfl⟩, fun h => by first | exact absurd h (by decide) | exact ⟨Nat.le_of_ble_eq_true rfl, rfl, rfl⟩, fun h => by first | exact absurd h (by decide) | exact ⟨Nat.le_of_ble_eq_true rfl, rfl, rfl⟩, fun h => by first | exact absurd h (by decide) | exact ⟨Nat.le_of_ble_eq_true rfl, rfl, rfl⟩⟩, ?_⟩
  all_goals first
    | exact ⟨4, ⟨Nat.le_of_ble_eq_true rfl, rfl, rfl⟩, ⟨Nat.le_of_ble_eq_true rfl, rfl, rfl⟩, fun h => by first | exact absurd h (by decide) | exact ⟨Nat.le_of_ble_eq_true rfl, rfl, rfl⟩, fun h => by first | exact absurd h (by decide) | exact ⟨Nat.le_of_ble_eq_true rfl, rfl, rfl⟩⟩
    | exact ⟨5, ⟨Nat.le_of_ble_eq_true rfl, rfl, rfl⟩, ⟨Nat.le_of_ble_eq_true rfl, rfl, rfl⟩, fun h => by first | exact absurd h (by decide) | exact ⟨Nat.le_of_ble_eq_true rfl, rfl, rfl⟩, fun h => by first | exact absurd h (by decide) | exact ⟨Nat.le_of_ble_eq_true rfl, rfl, rfl⟩⟩
    | exact ⟨6, ⟨Nat.le_of_ble_eq_true rfl, rfl, rfl⟩, ⟨Nat.le_of_ble_eq_true rfl, rfl, rfl⟩, fun h => by first | exact absurd h (by decide) | exact ⟨Nat.le_of_ble_eq_true rfl, rfl, rfl⟩, fun h => by first | exact absurd h (by decide) | exact ⟨Nat.le_of_ble_eq_true rfl, rfl, rfl⟩⟩
    | exact ⟨7, ⟨Nat.le_of_ble_eq_true rfl, rfl, rfl⟩, ⟨Nat.le_of_ble_eq_true rfl, rfl, rfl⟩, fun h => by first | exact absurd h (by decide) | exact ⟨Nat.le_of_ble_eq_true rfl, rfl, rfl⟩, fun h => by first | exact absurd h (by decide) | exact ⟨Nat.le_of_ble_eq_true rfl, rfl, rfl⟩⟩
theorem own_g0 {cw : List Int32} (hgw : own_good cw) (hlw : cw.length ≤ 3) : own_good (((([] : List Int32) ++ ([69, 82, 82, 32] : List Int32)) ++ cw) ++ ([] : List Int32)) :=
  own_gapp (own_gapp own_gE hgw (by simp only [List.nil_append, List.length_append, List.length_nil, List.length_cons]; omega)) own_gN (by simp only [List.nil_append, List.length_append, List.length_nil, List.length_cons]; omega)
theorem own_g1 {cw cd : List Int32} (hgw : own_good cw) (hgd : own_good cd) (hlw : cw.length ≤ 3) (hld : cd.length ≤ 3) : own_good (((([] : List Int32) ++ ([69, 82, 82, 32] : List Int32)) ++ cw) ++ ((([] : List Int32) ++ ([32] : List Int32)) ++ cd)) :=
  own_gapp (own_gapp own_gE hgw (by simp only [List.nil_append, List.length_append, List.length_nil, List.length_cons]; omega)) (own_gapp own_gS hgd (by simp only [List.nil_append, List.length_append, List.length_nil, List.length_cons]; omega)) (by simp only [List.nil_append, List.length_append, List.length_nil, List.length_cons]; omega)
set_option maxRecDepth 65536 in
set_option maxHeartbeats 40000000 in
theorem lp0 {p : Program} {l : Launch} {e : Env} {R : Room} {s : State} {m : MethodId} {args : Array Value} {below : List Frame} {meth : Method} {c : Code} {T0 : State} {locs : List Loc} {cells slots : Nat} {Z : State} {a0 : Array Value} {h0 : Heap} (X0 : Stand p l e R s m args below meth c T0 locs cells slots) (hx : p.tables.exec = Jvm.exec) (hZ : Z.Warmed39 s.vm) (hw : ∀ d ∈ tables_1, d.before a0 Z = true) (hby : c.code = code) (hown : s.vm.findClass "com/example/riverside/riverside/RefusedExceptionReplyLinePinLaw" = some m.cls) (e0 : T0.heap = h0) {p0 p1 p2 : Int32} :
    ∀ target, Steps p.tables e below (T0.setTop (mkF m 11 #[.val (.int p0), .val (.int p1), .val (.int p2), .val (.int (p0 &&& (3 : Int32))), .val (.int (((p0.toUInt32 >>> ((2 : Int32) &&& 31).toUInt32).toInt32) &&& (3 : Int32))), .unset, .unset, .unset, .unset, .unset, .unset, .unset, .unset, .unset, .unset, .unset, .unset] [])) target → Steps p.tables e below (T0.setTop (mkF m 0 #[.val (.int p0), .val (.int p1), .val (.int p2), .unset, .unset, .unset, .unset, .unset, .unset, .unset, .unset, .unset, .unset, .unset, .unset, .unset, .unset] [])) target := by
  intro target kt
  show Steps p.tables e below (T0.setTop (mkF m 0 #[.val (.int p0), .val (.int p1), .val (.int p2), .unset, .unset, .unset, .unset, .unset, .unset, .unset, .unset, .unset, .unset, .unset, .unset, .unset, .unset] [])) _
  refine XS.iloadN X0.here hx rfl (hb hby at_0) rfl ?_
  show Steps p.tables e below (T0.setTop (mkF m 1 #[.val (.int p0), .val (.int p1), .val (.int p2), .unset, .unset, .unset, .unset, .unset, .unset, .unset, .unset, .unset, .unset, .unset, .unset, .unset, .unset] [(.int p0)])) _
  refine XS.iconst X0.here hx rfl (hb hby at_1) ?_
  show Steps p.tables e below (T0.setTop (mkF m 2 #[.val (.int p0), .val (.int p1), .val (.int p2), .unset, .unset, .unset, .unset, .unset, .unset, .unset, .unset, .unset, .unset, .unset, .unset, .unset, .unset] [(.int (3 : Int32)), (.int p0)])) _
  refine XS.iand X0.here hx rfl (hb hby at_2) rfl ?_
  show Steps p.tables e below (T0.setTop (mkF m 3 #[.val (.int p0), .val (.int p1), .val (.int p2), .unset, .unset, .unset, .unset, .unset, .unset, .unset, .unset, .unset, .unset, .unset, .unset, .unset, .unset] [(.int (p0 &&& (3 : Int32)))])) _
  refine XS.istoreN X0.here hx rfl (hb hby at_3) rfl (l' := #[.val (.int p0), .val (.int p1), .val (.int p2), .val (.int (p0 &&& (3 : Int32))), .unset, .unset, .unset, .unset, .unset, .unset, .unset, .unset, .unset, .unset, .unset, .unset, .unset]) rfl ?_
  show Steps p.tables e below (T0.setTop (mkF m 4 #[.val (.int p0), .val (.int p1), .val (.int p2), .val (.int (p0 &&& (3 : Int32))), .unset, .unset, .unset, .unset, .unset, .unset, .unset, .unset, .unset, .unset, .unset, .unset, .unset] [])) _
  refine XS.iloadN X0.here hx rfl (hb hby at_4) rfl ?_
  show Steps p.tables e below (T0.setTop (mkF m 5 #[.val (.int p0), .val (.int p1), .val (.int p2), .val (.int (p0 &&& (3 : Int32))), .unset, .unset, .unset, .unset, .unset, .unset, .unset, .unset, .unset, .unset, .unset, .unset, .unset] [(.int p0)])) _
  refine XS.iconst X0.here hx rfl (hb hby at_5) ?_
  show Steps p.tables e below (T0.setTop (mkF m 6 #[.val (.int p0), .val (.int p1), .val (.int p2), .val (.int (p0 &&& (3 : Int32))), .unset, .unset, .unset, .unset, .unset, .unset, .unset, .unset, .unset, .unset, .unset, .unset, .unset] [(.int (2 : Int32)), (.int p0)])) _
  refine XS.iushr X0.here hx rfl (hb hby at_6) rfl ?_
  show Steps p.tables e below (T0.setTop (mkF m 7 #[.val (.int p0), .val (.int p1), .val (.int p2), .val (.int (p0 &&& (3 : Int32))), .unset, .unset, .unset, .unset, .unset, .unset, .unset, .unset, .unset, .unset, .unset, .unset, .unset] [(.int ((p0.toUInt32 >>> ((2 : Int32) &&& 31).toUInt32).toInt32))])) _
  refine XS.iconst X0.here hx rfl (hb hby at_7) ?_
  show Steps p.tables e below (T0.setTop (mkF m 8 #[.val (.int p0), .val (.int p1), .val (.int p2), .val (.int (p0 &&& (3 : Int32))), .unset, .unset, .unset, .unset, .unset, .unset, .unset, .unset, .unset, .unset, .unset, .unset, .unset] [(.int (3 : Int32)), (.int ((p0.toUInt32 >>> ((2 : Int32) &&& 31).toUInt32).toInt32))])) _
  refine XS.iand X0.here hx rfl (hb hby at_8) rfl ?_
  show Steps p.tables e below (T0.setTop (mkF m 9 #[.val (.int p0), .val (.int p1), .val (.int p2), .val (.int (p0 &&& (3 : Int32))), .unset, .unset, .unset, .unset, .unset, .unset, .unset, .unset, .unset, .unset, .unset, .unset, .unset] [(.int (((p0.toUInt32 >>> ((2 : Int32) &&& 31).toUInt32).toInt32) &&& (3 : Int32)))])) _
  refine XS.istore X0.here hx rfl (hb hby at_9) rfl (l' := #[.val (.int p0), .val (.int p1), .val (.int p2), .val (.int (p0 &&& (3 : Int32))), .val (.int (((p0.toUInt32 >>> ((2 : Int32) &&& 31).toUInt32).toInt32) &&& (3 : Int32))), .unset, .unset, .unset, .unset, .unset, .unset, .unset, .unset, .unset, .unset, .unset, .unset]) rfl ?_
  exact kt
theorem lawpre {p : Program} {l : Launch} {e : Env} {R : Room} {s : State} {m : MethodId} {args : Array Value} {below : List Frame} {meth : Method} {c : Code} {T0 : State} {locs : List Loc} {cells slots : Nat} {Z : State} {a0 : Array Value} {h0 : Heap} (X0 : Stand p l e R s m args below meth c T0 locs cells slots) (hx : p.tables.exec = Jvm.exec) (hZ : Z.Warmed39 s.vm) (hw : ∀ d ∈ tables_1, d.before a0 Z = true) (hby : c.code = code) (hown : s.vm.findClass "com/example/riverside/riverside/RefusedExceptionReplyLinePinLaw" = some m.cls) (e0 : T0.heap = h0) {p0 p1 p2 : Int32} : ∃ x y : Int32, (own_q x ∧ own_q y ∧ y = (((p0.toUInt32 >>> ((2 : Int32) &&& 31).toUInt32).toInt32) &&& (3 : Int32))) ∧ ∀ target, Steps p.tables e below (T0.setTop (mkF m 11 #[.val (.int p0), .val (.int p1), .val (.int p2), .val (.int x), .val (.int y), .unset, .unset, .unset, .unset, .unset, .unset, .unset, .unset, .unset, .unset, .unset, .unset] [])) target → Steps p.tables e below (T0.setTop (mkF m 0 #[.val (.int p0), .val (.int p1), .val (.int p2), .unset, .unset, .unset, .unset, .unset, .unset, .unset, .unset, .unset, .unset, .unset, .unset, .unset, .unset] [])) target :=
  ⟨(p0 &&& (3 : Int32)), (((p0.toUInt32 >>> ((2 : Int32) &&& 31).toUInt32).toInt32) &&& (3 : Int32)), ⟨own_q3 _, own_q3 _, rfl⟩, lp0 X0 hx hZ hw hby hown e0⟩
theorem own_pd19 : parseMethodDescriptor "(I)C" = some ⟨[.int], some .char⟩ := by decide +kernel
set_option maxRecDepth 65536 in
set_option maxHeartbeats 40000000 in
theorem sgA_0 {p : Program} {l : Launch} {e : Env} {s : State} {m : MethodId} {args : Array Value} {below : List Frame} {meth : Method} {c : Code} {T0 : State} {locs : List Loc} {Z : State} {a0 : Array Value} {h0 : Heap} {n0 : Nat} (X0 : Stand p l e room_1 s m args below meth c T0 locs 22 2855) (hx : p.tables.exec = Jvm.exec) (hZ : Z.Warmed39 s.vm) (hw : ∀ d ∈ tables_1, d.before a0 Z = true) (hby : c.code = code) (hml : c.maxLocals = 17) (hown : s.vm.findClass "com/example/riverside/riverside/RefusedExceptionReplyLinePinLaw" = some m.cls) (e0 : T0.heap = h0) (N0 : Fr n0 locs) (O0 : Old Z n0 h0) {p0 p1 p2 x y w0 w1 w2 d0 d1 d2 nn z : Int32} {wx dx rx xs nb : Addr} {kn : ClassId} {cs : List Int32} {fm : Value} (Ex : Exa Z h0 xs "java/lang/String") (Vx : Fld Z h0 xs "java/lang/String" "value" "[B" (.ref nb)) (Cx : Fld Z h0 xs "java/lang/String" "coder" "B" (.int 0)) (Kx : Arv Z h0 nb kn .byte (Int32.ofNat (cs).length) (((cs).map StrChars.lo8).map Value.int) (.int 0)) (SC : Sta Z Z.heap "java/lang/String" "COMPACT_STRINGS" "Z" (.int z)) (hz : ¬ z = 0) (SF : Sta Z Z.heap "jdk/internal/util/Preconditions" "SIOOBE_FORMATTER" "Ljava/util/function/BiFunction;" fm) (hf : fm.isRef = true) (hg : own_good cs) (h0_ : own_P cs 0 0 69) (h1_ : own_P cs 1 1 82) (h2_ : own_P cs 2 2 82) (h3_ : own_P cs 3 3 32) :
    ∃ (T' : State) (locs' : List Loc), Stand p l e room_1 s m args below meth c T' locs' 22 2855 ∧ T'.heap = h0 ∧ Fr n0 locs' ∧ ∀ target, Steps p.tables e below (T'.setTop (mkF m 179 #[.val (.int p0), .val (.int p1), .val (.int p2), .val (.int x), .val (.int y), .val (.int w0), .val (.int w1), .val (.int w2), .val (.int d0), .val (.int d1), .val (.int d2), .val (.ref wx), .val (.ref dx), .val (.ref rx), .val (.ref xs), .val (.int nn), .unset] [])) target → Steps p.tables e below (T0.setTop (mkF m 133 #[.val (.int p0), .val (.int p1), .val (.int p2), .val (.int x), .val (.int y), .val (.int w0), .val (.int w1), .val (.int w2), .val (.int d0), .val (.int d1), .val (.int d2), .val (.ref wx), .val (.ref dx), .val (.ref rx), .val (.ref xs), .val (.int nn), .unset] [])) target := by
  obtain ⟨cq1, kq1, q1a, q1b, q1c⟩ := isOf hZ e0 Ex
  obtain ⟨_, _, ⟨T1, L1, k1, n1⟩, -, X1, ⟨Lc1, hQ1, l1, y1, z1⟩, st1⟩ := X0.virtualBack hx (y := (⟨"java/lang/String", "charAt", "(I)C"⟩ : MethodName)) (z := (⟨"java/lang/String", "charAt", "(I)C"⟩ : MethodName)) hown (mvT hZ (ww hw 215 rfl)) (mvT hZ (ww hw 216 rfl)) (notFace_of_selects (args := #[]) (mvT hZ (ww hw 218 rfl))) (mvT hZ (ww hw 218 rfl)) (mvT hZ (ww hw 217 rfl)) (by decide) (own_bk (n0 := n0) (fun _ q => q) (StrChars.Road.chN (W := 0) hZ (own_wC hw) (kI := 4) (ww hw 8 rfl) Ex Vx Cx Kx (own_cd hg) (own_hb hg) (Sta.ext O0.2 SC) hz (Sta.ext O0.2 SF) hf (Nat.le_trans hg.1 (by decide)) (i := 0) h0_.1 h0_.2.1 (by decide) (by decide))) q1a q1c (g := (mkF m 136 #[.val (.int p0), .val (.int p1), .val (.int p2), .val (.int x), .val (.int y), .val (.int w0), .val (.int w1), .val (.int w2), .val (.int d0), .val (.int d1), .val (.int d2), .val (.ref wx), .val (.ref dx), .val (.ref rx), .val (.ref xs), .val (.int nn), .unset] [(.int (0 : Int32)), (.ref xs)])) rfl (by rw [hml]; rfl) (Steps.refl _) (argsL := [(.int (0 : Int32))]) (rest := []) (lenOf own_pd19 rfl) rfl (by show 2 * 0 + _ ≤ _; exact Nat.le_of_eq rfl) (hb hby at_136) (fun _ _ => ⟨rfl, e0, (by decide : 22 + 0 ≤ _), (by decide : 2855 + 0 ≤ _)⟩)
  dsimp only [Pt.U, Pt.locs, Pt.cells, Pt.slots] at X1 l1 y1 z1 st1 hQ1
  subst l1 y1 z1
  obtain ⟨rfl, N1q, e1⟩ := hQ1
  have N1 := Fr.app N0 N1q
  obtain ⟨cq2, kq2, q2a, q2b, q2c⟩ := isOf hZ e1 Ex
  obtain ⟨_, _, ⟨T2, L2, k2, n2⟩, -, X2, ⟨Lc2, hQ2, l2, y2, z2⟩, st2⟩ := X1.virtualBack hx (y := (⟨"java/lang/String", "charAt", "(I)C"⟩ : MethodName)) (z := (⟨"java/lang/String", "charAt", "(I)C"⟩ : MethodName)) hown (mvT hZ (ww hw 215 rfl)) (mvT hZ (ww hw 216 rfl)) (notFace_of_selects (args := #[]) (mvT hZ (ww hw 218 rfl))) (mvT hZ (ww hw 218 rfl)) (mvT hZ (ww hw 217 rfl)) (by decide) (own_bk (n0 := n0) (fun _ q => q) (StrChars.Road.chN (W := 0) hZ (own_wC hw) (kI := 4) (ww hw 8 rfl) Ex Vx Cx Kx (own_cd hg) (own_hb hg) (Sta.ext O0.2 SC) hz (Sta.ext O0.2 SF) hf (Nat.le_trans hg.1 (by decide)) (i := 1) h1_.1 h1_.2.1 (by decide) (by decide))) q2a q2c (g := (mkF m 147 #[.val (.int p0), .val (.int p1), .val (.int p2), .val (.int x), .val (.int y), .val (.int w0), .val (.int w1), .val (.int w2), .val (.int d0), .val (.int d1), .val (.int d2), .val (.ref wx), .val (.ref dx), .val (.ref rx), .val (.ref xs), .val (.int nn), .unset] [(.int (1 : Int32)), (.ref xs)])) rfl (by rw [hml]; rfl) (Steps.refl _) (argsL := [(.int (1 : Int32))]) (rest := []) (lenOf own_pd19 rfl) rfl (by show 2 * 0 + _ ≤ _; exact Nat.le_of_eq rfl) (hb hby at_147) (fun _ _ => ⟨rfl, e1, (by decide : 22 + 0 ≤ _), (by decide : 2855 + 0 ≤ _)⟩)
  dsimp only [Pt.U, Pt.locs, Pt.cells, Pt.slots] at X2 l2 y2 z2 st2 hQ2
  subst l2 y2 z2
  obtain ⟨rfl, N2q, e2⟩ := hQ2
  have N2 := Fr.app N1 N2q
  obtain ⟨cq3, kq3, q3a, q3b, q3c⟩ := isOf hZ e2 Ex
  obtain ⟨_, _, ⟨T3, L3, k3, n3⟩, -, X3, ⟨Lc3, hQ3, l3, y3, z3⟩, st3⟩ := X2.virtualBack hx (y := (⟨"java/lang/String", "charAt", "(I)C"⟩ : MethodName)) (z := (⟨"java/lang/String", "charAt", "(I)C"⟩ : MethodName)) hown (mvT hZ (ww hw 215 rfl)) (mvT hZ (ww hw 216 rfl)) (notFace_of_selects (args := #[]) (mvT hZ (ww hw 218 rfl))) (mvT hZ (ww hw 218 rfl)) (mvT hZ (ww hw 217 rfl)) (by decide) (own_bk (n0 := n0) (fun _ q => q) (StrChars.Road.chN (W := 0) hZ (own_wC hw) (kI := 4) (ww hw 8 rfl) Ex Vx Cx Kx (own_cd hg) (own_hb hg) (Sta.ext O0.2 SC) hz (Sta.ext O0.2 SF) hf (Nat.le_trans hg.1 (by decide)) (i := 2) h2_.1 h2_.2.1 (by decide) (by decide))) q3a q3c (g := (mkF m 158 #[.val (.int p0), .val (.int p1), .val (.int p2), .val (.int x), .val (.int y), .val (.int w0), .val (.int w1), .val (.int w2), .val (.int d0), .val (.int d1), .val (.int d2), .val (.ref wx), .val (.ref dx), .val (.ref rx), .val (.ref xs), .val (.int nn), .unset] [(.int (2 : Int32)), (.ref xs)])) rfl (by rw [hml]; rfl) (Steps.refl _) (argsL := [(.int (2 : Int32))]) (rest := []) (lenOf own_pd19 rfl) rfl (by show 2 * 0 + _ ≤ _; exact Nat.le_of_eq rfl) (hb hby at_158) (fun _ _ => ⟨rfl, e2, (by decide : 22 + 0 ≤ _), (by decide : 2855 + 0 ≤ _)⟩)
  dsimp only [Pt.U, Pt.locs, Pt.cells, Pt.slots] at X3 l3 y3 z3 st3 hQ3
  subst l3 y3 z3
  obtain ⟨rfl, N3q, e3⟩ := hQ3
  have N3 := Fr.app N2 N3q
  obtain ⟨cq4, kq4, q4a, q4b, q4c⟩ := isOf hZ e3 Ex
  obtain ⟨_, _, ⟨T4, L4, k4, n4⟩, -, X4, ⟨Lc4, hQ4, l4, y4, z4⟩, st4⟩ := X3.virtualBack hx (y := (⟨"java/lang/String", "charAt", "(I)C"⟩ : MethodName)) (z := (⟨"java/lang/String", "charAt", "(I)C"⟩ : MethodName)) hown (mvT hZ (ww hw 215 rfl)) (mvT hZ (ww hw 216 rfl)) (notFace_of_selects (args := #[]) (mvT hZ (ww hw 218 rfl))) (mvT hZ (ww hw 218 rfl)) (mvT hZ (ww hw 217 rfl)) (by decide) (own_bk (n0 := n0) (fun _ q => q) (StrChars.Road.chN (W := 0) hZ (own_wC hw) (kI := 4) (ww hw 8 rfl) Ex Vx Cx Kx (own_cd hg) (own_hb hg) (Sta.ext O0.2 SC) hz (Sta.ext O0.2 SF) hf (Nat.le_trans hg.1 (by decide)) (i := 3) h3_.1 h3_.2.1 (by decide) (by decide))) q4a q4c (g := (mkF m 169 #[.val (.int p0), .val (.int p1), .val (.int p2), .val (.int x), .val (.int y), .val (.int w0), .val (.int w1), .val (.int w2), .val (.int d0), .val (.int d1), .val (.int d2), .val (.ref wx), .val (.ref dx), .val (.ref rx), .val (.ref xs), .val (.int nn), .unset] [(.int (3 : Int32)), (.ref xs)])) rfl (by rw [hml]; rfl) (Steps.refl _) (argsL := [(.int (3 : Int32))]) (rest := []) (lenOf own_pd19 rfl) rfl (by show 2 * 0 + _ ≤ _; exact Nat.le_of_eq rfl) (hb hby at_169) (fun _ _ => ⟨rfl, e3, (by decide : 22 + 0 ≤ _), (by decide : 2855 + 0 ≤ _)⟩)
  dsimp only [Pt.U, Pt.locs, Pt.cells, Pt.slots] at X4 l4 y4 z4 st4 hQ4
  subst l4 y4 z4
  obtain ⟨rfl, N4q, e4⟩ := hQ4
  have N4 := Fr.app N3 N4q
  refine ⟨T4, _, X4, e4, N4, fun target kt => ?_⟩
  show Steps p.tables e below (T0.setTop (mkF m 133 #[.val (.int p0), .val (.int p1), .val (.int p2), .val (.int x), .val (.int y), .val (.int w0), .val (.int w1), .val (.int w2), .val (.int d0), .val (.int d1), .val (.int d2), .val (.ref wx), .val (.ref dx), .val (.ref rx), .val (.ref xs), .val (.int nn), .unset] [])) _
  refine XS.aload X0.here hx rfl (hb hby at_133) rfl rfl ?_
  show Steps p.tables e below (T0.setTop (mkF m 135 #[.val (.int p0), .val (.int p1), .val (.int p2), .val (.int x), .val (.int y), .val (.int w0), .val (.int w1), .val (.int w2), .val (.int d0), .val (.int d1), .val (.int d2), .val (.ref wx), .val (.ref dx), .val (.ref rx), .val (.ref xs), .val (.int nn), .unset] [(.ref xs)])) _
  refine XS.iconst X0.here hx rfl (hb hby at_135) ?_
  show Steps p.tables e below (T0.setTop (mkF m 136 #[.val (.int p0), .val (.int p1), .val (.int p2), .val (.int x), .val (.int y), .val (.int w0), .val (.int w1), .val (.int w2), .val (.int d0), .val (.int d1), .val (.int d2), .val (.ref wx), .val (.ref dx), .val (.ref rx), .val (.ref xs), .val (.int nn), .unset] [(.int (0 : Int32)), (.ref xs)])) _
  refine st1.trans ?_
  show Steps p.tables e below (T1.setTop (mkF m 139 #[.val (.int p0), .val (.int p1), .val (.int p2), .val (.int x), .val (.int y), .val (.int w0), .val (.int w1), .val (.int w2), .val (.int d0), .val (.int d1), .val (.int d2), .val (.ref wx), .val (.ref dx), .val (.ref rx), .val (.ref xs), .val (.int nn), .unset] [(.int (cs.getD 0 0))])) _
  refine XS.bipush X1.here hx rfl (hb hby at_139) ?_
  show Steps p.tables e below (T1.setTop (mkF m 141 #[.val (.int p0), .val (.int p1), .val (.int p2), .val (.int x), .val (.int y), .val (.int w0), .val (.int w1), .val (.int w2), .val (.int d0), .val (.int d1), .val (.int d2), .val (.ref wx), .val (.ref dx), .val (.ref rx), .val (.ref xs), .val (.int nn), .unset] [(.int (69 : Int32)), (.int (cs.getD 0 0))])) _
  refine XS.icmpNo X1.here hx rfl (hb hby at_141) rfl (teq (h0_.2.2 : (cs.getD 0 0) = (69 : Int32))).2 ?_
  show Steps p.tables e below (T1.setTop (mkF m 144 #[.val (.int p0), .val (.int p1), .val (.int p2), .val (.int x), .val (.int y), .val (.int w0), .val (.int w1), .val (.int w2), .val (.int d0), .val (.int d1), .val (.int d2), .val (.ref wx), .val (.ref dx), .val (.ref rx), .val (.ref xs), .val (.int nn), .unset] [])) _
  refine XS.aload X1.here hx rfl (hb hby at_144) rfl rfl ?_
  show Steps p.tables e below (T1.setTop (mkF m 146 #[.val (.int p0), .val (.int p1), .val (.int p2), .val (.int x), .val (.int y), .val (.int w0), .val (.int w1), .val (.int w2), .val (.int d0), .val (.int d1), .val (.int d2), .val (.ref wx), .val (.ref dx), .val (.ref rx), .val (.ref xs), .val (.int nn), .unset] [(.ref xs)])) _
  refine XS.iconst X1.here hx rfl (hb hby at_146) ?_
  show Steps p.tables e below (T1.setTop (mkF m 147 #[.val (.int p0), .val (.int p1), .val (.int p2), .val (.int x), .val (.int y), .val (.int w0), .val (.int w1), .val (.int w2), .val (.int d0), .val (.int d1), .val (.int d2), .val (.ref wx), .val (.ref dx), .val (.ref rx), .val (.ref xs), .val (.int nn), .unset] [(.int (1 : Int32)), (.ref xs)])) _
  refine st2.trans ?_
  show Steps p.tables e below (T2.setTop (mkF m 150 #[.val (.int p0), .val (.int p1), .val (.int p2), .val (.int x), .val (.int y), .val (.int w0), .val (.int w1), .val (.int w2), .val (.int d0), .val (.int d1), .val (.int d2), .val (.ref wx), .val (.ref dx), .val (.ref rx), .val (.ref xs), .val (.int nn), .unset] [(.int (cs.getD 1 0))])) _
  refine XS.bipush X2.here hx rfl (hb hby at_150) ?_
  show Steps p.tables e below (T2.setTop (mkF m 152 #[.val (.int p0), .val (.int p1), .val (.int p2), .val (.int x), .val (.int y), .val (.int w0), .val (.int w1), .val (.int w2), .val (.int d0), .val (.int d1), .val (.int d2), .val (.ref wx), .val (.ref dx), .val (.ref rx), .val (.ref xs), .val (.int nn), .unset] [(.int (82 : Int32)), (.int (cs.getD 1 0))])) _
  refine XS.icmpNo X2.here hx rfl (hb hby at_152) rfl (teq (h1_.2.2 : (cs.getD 1 0) = (82 : Int32))).2 ?_
  show Steps p.tables e below (T2.setTop (mkF m 155 #[.val (.int p0), .val (.int p1), .val (.int p2), .val (.int x), .val (.int y), .val (.int w0), .val (.int w1), .val (.int w2), .val (.int d0), .val (.int d1), .val (.int d2), .val (.ref wx), .val (.ref dx), .val (.ref rx), .val (.ref xs), .val (.int nn), .unset] [])) _
  refine XS.aload X2.here hx rfl (hb hby at_155) rfl rfl ?_
  show Steps p.tables e below (T2.setTop (mkF m 157 #[.val (.int p0), .val (.int p1), .val (.int p2), .val (.int x), .val (.int y), .val (.int w0), .val (.int w1), .val (.int w2), .val (.int d0), .val (.int d1), .val (.int d2), .val (.ref wx), .val (.ref dx), .val (.ref rx), .val (.ref xs), .val (.int nn), .unset] [(.ref xs)])) _
  refine XS.iconst X2.here hx rfl (hb hby at_157) ?_
  show Steps p.tables e below (T2.setTop (mkF m 158 #[.val (.int p0), .val (.int p1), .val (.int p2), .val (.int x), .val (.int y), .val (.int w0), .val (.int w1), .val (.int w2), .val (.int d0), .val (.int d1), .val (.int d2), .val (.ref wx), .val (.ref dx), .val (.ref rx), .val (.ref xs), .val (.int nn), .unset] [(.int (2 : Int32)), (.ref xs)])) _
  refine st3.trans ?_
  show Steps p.tables e below (T3.setTop (mkF m 161 #[.val (.int p0), .val (.int p1), .val (.int p2), .val (.int x), .val (.int y), .val (.int w0), .val (.int w1), .val (.int w2), .val (.int d0), .val (.int d1), .val (.int d2), .val (.ref wx), .val (.ref dx), .val (.ref rx), .val (.ref xs), .val (.int nn), .unset] [(.int (cs.getD 2 0))])) _
  refine XS.bipush X3.here hx rfl (hb hby at_161) ?_
  show Steps p.tables e below (T3.setTop (mkF m 163 #[.val (.int p0), .val (.int p1), .val (.int p2), .val (.int x), .val (.int y), .val (.int w0), .val (.int w1), .val (.int w2), .val (.int d0), .val (.int d1), .val (.int d2), .val (.ref wx), .val (.ref dx), .val (.ref rx), .val (.ref xs), .val (.int nn), .unset] [(.int (82 : Int32)), (.int (cs.getD 2 0))])) _
  refine XS.icmpNo X3.here hx rfl (hb hby at_163) rfl (teq (h2_.2.2 : (cs.getD 2 0) = (82 : Int32))).2 ?_
  show Steps p.tables e below (T3.setTop (mkF m 166 #[.val (.int p0), .val (.int p1), .val (.int p2), .val (.int x), .val (.int y), .val (.int w0), .val (.int w1), .val (.int w2), .val (.int d0), .val (.int d1), .val (.int d2), .val (.ref wx), .val (.ref dx), .val (.ref rx), .val (.ref xs), .val (.int nn), .unset] [])) _
  refine XS.aload X3.here hx rfl (hb hby at_166) rfl rfl ?_
  show Steps p.tables e below (T3.setTop (mkF m 168 #[.val (.int p0), .val (.int p1), .val (.int p2), .val (.int x), .val (.int y), .val (.int w0), .val (.int w1), .val (.int w2), .val (.int d0), .val (.int d1), .val (.int d2), .val (.ref wx), .val (.ref dx), .val (.ref rx), .val (.ref xs), .val (.int nn), .unset] [(.ref xs)])) _
  refine XS.iconst X3.here hx rfl (hb hby at_168) ?_
  show Steps p.tables e below (T3.setTop (mkF m 169 #[.val (.int p0), .val (.int p1), .val (.int p2), .val (.int x), .val (.int y), .val (.int w0), .val (.int w1), .val (.int w2), .val (.int d0), .val (.int d1), .val (.int d2), .val (.ref wx), .val (.ref dx), .val (.ref rx), .val (.ref xs), .val (.int nn), .unset] [(.int (3 : Int32)), (.ref xs)])) _
  refine st4.trans ?_
  show Steps p.tables e below (T4.setTop (mkF m 172 #[.val (.int p0), .val (.int p1), .val (.int p2), .val (.int x), .val (.int y), .val (.int w0), .val (.int w1), .val (.int w2), .val (.int d0), .val (.int d1), .val (.int d2), .val (.ref wx), .val (.ref dx), .val (.ref rx), .val (.ref xs), .val (.int nn), .unset] [(.int (cs.getD 3 0))])) _
  refine XS.bipush X4.here hx rfl (hb hby at_172) ?_
  show Steps p.tables e below (T4.setTop (mkF m 174 #[.val (.int p0), .val (.int p1), .val (.int p2), .val (.int x), .val (.int y), .val (.int w0), .val (.int w1), .val (.int w2), .val (.int d0), .val (.int d1), .val (.int d2), .val (.ref wx), .val (.ref dx), .val (.ref rx), .val (.ref xs), .val (.int nn), .unset] [(.int (32 : Int32)), (.int (cs.getD 3 0))])) _
  refine XS.icmpYes X4.here hx rfl (pc0 := 174) (pc' := 179) rfl (hb hby at_174) rfl (teq (h3_.2.2 : (cs.getD 3 0) = (32 : Int32))).1 (by decide) (by decide) ?_
  exact kt
set_option maxRecDepth 65536 in
set_option maxHeartbeats 40000000 in
theorem sgB0n_0 {p : Program} {l : Launch} {e : Env} {s : State} {m : MethodId} {args : Array Value} {below : List Frame} {meth : Method} {c : Code} {T0 : State} {locs : List Loc} {Z : State} {a0 : Array Value} {h0 : Heap} {n0 : Nat} (X0 : Stand p l e room_1 s m args below meth c T0 locs 22 2855) (hx : p.tables.exec = Jvm.exec) (hZ : Z.Warmed39 s.vm) (hw : ∀ d ∈ tables_1, d.before a0 Z = true) (hby : c.code = code) (hml : c.maxLocals = 17) (hown : s.vm.findClass "com/example/riverside/riverside/RefusedExceptionReplyLinePinLaw" = some m.cls) (e0 : T0.heap = h0) (N0 : Fr n0 locs) (O0 : Old Z n0 h0) {p0 p1 p2 x y w0 w1 w2 d0 d1 d2 nn z : Int32} {wx dx rx xs nb : Addr} {kn : ClassId} {cs : List Int32} {fm : Value} (Ex : Exa Z h0 xs "java/lang/String") (Vx : Fld Z h0 xs "java/lang/String" "value" "[B" (.ref nb)) (Cx : Fld Z h0 xs "java/lang/String" "coder" "B" (.int 0)) (Kx : Arv Z h0 nb kn .byte (Int32.ofNat (cs).length) (((cs).map StrChars.lo8).map Value.int) (.int 0)) (SC : Sta Z Z.heap "java/lang/String" "COMPACT_STRINGS" "Z" (.int z)) (hz : ¬ z = 0) (SF : Sta Z Z.heap "jdk/internal/util/Preconditions" "SIOOBE_FORMATTER" "Ljava/util/function/BiFunction;" fm) (hf : fm.isRef = true) (hg : own_good cs) (hq : ¬ ((0 : Int32) < x)) :
    ∃ (T' : State) (locs' : List Loc), Stand p l e room_1 s m args below meth c T' locs' 22 2855 ∧ T'.heap = h0 ∧ Fr n0 locs' ∧ ∀ target, Steps p.tables e below (T'.setTop (mkF m 196 #[.val (.int p0), .val (.int p1), .val (.int p2), .val (.int x), .val (.int y), .val (.int w0), .val (.int w1), .val (.int w2), .val (.int d0), .val (.int d1), .val (.int d2), .val (.ref wx), .val (.ref dx), .val (.ref rx), .val (.ref xs), .val (.int nn), .unset] [])) target → Steps p.tables e below (T0.setTop (mkF m 179 #[.val (.int p0), .val (.int p1), .val (.int p2), .val (.int x), .val (.int y), .val (.int w0), .val (.int w1), .val (.int w2), .val (.int d0), .val (.int d1), .val (.int d2), .val (.ref wx), .val (.ref dx), .val (.ref rx), .val (.ref xs), .val (.int nn), .unset] [])) target := by
  refine ⟨T0, _, X0, e0, N0, fun target kt => ?_⟩
  show Steps p.tables e below (T0.setTop (mkF m 179 #[.val (.int p0), .val (.int p1), .val (.int p2), .val (.int x), .val (.int y), .val (.int w0), .val (.int w1), .val (.int w2), .val (.int d0), .val (.int d1), .val (.int d2), .val (.ref wx), .val (.ref dx), .val (.ref rx), .val (.ref xs), .val (.int nn), .unset] [])) _
  refine XS.iloadN X0.here hx rfl (hb hby at_179) rfl ?_
  show Steps p.tables e below (T0.setTop (mkF m 180 #[.val (.int p0), .val (.int p1), .val (.int p2), .val (.int x), .val (.int y), .val (.int w0), .val (.int w1), .val (.int w2), .val (.int d0), .val (.int d1), .val (.int d2), .val (.ref wx), .val (.ref dx), .val (.ref rx), .val (.ref xs), .val (.int nn), .unset] [(.int x)])) _
  refine XS.ifYes X0.here hx rfl (pc0 := 180) (pc' := 196) rfl (hb hby at_180) rfl ((if0 _ _).trans (flt (hq : ¬ ((0 : Int32) < x))).2.2.2) (by decide) (by decide) ?_
  exact kt
set_option maxRecDepth 65536 in
set_option maxHeartbeats 40000000 in
theorem sgB0y_0 {p : Program} {l : Launch} {e : Env} {s : State} {m : MethodId} {args : Array Value} {below : List Frame} {meth : Method} {c : Code} {T0 : State} {locs : List Loc} {Z : State} {a0 : Array Value} {h0 : Heap} {n0 : Nat} (X0 : Stand p l e room_1 s m args below meth c T0 locs 22 2855) (hx : p.tables.exec = Jvm.exec) (hZ : Z.Warmed39 s.vm) (hw : ∀ d ∈ tables_1, d.before a0 Z = true) (hby : c.code = code) (hml : c.maxLocals = 17) (hown : s.vm.findClass "com/example/riverside/riverside/RefusedExceptionReplyLinePinLaw" = some m.cls) (e0 : T0.heap = h0) (N0 : Fr n0 locs) (O0 : Old Z n0 h0) {p0 p1 p2 x y w0 w1 w2 d0 d1 d2 nn z : Int32} {wx dx rx xs nb : Addr} {kn : ClassId} {cs : List Int32} {fm : Value} (Ex : Exa Z h0 xs "java/lang/String") (Vx : Fld Z h0 xs "java/lang/String" "value" "[B" (.ref nb)) (Cx : Fld Z h0 xs "java/lang/String" "coder" "B" (.int 0)) (Kx : Arv Z h0 nb kn .byte (Int32.ofNat (cs).length) (((cs).map StrChars.lo8).map Value.int) (.int 0)) (SC : Sta Z Z.heap "java/lang/String" "COMPACT_STRINGS" "Z" (.int z)) (hz : ¬ z = 0) (SF : Sta Z Z.heap "jdk/internal/util/Preconditions" "SIOOBE_FORMATTER" "Ljava/util/function/BiFunction;" fm) (hf : fm.isRef = true) (hg : own_good cs) (hq : (0 : Int32) < x) (hp : own_P cs 4 4 w0) :
    ∃ (T' : State) (locs' : List Loc), Stand p l e room_1 s m args below meth c T' locs' 22 2855 ∧ T'.heap = h0 ∧ Fr n0 locs' ∧ ∀ target, Steps p.tables e below (T'.setTop (mkF m 196 #[.val (.int p0), .val (.int p1), .val (.int p2), .val (.int x), .val (.int y), .val (.int w0), .val (.int w1), .val (.int w2), .val (.int d0), .val (.int d1), .val (.int d2), .val (.ref wx), .val (.ref dx), .val (.ref rx), .val (.ref xs), .val (.int nn), .unset] [])) target → Steps p.tables e below (T0.setTop (mkF m 179 #[.val (.int p0), .val (.int p1), .val (.int p2), .val (.int x), .val (.int y), .val (.int w0), .val (.int w1), .val (.int w2), .val (.int d0), .val (.int d1), .val (.int d2), .val (.ref wx), .val (.ref dx), .val (.ref rx), .val (.ref xs), .val (.int nn), .unset] [])) target := by
  obtain ⟨cq1, kq1, q1a, q1b, q1c⟩ := isOf hZ e0 Ex
  obtain ⟨_, _, ⟨T1, L1, k1, n1⟩, -, X1, ⟨Lc1, hQ1, l1, y1, z1⟩, st1⟩ := X0.virtualBack hx (y := (⟨"java/lang/String", "charAt", "(I)C"⟩ : MethodName)) (z := (⟨"java/lang/String", "charAt", "(I)C"⟩ : MethodName)) hown (mvT hZ (ww hw 215 rfl)) (mvT hZ (ww hw 216 rfl)) (notFace_of_selects (args := #[]) (mvT hZ (ww hw 218 rfl))) (mvT hZ (ww hw 218 rfl)) (mvT hZ (ww hw 217 rfl)) (by decide) (own_bk (n0 := n0) (fun _ q => q) (StrChars.Road.chN (W := 0) hZ (own_wC hw) (kI := 4) (ww hw 8 rfl) Ex Vx Cx Kx (own_cd hg) (own_hb hg) (Sta.ext O0.2 SC) hz (Sta.ext O0.2 SF) hf (Nat.le_trans hg.1 (by decide)) (i := 4) hp.1 hp.2.1 (by decide) (by decide))) q1a q1c (g := (mkF m 186 #[.val (.int p0), .val (.int p1), .val (.int p2), .val (.int x), .val (.int y), .val (.int w0), .val (.int w1), .val (.int w2), .val (.int d0), .val (.int d1), .val (.int d2), .val (.ref wx), .val (.ref dx), .val (.ref rx), .val (.ref xs), .val (.int nn), .unset] [(.int (4 : Int32)), (.ref xs)])) rfl (by rw [hml]; rfl) (Steps.refl _) (argsL := [(.int (4 : Int32))]) (rest := []) (lenOf own_pd19 rfl) rfl (by show 2 * 0 + _ ≤ _; exact Nat.le_of_eq rfl) (hb hby at_186) (fun _ _ => ⟨rfl, e0, (by decide : 22 + 0 ≤ _), (by decide : 2855 + 0 ≤ _)⟩)
  dsimp only [Pt.U, Pt.locs, Pt.cells, Pt.slots] at X1 l1 y1 z1 st1 hQ1
  subst l1 y1 z1
  obtain ⟨rfl, N1q, e1⟩ := hQ1
  have N1 := Fr.app N0 N1q
  refine ⟨T1, _, X1, e1, N1, fun target kt => ?_⟩
  show Steps p.tables e below (T0.setTop (mkF m 179 #[.val (.int p0), .val (.int p1), .val (.int p2), .val (.int x), .val (.int y), .val (.int w0), .val (.int w1), .val (.int w2), .val (.int d0), .val (.int d1), .val (.int d2), .val (.ref wx), .val (.ref dx), .val (.ref rx), .val (.ref xs), .val (.int nn), .unset] [])) _
  refine XS.iloadN X0.here hx rfl (hb hby at_179) rfl ?_
  show Steps p.tables e below (T0.setTop (mkF m 180 #[.val (.int p0), .val (.int p1), .val (.int p2), .val (.int x), .val (.int y), .val (.int w0), .val (.int w1), .val (.int w2), .val (.int d0), .val (.int d1), .val (.int d2), .val (.ref wx), .val (.ref dx), .val (.ref rx), .val (.ref xs), .val (.int nn), .unset] [(.int x)])) _
  refine XS.ifNo X0.here hx rfl (hb hby at_180) rfl ((if0 _ _).trans (tlt (hq : (0 : Int32) < x)).2.2.2) ?_
  show Steps p.tables e below (T0.setTop (mkF m 183 #[.val (.int p0), .val (.int p1), .val (.int p2), .val (.int x), .val (.int y), .val (.int w0), .val (.int w1), .val (.int w2), .val (.int d0), .val (.int d1), .val (.int d2), .val (.ref wx), .val (.ref dx), .val (.ref rx), .val (.ref xs), .val (.int nn), .unset] [])) _
  refine XS.aload X0.here hx rfl (hb hby at_183) rfl rfl ?_
  show Steps p.tables e below (T0.setTop (mkF m 185 #[.val (.int p0), .val (.int p1), .val (.int p2), .val (.int x), .val (.int y), .val (.int w0), .val (.int w1), .val (.int w2), .val (.int d0), .val (.int d1), .val (.int d2), .val (.ref wx), .val (.ref dx), .val (.ref rx), .val (.ref xs), .val (.int nn), .unset] [(.ref xs)])) _
  refine XS.iconst X0.here hx rfl (hb hby at_185) ?_
  show Steps p.tables e below (T0.setTop (mkF m 186 #[.val (.int p0), .val (.int p1), .val (.int p2), .val (.int x), .val (.int y), .val (.int w0), .val (.int w1), .val (.int w2), .val (.int d0), .val (.int d1), .val (.int d2), .val (.ref wx), .val (.ref dx), .val (.ref rx), .val (.ref xs), .val (.int nn), .unset] [(.int (4 : Int32)), (.ref xs)])) _
  refine st1.trans ?_
  show Steps p.tables e below (T1.setTop (mkF m 189 #[.val (.int p0), .val (.int p1), .val (.int p2), .val (.int x), .val (.int y), .val (.int w0), .val (.int w1), .val (.int w2), .val (.int d0), .val (.int d1), .val (.int d2), .val (.ref wx), .val (.ref dx), .val (.ref rx), .val (.ref xs), .val (.int nn), .unset] [(.int (cs.getD 4 0))])) _
  refine XS.iload X1.here hx rfl (hb hby at_189) rfl ?_
  show Steps p.tables e below (T1.setTop (mkF m 191 #[.val (.int p0), .val (.int p1), .val (.int p2), .val (.int x), .val (.int y), .val (.int w0), .val (.int w1), .val (.int w2), .val (.int d0), .val (.int d1), .val (.int d2), .val (.ref wx), .val (.ref dx), .val (.ref rx), .val (.ref xs), .val (.int nn), .unset] [(.int w0), (.int (cs.getD 4 0))])) _
  refine XS.icmpYes X1.here hx rfl (pc0 := 191) (pc' := 196) rfl (hb hby at_191) rfl (teq (hp.2.2 : (cs.getD 4 0) = w0)).1 (by decide) (by decide) ?_
  exact kt
theorem sgB0_0 {p : Program} {l : Launch} {e : Env} {s : State} {m : MethodId} {args : Array Value} {below : List Frame} {meth : Method} {c : Code} {T0 : State} {locs : List Loc} {Z : State} {a0 : Array Value} {h0 : Heap} {n0 : Nat} (X0 : Stand p l e room_1 s m args below meth c T0 locs 22 2855) (hx : p.tables.exec = Jvm.exec) (hZ : Z.Warmed39 s.vm) (hw : ∀ d ∈ tables_1, d.before a0 Z = true) (hby : c.code = code) (hml : c.maxLocals = 17) (hown : s.vm.findClass "com/example/riverside/riverside/RefusedExceptionReplyLinePinLaw" = some m.cls) (e0 : T0.heap = h0) (N0 : Fr n0 locs) (O0 : Old Z n0 h0) {p0 p1 p2 x y w0 w1 w2 d0 d1 d2 nn z : Int32} {wx dx rx xs nb : Addr} {kn : ClassId} {cs : List Int32} {fm : Value} (Ex : Exa Z h0 xs "java/lang/String") (Vx : Fld Z h0 xs "java/lang/String" "value" "[B" (.ref nb)) (Cx : Fld Z h0 xs "java/lang/String" "coder" "B" (.int 0)) (Kx : Arv Z h0 nb kn .byte (Int32.ofNat (cs).length) (((cs).map StrChars.lo8).map Value.int) (.int 0)) (SC : Sta Z Z.heap "java/lang/String" "COMPACT_STRINGS" "Z" (.int z)) (hz : ¬ z = 0) (SF : Sta Z Z.heap "jdk/internal/util/Preconditions" "SIOOBE_FORMATTER" "Ljava/util/function/BiFunction;" fm) (hf : fm.isRef = true) (hg : own_good cs) (hq : (0 : Int32) < x → own_P cs 4 4 w0) :
    ∃ (T' : State) (locs' : List Loc), Stand p l e room_1 s m args below meth c T' locs' 22 2855 ∧ T'.heap = h0 ∧ Fr n0 locs' ∧ ∀ target, Steps p.tables e below (T'.setTop (mkF m 196 #[.val (.int p0), .val (.int p1), .val (.int p2), .val (.int x), .val (.int y), .val (.int w0), .val (.int w1), .val (.int w2), .val (.int d0), .val (.int d1), .val (.int d2), .val (.ref wx), .val (.ref dx), .val (.ref rx), .val (.ref xs), .val (.int nn), .unset] [])) target → Steps p.tables e below (T0.setTop (mkF m 179 #[.val (.int p0), .val (.int p1), .val (.int p2), .val (.int x), .val (.int y), .val (.int w0), .val (.int w1), .val (.int w2), .val (.int d0), .val (.int d1), .val (.int d2), .val (.ref wx), .val (.ref dx), .val (.ref rx), .val (.ref xs), .val (.int nn), .unset] [])) target := by
  by_cases q : (0 : Int32) < x
  · exact sgB0y_0 X0 hx hZ hw hby hml hown e0 N0 O0 Ex Vx Cx Kx SC hz SF hf hg q (hq q)
  · exact sgB0n_0 X0 hx hZ hw hby hml hown e0 N0 O0 Ex Vx Cx Kx SC hz SF hf hg q
set_option maxRecDepth 65536 in
set_option maxHeartbeats 40000000 in
theorem sgB1n_0 {p : Program} {l : Launch} {e : Env} {s : State} {m : MethodId} {args : Array Value} {below : List Frame} {meth : Method} {c : Code} {T0 : State} {locs : List Loc} {Z : State} {a0 : Array Value} {h0 : Heap} {n0 : Nat} (X0 : Stand p l e room_1 s m args below meth c T0 locs 22 2855) (hx : p.tables.exec = Jvm.exec) (hZ : Z.Warmed39 s.vm) (hw : ∀ d ∈ tables_1, d.before a0 Z = true) (hby : c.code = code) (hml : c.maxLocals = 17) (hown : s.vm.findClass "com/example/riverside/riverside/RefusedExceptionReplyLinePinLaw" = some m.cls) (e0 : T0.heap = h0) (N0 : Fr n0 locs) (O0 : Old Z n0 h0) {p0 p1 p2 x y w0 w1 w2 d0 d1 d2 nn z : Int32} {wx dx rx xs nb : Addr} {kn : ClassId} {cs : List Int32} {fm : Value} (Ex : Exa Z h0 xs "java/lang/String") (Vx : Fld Z h0 xs "java/lang/String" "value" "[B" (.ref nb)) (Cx : Fld Z h0 xs "java/lang/String" "coder" "B" (.int 0)) (Kx : Arv Z h0 nb kn .byte (Int32.ofNat (cs).length) (((cs).map StrChars.lo8).map Value.int) (.int 0)) (SC : Sta Z Z.heap "java/lang/String" "COMPACT_STRINGS" "Z" (.int z)) (hz : ¬ z = 0) (SF : Sta Z Z.heap "jdk/internal/util/Preconditions" "SIOOBE_FORMATTER" "Ljava/util/function/BiFunction;" fm) (hf : fm.isRef = true) (hg : own_good cs) (hq : ¬ ((1 : Int32) < x)) :
    ∃ (T' : State) (locs' : List Loc), Stand p l e room_1 s m args below meth c T' locs' 22 2855 ∧ T'.heap = h0 ∧ Fr n0 locs' ∧ ∀ target, Steps p.tables e below (T'.setTop (mkF m 214 #[.val (.int p0), .val (.int p1), .val (.int p2), .val (.int x), .val (.int y), .val (.int w0), .val (.int w1), .val (.int w2), .val (.int d0), .val (.int d1), .val (.int d2), .val (.ref wx), .val (.ref dx), .val (.ref rx), .val (.ref xs), .val (.int nn), .unset] [])) target → Steps p.tables e below (T0.setTop (mkF m 196 #[.val (.int p0), .val (.int p1), .val (.int p2), .val (.int x), .val (.int y), .val (.int w0), .val (.int w1), .val (.int w2), .val (.int d0), .val (.int d1), .val (.int d2), .val (.ref wx), .val (.ref dx), .val (.ref rx), .val (.ref xs), .val (.int nn), .unset] [])) target := by
  refine ⟨T0, _, X0, e0, N0, fun target kt => ?_⟩
  show Steps p.tables e below (T0.setTop (mkF m 196 #[.val (.int p0), .val (.int p1), .val (.int p2), .val (.int x), .val (.int y), .val (.int w0), .val (.int w1), .val (.int w2), .val (.int d0), .val (.int d1), .val (.int d2), .val (.ref wx), .val (.ref dx), .val (.ref rx), .val (.ref xs), .val (.int nn), .unset] [])) _
  refine XS.iloadN X0.here hx rfl (hb hby at_196) rfl ?_
  show Steps p.tables e below (T0.setTop (mkF m 197 #[.val (.int p0), .val (.int p1), .val (.int p2), .val (.int x), .val (.int y), .val (.int w0), .val (.int w1), .val (.int w2), .val (.int d0), .val (.int d1), .val (.int d2), .val (.ref wx), .val (.ref dx), .val (.ref rx), .val (.ref xs), .val (.int nn), .unset] [(.int x)])) _
  refine XS.iconst X0.here hx rfl (hb hby at_197) ?_
  show Steps p.tables e below (T0.setTop (mkF m 198 #[.val (.int p0), .val (.int p1), .val (.int p2), .val (.int x), .val (.int y), .val (.int w0), .val (.int w1), .val (.int w2), .val (.int d0), .val (.int d1), .val (.int d2), .val (.ref wx), .val (.ref dx), .val (.ref rx), .val (.ref xs), .val (.int nn), .unset] [(.int (1 : Int32)), (.int x)])) _
  refine XS.icmpYes X0.here hx rfl (pc0 := 198) (pc' := 214) rfl (hb hby at_198) rfl (flt (hq : ¬ ((1 : Int32) < x))).2.2.2 (by decide) (by decide) ?_
  exact kt
set_option maxRecDepth 65536 in
set_option maxHeartbeats 40000000 in
theorem sgB1y_0 {p : Program} {l : Launch} {e : Env} {s : State} {m : MethodId} {args : Array Value} {below : List Frame} {meth : Method} {c : Code} {T0 : State} {locs : List Loc} {Z : State} {a0 : Array Value} {h0 : Heap} {n0 : Nat} (X0 : Stand p l e room_1 s m args below meth c T0 locs 22 2855) (hx : p.tables.exec = Jvm.exec) (hZ : Z.Warmed39 s.vm) (hw : ∀ d ∈ tables_1, d.before a0 Z = true) (hby : c.code = code) (hml : c.maxLocals = 17) (hown : s.vm.findClass "com/example/riverside/riverside/RefusedExceptionReplyLinePinLaw" = some m.cls) (e0 : T0.heap = h0) (N0 : Fr n0 locs) (O0 : Old Z n0 h0) {p0 p1 p2 x y w0 w1 w2 d0 d1 d2 nn z : Int32} {wx dx rx xs nb : Addr} {kn : ClassId} {cs : List Int32} {fm : Value} (Ex : Exa Z h0 xs "java/lang/String") (Vx : Fld Z h0 xs "java/lang/String" "value" "[B" (.ref nb)) (Cx : Fld Z h0 xs "java/lang/String" "coder" "B" (.int 0)) (Kx : Arv Z h0 nb kn .byte (Int32.ofNat (cs).length) (((cs).map StrChars.lo8).map Value.int) (.int 0)) (SC : Sta Z Z.heap "java/lang/String" "COMPACT_STRINGS" "Z" (.int z)) (hz : ¬ z = 0) (SF : Sta Z Z.heap "jdk/internal/util/Preconditions" "SIOOBE_FORMATTER" "Ljava/util/function/BiFunction;" fm) (hf : fm.isRef = true) (hg : own_good cs) (hq : (1 : Int32) < x) (hp : own_P cs 5 5 w1) :
    ∃ (T' : State) (locs' : List Loc), Stand p l e room_1 s m args below meth c T' locs' 22 2855 ∧ T'.heap = h0 ∧ Fr n0 locs' ∧ ∀ target, Steps p.tables e below (T'.setTop (mkF m 214 #[.val (.int p0), .val (.int p1), .val (.int p2), .val (.int x), .val (.int y), .val (.int w0), .val (.int w1), .val (.int w2), .val (.int d0), .val (.int d1), .val (.int d2), .val (.ref wx), .val (.ref dx), .val (.ref rx), .val (.ref xs), .val (.int nn), .unset] [])) target → Steps p.tables e below (T0.setTop (mkF m 196 #[.val (.int p0), .val (.int p1), .val (.int p2), .val (.int x), .val (.int y), .val (.int w0), .val (.int w1), .val (.int w2), .val (.int d0), .val (.int d1), .val (.int d2), .val (.ref wx), .val (.ref dx), .val (.ref rx), .val (.ref xs), .val (.int nn), .unset] [])) target := by
  obtain ⟨cq1, kq1, q1a, q1b, q1c⟩ := isOf hZ e0 Ex
  obtain ⟨_, _, ⟨T1, L1, k1, n1⟩, -, X1, ⟨Lc1, hQ1, l1, y1, z1⟩, st1⟩ := X0.virtualBack hx (y := (⟨"java/lang/String", "charAt", "(I)C"⟩ : MethodName)) (z := (⟨"java/lang/String", "charAt", "(I)C"⟩ : MethodName)) hown (mvT hZ (ww hw 215 rfl)) (mvT hZ (ww hw 216 rfl)) (notFace_of_selects (args := #[]) (mvT hZ (ww hw 218 rfl))) (mvT hZ (ww hw 218 rfl)) (mvT hZ (ww hw 217 rfl)) (by decide) (own_bk (n0 := n0) (fun _ q => q) (StrChars.Road.chN (W := 0) hZ (own_wC hw) (kI := 4) (ww hw 8 rfl) Ex Vx Cx Kx (own_cd hg) (own_hb hg) (Sta.ext O0.2 SC) hz (Sta.ext O0.2 SF) hf (Nat.le_trans hg.1 (by decide)) (i := 5) hp.1 hp.2.1 (by decide) (by decide))) q1a q1c (g := (mkF m 204 #[.val (.int p0), .val (.int p1), .val (.int p2), .val (.int x), .val (.int y), .val (.int w0), .val (.int w1), .val (.int w2), .val (.int d0), .val (.int d1), .val (.int d2), .val (.ref wx), .val (.ref dx), .val (.ref rx), .val (.ref xs), .val (.int nn), .unset] [(.int (5 : Int32)), (.ref xs)])) rfl (by rw [hml]; rfl) (Steps.refl _) (argsL := [(.int (5 : Int32))]) (rest := []) (lenOf own_pd19 rfl) rfl (by show 2 * 0 + _ ≤ _; exact Nat.le_of_eq rfl) (hb hby at_204) (fun _ _ => ⟨rfl, e0, (by decide : 22 + 0 ≤ _), (by decide : 2855 + 0 ≤ _)⟩)
  dsimp only [Pt.U, Pt.locs, Pt.cells, Pt.slots] at X1 l1 y1 z1 st1 hQ1
  subst l1 y1 z1
  obtain ⟨rfl, N1q, e1⟩ := hQ1
  have N1 := Fr.app N0 N1q
  refine ⟨T1, _, X1, e1, N1, fun target kt => ?_⟩
  show Steps p.tables e below (T0.setTop (mkF m 196 #[.val (.int p0), .val (.int p1), .val (.int p2), .val (.int x), .val (.int y), .val (.int w0), .val (.int w1), .val (.int w2), .val (.int d0), .val (.int d1), .val (.int d2), .val (.ref wx), .val (.ref dx), .val (.ref rx), .val (.ref xs), .val (.int nn), .unset] [])) _
  refine XS.iloadN X0.here hx rfl (hb hby at_196) rfl ?_
  show Steps p.tables e below (T0.setTop (mkF m 197 #[.val (.int p0), .val (.int p1), .val (.int p2), .val (.int x), .val (.int y), .val (.int w0), .val (.int w1), .val (.int w2), .val (.int d0), .val (.int d1), .val (.int d2), .val (.ref wx), .val (.ref dx), .val (.ref rx), .val (.ref xs), .val (.int nn), .unset] [(.int x)])) _
  refine XS.iconst X0.here hx rfl (hb hby at_197) ?_
  show Steps p.tables e below (T0.setTop (mkF m 198 #[.val (.int p0), .val (.int p1), .val (.int p2), .val (.int x), .val (.int y), .val (.int w0), .val (.int w1), .val (.int w2), .val (.int d0), .val (.int d1), .val (.int d2), .val (.ref wx), .val (.ref dx), .val (.ref rx), .val (.ref xs), .val (.int nn), .unset] [(.int (1 : Int32)), (.int x)])) _
  refine XS.icmpNo X0.here hx rfl (hb hby at_198) rfl (tlt (hq : (1 : Int32) < x)).2.2.2 ?_
  show Steps p.tables e below (T0.setTop (mkF m 201 #[.val (.int p0), .val (.int p1), .val (.int p2), .val (.int x), .val (.int y), .val (.int w0), .val (.int w1), .val (.int w2), .val (.int d0), .val (.int d1), .val (.int d2), .val (.ref wx), .val (.ref dx), .val (.ref rx), .val (.ref xs), .val (.int nn), .unset] [])) _
  refine XS.aload X0.here hx rfl (hb hby at_201) rfl rfl ?_
  show Steps p.tables e below (T0.setTop (mkF m 203 #[.val (.int p0), .val (.int p1), .val (.int p2), .val (.int x), .val (.int y), .val (.int w0), .val (.int w1), .val (.int w2), .val (.int d0), .val (.int d1), .val (.int d2), .val (.ref wx), .val (.ref dx), .val (.ref rx), .val (.ref xs), .val (.int nn), .unset] [(.ref xs)])) _
  refine XS.iconst X0.here hx rfl (hb hby at_203) ?_
  show Steps p.tables e below (T0.setTop (mkF m 204 #[.val (.int p0), .val (.int p1), .val (.int p2), .val (.int x), .val (.int y), .val (.int w0), .val (.int w1), .val (.int w2), .val (.int d0), .val (.int d1), .val (.int d2), .val (.ref wx), .val (.ref dx), .val (.ref rx), .val (.ref xs), .val (.int nn), .unset] [(.int (5 : Int32)), (.ref xs)])) _
  refine st1.trans ?_
  show Steps p.tables e below (T1.setTop (mkF m 207 #[.val (.int p0), .val (.int p1), .val (.int p2), .val (.int x), .val (.int y), .val (.int w0), .val (.int w1), .val (.int w2), .val (.int d0), .val (.int d1), .val (.int d2), .val (.ref wx), .val (.ref dx), .val (.ref rx), .val (.ref xs), .val (.int nn), .unset] [(.int (cs.getD 5 0))])) _
  refine XS.iload X1.here hx rfl (hb hby at_207) rfl ?_
  show Steps p.tables e below (T1.setTop (mkF m 209 #[.val (.int p0), .val (.int p1), .val (.int p2), .val (.int x), .val (.int y), .val (.int w0), .val (.int w1), .val (.int w2), .val (.int d0), .val (.int d1), .val (.int d2), .val (.ref wx), .val (.ref dx), .val (.ref rx), .val (.ref xs), .val (.int nn), .unset] [(.int w1), (.int (cs.getD 5 0))])) _
  refine XS.icmpYes X1.here hx rfl (pc0 := 209) (pc' := 214) rfl (hb hby at_209) rfl (teq (hp.2.2 : (cs.getD 5 0) = w1)).1 (by decide) (by decide) ?_
  exact kt
theorem sgB1_0 {p : Program} {l : Launch} {e : Env} {s : State} {m : MethodId} {args : Array Value} {below : List Frame} {meth : Method} {c : Code} {T0 : State} {locs : List Loc} {Z : State} {a0 : Array Value} {h0 : Heap} {n0 : Nat} (X0 : Stand p l e room_1 s m args below meth c T0 locs 22 2855) (hx : p.tables.exec = Jvm.exec) (hZ : Z.Warmed39 s.vm) (hw : ∀ d ∈ tables_1, d.before a0 Z = true) (hby : c.code = code) (hml : c.maxLocals = 17) (hown : s.vm.findClass "com/example/riverside/riverside/RefusedExceptionReplyLinePinLaw" = some m.cls) (e0 : T0.heap = h0) (N0 : Fr n0 locs) (O0 : Old Z n0 h0) {p0 p1 p2 x y w0 w1 w2 d0 d1 d2 nn z : Int32} {wx dx rx xs nb : Addr} {kn : ClassId} {cs : List Int32} {fm : Value} (Ex : Exa Z h0 xs "java/lang/String") (Vx : Fld Z h0 xs "java/lang/String" "value" "[B" (.ref nb)) (Cx : Fld Z h0 xs "java/lang/String" "coder" "B" (.int 0)) (Kx : Arv Z h0 nb kn .byte (Int32.ofNat (cs).length) (((cs).map StrChars.lo8).map Value.int) (.int 0)) (SC : Sta Z Z.heap "java/lang/String" "COMPACT_STRINGS" "Z" (.int z)) (hz : ¬ z = 0) (SF : Sta Z Z.heap "jdk/internal/util/Preconditions" "SIOOBE_FORMATTER" "Ljava/util/function/BiFunction;" fm) (hf : fm.isRef = true) (hg : own_good cs) (hq : (1 : Int32) < x → own_P cs 5 5 w1) :
    ∃ (T' : State) (locs' : List Loc), Stand p l e room_1 s m args below meth c T' locs' 22 2855 ∧ T'.heap = h0 ∧ Fr n0 locs' ∧ ∀ target, Steps p.tables e below (T'.setTop (mkF m 214 #[.val (.int p0), .val (.int p1), .val (.int p2), .val (.int x), .val (.int y), .val (.int w0), .val (.int w1), .val (.int w2), .val (.int d0), .val (.int d1), .val (.int d2), .val (.ref wx), .val (.ref dx), .val (.ref rx), .val (.ref xs), .val (.int nn), .unset] [])) target → Steps p.tables e below (T0.setTop (mkF m 196 #[.val (.int p0), .val (.int p1), .val (.int p2), .val (.int x), .val (.int y), .val (.int w0), .val (.int w1), .val (.int w2), .val (.int d0), .val (.int d1), .val (.int d2), .val (.ref wx), .val (.ref dx), .val (.ref rx), .val (.ref xs), .val (.int nn), .unset] [])) target := by
  by_cases q : (1 : Int32) < x
  · exact sgB1y_0 X0 hx hZ hw hby hml hown e0 N0 O0 Ex Vx Cx Kx SC hz SF hf hg q (hq q)
  · exact sgB1n_0 X0 hx hZ hw hby hml hown e0 N0 O0 Ex Vx Cx Kx SC hz SF hf hg q
set_option maxRecDepth 65536 in
set_option maxHeartbeats 40000000 in
theorem sgB2n_0 {p : Program} {l : Launch} {e : Env} {s : State} {m : MethodId} {args : Array Value} {below : List Frame} {meth : Method} {c : Code} {T0 : State} {locs : List Loc} {Z : State} {a0 : Array Value} {h0 : Heap} {n0 : Nat} (X0 : Stand p l e room_1 s m args below meth c T0 locs 22 2855) (hx : p.tables.exec = Jvm.exec) (hZ : Z.Warmed39 s.vm) (hw : ∀ d ∈ tables_1, d.before a0 Z = true) (hby : c.code = code) (hml : c.maxLocals = 17) (hown : s.vm.findClass "com/example/riverside/riverside/RefusedExceptionReplyLinePinLaw" = some m.cls) (e0 : T0.heap = h0) (N0 : Fr n0 locs) (O0 : Old Z n0 h0) {p0 p1 p2 x y w0 w1 w2 d0 d1 d2 nn z : Int32} {wx dx rx xs nb : Addr} {kn : ClassId} {cs : List Int32} {fm : Value} (Ex : Exa Z h0 xs "java/lang/String") (Vx : Fld Z h0 xs "java/lang/String" "value" "[B" (.ref nb)) (Cx : Fld Z h0 xs "java/lang/String" "coder" "B" (.int 0)) (Kx : Arv Z h0 nb kn .byte (Int32.ofNat (cs).length) (((cs).map StrChars.lo8).map Value.int) (.int 0)) (SC : Sta Z Z.heap "java/lang/String" "COMPACT_STRINGS" "Z" (.int z)) (hz : ¬ z = 0) (SF : Sta Z Z.heap "jdk/internal/util/Preconditions" "SIOOBE_FORMATTER" "Ljava/util/function/BiFunction;" fm) (hf : fm.isRef = true) (hg : own_good cs) (hq : ¬ ((2 : Int32) < x)) :
    ∃ (T' : State) (locs' : List Loc), Stand p l e room_1 s m args below meth c T' locs' 22 2855 ∧ T'.heap = h0 ∧ Fr n0 locs' ∧ ∀ target, Steps p.tables e below (T'.setTop (mkF m 233 #[.val (.int p0), .val (.int p1), .val (.int p2), .val (.int x), .val (.int y), .val (.int w0), .val (.int w1), .val (.int w2), .val (.int d0), .val (.int d1), .val (.int d2), .val (.ref wx), .val (.ref dx), .val (.ref rx), .val (.ref xs), .val (.int nn), .unset] [])) target → Steps p.tables e below (T0.setTop (mkF m 214 #[.val (.int p0), .val (.int p1), .val (.int p2), .val (.int x), .val (.int y), .val (.int w0), .val (.int w1), .val (.int w2), .val (.int d0), .val (.int d1), .val (.int d2), .val (.ref wx), .val (.ref dx), .val (.ref rx), .val (.ref xs), .val (.int nn), .unset] [])) target := by
  refine ⟨T0, _, X0, e0, N0, fun target kt => ?_⟩
  show Steps p.tables e below (T0.setTop (mkF m 214 #[.val (.int p0), .val (.int p1), .val (.int p2), .val (.int x), .val (.int y), .val (.int w0), .val (.int w1), .val (.int w2), .val (.int d0), .val (.int d1), .val (.int d2), .val (.ref wx), .val (.ref dx), .val (.ref rx), .val (.ref xs), .val (.int nn), .unset] [])) _
  refine XS.iloadN X0.here hx rfl (hb hby at_214) rfl ?_
  show Steps p.tables e below (T0.setTop (mkF m 215 #[.val (.int p0), .val (.int p1), .val (.int p2), .val (.int x), .val (.int y), .val (.int w0), .val (.int w1), .val (.int w2), .val (.int d0), .val (.int d1), .val (.int d2), .val (.ref wx), .val (.ref dx), .val (.ref rx), .val (.ref xs), .val (.int nn), .unset] [(.int x)])) _
  refine XS.iconst X0.here hx rfl (hb hby at_215) ?_
  show Steps p.tables e below (T0.setTop (mkF m 216 #[.val (.int p0), .val (.int p1), .val (.int p2), .val (.int x), .val (.int y), .val (.int w0), .val (.int w1), .val (.int w2), .val (.int d0), .val (.int d1), .val (.int d2), .val (.ref wx), .val (.ref dx), .val (.ref rx), .val (.ref xs), .val (.int nn), .unset] [(.int (2 : Int32)), (.int x)])) _
  refine XS.icmpYes X0.here hx rfl (pc0 := 216) (pc' := 233) rfl (hb hby at_216) rfl (flt (hq : ¬ ((2 : Int32) < x))).2.2.2 (by decide) (by decide) ?_
  exact kt
set_option maxRecDepth 65536 in
set_option maxHeartbeats 40000000 in
theorem sgB2y_0 {p : Program} {l : Launch} {e : Env} {s : State} {m : MethodId} {args : Array Value} {below : List Frame} {meth : Method} {c : Code} {T0 : State} {locs : List Loc} {Z : State} {a0 : Array Value} {h0 : Heap} {n0 : Nat} (X0 : Stand p l e room_1 s m args below meth c T0 locs 22 2855) (hx : p.tables.exec = Jvm.exec) (hZ : Z.Warmed39 s.vm) (hw : ∀ d ∈ tables_1, d.before a0 Z = true) (hby : c.code = code) (hml : c.maxLocals = 17) (hown : s.vm.findClass "com/example/riverside/riverside/RefusedExceptionReplyLinePinLaw" = some m.cls) (e0 : T0.heap = h0) (N0 : Fr n0 locs) (O0 : Old Z n0 h0) {p0 p1 p2 x y w0 w1 w2 d0 d1 d2 nn z : Int32} {wx dx rx xs nb : Addr} {kn : ClassId} {cs : List Int32} {fm : Value} (Ex : Exa Z h0 xs "java/lang/String") (Vx : Fld Z h0 xs "java/lang/String" "value" "[B" (.ref nb)) (Cx : Fld Z h0 xs "java/lang/String" "coder" "B" (.int 0)) (Kx : Arv Z h0 nb kn .byte (Int32.ofNat (cs).length) (((cs).map StrChars.lo8).map Value.int) (.int 0)) (SC : Sta Z Z.heap "java/lang/String" "COMPACT_STRINGS" "Z" (.int z)) (hz : ¬ z = 0) (SF : Sta Z Z.heap "jdk/internal/util/Preconditions" "SIOOBE_FORMATTER" "Ljava/util/function/BiFunction;" fm) (hf : fm.isRef = true) (hg : own_good cs) (hq : (2 : Int32) < x) (hp : own_P cs 6 6 w2) :
    ∃ (T' : State) (locs' : List Loc), Stand p l e room_1 s m args below meth c T' locs' 22 2855 ∧ T'.heap = h0 ∧ Fr n0 locs' ∧ ∀ target, Steps p.tables e below (T'.setTop (mkF m 233 #[.val (.int p0), .val (.int p1), .val (.int p2), .val (.int x), .val (.int y), .val (.int w0), .val (.int w1), .val (.int w2), .val (.int d0), .val (.int d1), .val (.int d2), .val (.ref wx), .val (.ref dx), .val (.ref rx), .val (.ref xs), .val (.int nn), .unset] [])) target → Steps p.tables e below (T0.setTop (mkF m 214 #[.val (.int p0), .val (.int p1), .val (.int p2), .val (.int x), .val (.int y), .val (.int w0), .val (.int w1), .val (.int w2), .val (.int d0), .val (.int d1), .val (.int d2), .val (.ref wx), .val (.ref dx), .val (.ref rx), .val (.ref xs), .val (.int nn), .unset] [])) target := by
  obtain ⟨cq1, kq1, q1a, q1b, q1c⟩ := isOf hZ e0 Ex
  obtain ⟨_, _, ⟨T1, L1, k1, n1⟩, -, X1, ⟨Lc1, hQ1, l1, y1, z1⟩, st1⟩ := X0.virtualBack hx (y := (⟨"java/lang/String", "charAt", "(I)C"⟩ : MethodName)) (z := (⟨"java/lang/String", "charAt", "(I)C"⟩ : MethodName)) hown (mvT hZ (ww hw 215 rfl)) (mvT hZ (ww hw 216 rfl)) (notFace_of_selects (args := #[]) (mvT hZ (ww hw 218 rfl))) (mvT hZ (ww hw 218 rfl)) (mvT hZ (ww hw 217 rfl)) (by decide) (own_bk (n0 := n0) (fun _ q => q) (StrChars.Road.chN (W := 0) hZ (own_wC hw) (kI := 4) (ww hw 8 rfl) Ex Vx Cx Kx (own_cd hg) (own_hb hg) (Sta.ext O0.2 SC) hz (Sta.ext O0.2 SF) hf (Nat.le_trans hg.1 (by decide)) (i := 6) hp.1 hp.2.1 (by decide) (by decide))) q1a q1c (g := (mkF m 223 #[.val (.int p0), .val (.int p1), .val (.int p2), .val (.int x), .val (.int y), .val (.int w0), .val (.int w1), .val (.int w2), .val (.int d0), .val (.int d1), .val (.int d2), .val (.ref wx), .val (.ref dx), .val (.ref rx), .val (.ref xs), .val (.int nn), .unset] [(.int (6 : Int32)), (.ref xs)])) rfl (by rw [hml]; rfl) (Steps.refl _) (argsL := [(.int (6 : Int32))]) (rest := []) (lenOf own_pd19 rfl) rfl (by show 2 * 0 + _ ≤ _; exact Nat.le_of_eq rfl) (hb hby at_223) (fun _ _ => ⟨rfl, e0, (by decide : 22 + 0 ≤ _), (by decide : 2855 + 0 ≤ _)⟩)
  dsimp only [Pt.U, Pt.locs, Pt.cells, Pt.slots] at X1 l1 y1 z1 st1 hQ1
  subst l1 y1 z1
  obtain ⟨rfl, N1q, e1⟩ := hQ1
  have N1 := Fr.app N0 N1q
  refine ⟨T1, _, X1, e1, N1, fun target kt => ?_⟩
  show Steps p.tables e below (T0.setTop (mkF m 214 #[.val (.int p0), .val (.int p1), .val (.int p2), .val (.int x), .val (.int y), .val (.int w0), .val (.int w1), .val (.int w2), .val (.int d0), .val (.int d1), .val (.int d2), .val (.ref wx), .val (.ref dx), .val (.ref rx), .val (.ref xs), .val (.int nn), .unset] [])) _
  refine XS.iloadN X0.here hx rfl (hb hby at_214) rfl ?_
  show Steps p.tables e below (T0.setTop (mkF m 215 #[.val (.int p0), .val (.int p1), .val (.int p2), .val (.int x), .val (.int y), .val (.int w0), .val (.int w1), .val (.int w2), .val (.int d0), .val (.int d1), .val (.int d2), .val (.ref wx), .val (.ref dx), .val (.ref rx), .val (.ref xs), .val (.int nn), .unset] [(.int x)])) _
  refine XS.iconst X0.here hx rfl (hb hby at_215) ?_
  show Steps p.tables e below (T0.setTop (mkF m 216 #[.val (.int p0), .val (.int p1), .val (.int p2), .val (.int x), .val (.int y), .val (.int w0), .val (.int w1), .val (.int w2), .val (.int d0), .val (.int d1), .val (.int d2), .val (.ref wx), .val (.ref dx), .val (.ref rx), .val (.ref xs), .val (.int nn), .unset] [(.int (2 : Int32)), (.int x)])) _
  refine XS.icmpNo X0.here hx rfl (hb hby at_216) rfl (tlt (hq : (2 : Int32) < x)).2.2.2 ?_
  show Steps p.tables e below (T0.setTop (mkF m 219 #[.val (.int p0), .val (.int p1), .val (.int p2), .val (.int x), .val (.int y), .val (.int w0), .val (.int w1), .val (.int w2), .val (.int d0), .val (.int d1), .val (.int d2), .val (.ref wx), .val (.ref dx), .val (.ref rx), .val (.ref xs), .val (.int nn), .unset] [])) _
  refine XS.aload X0.here hx rfl (hb hby at_219) rfl rfl ?_
  show Steps p.tables e below (T0.setTop (mkF m 221 #[.val (.int p0), .val (.int p1), .val (.int p2), .val (.int x), .val (.int y), .val (.int w0), .val (.int w1), .val (.int w2), .val (.int d0), .val (.int d1), .val (.int d2), .val (.ref wx), .val (.ref dx), .val (.ref rx), .val (.ref xs), .val (.int nn), .unset] [(.ref xs)])) _
  refine XS.bipush X0.here hx rfl (hb hby at_221) ?_
  show Steps p.tables e below (T0.setTop (mkF m 223 #[.val (.int p0), .val (.int p1), .val (.int p2), .val (.int x), .val (.int y), .val (.int w0), .val (.int w1), .val (.int w2), .val (.int d0), .val (.int d1), .val (.int d2), .val (.ref wx), .val (.ref dx), .val (.ref rx), .val (.ref xs), .val (.int nn), .unset] [(.int (6 : Int32)), (.ref xs)])) _
  refine st1.trans ?_
  show Steps p.tables e below (T1.setTop (mkF m 226 #[.val (.int p0), .val (.int p1), .val (.int p2), .val (.int x), .val (.int y), .val (.int w0), .val (.int w1), .val (.int w2), .val (.int d0), .val (.int d1), .val (.int d2), .val (.ref wx), .val (.ref dx), .val (.ref rx), .val (.ref xs), .val (.int nn), .unset] [(.int (cs.getD 6 0))])) _
  refine XS.iload X1.here hx rfl (hb hby at_226) rfl ?_
  show Steps p.tables e below (T1.setTop (mkF m 228 #[.val (.int p0), .val (.int p1), .val (.int p2), .val (.int x), .val (.int y), .val (.int w0), .val (.int w1), .val (.int w2), .val (.int d0), .val (.int d1), .val (.int d2), .val (.ref wx), .val (.ref dx), .val (.ref rx), .val (.ref xs), .val (.int nn), .unset] [(.int w2), (.int (cs.getD 6 0))])) _
  refine XS.icmpYes X1.here hx rfl (pc0 := 228) (pc' := 233) rfl (hb hby at_228) rfl (teq (hp.2.2 : (cs.getD 6 0) = w2)).1 (by decide) (by decide) ?_
  exact kt
theorem sgB2_0 {p : Program} {l : Launch} {e : Env} {s : State} {m : MethodId} {args : Array Value} {below : List Frame} {meth : Method} {c : Code} {T0 : State} {locs : List Loc} {Z : State} {a0 : Array Value} {h0 : Heap} {n0 : Nat} (X0 : Stand p l e room_1 s m args below meth c T0 locs 22 2855) (hx : p.tables.exec = Jvm.exec) (hZ : Z.Warmed39 s.vm) (hw : ∀ d ∈ tables_1, d.before a0 Z = true) (hby : c.code = code) (hml : c.maxLocals = 17) (hown : s.vm.findClass "com/example/riverside/riverside/RefusedExceptionReplyLinePinLaw" = some m.cls) (e0 : T0.heap = h0) (N0 : Fr n0 locs) (O0 : Old Z n0 h0) {p0 p1 p2 x y w0 w1 w2 d0 d1 d2 nn z : Int32} {wx dx rx xs nb : Addr} {kn : ClassId} {cs : List Int32} {fm : Value} (Ex : Exa Z h0 xs "java/lang/String") (Vx : Fld Z h0 xs "java/lang/String" "value" "[B" (.ref nb)) (Cx : Fld Z h0 xs "java/lang/String" "coder" "B" (.int 0)) (Kx : Arv Z h0 nb kn .byte (Int32.ofNat (cs).length) (((cs).map StrChars.lo8).map Value.int) (.int 0)) (SC : Sta Z Z.heap "java/lang/String" "COMPACT_STRINGS" "Z" (.int z)) (hz : ¬ z = 0) (SF : Sta Z Z.heap "jdk/internal/util/Preconditions" "SIOOBE_FORMATTER" "Ljava/util/function/BiFunction;" fm) (hf : fm.isRef = true) (hg : own_good cs) (hq : (2 : Int32) < x → own_P cs 6 6 w2) :
    ∃ (T' : State) (locs' : List Loc), Stand p l e room_1 s m args below meth c T' locs' 22 2855 ∧ T'.heap = h0 ∧ Fr n0 locs' ∧ ∀ target, Steps p.tables e below (T'.setTop (mkF m 233 #[.val (.int p0), .val (.int p1), .val (.int p2), .val (.int x), .val (.int y), .val (.int w0), .val (.int w1), .val (.int w2), .val (.int d0), .val (.int d1), .val (.int d2), .val (.ref wx), .val (.ref dx), .val (.ref rx), .val (.ref xs), .val (.int nn), .unset] [])) target → Steps p.tables e below (T0.setTop (mkF m 214 #[.val (.int p0), .val (.int p1), .val (.int p2), .val (.int x), .val (.int y), .val (.int w0), .val (.int w1), .val (.int w2), .val (.int d0), .val (.int d1), .val (.int d2), .val (.ref wx), .val (.ref dx), .val (.ref rx), .val (.ref xs), .val (.int nn), .unset] [])) target := by
  by_cases q : (2 : Int32) < x
  · exact sgB2y_0 X0 hx hZ hw hby hml hown e0 N0 O0 Ex Vx Cx Kx SC hz SF hf hg q (hq q)
  · exact sgB2n_0 X0 hx hZ hw hby hml hown e0 N0 O0 Ex Vx Cx Kx SC hz SF hf hg q
set_option maxRecDepth 65536 in
set_option maxHeartbeats 40000000 in
theorem sgC_0 {p : Program} {l : Launch} {e : Env} {s : State} {m : MethodId} {args : Array Value} {below : List Frame} {meth : Method} {c : Code} {T0 : State} {locs : List Loc} {Z : State} {a0 : Array Value} {h0 : Heap} {n0 : Nat} (X0 : Stand p l e room_1 s m args below meth c T0 locs 22 2855) (hx : p.tables.exec = Jvm.exec) (hZ : Z.Warmed39 s.vm) (hw : ∀ d ∈ tables_1, d.before a0 Z = true) (hby : c.code = code) (hml : c.maxLocals = 17) (hown : s.vm.findClass "com/example/riverside/riverside/RefusedExceptionReplyLinePinLaw" = some m.cls) (e0 : T0.heap = h0) (N0 : Fr n0 locs) (O0 : Old Z n0 h0) {p0 p1 p2 x y w0 w1 w2 d0 d1 d2 nn z : Int32} {wx dx rx xs nb : Addr} {kn : ClassId} {cs : List Int32} {fm : Value} (Ex : Exa Z h0 xs "java/lang/String") (Vx : Fld Z h0 xs "java/lang/String" "value" "[B" (.ref nb)) (Cx : Fld Z h0 xs "java/lang/String" "coder" "B" (.int 0)) (Kx : Arv Z h0 nb kn .byte (Int32.ofNat (cs).length) (((cs).map StrChars.lo8).map Value.int) (.int 0)) (SC : Sta Z Z.heap "java/lang/String" "COMPACT_STRINGS" "Z" (.int z)) (hz : ¬ z = 0) (SF : Sta Z Z.heap "jdk/internal/util/Preconditions" "SIOOBE_FORMATTER" "Ljava/util/function/BiFunction;" fm) (hf : fm.isRef = true) (hg : own_good cs) {i : Nat} (h0_ : own_P cs i ((4 : Int32) + x) 32) (h1_ : own_P cs (i + 1) (((4 : Int32) + x) + (1 : Int32)) d0) :
    ∃ (T' : State) (locs' : List Loc), Stand p l e room_1 s m args below meth c T' locs' 22 2855 ∧ T'.heap = h0 ∧ Fr n0 locs' ∧ ∀ target, Steps p.tables e below (T'.setTop (mkF m 275 #[.val (.int p0), .val (.int p1), .val (.int p2), .val (.int x), .val (.int y), .val (.int w0), .val (.int w1), .val (.int w2), .val (.int d0), .val (.int d1), .val (.int d2), .val (.ref wx), .val (.ref dx), .val (.ref rx), .val (.ref xs), .val (.int nn), .val (.int ((4 : Int32) + x))] [])) target → Steps p.tables e below (T0.setTop (mkF m 245 #[.val (.int p0), .val (.int p1), .val (.int p2), .val (.int x), .val (.int y), .val (.int w0), .val (.int w1), .val (.int w2), .val (.int d0), .val (.int d1), .val (.int d2), .val (.ref wx), .val (.ref dx), .val (.ref rx), .val (.ref xs), .val (.int nn), .val (.int ((4 : Int32) + x))] [])) target := by
  obtain ⟨cq1, kq1, q1a, q1b, q1c⟩ := isOf hZ e0 Ex
  obtain ⟨_, _, ⟨T1, L1, k1, n1⟩, -, X1, ⟨Lc1, hQ1, l1, y1, z1⟩, st1⟩ := X0.virtualBack hx (y := (⟨"java/lang/String", "charAt", "(I)C"⟩ : MethodName)) (z := (⟨"java/lang/String", "charAt", "(I)C"⟩ : MethodName)) hown (mvT hZ (ww hw 215 rfl)) (mvT hZ (ww hw 216 rfl)) (notFace_of_selects (args := #[]) (mvT hZ (ww hw 218 rfl))) (mvT hZ (ww hw 218 rfl)) (mvT hZ (ww hw 217 rfl)) (by decide) (own_bk (n0 := n0) (fun _ q => q) (StrChars.Road.chN (W := 0) hZ (own_wC hw) (kI := 4) (ww hw 8 rfl) Ex Vx Cx Kx (own_cd hg) (own_hb hg) (Sta.ext O0.2 SC) hz (Sta.ext O0.2 SF) hf (Nat.le_trans hg.1 (by decide)) (i := i) h0_.1 h0_.2.1 (by decide) (by decide))) q1a q1c (g := (mkF m 249 #[.val (.int p0), .val (.int p1), .val (.int p2), .val (.int x), .val (.int y), .val (.int w0), .val (.int w1), .val (.int w2), .val (.int d0), .val (.int d1), .val (.int d2), .val (.ref wx), .val (.ref dx), .val (.ref rx), .val (.ref xs), .val (.int nn), .val (.int ((4 : Int32) + x))] [(.int ((4 : Int32) + x)), (.ref xs)])) rfl (by rw [hml]; rfl) (Steps.refl _) (argsL := [(.int ((4 : Int32) + x))]) (rest := []) (lenOf own_pd19 rfl) rfl (by show 2 * 0 + _ ≤ _; exact Nat.le_of_eq rfl) (hb hby at_249) (fun _ _ => ⟨rfl, e0, (by decide : 22 + 0 ≤ _), (by decide : 2855 + 0 ≤ _)⟩)
  dsimp only [Pt.U, Pt.locs, Pt.cells, Pt.slots] at X1 l1 y1 z1 st1 hQ1
  subst l1 y1 z1
  obtain ⟨rfl, N1q, e1⟩ := hQ1
  have N1 := Fr.app N0 N1q
  obtain ⟨cq2, kq2, q2a, q2b, q2c⟩ := isOf hZ e1 Ex
  obtain ⟨_, _, ⟨T2, L2, k2, n2⟩, -, X2, ⟨Lc2, hQ2, l2, y2, z2⟩, st2⟩ := X1.virtualBack hx (y := (⟨"java/lang/String", "charAt", "(I)C"⟩ : MethodName)) (z := (⟨"java/lang/String", "charAt", "(I)C"⟩ : MethodName)) hown (mvT hZ (ww hw 215 rfl)) (mvT hZ (ww hw 216 rfl)) (notFace_of_selects (args := #[]) (mvT hZ (ww hw 218 rfl))) (mvT hZ (ww hw 218 rfl)) (mvT hZ (ww hw 217 rfl)) (by decide) (own_bk (n0 := n0) (fun _ q => q) (StrChars.Road.chN (W := 0) hZ (own_wC hw) (kI := 4) (ww hw 8 rfl) Ex Vx Cx Kx (own_cd hg) (own_hb hg) (Sta.ext O0.2 SC) hz (Sta.ext O0.2 SF) hf (Nat.le_trans hg.1 (by decide)) (i := (i + 1)) h1_.1 h1_.2.1 (by decide) (by decide))) q2a q2c (g := (mkF m 265 #[.val (.int p0), .val (.int p1), .val (.int p2), .val (.int x), .val (.int y), .val (.int w0), .val (.int w1), .val (.int w2), .val (.int d0), .val (.int d1), .val (.int d2), .val (.ref wx), .val (.ref dx), .val (.ref rx), .val (.ref xs), .val (.int nn), .val (.int ((4 : Int32) + x))] [(.int (((4 : Int32) + x) + (1 : Int32))), (.ref xs)])) rfl (by rw [hml]; rfl) (Steps.refl _) (argsL := [(.int (((4 : Int32) + x) + (1 : Int32)))]) (rest := []) (lenOf own_pd19 rfl) rfl (by show 2 * 0 + _ ≤ _; exact Nat.le_of_eq rfl) (hb hby at_265) (fun _ _ => ⟨rfl, e1, (by decide : 22 + 0 ≤ _), (by decide : 2855 + 0 ≤ _)⟩)
  dsimp only [Pt.U, Pt.locs, Pt.cells, Pt.slots] at X2 l2 y2 z2 st2 hQ2
  subst l2 y2 z2
  obtain ⟨rfl, N2q, e2⟩ := hQ2
  have N2 := Fr.app N1 N2q
  refine ⟨T2, _, X2, e2, N2, fun target kt => ?_⟩
  show Steps p.tables e below (T0.setTop (mkF m 245 #[.val (.int p0), .val (.int p1), .val (.int p2), .val (.int x), .val (.int y), .val (.int w0), .val (.int w1), .val (.int w2), .val (.int d0), .val (.int d1), .val (.int d2), .val (.ref wx), .val (.ref dx), .val (.ref rx), .val (.ref xs), .val (.int nn), .val (.int ((4 : Int32) + x))] [])) _
  refine XS.aload X0.here hx rfl (hb hby at_245) rfl rfl ?_
  show Steps p.tables e below (T0.setTop (mkF m 247 #[.val (.int p0), .val (.int p1), .val (.int p2), .val (.int x), .val (.int y), .val (.int w0), .val (.int w1), .val (.int w2), .val (.int d0), .val (.int d1), .val (.int d2), .val (.ref wx), .val (.ref dx), .val (.ref rx), .val (.ref xs), .val (.int nn), .val (.int ((4 : Int32) + x))] [(.ref xs)])) _
  refine XS.iload X0.here hx rfl (hb hby at_247) rfl ?_
  show Steps p.tables e below (T0.setTop (mkF m 249 #[.val (.int p0), .val (.int p1), .val (.int p2), .val (.int x), .val (.int y), .val (.int w0), .val (.int w1), .val (.int w2), .val (.int d0), .val (.int d1), .val (.int d2), .val (.ref wx), .val (.ref dx), .val (.ref rx), .val (.ref xs), .val (.int nn), .val (.int ((4 : Int32) + x))] [(.int ((4 : Int32) + x)), (.ref xs)])) _
  refine st1.trans ?_
  show Steps p.tables e below (T1.setTop (mkF m 252 #[.val (.int p0), .val (.int p1), .val (.int p2), .val (.int x), .val (.int y), .val (.int w0), .val (.int w1), .val (.int w2), .val (.int d0), .val (.int d1), .val (.int d2), .val (.ref wx), .val (.ref dx), .val (.ref rx), .val (.ref xs), .val (.int nn), .val (.int ((4 : Int32) + x))] [(.int (cs.getD i 0))])) _
  refine XS.bipush X1.here hx rfl (hb hby at_252) ?_
  show Steps p.tables e below (T1.setTop (mkF m 254 #[.val (.int p0), .val (.int p1), .val (.int p2), .val (.int x), .val (.int y), .val (.int w0), .val (.int w1), .val (.int w2), .val (.int d0), .val (.int d1), .val (.int d2), .val (.ref wx), .val (.ref dx), .val (.ref rx), .val (.ref xs), .val (.int nn), .val (.int ((4 : Int32) + x))] [(.int (32 : Int32)), (.int (cs.getD i 0))])) _
  refine XS.icmpYes X1.here hx rfl (pc0 := 254) (pc' := 259) rfl (hb hby at_254) rfl (teq (h0_.2.2 : (cs.getD i 0) = (32 : Int32))).1 (by decide) (by decide) ?_
  show Steps p.tables e below (T1.setTop (mkF m 259 #[.val (.int p0), .val (.int p1), .val (.int p2), .val (.int x), .val (.int y), .val (.int w0), .val (.int w1), .val (.int w2), .val (.int d0), .val (.int d1), .val (.int d2), .val (.ref wx), .val (.ref dx), .val (.ref rx), .val (.ref xs), .val (.int nn), .val (.int ((4 : Int32) + x))] [])) _
  refine XS.aload X1.here hx rfl (hb hby at_259) rfl rfl ?_
  show Steps p.tables e below (T1.setTop (mkF m 261 #[.val (.int p0), .val (.int p1), .val (.int p2), .val (.int x), .val (.int y), .val (.int w0), .val (.int w1), .val (.int w2), .val (.int d0), .val (.int d1), .val (.int d2), .val (.ref wx), .val (.ref dx), .val (.ref rx), .val (.ref xs), .val (.int nn), .val (.int ((4 : Int32) + x))] [(.ref xs)])) _
  refine XS.iload X1.here hx rfl (hb hby at_261) rfl ?_
  show Steps p.tables e below (T1.setTop (mkF m 263 #[.val (.int p0), .val (.int p1), .val (.int p2), .val (.int x), .val (.int y), .val (.int w0), .val (.int w1), .val (.int w2), .val (.int d0), .val (.int d1), .val (.int d2), .val (.ref wx), .val (.ref dx), .val (.ref rx), .val (.ref xs), .val (.int nn), .val (.int ((4 : Int32) + x))] [(.int ((4 : Int32) + x)), (.ref xs)])) _
  refine XS.iconst X1.here hx rfl (hb hby at_263) ?_
  show Steps p.tables e below (T1.setTop (mkF m 264 #[.val (.int p0), .val (.int p1), .val (.int p2), .val (.int x), .val (.int y), .val (.int w0), .val (.int w1), .val (.int w2), .val (.int d0), .val (.int d1), .val (.int d2), .val (.ref wx), .val (.ref dx), .val (.ref rx), .val (.ref xs), .val (.int nn), .val (.int ((4 : Int32) + x))] [(.int (1 : Int32)), (.int ((4 : Int32) + x)), (.ref xs)])) _
  refine XS.iadd X1.here hx rfl (hb hby at_264) rfl ?_
  show Steps p.tables e below (T1.setTop (mkF m 265 #[.val (.int p0), .val (.int p1), .val (.int p2), .val (.int x), .val (.int y), .val (.int w0), .val (.int w1), .val (.int w2), .val (.int d0), .val (.int d1), .val (.int d2), .val (.ref wx), .val (.ref dx), .val (.ref rx), .val (.ref xs), .val (.int nn), .val (.int ((4 : Int32) + x))] [(.int (((4 : Int32) + x) + (1 : Int32))), (.ref xs)])) _
  refine st2.trans ?_
  show Steps p.tables e below (T2.setTop (mkF m 268 #[.val (.int p0), .val (.int p1), .val (.int p2), .val (.int x), .val (.int y), .val (.int w0), .val (.int w1), .val (.int w2), .val (.int d0), .val (.int d1), .val (.int d2), .val (.ref wx), .val (.ref dx), .val (.ref rx), .val (.ref xs), .val (.int nn), .val (.int ((4 : Int32) + x))] [(.int (cs.getD (i + 1) 0))])) _
  refine XS.iload X2.here hx rfl (hb hby at_268) rfl ?_
  show Steps p.tables e below (T2.setTop (mkF m 270 #[.val (.int p0), .val (.int p1), .val (.int p2), .val (.int x), .val (.int y), .val (.int w0), .val (.int w1), .val (.int w2), .val (.int d0), .val (.int d1), .val (.int d2), .val (.ref wx), .val (.ref dx), .val (.ref rx), .val (.ref xs), .val (.int nn), .val (.int ((4 : Int32) + x))] [(.int d0), (.int (cs.getD (i + 1) 0))])) _
  refine XS.icmpYes X2.here hx rfl (pc0 := 270) (pc' := 275) rfl (hb hby at_270) rfl (teq (h1_.2.2 : (cs.getD (i + 1) 0) = d0)).1 (by decide) (by decide) ?_
  exact kt
set_option maxRecDepth 65536 in
set_option maxHeartbeats 40000000 in
theorem sgD1n_0 {p : Program} {l : Launch} {e : Env} {s : State} {m : MethodId} {args : Array Value} {below : List Frame} {meth : Method} {c : Code} {T0 : State} {locs : List Loc} {Z : State} {a0 : Array Value} {h0 : Heap} {n0 : Nat} (X0 : Stand p l e room_1 s m args below meth c T0 locs 22 2855) (hx : p.tables.exec = Jvm.exec) (hZ : Z.Warmed39 s.vm) (hw : ∀ d ∈ tables_1, d.before a0 Z = true) (hby : c.code = code) (hml : c.maxLocals = 17) (hown : s.vm.findClass "com/example/riverside/riverside/RefusedExceptionReplyLinePinLaw" = some m.cls) (e0 : T0.heap = h0) (N0 : Fr n0 locs) (O0 : Old Z n0 h0) {p0 p1 p2 x y w0 w1 w2 d0 d1 d2 nn z : Int32} {wx dx rx xs nb : Addr} {kn : ClassId} {cs : List Int32} {fm : Value} (Ex : Exa Z h0 xs "java/lang/String") (Vx : Fld Z h0 xs "java/lang/String" "value" "[B" (.ref nb)) (Cx : Fld Z h0 xs "java/lang/String" "coder" "B" (.int 0)) (Kx : Arv Z h0 nb kn .byte (Int32.ofNat (cs).length) (((cs).map StrChars.lo8).map Value.int) (.int 0)) (SC : Sta Z Z.heap "java/lang/String" "COMPACT_STRINGS" "Z" (.int z)) (hz : ¬ z = 0) (SF : Sta Z Z.heap "jdk/internal/util/Preconditions" "SIOOBE_FORMATTER" "Ljava/util/function/BiFunction;" fm) (hf : fm.isRef = true) (hg : own_good cs) (hq : ¬ ((1 : Int32) < y)) :
    ∃ (T' : State) (locs' : List Loc), Stand p l e room_1 s m args below meth c T' locs' 22 2855 ∧ T'.heap = h0 ∧ Fr n0 locs' ∧ ∀ target, Steps p.tables e below (T'.setTop (mkF m 297 #[.val (.int p0), .val (.int p1), .val (.int p2), .val (.int x), .val (.int y), .val (.int w0), .val (.int w1), .val (.int w2), .val (.int d0), .val (.int d1), .val (.int d2), .val (.ref wx), .val (.ref dx), .val (.ref rx), .val (.ref xs), .val (.int nn), .val (.int ((4 : Int32) + x))] [])) target → Steps p.tables e below (T0.setTop (mkF m 275 #[.val (.int p0), .val (.int p1), .val (.int p2), .val (.int x), .val (.int y), .val (.int w0), .val (.int w1), .val (.int w2), .val (.int d0), .val (.int d1), .val (.int d2), .val (.ref wx), .val (.ref dx), .val (.ref rx), .val (.ref xs), .val (.int nn), .val (.int ((4 : Int32) + x))] [])) target := by
  refine ⟨T0, _, X0, e0, N0, fun target kt => ?_⟩
  show Steps p.tables e below (T0.setTop (mkF m 275 #[.val (.int p0), .val (.int p1), .val (.int p2), .val (.int x), .val (.int y), .val (.int w0), .val (.int w1), .val (.int w2), .val (.int d0), .val (.int d1), .val (.int d2), .val (.ref wx), .val (.ref dx), .val (.ref rx), .val (.ref xs), .val (.int nn), .val (.int ((4 : Int32) + x))] [])) _
  refine XS.iload X0.here hx rfl (hb hby at_275) rfl ?_
  show Steps p.tables e below (T0.setTop (mkF m 277 #[.val (.int p0), .val (.int p1), .val (.int p2), .val (.int x), .val (.int y), .val (.int w0), .val (.int w1), .val (.int w2), .val (.int d0), .val (.int d1), .val (.int d2), .val (.ref wx), .val (.ref dx), .val (.ref rx), .val (.ref xs), .val (.int nn), .val (.int ((4 : Int32) + x))] [(.int y)])) _
  refine XS.iconst X0.here hx rfl (hb hby at_277) ?_
  show Steps p.tables e below (T0.setTop (mkF m 278 #[.val (.int p0), .val (.int p1), .val (.int p2), .val (.int x), .val (.int y), .val (.int w0), .val (.int w1), .val (.int w2), .val (.int d0), .val (.int d1), .val (.int d2), .val (.ref wx), .val (.ref dx), .val (.ref rx), .val (.ref xs), .val (.int nn), .val (.int ((4 : Int32) + x))] [(.int (1 : Int32)), (.int y)])) _
  refine XS.icmpYes X0.here hx rfl (pc0 := 278) (pc' := 297) rfl (hb hby at_278) rfl (flt (hq : ¬ ((1 : Int32) < y))).2.2.2 (by decide) (by decide) ?_
  exact kt
set_option maxRecDepth 65536 in
set_option maxHeartbeats 40000000 in
theorem sgD1y_0 {p : Program} {l : Launch} {e : Env} {s : State} {m : MethodId} {args : Array Value} {below : List Frame} {meth : Method} {c : Code} {T0 : State} {locs : List Loc} {Z : State} {a0 : Array Value} {h0 : Heap} {n0 : Nat} (X0 : Stand p l e room_1 s m args below meth c T0 locs 22 2855) (hx : p.tables.exec = Jvm.exec) (hZ : Z.Warmed39 s.vm) (hw : ∀ d ∈ tables_1, d.before a0 Z = true) (hby : c.code = code) (hml : c.maxLocals = 17) (hown : s.vm.findClass "com/example/riverside/riverside/RefusedExceptionReplyLinePinLaw" = some m.cls) (e0 : T0.heap = h0) (N0 : Fr n0 locs) (O0 : Old Z n0 h0) {p0 p1 p2 x y w0 w1 w2 d0 d1 d2 nn z : Int32} {wx dx rx xs nb : Addr} {kn : ClassId} {cs : List Int32} {fm : Value} (Ex : Exa Z h0 xs "java/lang/String") (Vx : Fld Z h0 xs "java/lang/String" "value" "[B" (.ref nb)) (Cx : Fld Z h0 xs "java/lang/String" "coder" "B" (.int 0)) (Kx : Arv Z h0 nb kn .byte (Int32.ofNat (cs).length) (((cs).map StrChars.lo8).map Value.int) (.int 0)) (SC : Sta Z Z.heap "java/lang/String" "COMPACT_STRINGS" "Z" (.int z)) (hz : ¬ z = 0) (SF : Sta Z Z.heap "jdk/internal/util/Preconditions" "SIOOBE_FORMATTER" "Ljava/util/function/BiFunction;" fm) (hf : fm.isRef = true) (hg : own_good cs) {i : Nat} (hq : (1 : Int32) < y) (hp : own_P cs (i + 2) (((4 : Int32) + x) + (2 : Int32)) d1) :
    ∃ (T' : State) (locs' : List Loc), Stand p l e room_1 s m args below meth c T' locs' 22 2855 ∧ T'.heap = h0 ∧ Fr n0 locs' ∧ ∀ target, Steps p.tables e below (T'.setTop (mkF m 297 #[.val (.int p0), .val (.int p1), .val (.int p2), .val (.int x), .val (.int y), .val (.int w0), .val (.int w1), .val (.int w2), .val (.int d0), .val (.int d1), .val (.int d2), .val (.ref wx), .val (.ref dx), .val (.ref rx), .val (.ref xs), .val (.int nn), .val (.int ((4 : Int32) + x))] [])) target → Steps p.tables e below (T0.setTop (mkF m 275 #[.val (.int p0), .val (.int p1), .val (.int p2), .val (.int x), .val (.int y), .val (.int w0), .val (.int w1), .val (.int w2), .val (.int d0), .val (.int d1), .val (.int d2), .val (.ref wx), .val (.ref dx), .val (.ref rx), .val (.ref xs), .val (.int nn), .val (.int ((4 : Int32) + x))] [])) target := by
  obtain ⟨cq1, kq1, q1a, q1b, q1c⟩ := isOf hZ e0 Ex
  obtain ⟨_, _, ⟨T1, L1, k1, n1⟩, -, X1, ⟨Lc1, hQ1, l1, y1, z1⟩, st1⟩ := X0.virtualBack hx (y := (⟨"java/lang/String", "charAt", "(I)C"⟩ : MethodName)) (z := (⟨"java/lang/String", "charAt", "(I)C"⟩ : MethodName)) hown (mvT hZ (ww hw 215 rfl)) (mvT hZ (ww hw 216 rfl)) (notFace_of_selects (args := #[]) (mvT hZ (ww hw 218 rfl))) (mvT hZ (ww hw 218 rfl)) (mvT hZ (ww hw 217 rfl)) (by decide) (own_bk (n0 := n0) (fun _ q => q) (StrChars.Road.chN (W := 0) hZ (own_wC hw) (kI := 4) (ww hw 8 rfl) Ex Vx Cx Kx (own_cd hg) (own_hb hg) (Sta.ext O0.2 SC) hz (Sta.ext O0.2 SF) hf (Nat.le_trans hg.1 (by decide)) (i := (i + 2)) hp.1 hp.2.1 (by decide) (by decide))) q1a q1c (g := (mkF m 287 #[.val (.int p0), .val (.int p1), .val (.int p2), .val (.int x), .val (.int y), .val (.int w0), .val (.int w1), .val (.int w2), .val (.int d0), .val (.int d1), .val (.int d2), .val (.ref wx), .val (.ref dx), .val (.ref rx), .val (.ref xs), .val (.int nn), .val (.int ((4 : Int32) + x))] [(.int (((4 : Int32) + x) + (2 : Int32))), (.ref xs)])) rfl (by rw [hml]; rfl) (Steps.refl _) (argsL := [(.int (((4 : Int32) + x) + (2 : Int32)))]) (rest := []) (lenOf own_pd19 rfl) rfl (by show 2 * 0 + _ ≤ _; exact Nat.le_of_eq rfl) (hb hby at_287) (fun _ _ => ⟨rfl, e0, (by decide : 22 + 0 ≤ _), (by decide : 2855 + 0 ≤ _)⟩)
  dsimp only [Pt.U, Pt.locs, Pt.cells, Pt.slots] at X1 l1 y1 z1 st1 hQ1
  subst l1 y1 z1
  obtain ⟨rfl, N1q, e1⟩ := hQ1
  have N1 := Fr.app N0 N1q
  refine ⟨T1, _, X1, e1, N1, fun target kt => ?_⟩
  show Steps p.tables e below (T0.setTop (mkF m 275 #[.val (.int p0), .val (.int p1), .val (.int p2), .val (.int x), .val (.int y), .val (.int w0), .val (.int w1), .val (.int w2), .val (.int d0), .val (.int d1), .val (.int d2), .val (.ref wx), .val (.ref dx), .val (.ref rx), .val (.ref xs), .val (.int nn), .val (.int ((4 : Int32) + x))] [])) _
  refine XS.iload X0.here hx rfl (hb hby at_275) rfl ?_
  show Steps p.tables e below (T0.setTop (mkF m 277 #[.val (.int p0), .val (.int p1), .val (.int p2), .val (.int x), .val (.int y), .val (.int w0), .val (.int w1), .val (.int w2), .val (.int d0), .val (.int d1), .val (.int d2), .val (.ref wx), .val (.ref dx), .val (.ref rx), .val (.ref xs), .val (.int nn), .val (.int ((4 : Int32) + x))] [(.int y)])) _
  refine XS.iconst X0.here hx rfl (hb hby at_277) ?_
  show Steps p.tables e below (T0.setTop (mkF m 278 #[.val (.int p0), .val (.int p1), .val (.int p2), .val (.int x), .val (.int y), .val (.int w0), .val (.int w1), .val (.int w2), .val (.int d0), .val (.int d1), .val (.int d2), .val (.ref wx), .val (.ref dx), .val (.ref rx), .val (.ref xs), .val (.int nn), .val (.int ((4 : Int32) + x))] [(.int (1 : Int32)), (.int y)])) _
  refine XS.icmpNo X0.here hx rfl (hb hby at_278) rfl (tlt (hq : (1 : Int32) < y)).2.2.2 ?_
  show Steps p.tables e below (T0.setTop (mkF m 281 #[.val (.int p0), .val (.int p1), .val (.int p2), .val (.int x), .val (.int y), .val (.int w0), .val (.int w1), .val (.int w2), .val (.int d0), .val (.int d1), .val (.int d2), .val (.ref wx), .val (.ref dx), .val (.ref rx), .val (.ref xs), .val (.int nn), .val (.int ((4 : Int32) + x))] [])) _
  refine XS.aload X0.here hx rfl (hb hby at_281) rfl rfl ?_
  show Steps p.tables e below (T0.setTop (mkF m 283 #[.val (.int p0), .val (.int p1), .val (.int p2), .val (.int x), .val (.int y), .val (.int w0), .val (.int w1), .val (.int w2), .val (.int d0), .val (.int d1), .val (.int d2), .val (.ref wx), .val (.ref dx), .val (.ref rx), .val (.ref xs), .val (.int nn), .val (.int ((4 : Int32) + x))] [(.ref xs)])) _
  refine XS.iload X0.here hx rfl (hb hby at_283) rfl ?_
  show Steps p.tables e below (T0.setTop (mkF m 285 #[.val (.int p0), .val (.int p1), .val (.int p2), .val (.int x), .val (.int y), .val (.int w0), .val (.int w1), .val (.int w2), .val (.int d0), .val (.int d1), .val (.int d2), .val (.ref wx), .val (.ref dx), .val (.ref rx), .val (.ref xs), .val (.int nn), .val (.int ((4 : Int32) + x))] [(.int ((4 : Int32) + x)), (.ref xs)])) _
  refine XS.iconst X0.here hx rfl (hb hby at_285) ?_
  show Steps p.tables e below (T0.setTop (mkF m 286 #[.val (.int p0), .val (.int p1), .val (.int p2), .val (.int x), .val (.int y), .val (.int w0), .val (.int w1), .val (.int w2), .val (.int d0), .val (.int d1), .val (.int d2), .val (.ref wx), .val (.ref dx), .val (.ref rx), .val (.ref xs), .val (.int nn), .val (.int ((4 : Int32) + x))] [(.int (2 : Int32)), (.int ((4 : Int32) + x)), (.ref xs)])) _
  refine XS.iadd X0.here hx rfl (hb hby at_286) rfl ?_
  show Steps p.tables e below (T0.setTop (mkF m 287 #[.val (.int p0), .val (.int p1), .val (.int p2), .val (.int x), .val (.int y), .val (.int w0), .val (.int w1), .val (.int w2), .val (.int d0), .val (.int d1), .val (.int d2), .val (.ref wx), .val (.ref dx), .val (.ref rx), .val (.ref xs), .val (.int nn), .val (.int ((4 : Int32) + x))] [(.int (((4 : Int32) + x) + (2 : Int32))), (.ref xs)])) _
  refine st1.trans ?_
  show Steps p.tables e below (T1.setTop (mkF m 290 #[.val (.int p0), .val (.int p1), .val (.int p2), .val (.int x), .val (.int y), .val (.int w0), .val (.int w1), .val (.int w2), .val (.int d0), .val (.int d1), .val (.int d2), .val (.ref wx), .val (.ref dx), .val (.ref rx), .val (.ref xs), .val (.int nn), .val (.int ((4 : Int32) + x))] [(.int (cs.getD (i + 2) 0))])) _
  refine XS.iload X1.here hx rfl (hb hby at_290) rfl ?_
  show Steps p.tables e below (T1.setTop (mkF m 292 #[.val (.int p0), .val (.int p1), .val (.int p2), .val (.int x), .val (.int y), .val (.int w0), .val (.int w1), .val (.int w2), .val (.int d0), .val (.int d1), .val (.int d2), .val (.ref wx), .val (.ref dx), .val (.ref rx), .val (.ref xs), .val (.int nn), .val (.int ((4 : Int32) + x))] [(.int d1), (.int (cs.getD (i + 2) 0))])) _
  refine XS.icmpYes X1.here hx rfl (pc0 := 292) (pc' := 297) rfl (hb hby at_292) rfl (teq (hp.2.2 : (cs.getD (i + 2) 0) = d1)).1 (by decide) (by decide) ?_
  exact kt
theorem sgD1_0 {p : Program} {l : Launch} {e : Env} {s : State} {m : MethodId} {args : Array Value} {below : List Frame} {meth : Method} {c : Code} {T0 : State} {locs : List Loc} {Z : State} {a0 : Array Value} {h0 : Heap} {n0 : Nat} (X0 : Stand p l e room_1 s m args below meth c T0 locs 22 2855) (hx : p.tables.exec = Jvm.exec) (hZ : Z.Warmed39 s.vm) (hw : ∀ d ∈ tables_1, d.before a0 Z = true) (hby : c.code = code) (hml : c.maxLocals = 17) (hown : s.vm.findClass "com/example/riverside/riverside/RefusedExceptionReplyLinePinLaw" = some m.cls) (e0 : T0.heap = h0) (N0 : Fr n0 locs) (O0 : Old Z n0 h0) {p0 p1 p2 x y w0 w1 w2 d0 d1 d2 nn z : Int32} {wx dx rx xs nb : Addr} {kn : ClassId} {cs : List Int32} {fm : Value} (Ex : Exa Z h0 xs "java/lang/String") (Vx : Fld Z h0 xs "java/lang/String" "value" "[B" (.ref nb)) (Cx : Fld Z h0 xs "java/lang/String" "coder" "B" (.int 0)) (Kx : Arv Z h0 nb kn .byte (Int32.ofNat (cs).length) (((cs).map StrChars.lo8).map Value.int) (.int 0)) (SC : Sta Z Z.heap "java/lang/String" "COMPACT_STRINGS" "Z" (.int z)) (hz : ¬ z = 0) (SF : Sta Z Z.heap "jdk/internal/util/Preconditions" "SIOOBE_FORMATTER" "Ljava/util/function/BiFunction;" fm) (hf : fm.isRef = true) (hg : own_good cs) {i : Nat} (hq : (1 : Int32) < y → own_P cs (i + 2) (((4 : Int32) + x) + (2 : Int32)) d1) :
    ∃ (T' : State) (locs' : List Loc), Stand p l e room_1 s m args below meth c T' locs' 22 2855 ∧ T'.heap = h0 ∧ Fr n0 locs' ∧ ∀ target, Steps p.tables e below (T'.setTop (mkF m 297 #[.val (.int p0), .val (.int p1), .val (.int p2), .val (.int x), .val (.int y), .val (.int w0), .val (.int w1), .val (.int w2), .val (.int d0), .val (.int d1), .val (.int d2), .val (.ref wx), .val (.ref dx), .val (.ref rx), .val (.ref xs), .val (.int nn), .val (.int ((4 : Int32) + x))] [])) target → Steps p.tables e below (T0.setTop (mkF m 275 #[.val (.int p0), .val (.int p1), .val (.int p2), .val (.int x), .val (.int y), .val (.int w0), .val (.int w1), .val (.int w2), .val (.int d0), .val (.int d1), .val (.int d2), .val (.ref wx), .val (.ref dx), .val (.ref rx), .val (.ref xs), .val (.int nn), .val (.int ((4 : Int32) + x))] [])) target := by
  by_cases q : (1 : Int32) < y
  · exact sgD1y_0 X0 hx hZ hw hby hml hown e0 N0 O0 Ex Vx Cx Kx SC hz SF hf hg q (hq q)
  · exact sgD1n_0 X0 hx hZ hw hby hml hown e0 N0 O0 Ex Vx Cx Kx SC hz SF hf hg q
set_option maxRecDepth 65536 in
set_option maxHeartbeats 40000000 in
theorem sgD2n_0 {p : Program} {l : Launch} {e : Env} {s : State} {m : MethodId} {args : Array Value} {below : List Frame} {meth : Method} {c : Code} {T0 : State} {locs : List Loc} {Z : State} {a0 : Array Value} {h0 : Heap} {n0 : Nat} (X0 : Stand p l e room_1 s m args below meth c T0 locs 22 2855) (hx : p.tables.exec = Jvm.exec) (hZ : Z.Warmed39 s.vm) (hw : ∀ d ∈ tables_1, d.before a0 Z = true) (hby : c.code = code) (hml : c.maxLocals = 17) (hown : s.vm.findClass "com/example/riverside/riverside/RefusedExceptionReplyLinePinLaw" = some m.cls) (e0 : T0.heap = h0) (N0 : Fr n0 locs) (O0 : Old Z n0 h0) {p0 p1 p2 x y w0 w1 w2 d0 d1 d2 nn z : Int32} {wx dx rx xs nb : Addr} {kn : ClassId} {cs : List Int32} {fm : Value} (Ex : Exa Z h0 xs "java/lang/String") (Vx : Fld Z h0 xs "java/lang/String" "value" "[B" (.ref nb)) (Cx : Fld Z h0 xs "java/lang/String" "coder" "B" (.int 0)) (Kx : Arv Z h0 nb kn .byte (Int32.ofNat (cs).length) (((cs).map StrChars.lo8).map Value.int) (.int 0)) (SC : Sta Z Z.heap "java/lang/String" "COMPACT_STRINGS" "Z" (.int z)) (hz : ¬ z = 0) (SF : Sta Z Z.heap "jdk/internal/util/Preconditions" "SIOOBE_FORMATTER" "Ljava/util/function/BiFunction;" fm) (hf : fm.isRef = true) (hg : own_good cs) (hq : ¬ ((2 : Int32) < y)) :
    ∃ (T' : State) (locs' : List Loc), Stand p l e room_1 s m args below meth c T' locs' 22 2855 ∧ T'.heap = h0 ∧ Fr n0 locs' ∧ ∀ target, Steps p.tables e below (T'.setTop (mkF m 319 #[.val (.int p0), .val (.int p1), .val (.int p2), .val (.int x), .val (.int y), .val (.int w0), .val (.int w1), .val (.int w2), .val (.int d0), .val (.int d1), .val (.int d2), .val (.ref wx), .val (.ref dx), .val (.ref rx), .val (.ref xs), .val (.int nn), .val (.int ((4 : Int32) + x))] [])) target → Steps p.tables e below (T0.setTop (mkF m 297 #[.val (.int p0), .val (.int p1), .val (.int p2), .val (.int x), .val (.int y), .val (.int w0), .val (.int w1), .val (.int w2), .val (.int d0), .val (.int d1), .val (.int d2), .val (.ref wx), .val (.ref dx), .val (.ref rx), .val (.ref xs), .val (.int nn), .val (.int ((4 : Int32) + x))] [])) target := by
  refine ⟨T0, _, X0, e0, N0, fun target kt => ?_⟩
  show Steps p.tables e below (T0.setTop (mkF m 297 #[.val (.int p0), .val (.int p1), .val (.int p2), .val (.int x), .val (.int y), .val (.int w0), .val (.int w1), .val (.int w2), .val (.int d0), .val (.int d1), .val (.int d2), .val (.ref wx), .val (.ref dx), .val (.ref rx), .val (.ref xs), .val (.int nn), .val (.int ((4 : Int32) + x))] [])) _
  refine XS.iload X0.here hx rfl (hb hby at_297) rfl ?_
  show Steps p.tables e below (T0.setTop (mkF m 299 #[.val (.int p0), .val (.int p1), .val (.int p2), .val (.int x), .val (.int y), .val (.int w0), .val (.int w1), .val (.int w2), .val (.int d0), .val (.int d1), .val (.int d2), .val (.ref wx), .val (.ref dx), .val (.ref rx), .val (.ref xs), .val (.int nn), .val (.int ((4 : Int32) + x))] [(.int y)])) _
  refine XS.iconst X0.here hx rfl (hb hby at_299) ?_
  show Steps p.tables e below (T0.setTop (mkF m 300 #[.val (.int p0), .val (.int p1), .val (.int p2), .val (.int x), .val (.int y), .val (.int w0), .val (.int w1), .val (.int w2), .val (.int d0), .val (.int d1), .val (.int d2), .val (.ref wx), .val (.ref dx), .val (.ref rx), .val (.ref xs), .val (.int nn), .val (.int ((4 : Int32) + x))] [(.int (2 : Int32)), (.int y)])) _
  refine XS.icmpYes X0.here hx rfl (pc0 := 300) (pc' := 319) rfl (hb hby at_300) rfl (flt (hq : ¬ ((2 : Int32) < y))).2.2.2 (by decide) (by decide) ?_
  exact kt
set_option maxRecDepth 65536 in
set_option maxHeartbeats 40000000 in
theorem sgD2y_0 {p : Program} {l : Launch} {e : Env} {s : State} {m : MethodId} {args : Array Value} {below : List Frame} {meth : Method} {c : Code} {T0 : State} {locs : List Loc} {Z : State} {a0 : Array Value} {h0 : Heap} {n0 : Nat} (X0 : Stand p l e room_1 s m args below meth c T0 locs 22 2855) (hx : p.tables.exec = Jvm.exec) (hZ : Z.Warmed39 s.vm) (hw : ∀ d ∈ tables_1, d.before a0 Z = true) (hby : c.code = code) (hml : c.maxLocals = 17) (hown : s.vm.findClass "com/example/riverside/riverside/RefusedExceptionReplyLinePinLaw" = some m.cls) (e0 : T0.heap = h0) (N0 : Fr n0 locs) (O0 : Old Z n0 h0) {p0 p1 p2 x y w0 w1 w2 d0 d1 d2 nn z : Int32} {wx dx rx xs nb : Addr} {kn : ClassId} {cs : List Int32} {fm : Value} (Ex : Exa Z h0 xs "java/lang/String") (Vx : Fld Z h0 xs "java/lang/String" "value" "[B" (.ref nb)) (Cx : Fld Z h0 xs "java/lang/String" "coder" "B" (.int 0)) (Kx : Arv Z h0 nb kn .byte (Int32.ofNat (cs).length) (((cs).map StrChars.lo8).map Value.int) (.int 0)) (SC : Sta Z Z.heap "java/lang/String" "COMPACT_STRINGS" "Z" (.int z)) (hz : ¬ z = 0) (SF : Sta Z Z.heap "jdk/internal/util/Preconditions" "SIOOBE_FORMATTER" "Ljava/util/function/BiFunction;" fm) (hf : fm.isRef = true) (hg : own_good cs) {i : Nat} (hq : (2 : Int32) < y) (hp : own_P cs (i + 3) (((4 : Int32) + x) + (3 : Int32)) d2) :
    ∃ (T' : State) (locs' : List Loc), Stand p l e room_1 s m args below meth c T' locs' 22 2855 ∧ T'.heap = h0 ∧ Fr n0 locs' ∧ ∀ target, Steps p.tables e below (T'.setTop (mkF m 319 #[.val (.int p0), .val (.int p1), .val (.int p2), .val (.int x), .val (.int y), .val (.int w0), .val (.int w1), .val (.int w2), .val (.int d0), .val (.int d1), .val (.int d2), .val (.ref wx), .val (.ref dx), .val (.ref rx), .val (.ref xs), .val (.int nn), .val (.int ((4 : Int32) + x))] [])) target → Steps p.tables e below (T0.setTop (mkF m 297 #[.val (.int p0), .val (.int p1), .val (.int p2), .val (.int x), .val (.int y), .val (.int w0), .val (.int w1), .val (.int w2), .val (.int d0), .val (.int d1), .val (.int d2), .val (.ref wx), .val (.ref dx), .val (.ref rx), .val (.ref xs), .val (.int nn), .val (.int ((4 : Int32) + x))] [])) target := by
  obtain ⟨cq1, kq1, q1a, q1b, q1c⟩ := isOf hZ e0 Ex
  obtain ⟨_, _, ⟨T1, L1, k1, n1⟩, -, X1, ⟨Lc1, hQ1, l1, y1, z1⟩, st1⟩ := X0.virtualBack hx (y := (⟨"java/lang/String", "charAt", "(I)C"⟩ : MethodName)) (z := (⟨"java/lang/String", "charAt", "(I)C"⟩ : MethodName)) hown (mvT hZ (ww hw 215 rfl)) (mvT hZ (ww hw 216 rfl)) (notFace_of_selects (args := #[]) (mvT hZ (ww hw 218 rfl))) (mvT hZ (ww hw 218 rfl)) (mvT hZ (ww hw 217 rfl)) (by decide) (own_bk (n0 := n0) (fun _ q => q) (StrChars.Road.chN (W := 0) hZ (own_wC hw) (kI := 4) (ww hw 8 rfl) Ex Vx Cx Kx (own_cd hg) (own_hb hg) (Sta.ext O0.2 SC) hz (Sta.ext O0.2 SF) hf (Nat.le_trans hg.1 (by decide)) (i := (i + 3)) hp.1 hp.2.1 (by decide) (by decide))) q1a q1c (g := (mkF m 309 #[.val (.int p0), .val (.int p1), .val (.int p2), .val (.int x), .val (.int y), .val (.int w0), .val (.int w1), .val (.int w2), .val (.int d0), .val (.int d1), .val (.int d2), .val (.ref wx), .val (.ref dx), .val (.ref rx), .val (.ref xs), .val (.int nn), .val (.int ((4 : Int32) + x))] [(.int (((4 : Int32) + x) + (3 : Int32))), (.ref xs)])) rfl (by rw [hml]; rfl) (Steps.refl _) (argsL := [(.int (((4 : Int32) + x) + (3 : Int32)))]) (rest := []) (lenOf own_pd19 rfl) rfl (by show 2 * 0 + _ ≤ _; exact Nat.le_of_eq rfl) (hb hby at_309) (fun _ _ => ⟨rfl, e0, (by decide : 22 + 0 ≤ _), (by decide : 2855 + 0 ≤ _)⟩)
  dsimp only [Pt.U, Pt.locs, Pt.cells, Pt.slots] at X1 l1 y1 z1 st1 hQ1
  subst l1 y1 z1
  obtain ⟨rfl, N1q, e1⟩ := hQ1
  have N1 := Fr.app N0 N1q
  refine ⟨T1, _, X1, e1, N1, fun target kt => ?_⟩
  show Steps p.tables e below (T0.setTop (mkF m 297 #[.val (.int p0), .val (.int p1), .val (.int p2), .val (.int x), .val (.int y), .val (.int w0), .val (.int w1), .val (.int w2), .val (.int d0), .val (.int d1), .val (.int d2), .val (.ref wx), .val (.ref dx), .val (.ref rx), .val (.ref xs), .val (.int nn), .val (.int ((4 : Int32) + x))] [])) _
  refine XS.iload X0.here hx rfl (hb hby at_297) rfl ?_
  show Steps p.tables e below (T0.setTop (mkF m 299 #[.val (.int p0), .val (.int p1), .val (.int p2), .val (.int x), .val (.int y), .val (.int w0), .val (.int w1), .val (.int w2), .val (.int d0), .val (.int d1), .val (.int d2), .val (.ref wx), .val (.ref dx), .val (.ref rx), .val (.ref xs), .val (.int nn), .val (.int ((4 : Int32) + x))] [(.int y)])) _
  refine XS.iconst X0.here hx rfl (hb hby at_299) ?_
  show Steps p.tables e below (T0.setTop (mkF m 300 #[.val (.int p0), .val (.int p1), .val (.int p2), .val (.int x), .val (.int y), .val (.int w0), .val (.int w1), .val (.int w2), .val (.int d0), .val (.int d1), .val (.int d2), .val (.ref wx), .val (.ref dx), .val (.ref rx), .val (.ref xs), .val (.int nn), .val (.int ((4 : Int32) + x))] [(.int (2 : Int32)), (.int y)])) _
  refine XS.icmpNo X0.here hx rfl (hb hby at_300) rfl (tlt (hq : (2 : Int32) < y)).2.2.2 ?_
  show Steps p.tables e below (T0.setTop (mkF m 303 #[.val (.int p0), .val (.int p1), .val (.int p2), .val (.int x), .val (.int y), .val (.int w0), .val (.int w1), .val (.int w2), .val (.int d0), .val (.int d1), .val (.int d2), .val (.ref wx), .val (.ref dx), .val (.ref rx), .val (.ref xs), .val (.int nn), .val (.int ((4 : Int32) + x))] [])) _
  refine XS.aload X0.here hx rfl (hb hby at_303) rfl rfl ?_
  show Steps p.tables e below (T0.setTop (mkF m 305 #[.val (.int p0), .val (.int p1), .val (.int p2), .val (.int x), .val (.int y), .val (.int w0), .val (.int w1), .val (.int w2), .val (.int d0), .val (.int d1), .val (.int d2), .val (.ref wx), .val (.ref dx), .val (.ref rx), .val (.ref xs), .val (.int nn), .val (.int ((4 : Int32) + x))] [(.ref xs)])) _
  refine XS.iload X0.here hx rfl (hb hby at_305) rfl ?_
  show Steps p.tables e below (T0.setTop (mkF m 307 #[.val (.int p0), .val (.int p1), .val (.int p2), .val (.int x), .val (.int y), .val (.int w0), .val (.int w1), .val (.int w2), .val (.int d0), .val (.int d1), .val (.int d2), .val (.ref wx), .val (.ref dx), .val (.ref rx), .val (.ref xs), .val (.int nn), .val (.int ((4 : Int32) + x))] [(.int ((4 : Int32) + x)), (.ref xs)])) _
  refine XS.iconst X0.here hx rfl (hb hby at_307) ?_
  show Steps p.tables e below (T0.setTop (mkF m 308 #[.val (.int p0), .val (.int p1), .val (.int p2), .val (.int x), .val (.int y), .val (.int w0), .val (.int w1), .val (.int w2), .val (.int d0), .val (.int d1), .val (.int d2), .val (.ref wx), .val (.ref dx), .val (.ref rx), .val (.ref xs), .val (.int nn), .val (.int ((4 : Int32) + x))] [(.int (3 : Int32)), (.int ((4 : Int32) + x)), (.ref xs)])) _
  refine XS.iadd X0.here hx rfl (hb hby at_308) rfl ?_
  show Steps p.tables e below (T0.setTop (mkF m 309 #[.val (.int p0), .val (.int p1), .val (.int p2), .val (.int x), .val (.int y), .val (.int w0), .val (.int w1), .val (.int w2), .val (.int d0), .val (.int d1), .val (.int d2), .val (.ref wx), .val (.ref dx), .val (.ref rx), .val (.ref xs), .val (.int nn), .val (.int ((4 : Int32) + x))] [(.int (((4 : Int32) + x) + (3 : Int32))), (.ref xs)])) _
  refine st1.trans ?_
  show Steps p.tables e below (T1.setTop (mkF m 312 #[.val (.int p0), .val (.int p1), .val (.int p2), .val (.int x), .val (.int y), .val (.int w0), .val (.int w1), .val (.int w2), .val (.int d0), .val (.int d1), .val (.int d2), .val (.ref wx), .val (.ref dx), .val (.ref rx), .val (.ref xs), .val (.int nn), .val (.int ((4 : Int32) + x))] [(.int (cs.getD (i + 3) 0))])) _
  refine XS.iload X1.here hx rfl (hb hby at_312) rfl ?_
  show Steps p.tables e below (T1.setTop (mkF m 314 #[.val (.int p0), .val (.int p1), .val (.int p2), .val (.int x), .val (.int y), .val (.int w0), .val (.int w1), .val (.int w2), .val (.int d0), .val (.int d1), .val (.int d2), .val (.ref wx), .val (.ref dx), .val (.ref rx), .val (.ref xs), .val (.int nn), .val (.int ((4 : Int32) + x))] [(.int d2), (.int (cs.getD (i + 3) 0))])) _
  refine XS.icmpYes X1.here hx rfl (pc0 := 314) (pc' := 319) rfl (hb hby at_314) rfl (teq (hp.2.2 : (cs.getD (i + 3) 0) = d2)).1 (by decide) (by decide) ?_
  exact kt
theorem sgD2_0 {p : Program} {l : Launch} {e : Env} {s : State} {m : MethodId} {args : Array Value} {below : List Frame} {meth : Method} {c : Code} {T0 : State} {locs : List Loc} {Z : State} {a0 : Array Value} {h0 : Heap} {n0 : Nat} (X0 : Stand p l e room_1 s m args below meth c T0 locs 22 2855) (hx : p.tables.exec = Jvm.exec) (hZ : Z.Warmed39 s.vm) (hw : ∀ d ∈ tables_1, d.before a0 Z = true) (hby : c.code = code) (hml : c.maxLocals = 17) (hown : s.vm.findClass "com/example/riverside/riverside/RefusedExceptionReplyLinePinLaw" = some m.cls) (e0 : T0.heap = h0) (N0 : Fr n0 locs) (O0 : Old Z n0 h0) {p0 p1 p2 x y w0 w1 w2 d0 d1 d2 nn z : Int32} {wx dx rx xs nb : Addr} {kn : ClassId} {cs : List Int32} {fm : Value} (Ex : Exa Z h0 xs "java/lang/String") (Vx : Fld Z h0 xs "java/lang/String" "value" "[B" (.ref nb)) (Cx : Fld Z h0 xs "java/lang/String" "coder" "B" (.int 0)) (Kx : Arv Z h0 nb kn .byte (Int32.ofNat (cs).length) (((cs).map StrChars.lo8).map Value.int) (.int 0)) (SC : Sta Z Z.heap "java/lang/String" "COMPACT_STRINGS" "Z" (.int z)) (hz : ¬ z = 0) (SF : Sta Z Z.heap "jdk/internal/util/Preconditions" "SIOOBE_FORMATTER" "Ljava/util/function/BiFunction;" fm) (hf : fm.isRef = true) (hg : own_good cs) {i : Nat} (hq : (2 : Int32) < y → own_P cs (i + 3) (((4 : Int32) + x) + (3 : Int32)) d2) :
    ∃ (T' : State) (locs' : List Loc), Stand p l e room_1 s m args below meth c T' locs' 22 2855 ∧ T'.heap = h0 ∧ Fr n0 locs' ∧ ∀ target, Steps p.tables e below (T'.setTop (mkF m 319 #[.val (.int p0), .val (.int p1), .val (.int p2), .val (.int x), .val (.int y), .val (.int w0), .val (.int w1), .val (.int w2), .val (.int d0), .val (.int d1), .val (.int d2), .val (.ref wx), .val (.ref dx), .val (.ref rx), .val (.ref xs), .val (.int nn), .val (.int ((4 : Int32) + x))] [])) target → Steps p.tables e below (T0.setTop (mkF m 297 #[.val (.int p0), .val (.int p1), .val (.int p2), .val (.int x), .val (.int y), .val (.int w0), .val (.int w1), .val (.int w2), .val (.int d0), .val (.int d1), .val (.int d2), .val (.ref wx), .val (.ref dx), .val (.ref rx), .val (.ref xs), .val (.int nn), .val (.int ((4 : Int32) + x))] [])) target := by
  by_cases q : (2 : Int32) < y
  · exact sgD2y_0 X0 hx hZ hw hby hml hown e0 N0 O0 Ex Vx Cx Kx SC hz SF hf hg q (hq q)
  · exact sgD2n_0 X0 hx hZ hw hby hml hown e0 N0 O0 Ex Vx Cx Kx SC hz SF hf hg q
theorem own_pd20 : parseMethodDescriptor "(II)C" = some ⟨[.int, .int], some .char⟩ := by decide +kernel
theorem own_pd21 : parseMethodDescriptor "(ICCC)Ljava/lang/String;" = some ⟨[.int, .char, .char, .char], some (.object "java/lang/String")⟩ := by decide +kernel
theorem own_pd22 : parseMethodDescriptor "(Ljava/lang/String;Ljava/lang/String;)V" = some ⟨[(.object "java/lang/String"), (.object "java/lang/String")], none⟩ := by decide +kernel
theorem ef_0 (m : MethodId) (x0 : Int32) (x1 : Int32) (x2 : Int32) : entryFrame m #[(.int x0), (.int x1), (.int x2)] maxLocals = mkF m 0 #[.val (.int x0), .val (.int x1), .val (.int x2), .unset, .unset, .unset, .unset, .unset, .unset, .unset, .unset, .unset, .unset, .unset, .unset, .unset, .unset] [] := by first | (simp [entryFrame, mkF, argsToLocals, Value.category, maxLocals]; done) | rfl
theorem pn_0 : plainName "com/example/riverside/riverside/RefusedExceptionReplyLinePinLaw" = true := by first | (simp [plainName, overriddenIn]; done) | decide +kernel
def Qd25 (Z : State) (p0 p1 p2 z : Int32) (fm uu sen : Value) (h0 : Heap) (n0 : Nat) (v : Option Value) (h : Heap) (L : List Loc) : Prop := v = some (.int 1) ∧ Fr n0 L
set_option maxRecDepth 65536 in
set_option maxHeartbeats 40000000 in
theorem rm00 (l : Launch) (Z : State) (a0 : Array Value) (hw : ∀ d ∈ tables_1, d.before a0 Z = true) (ws : List Jvm.Cond) (p0 p1 p2 z : Int32) (fm uu sen : Value) (h0 : Heap) (n0 : Nat) (O0 : Old Z n0 h0) (SC : Sta Z Z.heap "java/lang/String" "COMPACT_STRINGS" "Z" (.int z)) (hz : ¬ z = 0) (SF : Sta Z Z.heap "jdk/internal/util/Preconditions" "SIOOBE_FORMATTER" "Ljava/util/function/BiFunction;" fm) (hf : fm.isRef = true) (SU : Sta Z Z.heap "java/lang/Throwable" "UNASSIGNED_STACK" "[Ljava/lang/StackTraceElement;" uu) (SS : Sta Z Z.heap "java/lang/Throwable" "SUPPRESSED_SENTINEL" "Ljava/util/List;" sen) (hu : uu.isRef = true) (hn : sen.isRef = true) (hST : l.stackTraces = true) (hdl : (((p0.toUInt32 >>> ((2 : Int32) &&& 31).toUInt32).toInt32) &&& (3 : Int32)) = (0 : Int32)) :
    MetFree l x (head1 (Jvm.Cond.code x code maxLocals ret :: ws) room_1) (fun qq U => qq = #[(.int p0), (.int p1), (.int p2)] ∧ Z.Warmed39 U.vm ∧ U.heap = h0 ∧ CHv Z consts_1 U.vm h0) (fun _ _ bl st _ => st.vm.MethodsKnown ∧ st.vm.FramesKnown bl) (fun _ UU oo UU' => ∃ vv LL, oo = .returned vv ∧ Qd25 Z p0 p1 p2 z fm uu sen h0 n0 vv UU'.heap LL ∧ CHr Z consts_1 UU.vm UU.heap UU'.vm UU'.heap ∧ ReturnedEndW UU oo UU' LL room_1.cells room_1.slots) := by
  refine MetFree.of_bodySF (plainFor_of_name pn_0) hisR ?_
  intro p e s m args below meth c s₁ Bd hml0 hP hK
  obtain ⟨rfl, hZ, hh, hC0⟩ := hP
  have hZ : Z.Warmed39 (s.setVm s.vm).vm := hZ
  have CR0 := CHr.refl hC0
  have hx := Bd.exec
  have hby := Bd.bytes
  have hml : c.maxLocals = 17 := hml0
  have hown : (s.setVm s.vm).vm.findClass "com/example/riverside/riverside/RefusedExceptionReplyLinePinLaw" = some m.cls := findClass_of_methodNamed Bd.named
  have hnm := (name_of_methodNamed Bd.named Bd.method).1
  have X0 : Stand p l e room_1 (s.setVm s.vm) m #[(.int p0), (.int p1), (.int p2)] below meth c s₁ [] 0 0 := Stand.of_body Bd
  have e0 : s₁.heap = h0 := by rw [← hh, Bd.state]; rfl
  have N0 := Fr.nil n0
  have pre0 : ∀ tgt, Steps p.tables e below (s₁.setTop (mkF m 0 #[.val (.int p0), .val (.int p1), .val (.int p2), .unset, .unset, .unset, .unset, .unset, .unset, .unset, .unset, .unset, .unset, .unset, .unset, .unset, .unset] [])) tgt → Steps p.tables e below (s₁.setTop (entryFrame m #[(.int p0), (.int p1), (.int p2)] maxLocals)) tgt := fun tt kk => castTop (ef_0 m p0 p1 p2) kk
  have hZs := hZ
  obtain ⟨x, y, ⟨hx_, hy_, hye⟩, stA⟩ := lawpre (p0 := p0) (p1 := p1) (p2 := p2) X0 hx hZ hw hby hown e0
  rw [← hye] at hdl
  obtain ⟨_, _, ⟨T1q, L1q, k1q, n1q⟩, -, X1q, ⟨Lc1q, hQ1q, l1q, y1q, z1q⟩, st1q⟩ := Jvm.LawKit.callS X0 hx (y := (⟨"com/example/riverside/riverside/RefusedExceptionReplyLinePinLaw", "ch", "(II)C"⟩ : MethodName)) hown (mvT hZ (ww hw 0 rfl)) (mvT hZ (ww hw 1 rfl)) (mvT hZ (ww hw 2 rfl)) (mvT hZ (ww hw 3 rfl)) (by decide) (backOf (W := 0) (rmCh l Z a0 hw [] p1 (0 : Int32) h0 n0) hZ (ww hw 3 rfl) (ww hw 2 rfl) (by decide) (by decide)) (g := (mkF m 13 #[.val (.int p0), .val (.int p1), .val (.int p2), .val (.int x), .val (.int y), .unset, .unset, .unset, .unset, .unset, .unset, .unset, .unset, .unset, .unset, .unset, .unset] [(.int (0 : Int32)), (.int p1)])) rfl (by rw [hml]; rfl) (argsL := [(.int p1), (.int (0 : Int32))]) (rest := []) (lenOf own_pd20 rfl) rfl (by show 2 * 0 + _ ≤ _; exact Nat.le_of_eq rfl) (hb hby at_13) (fun _ _ => ⟨rfl, e0, (by decide : 0 + 0 ≤ _), (by decide : 0 + 0 ≤ _)⟩)
  dsimp only [Pt.U, Pt.locs, Pt.cells, Pt.slots] at X1q l1q y1q z1q st1q hQ1q
  subst l1q y1q z1q
  obtain ⟨w0, rfl, N1qq, e1q, Hw0⟩ := hQ1q
  have N1q := Fr.app N0 N1qq
  obtain ⟨_, _, ⟨T2q, L2q, k2q, n2q⟩, -, X2q, ⟨Lc2q, hQ2q, l2q, y2q, z2q⟩, st2q⟩ := Jvm.LawKit.callS X1q hx (y := (⟨"com/example/riverside/riverside/RefusedExceptionReplyLinePinLaw", "ch", "(II)C"⟩ : MethodName)) hown (mvT hZ (ww hw 0 rfl)) (mvT hZ (ww hw 1 rfl)) (mvT hZ (ww hw 2 rfl)) (mvT hZ (ww hw 3 rfl)) (by decide) (backOf (W := 0) (rmCh l Z a0 hw [] p1 (8 : Int32) h0 n0) hZ (ww hw 3 rfl) (ww hw 2 rfl) (by decide) (by decide)) (g := (mkF m 21 #[.val (.int p0), .val (.int p1), .val (.int p2), .val (.int x), .val (.int y), .val (.int w0), .unset, .unset, .unset, .unset, .unset, .unset, .unset, .unset, .unset, .unset, .unset] [(.int (8 : Int32)), (.int p1)])) rfl (by rw [hml]; rfl) (argsL := [(.int p1), (.int (8 : Int32))]) (rest := []) (lenOf own_pd20 rfl) rfl (by show 2 * 0 + _ ≤ _; exact Nat.le_of_eq rfl) (hb hby at_21) (fun _ _ => ⟨rfl, e1q, (by decide : 0 + 0 ≤ _), (by decide : 0 + 0 ≤ _)⟩)
  dsimp only [Pt.U, Pt.locs, Pt.cells, Pt.slots] at X2q l2q y2q z2q st2q hQ2q
  subst l2q y2q z2q
  obtain ⟨w1, rfl, N2qq, e2q, Hw1⟩ := hQ2q
  have N2q := Fr.app N1q N2qq
  obtain ⟨_, _, ⟨T3q, L3q, k3q, n3q⟩, -, X3q, ⟨Lc3q, hQ3q, l3q, y3q, z3q⟩, st3q⟩ := Jvm.LawKit.callS X2q hx (y := (⟨"com/example/riverside/riverside/RefusedExceptionReplyLinePinLaw", "ch", "(II)C"⟩ : MethodName)) hown (mvT hZ (ww hw 0 rfl)) (mvT hZ (ww hw 1 rfl)) (mvT hZ (ww hw 2 rfl)) (mvT hZ (ww hw 3 rfl)) (by decide) (backOf (W := 0) (rmCh l Z a0 hw [] p1 (16 : Int32) h0 n0) hZ (ww hw 3 rfl) (ww hw 2 rfl) (by decide) (by decide)) (g := (mkF m 29 #[.val (.int p0), .val (.int p1), .val (.int p2), .val (.int x), .val (.int y), .val (.int w0), .val (.int w1), .unset, .unset, .unset, .unset, .unset, .unset, .unset, .unset, .unset, .unset] [(.int (16 : Int32)), (.int p1)])) rfl (by rw [hml]; rfl) (argsL := [(.int p1), (.int (16 : Int32))]) (rest := []) (lenOf own_pd20 rfl) rfl (by show 2 * 0 + _ ≤ _; exact Nat.le_of_eq rfl) (hb hby at_29) (fun _ _ => ⟨rfl, e2q, (by decide : 0 + 0 ≤ _), (by decide : 0 + 0 ≤ _)⟩)
  dsimp only [Pt.U, Pt.locs, Pt.cells, Pt.slots] at X3q l3q y3q z3q st3q hQ3q
  subst l3q y3q z3q
  obtain ⟨w2, rfl, N3qq, e3q, Hw2⟩ := hQ3q
  have N3q := Fr.app N2q N3qq
  obtain ⟨_, _, ⟨T4q, L4q, k4q, n4q⟩, -, X4q, ⟨Lc4q, hQ4q, l4q, y4q, z4q⟩, st4q⟩ := Jvm.LawKit.callS X3q hx (y := (⟨"com/example/riverside/riverside/RefusedExceptionReplyLinePinLaw", "ch", "(II)C"⟩ : MethodName)) hown (mvT hZ (ww hw 0 rfl)) (mvT hZ (ww hw 1 rfl)) (mvT hZ (ww hw 2 rfl)) (mvT hZ (ww hw 3 rfl)) (by decide) (backOf (W := 0) (rmCh l Z a0 hw [] p2 (0 : Int32) h0 n0) hZ (ww hw 3 rfl) (ww hw 2 rfl) (by decide) (by decide)) (g := (mkF m 36 #[.val (.int p0), .val (.int p1), .val (.int p2), .val (.int x), .val (.int y), .val (.int w0), .val (.int w1), .val (.int w2), .unset, .unset, .unset, .unset, .unset, .unset, .unset, .unset, .unset] [(.int (0 : Int32)), (.int p2)])) rfl (by rw [hml]; rfl) (argsL := [(.int p2), (.int (0 : Int32))]) (rest := []) (lenOf own_pd20 rfl) rfl (by show 2 * 0 + _ ≤ _; exact Nat.le_of_eq rfl) (hb hby at_36) (fun _ _ => ⟨rfl, e3q, (by decide : 0 + 0 ≤ _), (by decide : 0 + 0 ≤ _)⟩)
  dsimp only [Pt.U, Pt.locs, Pt.cells, Pt.slots] at X4q l4q y4q z4q st4q hQ4q
  subst l4q y4q z4q
  obtain ⟨d0, rfl, N4qq, e4q, Hd0⟩ := hQ4q
  have N4q := Fr.app N3q N4qq
  obtain ⟨_, _, ⟨T5q, L5q, k5q, n5q⟩, -, X5q, ⟨Lc5q, hQ5q, l5q, y5q, z5q⟩, st5q⟩ := Jvm.LawKit.callS X4q hx (y := (⟨"com/example/riverside/riverside/RefusedExceptionReplyLinePinLaw", "ch", "(II)C"⟩ : MethodName)) hown (mvT hZ (ww hw 0 rfl)) (mvT hZ (ww hw 1 rfl)) (mvT hZ (ww hw 2 rfl)) (mvT hZ (ww hw 3 rfl)) (by decide) (backOf (W := 0) (rmCh l Z a0 hw [] p2 (8 : Int32) h0 n0) hZ (ww hw 3 rfl) (ww hw 2 rfl) (by decide) (by decide)) (g := (mkF m 44 #[.val (.int p0), .val (.int p1), .val (.int p2), .val (.int x), .val (.int y), .val (.int w0), .val (.int w1), .val (.int w2), .val (.int d0), .unset, .unset, .unset, .unset, .unset, .unset, .unset, .unset] [(.int (8 : Int32)), (.int p2)])) rfl (by rw [hml]; rfl) (argsL := [(.int p2), (.int (8 : Int32))]) (rest := []) (lenOf own_pd20 rfl) rfl (by show 2 * 0 + _ ≤ _; exact Nat.le_of_eq rfl) (hb hby at_44) (fun _ _ => ⟨rfl, e4q, (by decide : 0 + 0 ≤ _), (by decide : 0 + 0 ≤ _)⟩)
  dsimp only [Pt.U, Pt.locs, Pt.cells, Pt.slots] at X5q l5q y5q z5q st5q hQ5q
  subst l5q y5q z5q
  obtain ⟨d1, rfl, N5qq, e5q, Hd1⟩ := hQ5q
  have N5q := Fr.app N4q N5qq
  obtain ⟨_, _, ⟨T6q, L6q, k6q, n6q⟩, -, X6q, ⟨Lc6q, hQ6q, l6q, y6q, z6q⟩, st6q⟩ := Jvm.LawKit.callS X5q hx (y := (⟨"com/example/riverside/riverside/RefusedExceptionReplyLinePinLaw", "ch", "(II)C"⟩ : MethodName)) hown (mvT hZ (ww hw 0 rfl)) (mvT hZ (ww hw 1 rfl)) (mvT hZ (ww hw 2 rfl)) (mvT hZ (ww hw 3 rfl)) (by decide) (backOf (W := 0) (rmCh l Z a0 hw [] p2 (16 : Int32) h0 n0) hZ (ww hw 3 rfl) (ww hw 2 rfl) (by decide) (by decide)) (g := (mkF m 52 #[.val (.int p0), .val (.int p1), .val (.int p2), .val (.int x), .val (.int y), .val (.int w0), .val (.int w1), .val (.int w2), .val (.int d0), .val (.int d1), .unset, .unset, .unset, .unset, .unset, .unset, .unset] [(.int (16 : Int32)), (.int p2)])) rfl (by rw [hml]; rfl) (argsL := [(.int p2), (.int (16 : Int32))]) (rest := []) (lenOf own_pd20 rfl) rfl (by show 2 * 0 + _ ≤ _; exact Nat.le_of_eq rfl) (hb hby at_52) (fun _ _ => ⟨rfl, e5q, (by decide : 0 + 0 ≤ _), (by decide : 0 + 0 ≤ _)⟩)
  dsimp only [Pt.U, Pt.locs, Pt.cells, Pt.slots] at X6q l6q y6q z6q st6q hQ6q
  subst l6q y6q z6q
  obtain ⟨d2, rfl, N6qq, e6q, Hd2⟩ := hQ6q
  have N6q := Fr.app N5q N6qq
  obtain ⟨_, _, ⟨T7q, L7q, k7q, n7q⟩, -, X7q, Sq7q, gq7q, ⟨Lc7q, hQ7q, l7q, y7q, z7q, CC7q⟩, st7q⟩ := callSS X6q hx (y := (⟨"com/example/riverside/riverside/RefusedExceptionReplyLinePinLaw", "mk", "(ICCC)Ljava/lang/String;"⟩ : MethodName)) hown (mvT hZ (ww hw 4 rfl)) (mvT hZ (ww hw 5 rfl)) (mvT hZ (ww hw 2 rfl)) (mvT hZ (ww hw 6 rfl)) (by decide) (backOfSH (W := 0) (rmM l Z a0 hw [] x w0 w1 w2 z h0 n0 O0 SC hz Hw0 Hw1 Hw2) hZ (ww hw 6 rfl) (ww hw 2 rfl) (by decide) (by decide) (own_EW hw) CR0.1) (g := (mkF m 64 #[.val (.int p0), .val (.int p1), .val (.int p2), .val (.int x), .val (.int y), .val (.int w0), .val (.int w1), .val (.int w2), .val (.int d0), .val (.int d1), .val (.int d2), .unset, .unset, .unset, .unset, .unset, .unset] [(.int w2), (.int w1), (.int w0), (.int x)])) rfl (by rw [hml]; rfl) (argsL := [(.int x), (.int w0), (.int w1), (.int w2)]) (rest := []) (lenOf own_pd21 rfl) rfl (by show 2 * 0 + _ ≤ _; exact Nat.le_of_eq rfl) (hb hby at_64) (fun _ _ => ⟨rfl, e6q, (by decide : 0 + 6 ≤ _), (by decide : 0 + 16 ≤ _)⟩)
  dsimp only [Pt.U, Pt.locs, Pt.cells, Pt.slots] at X7q l7q y7q z7q st7q hQ7q Sq7q gq7q CC7q
  subst l7q y7q z7q
  obtain ⟨X7q, S7q, hZ7q, hown7q⟩ := rebS (n1 := T6q.heap.size) (State.WarmedH.since (State.WarmedH.refl s) 0) (by rw [e6q]; exact (Nat.zero_le _)) X7q Sq7q gq7q hZ hown
  obtain ⟨wx, tw, kbW, rfl, N7qq, KK7q, fE64, fV64, fC64, fK64⟩ := hQ7q
  have N7q := Fr.app N6q N7qq
  have SC7q := CC7q
  have CR7q := CHr.trans CR0 SC7q
  have O7q := Old.keep O0 KK7q all0
  obtain ⟨_, _, ⟨T8q, L8q, k8q, n8q⟩, -, X8q, Sq8q, gq8q, ⟨Lc8q, hQ8q, l8q, y8q, z8q, CC8q⟩, st8q⟩ := callSS X7q hx (y := (⟨"com/example/riverside/riverside/RefusedExceptionReplyLinePinLaw", "mk", "(ICCC)Ljava/lang/String;"⟩ : MethodName)) hown7q (mvT hZ7q (ww hw 4 rfl)) (mvT hZ7q (ww hw 5 rfl)) (mvT hZ7q (ww hw 2 rfl)) (mvT hZ7q (ww hw 6 rfl)) (by decide) (backOfSH (W := 0) (rmM l Z a0 hw [] y d0 d1 d2 z T7q.heap n0 O7q SC hz Hd0 Hd1 Hd2) hZ7q (ww hw 6 rfl) (ww hw 2 rfl) (by decide) (by decide) (own_EW hw) CR7q.1) (g := (mkF m 77 #[.val (.int p0), .val (.int p1), .val (.int p2), .val (.int x), .val (.int y), .val (.int w0), .val (.int w1), .val (.int w2), .val (.int d0), .val (.int d1), .val (.int d2), .val (.ref wx), .unset, .unset, .unset, .unset, .unset] [(.int d2), (.int d1), (.int d0), (.int y)])) rfl (by rw [hml]; rfl) (argsL := [(.int y), (.int d0), (.int d1), (.int d2)]) (rest := []) (lenOf own_pd21 rfl) rfl (by show 2 * 0 + _ ≤ _; exact Nat.le_of_eq rfl) (hb hby at_77) (fun _ _ => ⟨rfl, rfl, (by decide : 6 + 6 ≤ _), (by decide : 16 + 16 ≤ _)⟩)
  dsimp only [Pt.U, Pt.locs, Pt.cells, Pt.slots] at X8q l8q y8q z8q st8q hQ8q Sq8q gq8q CC8q
  subst l8q y8q z8q
  obtain ⟨X8q, S8q, hZ8q, hown8q⟩ := rebS (n1 := T7q.heap.size) S7q ((Nat.le_refl _)) X8q Sq8q gq8q hZ7q hown7q
  obtain ⟨dx, td, kbD, rfl, N8qq, KK8q, fE77, fV77, fC77, fK77⟩ := hQ8q
  have N8q := Fr.app N7q N8qq
  have SC8q := CC8q
  have CR8q := CHr.trans CR7q SC8q
  have O8q := Old.keep O7q KK8q all0
  obtain ⟨T9q, h9q, X9q, e9q, E9q, A9q, D9q, U9q, st9q⟩ := newO X8q hx hZ8q hown8q (ww hw 29 rfl) (ww hw 30 rfl) (ww hw 31 rfl) rfl (g := (mkF m 82 #[.val (.int p0), .val (.int p1), .val (.int p2), .val (.int x), .val (.int y), .val (.int w0), .val (.int w1), .val (.int w2), .val (.int d0), .val (.int d1), .val (.int d2), .val (.ref wx), .val (.ref dx), .unset, .unset, .unset, .unset] [])) rfl (hb hby at_82) (by decide) (by decide)
  obtain ⟨b9q, q9q⟩ : ∃ z, z = T8q.heap.size := ⟨_, rfl⟩
  rw [← q9q] at A9q D9q U9q st9q
  have g_b9q : n0 ≤ b9q := by rw [q9q]; exact (O8q).1 ▸ (O8q).2.1
  have ne_wx_b9q : wx ≠ b9q := by rw [q9q]; exact Nat.ne_of_lt (fE64.keep KK8q).lt
  have ne_tw_b9q : tw ≠ b9q := by rw [q9q]; exact Nat.ne_of_lt (fK64.keep KK8q nin0).lt
  have ne_dx_b9q : dx ≠ b9q := by rw [q9q]; exact Nat.ne_of_lt fE77.lt
  have ne_td_b9q : td ≠ b9q := by rw [q9q]; exact Nat.ne_of_lt fK77.lt
  have SC9q := CHr.ext E9q CR8q.1
  have CR9q := CHr.trans CR8q SC9q
  have O9q := Old.ext O8q E9q
  have sz9q := Nat.le_trans (Nat.le_refl _) (E9q.1)
  have F9q_cause : Fld Z h9q b9q "java/lang/Throwable" "cause" "Ljava/lang/Throwable;" .null := D9q (Or.inl (ww hw 48 rfl)) (ty := (.object "java/lang/Throwable")) (by decide)
  have F9q_stackTrace : Fld Z h9q b9q "java/lang/Throwable" "stackTrace" "[Ljava/lang/StackTraceElement;" .null := D9q (Or.inl (ww hw 51 rfl)) (ty := (.array (.object "java/lang/StackTraceElement"))) (by decide)
  have F9q_suppressedExceptions : Fld Z h9q b9q "java/lang/Throwable" "suppressedExceptions" "Ljava/util/List;" .null := D9q (Or.inl (ww hw 54 rfl)) (ty := (.object "java/util/List")) (by decide)
  have F9q_detailMessage : Fld Z h9q b9q "java/lang/Throwable" "detailMessage" "Ljava/lang/String;" .null := D9q (Or.inl (ww hw 78 rfl)) (ty := (.object "java/lang/String")) (by decide)
  have F9q_backtrace : Fld Z h9q b9q "java/lang/Throwable" "backtrace" "Ljava/lang/Object;" .null := D9q (Or.inl (ww hw 79 rfl)) (ty := (.object "java/lang/Object")) (by decide)
  have F9q_depth : Fld Z h9q b9q "java/lang/Throwable" "depth" "I" (.int (0 : Int32)) := D9q (Or.inl (ww hw 80 rfl)) (ty := .int) (by decide)
  have F9q_word : Fld Z h9q b9q "com/example/riverside/riverside/RefusedException" "word" "Ljava/lang/String;" .null := D9q (Or.inr (ww hw 84 rfl)) (ty := (.object "java/lang/String")) (by decide)
  have gW := own_mkg hx_ Hw0 Hw1 Hw2
  have gD := own_mkg hy_ Hd0 Hd1 Hd2
  obtain ⟨_, _, ⟨T10q, L10q, k10q, n10q⟩, -, X10q, ⟨Lc10q, hQ10q, l10q, y10q, z10q⟩, st10q⟩ := X9q.specialBack hx (y := (⟨"com/example/riverside/riverside/RefusedException", "<init>", "(Ljava/lang/String;Ljava/lang/String;)V"⟩ : MethodName)) rfl hown8q (mvT hZ8q (ww hw 32 rfl)) (mvT hZ8q (ww hw 33 rfl)) (mvT hZ8q (ww hw 34 rfl)) (by decide) (backOfKL (W := 1) (rmRI l Z a0 hw [] b9q wx dx uu sen h9q n0 O9q g_b9q A9q U9q F9q_cause F9q_stackTrace F9q_suppressedExceptions F9q_backtrace F9q_detailMessage F9q_word SU SS hu hn hST) hZ8q (ww hw 34 rfl) (ww hw 31 rfl) (by decide) (by decide) (Vm.MethodsKnown.alikeC (hZs.alike.symm.trans hZ8q.alike) hK.1) (Vm.FramesKnown.alikeC (hZs.alike.symm.trans hZ8q.alike) hK.2)) (g := (mkF m 90 #[.val (.int p0), .val (.int p1), .val (.int p2), .val (.int x), .val (.int y), .val (.int w0), .val (.int w1), .val (.int w2), .val (.int d0), .val (.int d1), .val (.int d2), .val (.ref wx), .val (.ref dx), .unset, .unset, .unset, .unset] [(.ref dx), (.ref wx), (.ref b9q), (.ref b9q)])) rfl (by rw [hml]; rfl) (Steps.refl _) (a := b9q) (argsL := [(.ref wx), (.ref dx)]) (rest := [(.ref b9q)]) (lenOf own_pd22 rfl) rfl (by show 2 * 0 + _ ≤ _; exact Nat.le_of_eq rfl) (hb hby at_90) (fun _ _ => ⟨rfl, e9q, (by decide : 13 + 1 ≤ _), (by decide : 39 + 2752 ≤ _)⟩)
  dsimp only [Pt.U, Pt.locs, Pt.cells, Pt.slots] at X10q l10q y10q z10q st10q hQ10q
  subst l10q y10q z10q
  obtain ⟨rfl, N10qq, KK10q, f10q_0, f10q_1⟩ := hQ10q
  have N10q := Fr.app N8q N10qq
  have SC10q := CHr.keep KK10q (sfS (Safe.exa hZ8q.alike A9q (by decide) (by decide)) sf0) CR9q.1
  have CR10q := CHr.trans CR9q SC10q
  have sz10q := Nat.le_trans sz9q (KK10q.1)
  have O10q := Old.keep O9q KK10q (allS g_b9q all0)
  have c11q := ((Fld.ext E9q (fV64.keep KK8q nin0)).keep KK10q (ninS ne_wx_b9q nin0))
  have c12q := ((Fld.ext E9q (fC64.keep KK8q nin0)).keep KK10q (ninS ne_wx_b9q nin0))
  have c13q := (((fK64.keep KK8q nin0).ext E9q).keep KK10q (ninS ne_tw_b9q nin0))
  obtain ⟨cq14q, kq14q, q14qa, q14qb, q14qc⟩ := isOf hZ8q rfl (A9q.keep KK10q)
  obtain ⟨_, _, ⟨T14q, L14q, k14q, n14q⟩, -, X14q, Sq14q, gq14q, ⟨Lc14q, hQ14q, l14q, y14q, z14q, CC14q⟩, st14q⟩ := X10q.virtualBackS hx (y := (⟨"com/example/riverside/riverside/RefusedException", "replyLine", "()Ljava/lang/String;"⟩ : MethodName)) (z := (⟨"com/example/riverside/riverside/RefusedException", "replyLine", "()Ljava/lang/String;"⟩ : MethodName)) hown8q (mvT hZ8q (ww hw 85 rfl)) (mvT hZ8q (ww hw 86 rfl)) (notFace_of_selects (args := #[]) (mvT hZ8q (ww hw 88 rfl))) (mvT hZ8q (ww hw 88 rfl)) (mvT hZ8q (ww hw 87 rfl)) (by decide) (backOfSH (W := 0) (rmRL0 l Z a0 hw [] b9q wx tw dx td kbW kbD (own_mk x w0 w1 w2) (own_mk y d0 d1 d2) z T10q.heap n0 O10q (A9q.keep KK10q) f10q_0 f10q_1 ((Exa.ext E9q (fE64.keep KK8q)).keep KK10q) c11q c12q c13q ((Exa.ext E9q fE77).keep KK10q) ((Fld.ext E9q fV77).keep KK10q (ninS ne_dx_b9q nin0)) ((Fld.ext E9q fC77).keep KK10q (ninS ne_dx_b9q nin0)) ((fK77.ext E9q).keep KK10q (ninS ne_td_b9q nin0)) SC hz gW.1 gD.1 gW.2 gD.2 ((own_mk0 hy_ d0 d1 d2).mpr hdl)) hZ8q (ww hw 89 rfl) (ww hw 31 rfl) (by decide) (by decide) (own_EW hw) CR10q.1) q14qa q14qc (g := (mkF m 97 #[.val (.int p0), .val (.int p1), .val (.int p2), .val (.int x), .val (.int y), .val (.int w0), .val (.int w1), .val (.int w2), .val (.int d0), .val (.int d1), .val (.int d2), .val (.ref wx), .val (.ref dx), .val (.ref b9q), .unset, .unset, .unset] [(.ref b9q)])) rfl (by rw [hml]; rfl) (Steps.refl _) (argsL := []) (rest := []) (lenOf own_pd18 rfl) rfl (by show 2 * 0 + _ ≤ _; exact Nat.le_of_eq rfl) (hb hby at_97) (fun _ _ => ⟨rfl, rfl, (by decide : 14 + 8 ≤ _), (by decide : 2791 + 64 ≤ _)⟩)
  dsimp only [Pt.U, Pt.locs, Pt.cells, Pt.slots] at X14q l14q y14q z14q st14q hQ14q Sq14q gq14q CC14q
  subst l14q y14q z14q
  obtain ⟨X14q, S14q, hZ14q, hown14q⟩ := rebS (n1 := T10q.heap.size) S8q (sz10q) X14q Sq14q gq14q hZ8q hown8q
  obtain ⟨xs, nb, kn, rfl, N14qq, KK14q, fE97, fV97, fC97, fK97⟩ := hQ14q
  have N14q := Fr.app N10q N14qq
  have SC14q := CC14q
  have CR14q := CHr.trans CR10q SC14q
  have O14q := Old.keep O10q KK14q all0
  have hg : own_good (((([] : List Int32) ++ ([69, 82, 82, 32] : List Int32)) ++ (own_mk x w0 w1 w2)) ++ ([] : List Int32)) := own_g0 gW.1 gW.2
  obtain ⟨hle, hF0, hF1, hF2, hF3, hF4, hF5, hF6⟩ := own_f0 hx_ w0 w1 w2
  obtain ⟨cq15q, kq15q, q15qa, q15qb, q15qc⟩ := isOf hZ14q rfl fE97
  obtain ⟨_, _, ⟨T15q, L15q, k15q, n15q⟩, -, X15q, ⟨Lc15q, hQ15q, l15q, y15q, z15q⟩, st15q⟩ := X14q.virtualBack hx (y := (⟨"java/lang/String", "length", "()I"⟩ : MethodName)) (z := (⟨"java/lang/String", "length", "()I"⟩ : MethodName)) hown14q (mvT hZ14q (ww hw 214 rfl)) (mvT hZ14q (ww hw 120 rfl)) (notFace_of_selects (args := #[]) (mvT hZ14q (ww hw 122 rfl))) (mvT hZ14q (ww hw 122 rfl)) (mvT hZ14q (ww hw 121 rfl)) (by decide) (own_bk (n0 := n0) (fun _ q => q) (StrChars.Road.lenW (W := 0) hZ14q (own_wL hw) (kI := 4) (ww hw 8 rfl) fE97 fV97 fC97 fK97 (own_cd hg) (own_hb hg) (Sta.ext O14q.2 SC) hz (Nat.le_trans hg.1 (by decide)) (by decide) (by decide))) q15qa q15qc (g := (mkF m 123 #[.val (.int p0), .val (.int p1), .val (.int p2), .val (.int x), .val (.int y), .val (.int w0), .val (.int w1), .val (.int w2), .val (.int d0), .val (.int d1), .val (.int d2), .val (.ref wx), .val (.ref dx), .val (.ref b9q), .val (.ref xs), .val (.int (((4 : Int32) + x) + (0 : Int32))), .unset] [(.ref xs)])) rfl (by rw [hml]; rfl) (Steps.refl _) (argsL := []) (rest := []) (lenOf own_pd4 rfl) rfl (by show 2 * 0 + _ ≤ _; exact Nat.le_of_eq rfl) (hb hby at_123) (fun _ _ => ⟨rfl, rfl, (by decide : 22 + 0 ≤ _), (by decide : 2855 + 0 ≤ _)⟩)
  dsimp only [Pt.U, Pt.locs, Pt.cells, Pt.slots] at X15q l15q y15q z15q st15q hQ15q
  subst l15q y15q z15q
  obtain ⟨rfl, N15qq, e15q⟩ := hQ15q
  have N15q := Fr.app N14q N15qq
  obtain ⟨T16q, L16q, X16q, e16q, N16q, st16q⟩ := sgA_0 X15q hx hZ14q hw hby hml hown14q e15q N15q O14q fE97 fV97 fC97 fK97 SC hz SF hf hg hF0 hF1 hF2 hF3
  obtain ⟨T17q, L17q, X17q, e17q, N17q, st17q⟩ := sgB0_0 X16q hx hZ14q hw hby hml hown14q e16q N16q O14q fE97 fV97 fC97 fK97 SC hz SF hf hg hF4
  obtain ⟨T18q, L18q, X18q, e18q, N18q, st18q⟩ := sgB1_0 X17q hx hZ14q hw hby hml hown14q e17q N17q O14q fE97 fV97 fC97 fK97 SC hz SF hf hg hF5
  obtain ⟨T19q, L19q, X19q, e19q, N19q, st19q⟩ := sgB2_0 X18q hx hZ14q hw hby hml hown14q e18q N18q O14q fE97 fV97 fC97 fK97 SC hz SF hf hg hF6
  obtain ⟨fs, hr, hrun, hended, hE⟩ := X19q.leaveW (s := s) (vm₁ := T14q.vm) S14q (by rw [e19q]; exact (Nat.le_refl _)) (v := some (.int (1 : Int32))) (fun h => by rw [Bd.returns] at h; cases h)
  have CE : CHr Z consts_1 s.vm s.heap T19q.vm T19q.heap := by
    rw [hh, e19q]
    exact CHr.trans CR14q (CHv.at X19q hZ14q (own_EW hw) CR14q.1)
  refine ⟨_, _, pre0 _ ?_, hrun, hended, _, _, rfl, ?_, CE, hE.1, hE.2.1, hE.2.2.1, hE.2.2.2.mono (by decide) (by decide)⟩
  · show Steps p.tables e below (s₁.setTop (mkF m 0 #[.val (.int p0), .val (.int p1), .val (.int p2), .unset, .unset, .unset, .unset, .unset, .unset, .unset, .unset, .unset, .unset, .unset, .unset, .unset, .unset] [])) _
    refine stA _ ?_
    show Steps p.tables e below (s₁.setTop (mkF m 11 #[.val (.int p0), .val (.int p1), .val (.int p2), .val (.int x), .val (.int y), .unset, .unset, .unset, .unset, .unset, .unset, .unset, .unset, .unset, .unset, .unset, .unset] [])) _
    refine XS.iloadN X0.here hx rfl (hb hby at_11) rfl ?_
    show Steps p.tables e below (s₁.setTop (mkF m 12 #[.val (.int p0), .val (.int p1), .val (.int p2), .val (.int x), .val (.int y), .unset, .unset, .unset, .unset, .unset, .unset, .unset, .unset, .unset, .unset, .unset, .unset] [(.int p1)])) _
    refine XS.iconst X0.here hx rfl (hb hby at_12) ?_
    show Steps p.tables e below (s₁.setTop (mkF m 13 #[.val (.int p0), .val (.int p1), .val (.int p2), .val (.int x), .val (.int y), .unset, .unset, .unset, .unset, .unset, .unset, .unset, .unset, .unset, .unset, .unset, .unset] [(.int (0 : Int32)), (.int p1)])) _
    refine st1q _ ?_
    show Steps p.tables e below (T1q.setTop (mkF m 16 #[.val (.int p0), .val (.int p1), .val (.int p2), .val (.int x), .val (.int y), .unset, .unset, .unset, .unset, .unset, .unset, .unset, .unset, .unset, .unset, .unset, .unset] [(.int w0)])) _
    refine XS.istore X1q.here hx rfl (hb hby at_16) rfl (l' := #[.val (.int p0), .val (.int p1), .val (.int p2), .val (.int x), .val (.int y), .val (.int w0), .unset, .unset, .unset, .unset, .unset, .unset, .unset, .unset, .unset, .unset, .unset]) rfl ?_
    show Steps p.tables e below (T1q.setTop (mkF m 18 #[.val (.int p0), .val (.int p1), .val (.int p2), .val (.int x), .val (.int y), .val (.int w0), .unset, .unset, .unset, .unset, .unset, .unset, .unset, .unset, .unset, .unset, .unset] [])) _
    refine XS.iloadN X1q.here hx rfl (hb hby at_18) rfl ?_
    show Steps p.tables e below (T1q.setTop (mkF m 19 #[.val (.int p0), .val (.int p1), .val (.int p2), .val (.int x), .val (.int y), .val (.int w0), .unset, .unset, .unset, .unset, .unset, .unset, .unset, .unset, .unset, .unset, .unset] [(.int p1)])) _
    refine XS.bipush X1q.here hx rfl (hb hby at_19) ?_
    show Steps p.tables e below (T1q.setTop (mkF m 21 #[.val (.int p0), .val (.int p1), .val (.int p2), .val (.int x), .val (.int y), .val (.int w0), .unset, .unset, .unset, .unset, .unset, .unset, .unset, .unset, .unset, .unset, .unset] [(.int (8 : Int32)), (.int p1)])) _
    refine st2q _ ?_
    show Steps p.tables e below (T2q.setTop (mkF m 24 #[.val (.int p0), .val (.int p1), .val (.int p2), .val (.int x), .val (.int y), .val (.int w0), .unset, .unset, .unset, .unset, .unset, .unset, .unset, .unset, .unset, .unset, .unset] [(.int w1)])) _
    refine XS.istore X2q.here hx rfl (hb hby at_24) rfl (l' := #[.val (.int p0), .val (.int p1), .val (.int p2), .val (.int x), .val (.int y), .val (.int w0), .val (.int w1), .unset, .unset, .unset, .unset, .unset, .unset, .unset, .unset, .unset, .unset]) rfl ?_
    show Steps p.tables e below (T2q.setTop (mkF m 26 #[.val (.int p0), .val (.int p1), .val (.int p2), .val (.int x), .val (.int y), .val (.int w0), .val (.int w1), .unset, .unset, .unset, .unset, .unset, .unset, .unset, .unset, .unset, .unset] [])) _
    refine XS.iloadN X2q.here hx rfl (hb hby at_26) rfl ?_
    show Steps p.tables e below (T2q.setTop (mkF m 27 #[.val (.int p0), .val (.int p1), .val (.int p2), .val (.int x), .val (.int y), .val (.int w0), .val (.int w1), .unset, .unset, .unset, .unset, .unset, .unset, .unset, .unset, .unset, .unset] [(.int p1)])) _
    refine XS.bipush X2q.here hx rfl (hb hby at_27) ?_
    show Steps p.tables e below (T2q.setTop (mkF m 29 #[.val (.int p0), .val (.int p1), .val (.int p2), .val (.int x), .val (.int y), .val (.int w0), .val (.int w1), .unset, .unset, .unset, .unset, .unset, .unset, .unset, .unset, .unset, .unset] [(.int (16 : Int32)), (.int p1)])) _
    refine st3q _ ?_
    show Steps p.tables e below (T3q.setTop (mkF m 32 #[.val (.int p0), .val (.int p1), .val (.int p2), .val (.int x), .val (.int y), .val (.int w0), .val (.int w1), .unset, .unset, .unset, .unset, .unset, .unset, .unset, .unset, .unset, .unset] [(.int w2)])) _
    refine XS.istore X3q.here hx rfl (hb hby at_32) rfl (l' := #[.val (.int p0), .val (.int p1), .val (.int p2), .val (.int x), .val (.int y), .val (.int w0), .val (.int w1), .val (.int w2), .unset, .unset, .unset, .unset, .unset, .unset, .unset, .unset, .unset]) rfl ?_
    show Steps p.tables e below (T3q.setTop (mkF m 34 #[.val (.int p0), .val (.int p1), .val (.int p2), .val (.int x), .val (.int y), .val (.int w0), .val (.int w1), .val (.int w2), .unset, .unset, .unset, .unset, .unset, .unset, .unset, .unset, .unset] [])) _
    refine XS.iloadN X3q.here hx rfl (hb hby at_34) rfl ?_
    show Steps p.tables e below (T3q.setTop (mkF m 35 #[.val (.int p0), .val (.int p1), .val (.int p2), .val (.int x), .val (.int y), .val (.int w0), .val (.int w1), .val (.int w2), .unset, .unset, .unset, .unset, .unset, .unset, .unset, .unset, .unset] [(.int p2)])) _
    refine XS.iconst X3q.here hx rfl (hb hby at_35) ?_
    show Steps p.tables e below (T3q.setTop (mkF m 36 #[.val (.int p0), .val (.int p1), .val (.int p2), .val (.int x), .val (.int y), .val (.int w0), .val (.int w1), .val (.int w2), .unset, .unset, .unset, .unset, .unset, .unset, .unset, .unset, .unset] [(.int (0 : Int32)), (.int p2)])) _
    refine st4q _ ?_
    show Steps p.tables e below (T4q.setTop (mkF m 39 #[.val (.int p0), .val (.int p1), .val (.int p2), .val (.int x), .val (.int y), .val (.int w0), .val (.int w1), .val (.int w2), .unset, .unset, .unset, .unset, .unset, .unset, .unset, .unset, .unset] [(.int d0)])) _
    refine XS.istore X4q.here hx rfl (hb hby at_39) rfl (l' := #[.val (.int p0), .val (.int p1), .val (.int p2), .val (.int x), .val (.int y), .val (.int w0), .val (.int w1), .val (.int w2), .val (.int d0), .unset, .unset, .unset, .unset, .unset, .unset, .unset, .unset]) rfl ?_
    show Steps p.tables e below (T4q.setTop (mkF m 41 #[.val (.int p0), .val (.int p1), .val (.int p2), .val (.int x), .val (.int y), .val (.int w0), .val (.int w1), .val (.int w2), .val (.int d0), .unset, .unset, .unset, .unset, .unset, .unset, .unset, .unset] [])) _
    refine XS.iloadN X4q.here hx rfl (hb hby at_41) rfl ?_
    show Steps p.tables e below (T4q.setTop (mkF m 42 #[.val (.int p0), .val (.int p1), .val (.int p2), .val (.int x), .val (.int y), .val (.int w0), .val (.int w1), .val (.int w2), .val (.int d0), .unset, .unset, .unset, .unset, .unset, .unset, .unset, .unset] [(.int p2)])) _
    refine XS.bipush X4q.here hx rfl (hb hby at_42) ?_
    show Steps p.tables e below (T4q.setTop (mkF m 44 #[.val (.int p0), .val (.int p1), .val (.int p2), .val (.int x), .val (.int y), .val (.int w0), .val (.int w1), .val (.int w2), .val (.int d0), .unset, .unset, .unset, .unset, .unset, .unset, .unset, .unset] [(.int (8 : Int32)), (.int p2)])) _
    refine st5q _ ?_
    show Steps p.tables e below (T5q.setTop (mkF m 47 #[.val (.int p0), .val (.int p1), .val (.int p2), .val (.int x), .val (.int y), .val (.int w0), .val (.int w1), .val (.int w2), .val (.int d0), .unset, .unset, .unset, .unset, .unset, .unset, .unset, .unset] [(.int d1)])) _
    refine XS.istore X5q.here hx rfl (hb hby at_47) rfl (l' := #[.val (.int p0), .val (.int p1), .val (.int p2), .val (.int x), .val (.int y), .val (.int w0), .val (.int w1), .val (.int w2), .val (.int d0), .val (.int d1), .unset, .unset, .unset, .unset, .unset, .unset, .unset]) rfl ?_
    show Steps p.tables e below (T5q.setTop (mkF m 49 #[.val (.int p0), .val (.int p1), .val (.int p2), .val (.int x), .val (.int y), .val (.int w0), .val (.int w1), .val (.int w2), .val (.int d0), .val (.int d1), .unset, .unset, .unset, .unset, .unset, .unset, .unset] [])) _
    refine XS.iloadN X5q.here hx rfl (hb hby at_49) rfl ?_
    show Steps p.tables e below (T5q.setTop (mkF m 50 #[.val (.int p0), .val (.int p1), .val (.int p2), .val (.int x), .val (.int y), .val (.int w0), .val (.int w1), .val (.int w2), .val (.int d0), .val (.int d1), .unset, .unset, .unset, .unset, .unset, .unset, .unset] [(.int p2)])) _
    refine XS.bipush X5q.here hx rfl (hb hby at_50) ?_
    show Steps p.tables e below (T5q.setTop (mkF m 52 #[.val (.int p0), .val (.int p1), .val (.int p2), .val (.int x), .val (.int y), .val (.int w0), .val (.int w1), .val (.int w2), .val (.int d0), .val (.int d1), .unset, .unset, .unset, .unset, .unset, .unset, .unset] [(.int (16 : Int32)), (.int p2)])) _
    refine st6q _ ?_
    show Steps p.tables e below (T6q.setTop (mkF m 55 #[.val (.int p0), .val (.int p1), .val (.int p2), .val (.int x), .val (.int y), .val (.int w0), .val (.int w1), .val (.int w2), .val (.int d0), .val (.int d1), .unset, .unset, .unset, .unset, .unset, .unset, .unset] [(.int d2)])) _
    refine XS.istore X6q.here hx rfl (hb hby at_55) rfl (l' := #[.val (.int p0), .val (.int p1), .val (.int p2), .val (.int x), .val (.int y), .val (.int w0), .val (.int w1), .val (.int w2), .val (.int d0), .val (.int d1), .val (.int d2), .unset, .unset, .unset, .unset, .unset, .unset]) rfl ?_
    show Steps p.tables e below (T6q.setTop (mkF m 57 #[.val (.int p0), .val (.int p1), .val (.int p2), .val (.int x), .val (.int y), .val (.int w0), .val (.int w1), .val (.int w2), .val (.int d0), .val (.int d1), .val (.int d2), .unset, .unset, .unset, .unset, .unset, .unset] [])) _
    refine XS.iloadN X6q.here hx rfl (hb hby at_57) rfl ?_
    show Steps p.tables e below (T6q.setTop (mkF m 58 #[.val (.int p0), .val (.int p1), .val (.int p2), .val (.int x), .val (.int y), .val (.int w0), .val (.int w1), .val (.int w2), .val (.int d0), .val (.int d1), .val (.int d2), .unset, .unset, .unset, .unset, .unset, .unset] [(.int x)])) _
    refine XS.iload X6q.here hx rfl (hb hby at_58) rfl ?_
    show Steps p.tables e below (T6q.setTop (mkF m 60 #[.val (.int p0), .val (.int p1), .val (.int p2), .val (.int x), .val (.int y), .val (.int w0), .val (.int w1), .val (.int w2), .val (.int d0), .val (.int d1), .val (.int d2), .unset, .unset, .unset, .unset, .unset, .unset] [(.int w0), (.int x)])) _
    refine XS.iload X6q.here hx rfl (hb hby at_60) rfl ?_
    show Steps p.tables e below (T6q.setTop (mkF m 62 #[.val (.int p0), .val (.int p1), .val (.int p2), .val (.int x), .val (.int y), .val (.int w0), .val (.int w1), .val (.int w2), .val (.int d0), .val (.int d1), .val (.int d2), .unset, .unset, .unset, .unset, .unset, .unset] [(.int w1), (.int w0), (.int x)])) _
    refine XS.iload X6q.here hx rfl (hb hby at_62) rfl ?_
    show Steps p.tables e below (T6q.setTop (mkF m 64 #[.val (.int p0), .val (.int p1), .val (.int p2), .val (.int x), .val (.int y), .val (.int w0), .val (.int w1), .val (.int w2), .val (.int d0), .val (.int d1), .val (.int d2), .unset, .unset, .unset, .unset, .unset, .unset] [(.int w2), (.int w1), (.int w0), (.int x)])) _
    refine st7q.trans ?_
    show Steps p.tables e below (T7q.setTop (mkF m 67 #[.val (.int p0), .val (.int p1), .val (.int p2), .val (.int x), .val (.int y), .val (.int w0), .val (.int w1), .val (.int w2), .val (.int d0), .val (.int d1), .val (.int d2), .unset, .unset, .unset, .unset, .unset, .unset] [(.ref wx)])) _
    refine XS.astore X7q.here hx rfl (hb hby at_67) rfl rfl (l' := #[.val (.int p0), .val (.int p1), .val (.int p2), .val (.int x), .val (.int y), .val (.int w0), .val (.int w1), .val (.int w2), .val (.int d0), .val (.int d1), .val (.int d2), .val (.ref wx), .unset, .unset, .unset, .unset, .unset]) rfl ?_
    show Steps p.tables e below (T7q.setTop (mkF m 69 #[.val (.int p0), .val (.int p1), .val (.int p2), .val (.int x), .val (.int y), .val (.int w0), .val (.int w1), .val (.int w2), .val (.int d0), .val (.int d1), .val (.int d2), .val (.ref wx), .unset, .unset, .unset, .unset, .unset] [])) _
    refine XS.iload X7q.here hx rfl (hb hby at_69) rfl ?_
    show Steps p.tables e below (T7q.setTop (mkF m 71 #[.val (.int p0), .val (.int p1), .val (.int p2), .val (.int x), .val (.int y), .val (.int w0), .val (.int w1), .val (.int w2), .val (.int d0), .val (.int d1), .val (.int d2), .val (.ref wx), .unset, .unset, .unset, .unset, .unset] [(.int y)])) _
    refine XS.iload X7q.here hx rfl (hb hby at_71) rfl ?_
    show Steps p.tables e below (T7q.setTop (mkF m 73 #[.val (.int p0), .val (.int p1), .val (.int p2), .val (.int x), .val (.int y), .val (.int w0), .val (.int w1), .val (.int w2), .val (.int d0), .val (.int d1), .val (.int d2), .val (.ref wx), .unset, .unset, .unset, .unset, .unset] [(.int d0), (.int y)])) _
    refine XS.iload X7q.here hx rfl (hb hby at_73) rfl ?_
    show Steps p.tables e below (T7q.setTop (mkF m 75 #[.val (.int p0), .val (.int p1), .val (.int p2), .val (.int x), .val (.int y), .val (.int w0), .val (.int w1), .val (.int w2), .val (.int d0), .val (.int d1), .val (.int d2), .val (.ref wx), .unset, .unset, .unset, .unset, .unset] [(.int d1), (.int d0), (.int y)])) _
    refine XS.iload X7q.here hx rfl (hb hby at_75) rfl ?_
    show Steps p.tables e below (T7q.setTop (mkF m 77 #[.val (.int p0), .val (.int p1), .val (.int p2), .val (.int x), .val (.int y), .val (.int w0), .val (.int w1), .val (.int w2), .val (.int d0), .val (.int d1), .val (.int d2), .val (.ref wx), .unset, .unset, .unset, .unset, .unset] [(.int d2), (.int d1), (.int d0), (.int y)])) _
    refine st8q.trans ?_
    show Steps p.tables e below (T8q.setTop (mkF m 80 #[.val (.int p0), .val (.int p1), .val (.int p2), .val (.int x), .val (.int y), .val (.int w0), .val (.int w1), .val (.int w2), .val (.int d0), .val (.int d1), .val (.int d2), .val (.ref wx), .unset, .unset, .unset, .unset, .unset] [(.ref dx)])) _
    refine XS.astore X8q.here hx rfl (hb hby at_80) rfl rfl (l' := #[.val (.int p0), .val (.int p1), .val (.int p2), .val (.int x), .val (.int y), .val (.int w0), .val (.int w1), .val (.int w2), .val (.int d0), .val (.int d1), .val (.int d2), .val (.ref wx), .val (.ref dx), .unset, .unset, .unset, .unset]) rfl ?_
    show Steps p.tables e below (T8q.setTop (mkF m 82 #[.val (.int p0), .val (.int p1), .val (.int p2), .val (.int x), .val (.int y), .val (.int w0), .val (.int w1), .val (.int w2), .val (.int d0), .val (.int d1), .val (.int d2), .val (.ref wx), .val (.ref dx), .unset, .unset, .unset, .unset] [])) _
    refine st9q _ ?_
    show Steps p.tables e below (T9q.setTop (mkF m 85 #[.val (.int p0), .val (.int p1), .val (.int p2), .val (.int x), .val (.int y), .val (.int w0), .val (.int w1), .val (.int w2), .val (.int d0), .val (.int d1), .val (.int d2), .val (.ref wx), .val (.ref dx), .unset, .unset, .unset, .unset] [(.ref b9q)])) _
    refine XS.dup X9q.here hx rfl (hb hby at_85) rfl rfl ?_
    show Steps p.tables e below (T9q.setTop (mkF m 86 #[.val (.int p0), .val (.int p1), .val (.int p2), .val (.int x), .val (.int y), .val (.int w0), .val (.int w1), .val (.int w2), .val (.int d0), .val (.int d1), .val (.int d2), .val (.ref wx), .val (.ref dx), .unset, .unset, .unset, .unset] [(.ref b9q), (.ref b9q)])) _
    refine XS.aload X9q.here hx rfl (hb hby at_86) rfl rfl ?_
    show Steps p.tables e below (T9q.setTop (mkF m 88 #[.val (.int p0), .val (.int p1), .val (.int p2), .val (.int x), .val (.int y), .val (.int w0), .val (.int w1), .val (.int w2), .val (.int d0), .val (.int d1), .val (.int d2), .val (.ref wx), .val (.ref dx), .unset, .unset, .unset, .unset] [(.ref wx), (.ref b9q), (.ref b9q)])) _
    refine XS.aload X9q.here hx rfl (hb hby at_88) rfl rfl ?_
    show Steps p.tables e below (T9q.setTop (mkF m 90 #[.val (.int p0), .val (.int p1), .val (.int p2), .val (.int x), .val (.int y), .val (.int w0), .val (.int w1), .val (.int w2), .val (.int d0), .val (.int d1), .val (.int d2), .val (.ref wx), .val (.ref dx), .unset, .unset, .unset, .unset] [(.ref dx), (.ref wx), (.ref b9q), (.ref b9q)])) _
    refine st10q.trans ?_
    show Steps p.tables e below (T10q.setTop (mkF m 93 #[.val (.int p0), .val (.int p1), .val (.int p2), .val (.int x), .val (.int y), .val (.int w0), .val (.int w1), .val (.int w2), .val (.int d0), .val (.int d1), .val (.int d2), .val (.ref wx), .val (.ref dx), .unset, .unset, .unset, .unset] [(.ref b9q)])) _
    refine XS.astore X10q.here hx rfl (hb hby at_93) rfl rfl (l' := #[.val (.int p0), .val (.int p1), .val (.int p2), .val (.int x), .val (.int y), .val (.int w0), .val (.int w1), .val (.int w2), .val (.int d0), .val (.int d1), .val (.int d2), .val (.ref wx), .val (.ref dx), .val (.ref b9q), .unset, .unset, .unset]) rfl ?_
    show Steps p.tables e below (T10q.setTop (mkF m 95 #[.val (.int p0), .val (.int p1), .val (.int p2), .val (.int x), .val (.int y), .val (.int w0), .val (.int w1), .val (.int w2), .val (.int d0), .val (.int d1), .val (.int d2), .val (.ref wx), .val (.ref dx), .val (.ref b9q), .unset, .unset, .unset] [])) _
    refine XS.aload X10q.here hx rfl (hb hby at_95) rfl rfl ?_
    show Steps p.tables e below (T10q.setTop (mkF m 97 #[.val (.int p0), .val (.int p1), .val (.int p2), .val (.int x), .val (.int y), .val (.int w0), .val (.int w1), .val (.int w2), .val (.int d0), .val (.int d1), .val (.int d2), .val (.ref wx), .val (.ref dx), .val (.ref b9q), .unset, .unset, .unset] [(.ref b9q)])) _
    refine st14q.trans ?_
    show Steps p.tables e below (T14q.setTop (mkF m 100 #[.val (.int p0), .val (.int p1), .val (.int p2), .val (.int x), .val (.int y), .val (.int w0), .val (.int w1), .val (.int w2), .val (.int d0), .val (.int d1), .val (.int d2), .val (.ref wx), .val (.ref dx), .val (.ref b9q), .unset, .unset, .unset] [(.ref xs)])) _
    refine XS.astore X14q.here hx rfl (hb hby at_100) rfl rfl (l' := #[.val (.int p0), .val (.int p1), .val (.int p2), .val (.int x), .val (.int y), .val (.int w0), .val (.int w1), .val (.int w2), .val (.int d0), .val (.int d1), .val (.int d2), .val (.ref wx), .val (.ref dx), .val (.ref b9q), .val (.ref xs), .unset, .unset]) rfl ?_
    show Steps p.tables e below (T14q.setTop (mkF m 102 #[.val (.int p0), .val (.int p1), .val (.int p2), .val (.int x), .val (.int y), .val (.int w0), .val (.int w1), .val (.int w2), .val (.int d0), .val (.int d1), .val (.int d2), .val (.ref wx), .val (.ref dx), .val (.ref b9q), .val (.ref xs), .unset, .unset] [])) _
    refine XS.iconst X14q.here hx rfl (hb hby at_102) ?_
    show Steps p.tables e below (T14q.setTop (mkF m 103 #[.val (.int p0), .val (.int p1), .val (.int p2), .val (.int x), .val (.int y), .val (.int w0), .val (.int w1), .val (.int w2), .val (.int d0), .val (.int d1), .val (.int d2), .val (.ref wx), .val (.ref dx), .val (.ref b9q), .val (.ref xs), .unset, .unset] [(.int (4 : Int32))])) _
    refine XS.iloadN X14q.here hx rfl (hb hby at_103) rfl ?_
    show Steps p.tables e below (T14q.setTop (mkF m 104 #[.val (.int p0), .val (.int p1), .val (.int p2), .val (.int x), .val (.int y), .val (.int w0), .val (.int w1), .val (.int w2), .val (.int d0), .val (.int d1), .val (.int d2), .val (.ref wx), .val (.ref dx), .val (.ref b9q), .val (.ref xs), .unset, .unset] [(.int x), (.int (4 : Int32))])) _
    refine XS.iadd X14q.here hx rfl (hb hby at_104) rfl ?_
    show Steps p.tables e below (T14q.setTop (mkF m 105 #[.val (.int p0), .val (.int p1), .val (.int p2), .val (.int x), .val (.int y), .val (.int w0), .val (.int w1), .val (.int w2), .val (.int d0), .val (.int d1), .val (.int d2), .val (.ref wx), .val (.ref dx), .val (.ref b9q), .val (.ref xs), .unset, .unset] [(.int ((4 : Int32) + x))])) _
    refine XS.iload X14q.here hx rfl (hb hby at_105) rfl ?_
    show Steps p.tables e below (T14q.setTop (mkF m 107 #[.val (.int p0), .val (.int p1), .val (.int p2), .val (.int x), .val (.int y), .val (.int w0), .val (.int w1), .val (.int w2), .val (.int d0), .val (.int d1), .val (.int d2), .val (.ref wx), .val (.ref dx), .val (.ref b9q), .val (.ref xs), .unset, .unset] [(.int y), (.int ((4 : Int32) + x))])) _
    refine XS.ifNo X14q.here hx rfl (hb hby at_107) rfl ((if0 _ _).trans (teq (hdl : y = (0 : Int32))).2) ?_
    show Steps p.tables e below (T14q.setTop (mkF m 110 #[.val (.int p0), .val (.int p1), .val (.int p2), .val (.int x), .val (.int y), .val (.int w0), .val (.int w1), .val (.int w2), .val (.int d0), .val (.int d1), .val (.int d2), .val (.ref wx), .val (.ref dx), .val (.ref b9q), .val (.ref xs), .unset, .unset] [(.int ((4 : Int32) + x))])) _
    refine XS.iconst X14q.here hx rfl (hb hby at_110) ?_
    show Steps p.tables e below (T14q.setTop (mkF m 111 #[.val (.int p0), .val (.int p1), .val (.int p2), .val (.int x), .val (.int y), .val (.int w0), .val (.int w1), .val (.int w2), .val (.int d0), .val (.int d1), .val (.int d2), .val (.ref wx), .val (.ref dx), .val (.ref b9q), .val (.ref xs), .unset, .unset] [(.int (0 : Int32)), (.int ((4 : Int32) + x))])) _
    refine XS.goto X14q.here hx rfl (pc0 := 111) (pc' := 118) rfl (hb hby at_111) (by decide) (by decide) ?_
    show Steps p.tables e below (T14q.setTop (mkF m 118 #[.val (.int p0), .val (.int p1), .val (.int p2), .val (.int x), .val (.int y), .val (.int w0), .val (.int w1), .val (.int w2), .val (.int d0), .val (.int d1), .val (.int d2), .val (.ref wx), .val (.ref dx), .val (.ref b9q), .val (.ref xs), .unset, .unset] [(.int (0 : Int32)), (.int ((4 : Int32) + x))])) _
    refine XS.iadd X14q.here hx rfl (hb hby at_118) rfl ?_
    show Steps p.tables e below (T14q.setTop (mkF m 119 #[.val (.int p0), .val (.int p1), .val (.int p2), .val (.int x), .val (.int y), .val (.int w0), .val (.int w1), .val (.int w2), .val (.int d0), .val (.int d1), .val (.int d2), .val (.ref wx), .val (.ref dx), .val (.ref b9q), .val (.ref xs), .unset, .unset] [(.int (((4 : Int32) + x) + (0 : Int32)))])) _
    refine XS.istore X14q.here hx rfl (hb hby at_119) rfl (l' := #[.val (.int p0), .val (.int p1), .val (.int p2), .val (.int x), .val (.int y), .val (.int w0), .val (.int w1), .val (.int w2), .val (.int d0), .val (.int d1), .val (.int d2), .val (.ref wx), .val (.ref dx), .val (.ref b9q), .val (.ref xs), .val (.int (((4 : Int32) + x) + (0 : Int32))), .unset]) rfl ?_
    show Steps p.tables e below (T14q.setTop (mkF m 121 #[.val (.int p0), .val (.int p1), .val (.int p2), .val (.int x), .val (.int y), .val (.int w0), .val (.int w1), .val (.int w2), .val (.int d0), .val (.int d1), .val (.int d2), .val (.ref wx), .val (.ref dx), .val (.ref b9q), .val (.ref xs), .val (.int (((4 : Int32) + x) + (0 : Int32))), .unset] [])) _
    refine XS.aload X14q.here hx rfl (hb hby at_121) rfl rfl ?_
    show Steps p.tables e below (T14q.setTop (mkF m 123 #[.val (.int p0), .val (.int p1), .val (.int p2), .val (.int x), .val (.int y), .val (.int w0), .val (.int w1), .val (.int w2), .val (.int d0), .val (.int d1), .val (.int d2), .val (.ref wx), .val (.ref dx), .val (.ref b9q), .val (.ref xs), .val (.int (((4 : Int32) + x) + (0 : Int32))), .unset] [(.ref xs)])) _
    refine st15q.trans ?_
    show Steps p.tables e below (T15q.setTop (mkF m 126 #[.val (.int p0), .val (.int p1), .val (.int p2), .val (.int x), .val (.int y), .val (.int w0), .val (.int w1), .val (.int w2), .val (.int d0), .val (.int d1), .val (.int d2), .val (.ref wx), .val (.ref dx), .val (.ref b9q), .val (.ref xs), .val (.int (((4 : Int32) + x) + (0 : Int32))), .unset] [(.int (Int32.ofNat (((([] : List Int32) ++ ([69, 82, 82, 32] : List Int32)) ++ (own_mk x w0 w1 w2)) ++ ([] : List Int32)).length))])) _
    refine XS.iload X15q.here hx rfl (hb hby at_126) rfl ?_
    show Steps p.tables e below (T15q.setTop (mkF m 128 #[.val (.int p0), .val (.int p1), .val (.int p2), .val (.int x), .val (.int y), .val (.int w0), .val (.int w1), .val (.int w2), .val (.int d0), .val (.int d1), .val (.int d2), .val (.ref wx), .val (.ref dx), .val (.ref b9q), .val (.ref xs), .val (.int (((4 : Int32) + x) + (0 : Int32))), .unset] [(.int (((4 : Int32) + x) + (0 : Int32))), (.int (Int32.ofNat (((([] : List Int32) ++ ([69, 82, 82, 32] : List Int32)) ++ (own_mk x w0 w1 w2)) ++ ([] : List Int32)).length))])) _
    refine XS.icmpYes X15q.here hx rfl (pc0 := 128) (pc' := 133) rfl (hb hby at_128) rfl (teq (hle : (Int32.ofNat (((([] : List Int32) ++ ([69, 82, 82, 32] : List Int32)) ++ (own_mk x w0 w1 w2)) ++ ([] : List Int32)).length) = (((4 : Int32) + x) + (0 : Int32)))).1 (by decide) (by decide) ?_
    show Steps p.tables e below (T15q.setTop (mkF m 133 #[.val (.int p0), .val (.int p1), .val (.int p2), .val (.int x), .val (.int y), .val (.int w0), .val (.int w1), .val (.int w2), .val (.int d0), .val (.int d1), .val (.int d2), .val (.ref wx), .val (.ref dx), .val (.ref b9q), .val (.ref xs), .val (.int (((4 : Int32) + x) + (0 : Int32))), .unset] [])) _
    refine st16q _ ?_
    show Steps p.tables e below (T16q.setTop (mkF m 179 #[.val (.int p0), .val (.int p1), .val (.int p2), .val (.int x), .val (.int y), .val (.int w0), .val (.int w1), .val (.int w2), .val (.int d0), .val (.int d1), .val (.int d2), .val (.ref wx), .val (.ref dx), .val (.ref b9q), .val (.ref xs), .val (.int (((4 : Int32) + x) + (0 : Int32))), .unset] [])) _
    refine st17q _ ?_
    show Steps p.tables e below (T17q.setTop (mkF m 196 #[.val (.int p0), .val (.int p1), .val (.int p2), .val (.int x), .val (.int y), .val (.int w0), .val (.int w1), .val (.int w2), .val (.int d0), .val (.int d1), .val (.int d2), .val (.ref wx), .val (.ref dx), .val (.ref b9q), .val (.ref xs), .val (.int (((4 : Int32) + x) + (0 : Int32))), .unset] [])) _
    refine st18q _ ?_
    show Steps p.tables e below (T18q.setTop (mkF m 214 #[.val (.int p0), .val (.int p1), .val (.int p2), .val (.int x), .val (.int y), .val (.int w0), .val (.int w1), .val (.int w2), .val (.int d0), .val (.int d1), .val (.int d2), .val (.ref wx), .val (.ref dx), .val (.ref b9q), .val (.ref xs), .val (.int (((4 : Int32) + x) + (0 : Int32))), .unset] [])) _
    refine st19q _ ?_
    show Steps p.tables e below (T19q.setTop (mkF m 233 #[.val (.int p0), .val (.int p1), .val (.int p2), .val (.int x), .val (.int y), .val (.int w0), .val (.int w1), .val (.int w2), .val (.int d0), .val (.int d1), .val (.int d2), .val (.ref wx), .val (.ref dx), .val (.ref b9q), .val (.ref xs), .val (.int (((4 : Int32) + x) + (0 : Int32))), .unset] [])) _
    refine XS.iload X19q.here hx rfl (hb hby at_233) rfl ?_
    show Steps p.tables e below (T19q.setTop (mkF m 235 #[.val (.int p0), .val (.int p1), .val (.int p2), .val (.int x), .val (.int y), .val (.int w0), .val (.int w1), .val (.int w2), .val (.int d0), .val (.int d1), .val (.int d2), .val (.ref wx), .val (.ref dx), .val (.ref b9q), .val (.ref xs), .val (.int (((4 : Int32) + x) + (0 : Int32))), .unset] [(.int y)])) _
    refine XS.ifNo X19q.here hx rfl (hb hby at_235) rfl ((if0 _ _).trans (teq (hdl : y = (0 : Int32))).2) ?_
    show Steps p.tables e below (T19q.setTop (mkF m 238 #[.val (.int p0), .val (.int p1), .val (.int p2), .val (.int x), .val (.int y), .val (.int w0), .val (.int w1), .val (.int w2), .val (.int d0), .val (.int d1), .val (.int d2), .val (.ref wx), .val (.ref dx), .val (.ref b9q), .val (.ref xs), .val (.int (((4 : Int32) + x) + (0 : Int32))), .unset] [])) _
    refine XS.iconst X19q.here hx rfl (hb hby at_238) ?_
    show Steps p.tables e below (T19q.setTop (mkF m 239 #[.val (.int p0), .val (.int p1), .val (.int p2), .val (.int x), .val (.int y), .val (.int w0), .val (.int w1), .val (.int w2), .val (.int d0), .val (.int d1), .val (.int d2), .val (.ref wx), .val (.ref dx), .val (.ref b9q), .val (.ref xs), .val (.int (((4 : Int32) + x) + (0 : Int32))), .unset] [(.int (1 : Int32))])) _
    exact retN X19q hx (t := .boolean) Bd.returns (by simp) (hb hby at_239) hr
  · show Qd25 Z p0 p1 p2 z fm uu sen h0 n0 _ T19q.heap _
    rw [e19q]
    exact ⟨rfl, N19q⟩
set_option maxRecDepth 65536 in
set_option maxHeartbeats 40000000 in
theorem sgA_1 {p : Program} {l : Launch} {e : Env} {s : State} {m : MethodId} {args : Array Value} {below : List Frame} {meth : Method} {c : Code} {T0 : State} {locs : List Loc} {Z : State} {a0 : Array Value} {h0 : Heap} {n0 : Nat} (X0 : Stand p l e room_1 s m args below meth c T0 locs 26 2899) (hx : p.tables.exec = Jvm.exec) (hZ : Z.Warmed39 s.vm) (hw : ∀ d ∈ tables_1, d.before a0 Z = true) (hby : c.code = code) (hml : c.maxLocals = 17) (hown : s.vm.findClass "com/example/riverside/riverside/RefusedExceptionReplyLinePinLaw" = some m.cls) (e0 : T0.heap = h0) (N0 : Fr n0 locs) (O0 : Old Z n0 h0) {p0 p1 p2 x y w0 w1 w2 d0 d1 d2 nn z : Int32} {wx dx rx xs nb : Addr} {kn : ClassId} {cs : List Int32} {fm : Value} (Ex : Exa Z h0 xs "java/lang/String") (Vx : Fld Z h0 xs "java/lang/String" "value" "[B" (.ref nb)) (Cx : Fld Z h0 xs "java/lang/String" "coder" "B" (.int 0)) (Kx : Arv Z h0 nb kn .byte (Int32.ofNat (cs).length) (((cs).map StrChars.lo8).map Value.int) (.int 0)) (SC : Sta Z Z.heap "java/lang/String" "COMPACT_STRINGS" "Z" (.int z)) (hz : ¬ z = 0) (SF : Sta Z Z.heap "jdk/internal/util/Preconditions" "SIOOBE_FORMATTER" "Ljava/util/function/BiFunction;" fm) (hf : fm.isRef = true) (hg : own_good cs) (h0_ : own_P cs 0 0 69) (h1_ : own_P cs 1 1 82) (h2_ : own_P cs 2 2 82) (h3_ : own_P cs 3 3 32) :
    ∃ (T' : State) (locs' : List Loc), Stand p l e room_1 s m args below meth c T' locs' 26 2899 ∧ T'.heap = h0 ∧ Fr n0 locs' ∧ ∀ target, Steps p.tables e below (T'.setTop (mkF m 179 #[.val (.int p0), .val (.int p1), .val (.int p2), .val (.int x), .val (.int y), .val (.int w0), .val (.int w1), .val (.int w2), .val (.int d0), .val (.int d1), .val (.int d2), .val (.ref wx), .val (.ref dx), .val (.ref rx), .val (.ref xs), .val (.int nn), .unset] [])) target → Steps p.tables e below (T0.setTop (mkF m 133 #[.val (.int p0), .val (.int p1), .val (.int p2), .val (.int x), .val (.int y), .val (.int w0), .val (.int w1), .val (.int w2), .val (.int d0), .val (.int d1), .val (.int d2), .val (.ref wx), .val (.ref dx), .val (.ref rx), .val (.ref xs), .val (.int nn), .unset] [])) target := by
  obtain ⟨cq1, kq1, q1a, q1b, q1c⟩ := isOf hZ e0 Ex
  obtain ⟨_, _, ⟨T1, L1, k1, n1⟩, -, X1, ⟨Lc1, hQ1, l1, y1, z1⟩, st1⟩ := X0.virtualBack hx (y := (⟨"java/lang/String", "charAt", "(I)C"⟩ : MethodName)) (z := (⟨"java/lang/String", "charAt", "(I)C"⟩ : MethodName)) hown (mvT hZ (ww hw 215 rfl)) (mvT hZ (ww hw 216 rfl)) (notFace_of_selects (args := #[]) (mvT hZ (ww hw 218 rfl))) (mvT hZ (ww hw 218 rfl)) (mvT hZ (ww hw 217 rfl)) (by decide) (own_bk (n0 := n0) (fun _ q => q) (StrChars.Road.chN (W := 0) hZ (own_wC hw) (kI := 4) (ww hw 8 rfl) Ex Vx Cx Kx (own_cd hg) (own_hb hg) (Sta.ext O0.2 SC) hz (Sta.ext O0.2 SF) hf (Nat.le_trans hg.1 (by decide)) (i := 0) h0_.1 h0_.2.1 (by decide) (by decide))) q1a q1c (g := (mkF m 136 #[.val (.int p0), .val (.int p1), .val (.int p2), .val (.int x), .val (.int y), .val (.int w0), .val (.int w1), .val (.int w2), .val (.int d0), .val (.int d1), .val (.int d2), .val (.ref wx), .val (.ref dx), .val (.ref rx), .val (.ref xs), .val (.int nn), .unset] [(.int (0 : Int32)), (.ref xs)])) rfl (by rw [hml]; rfl) (Steps.refl _) (argsL := [(.int (0 : Int32))]) (rest := []) (lenOf own_pd19 rfl) rfl (by show 2 * 0 + _ ≤ _; exact Nat.le_of_eq rfl) (hb hby at_136) (fun _ _ => ⟨rfl, e0, (by decide : 26 + 0 ≤ _), (by decide : 2899 + 0 ≤ _)⟩)
  dsimp only [Pt.U, Pt.locs, Pt.cells, Pt.slots] at X1 l1 y1 z1 st1 hQ1
  subst l1 y1 z1
  obtain ⟨rfl, N1q, e1⟩ := hQ1
  have N1 := Fr.app N0 N1q
  obtain ⟨cq2, kq2, q2a, q2b, q2c⟩ := isOf hZ e1 Ex
  obtain ⟨_, _, ⟨T2, L2, k2, n2⟩, -, X2, ⟨Lc2, hQ2, l2, y2, z2⟩, st2⟩ := X1.virtualBack hx (y := (⟨"java/lang/String", "charAt", "(I)C"⟩ : MethodName)) (z := (⟨"java/lang/String", "charAt", "(I)C"⟩ : MethodName)) hown (mvT hZ (ww hw 215 rfl)) (mvT hZ (ww hw 216 rfl)) (notFace_of_selects (args := #[]) (mvT hZ (ww hw 218 rfl))) (mvT hZ (ww hw 218 rfl)) (mvT hZ (ww hw 217 rfl)) (by decide) (own_bk (n0 := n0) (fun _ q => q) (StrChars.Road.chN (W := 0) hZ (own_wC hw) (kI := 4) (ww hw 8 rfl) Ex Vx Cx Kx (own_cd hg) (own_hb hg) (Sta.ext O0.2 SC) hz (Sta.ext O0.2 SF) hf (Nat.le_trans hg.1 (by decide)) (i := 1) h1_.1 h1_.2.1 (by decide) (by decide))) q2a q2c (g := (mkF m 147 #[.val (.int p0), .val (.int p1), .val (.int p2), .val (.int x), .val (.int y), .val (.int w0), .val (.int w1), .val (.int w2), .val (.int d0), .val (.int d1), .val (.int d2), .val (.ref wx), .val (.ref dx), .val (.ref rx), .val (.ref xs), .val (.int nn), .unset] [(.int (1 : Int32)), (.ref xs)])) rfl (by rw [hml]; rfl) (Steps.refl _) (argsL := [(.int (1 : Int32))]) (rest := []) (lenOf own_pd19 rfl) rfl (by show 2 * 0 + _ ≤ _; exact Nat.le_of_eq rfl) (hb hby at_147) (fun _ _ => ⟨rfl, e1, (by decide : 26 + 0 ≤ _), (by decide : 2899 + 0 ≤ _)⟩)
  dsimp only [Pt.U, Pt.locs, Pt.cells, Pt.slots] at X2 l2 y2 z2 st2 hQ2
  subst l2 y2 z2
  obtain ⟨rfl, N2q, e2⟩ := hQ2
  have N2 := Fr.app N1 N2q
  obtain ⟨cq3, kq3, q3a, q3b, q3c⟩ := isOf hZ e2 Ex
  obtain ⟨_, _, ⟨T3, L3, k3, n3⟩, -, X3, ⟨Lc3, hQ3, l3, y3, z3⟩, st3⟩ := X2.virtualBack hx (y := (⟨"java/lang/String", "charAt", "(I)C"⟩ : MethodName)) (z := (⟨"java/lang/String", "charAt", "(I)C"⟩ : MethodName)) hown (mvT hZ (ww hw 215 rfl)) (mvT hZ (ww hw 216 rfl)) (notFace_of_selects (args := #[]) (mvT hZ (ww hw 218 rfl))) (mvT hZ (ww hw 218 rfl)) (mvT hZ (ww hw 217 rfl)) (by decide) (own_bk (n0 := n0) (fun _ q => q) (StrChars.Road.chN (W := 0) hZ (own_wC hw) (kI := 4) (ww hw 8 rfl) Ex Vx Cx Kx (own_cd hg) (own_hb hg) (Sta.ext O0.2 SC) hz (Sta.ext O0.2 SF) hf (Nat.le_trans hg.1 (by decide)) (i := 2) h2_.1 h2_.2.1 (by decide) (by decide))) q3a q3c (g := (mkF m 158 #[.val (.int p0), .val (.int p1), .val (.int p2), .val (.int x), .val (.int y), .val (.int w0), .val (.int w1), .val (.int w2), .val (.int d0), .val (.int d1), .val (.int d2), .val (.ref wx), .val (.ref dx), .val (.ref rx), .val (.ref xs), .val (.int nn), .unset] [(.int (2 : Int32)), (.ref xs)])) rfl (by rw [hml]; rfl) (Steps.refl _) (argsL := [(.int (2 : Int32))]) (rest := []) (lenOf own_pd19 rfl) rfl (by show 2 * 0 + _ ≤ _; exact Nat.le_of_eq rfl) (hb hby at_158) (fun _ _ => ⟨rfl, e2, (by decide : 26 + 0 ≤ _), (by decide : 2899 + 0 ≤ _)⟩)
  dsimp only [Pt.U, Pt.locs, Pt.cells, Pt.slots] at X3 l3 y3 z3 st3 hQ3
  subst l3 y3 z3
  obtain ⟨rfl, N3q, e3⟩ := hQ3
  have N3 := Fr.app N2 N3q
  obtain ⟨cq4, kq4, q4a, q4b, q4c⟩ := isOf hZ e3 Ex
  obtain ⟨_, _, ⟨T4, L4, k4, n4⟩, -, X4, ⟨Lc4, hQ4, l4, y4, z4⟩, st4⟩ := X3.virtualBack hx (y := (⟨"java/lang/String", "charAt", "(I)C"⟩ : MethodName)) (z := (⟨"java/lang/String", "charAt", "(I)C"⟩ : MethodName)) hown (mvT hZ (ww hw 215 rfl)) (mvT hZ (ww hw 216 rfl)) (notFace_of_selects (args := #[]) (mvT hZ (ww hw 218 rfl))) (mvT hZ (ww hw 218 rfl)) (mvT hZ (ww hw 217 rfl)) (by decide) (own_bk (n0 := n0) (fun _ q => q) (StrChars.Road.chN (W := 0) hZ (own_wC hw) (kI := 4) (ww hw 8 rfl) Ex Vx Cx Kx (own_cd hg) (own_hb hg) (Sta.ext O0.2 SC) hz (Sta.ext O0.2 SF) hf (Nat.le_trans hg.1 (by decide)) (i := 3) h3_.1 h3_.2.1 (by decide) (by decide))) q4a q4c (g := (mkF m 169 #[.val (.int p0), .val (.int p1), .val (.int p2), .val (.int x), .val (.int y), .val (.int w0), .val (.int w1), .val (.int w2), .val (.int d0), .val (.int d1), .val (.int d2), .val (.ref wx), .val (.ref dx), .val (.ref rx), .val (.ref xs), .val (.int nn), .unset] [(.int (3 : Int32)), (.ref xs)])) rfl (by rw [hml]; rfl) (Steps.refl _) (argsL := [(.int (3 : Int32))]) (rest := []) (lenOf own_pd19 rfl) rfl (by show 2 * 0 + _ ≤ _; exact Nat.le_of_eq rfl) (hb hby at_169) (fun _ _ => ⟨rfl, e3, (by decide : 26 + 0 ≤ _), (by decide : 2899 + 0 ≤ _)⟩)
  dsimp only [Pt.U, Pt.locs, Pt.cells, Pt.slots] at X4 l4 y4 z4 st4 hQ4
  subst l4 y4 z4
  obtain ⟨rfl, N4q, e4⟩ := hQ4
  have N4 := Fr.app N3 N4q
  refine ⟨T4, _, X4, e4, N4, fun target kt => ?_⟩
  show Steps p.tables e below (T0.setTop (mkF m 133 #[.val (.int p0), .val (.int p1), .val (.int p2), .val (.int x), .val (.int y), .val (.int w0), .val (.int w1), .val (.int w2), .val (.int d0), .val (.int d1), .val (.int d2), .val (.ref wx), .val (.ref dx), .val (.ref rx), .val (.ref xs), .val (.int nn), .unset] [])) _
  refine XS.aload X0.here hx rfl (hb hby at_133) rfl rfl ?_
  show Steps p.tables e below (T0.setTop (mkF m 135 #[.val (.int p0), .val (.int p1), .val (.int p2), .val (.int x), .val (.int y), .val (.int w0), .val (.int w1), .val (.int w2), .val (.int d0), .val (.int d1), .val (.int d2), .val (.ref wx), .val (.ref dx), .val (.ref rx), .val (.ref xs), .val (.int nn), .unset] [(.ref xs)])) _
  refine XS.iconst X0.here hx rfl (hb hby at_135) ?_
  show Steps p.tables e below (T0.setTop (mkF m 136 #[.val (.int p0), .val (.int p1), .val (.int p2), .val (.int x), .val (.int y), .val (.int w0), .val (.int w1), .val (.int w2), .val (.int d0), .val (.int d1), .val (.int d2), .val (.ref wx), .val (.ref dx), .val (.ref rx), .val (.ref xs), .val (.int nn), .unset] [(.int (0 : Int32)), (.ref xs)])) _
  refine st1.trans ?_
  show Steps p.tables e below (T1.setTop (mkF m 139 #[.val (.int p0), .val (.int p1), .val (.int p2), .val (.int x), .val (.int y), .val (.int w0), .val (.int w1), .val (.int w2), .val (.int d0), .val (.int d1), .val (.int d2), .val (.ref wx), .val (.ref dx), .val (.ref rx), .val (.ref xs), .val (.int nn), .unset] [(.int (cs.getD 0 0))])) _
  refine XS.bipush X1.here hx rfl (hb hby at_139) ?_
  show Steps p.tables e below (T1.setTop (mkF m 141 #[.val (.int p0), .val (.int p1), .val (.int p2), .val (.int x), .val (.int y), .val (.int w0), .val (.int w1), .val (.int w2), .val (.int d0), .val (.int d1), .val (.int d2), .val (.ref wx), .val (.ref dx), .val (.ref rx), .val (.ref xs), .val (.int nn), .unset] [(.int (69 : Int32)), (.int (cs.getD 0 0))])) _
  refine XS.icmpNo X1.here hx rfl (hb hby at_141) rfl (teq (h0_.2.2 : (cs.getD 0 0) = (69 : Int32))).2 ?_
  show Steps p.tables e below (T1.setTop (mkF m 144 #[.val (.int p0), .val (.int p1), .val (.int p2), .val (.int x), .val (.int y), .val (.int w0), .val (.int w1), .val (.int w2), .val (.int d0), .val (.int d1), .val (.int d2), .val (.ref wx), .val (.ref dx), .val (.ref rx), .val (.ref xs), .val (.int nn), .unset] [])) _
  refine XS.aload X1.here hx rfl (hb hby at_144) rfl rfl ?_
  show Steps p.tables e below (T1.setTop (mkF m 146 #[.val (.int p0), .val (.int p1), .val (.int p2), .val (.int x), .val (.int y), .val (.int w0), .val (.int w1), .val (.int w2), .val (.int d0), .val (.int d1), .val (.int d2), .val (.ref wx), .val (.ref dx), .val (.ref rx), .val (.ref xs), .val (.int nn), .unset] [(.ref xs)])) _
  refine XS.iconst X1.here hx rfl (hb hby at_146) ?_
  show Steps p.tables e below (T1.setTop (mkF m 147 #[.val (.int p0), .val (.int p1), .val (.int p2), .val (.int x), .val (.int y), .val (.int w0), .val (.int w1), .val (.int w2), .val (.int d0), .val (.int d1), .val (.int d2), .val (.ref wx), .val (.ref dx), .val (.ref rx), .val (.ref xs), .val (.int nn), .unset] [(.int (1 : Int32)), (.ref xs)])) _
  refine st2.trans ?_
  show Steps p.tables e below (T2.setTop (mkF m 150 #[.val (.int p0), .val (.int p1), .val (.int p2), .val (.int x), .val (.int y), .val (.int w0), .val (.int w1), .val (.int w2), .val (.int d0), .val (.int d1), .val (.int d2), .val (.ref wx), .val (.ref dx), .val (.ref rx), .val (.ref xs), .val (.int nn), .unset] [(.int (cs.getD 1 0))])) _
  refine XS.bipush X2.here hx rfl (hb hby at_150) ?_
  show Steps p.tables e below (T2.setTop (mkF m 152 #[.val (.int p0), .val (.int p1), .val (.int p2), .val (.int x), .val (.int y), .val (.int w0), .val (.int w1), .val (.int w2), .val (.int d0), .val (.int d1), .val (.int d2), .val (.ref wx), .val (.ref dx), .val (.ref rx), .val (.ref xs), .val (.int nn), .unset] [(.int (82 : Int32)), (.int (cs.getD 1 0))])) _
  refine XS.icmpNo X2.here hx rfl (hb hby at_152) rfl (teq (h1_.2.2 : (cs.getD 1 0) = (82 : Int32))).2 ?_
  show Steps p.tables e below (T2.setTop (mkF m 155 #[.val (.int p0), .val (.int p1), .val (.int p2), .val (.int x), .val (.int y), .val (.int w0), .val (.int w1), .val (.int w2), .val (.int d0), .val (.int d1), .val (.int d2), .val (.ref wx), .val (.ref dx), .val (.ref rx), .val (.ref xs), .val (.int nn), .unset] [])) _
  refine XS.aload X2.here hx rfl (hb hby at_155) rfl rfl ?_
  show Steps p.tables e below (T2.setTop (mkF m 157 #[.val (.int p0), .val (.int p1), .val (.int p2), .val (.int x), .val (.int y), .val (.int w0), .val (.int w1), .val (.int w2), .val (.int d0), .val (.int d1), .val (.int d2), .val (.ref wx), .val (.ref dx), .val (.ref rx), .val (.ref xs), .val (.int nn), .unset] [(.ref xs)])) _
  refine XS.iconst X2.here hx rfl (hb hby at_157) ?_
  show Steps p.tables e below (T2.setTop (mkF m 158 #[.val (.int p0), .val (.int p1), .val (.int p2), .val (.int x), .val (.int y), .val (.int w0), .val (.int w1), .val (.int w2), .val (.int d0), .val (.int d1), .val (.int d2), .val (.ref wx), .val (.ref dx), .val (.ref rx), .val (.ref xs), .val (.int nn), .unset] [(.int (2 : Int32)), (.ref xs)])) _
  refine st3.trans ?_
  show Steps p.tables e below (T3.setTop (mkF m 161 #[.val (.int p0), .val (.int p1), .val (.int p2), .val (.int x), .val (.int y), .val (.int w0), .val (.int w1), .val (.int w2), .val (.int d0), .val (.int d1), .val (.int d2), .val (.ref wx), .val (.ref dx), .val (.ref rx), .val (.ref xs), .val (.int nn), .unset] [(.int (cs.getD 2 0))])) _
  refine XS.bipush X3.here hx rfl (hb hby at_161) ?_
  show Steps p.tables e below (T3.setTop (mkF m 163 #[.val (.int p0), .val (.int p1), .val (.int p2), .val (.int x), .val (.int y), .val (.int w0), .val (.int w1), .val (.int w2), .val (.int d0), .val (.int d1), .val (.int d2), .val (.ref wx), .val (.ref dx), .val (.ref rx), .val (.ref xs), .val (.int nn), .unset] [(.int (82 : Int32)), (.int (cs.getD 2 0))])) _
  refine XS.icmpNo X3.here hx rfl (hb hby at_163) rfl (teq (h2_.2.2 : (cs.getD 2 0) = (82 : Int32))).2 ?_
  show Steps p.tables e below (T3.setTop (mkF m 166 #[.val (.int p0), .val (.int p1), .val (.int p2), .val (.int x), .val (.int y), .val (.int w0), .val (.int w1), .val (.int w2), .val (.int d0), .val (.int d1), .val (.int d2), .val (.ref wx), .val (.ref dx), .val (.ref rx), .val (.ref xs), .val (.int nn), .unset] [])) _
  refine XS.aload X3.here hx rfl (hb hby at_166) rfl rfl ?_
  show Steps p.tables e below (T3.setTop (mkF m 168 #[.val (.int p0), .val (.int p1), .val (.int p2), .val (.int x), .val (.int y), .val (.int w0), .val (.int w1), .val (.int w2), .val (.int d0), .val (.int d1), .val (.int d2), .val (.ref wx), .val (.ref dx), .val (.ref rx), .val (.ref xs), .val (.int nn), .unset] [(.ref xs)])) _
  refine XS.iconst X3.here hx rfl (hb hby at_168) ?_
  show Steps p.tables e below (T3.setTop (mkF m 169 #[.val (.int p0), .val (.int p1), .val (.int p2), .val (.int x), .val (.int y), .val (.int w0), .val (.int w1), .val (.int w2), .val (.int d0), .val (.int d1), .val (.int d2), .val (.ref wx), .val (.ref dx), .val (.ref rx), .val (.ref xs), .val (.int nn), .unset] [(.int (3 : Int32)), (.ref xs)])) _
  refine st4.trans ?_
  show Steps p.tables e below (T4.setTop (mkF m 172 #[.val (.int p0), .val (.int p1), .val (.int p2), .val (.int x), .val (.int y), .val (.int w0), .val (.int w1), .val (.int w2), .val (.int d0), .val (.int d1), .val (.int d2), .val (.ref wx), .val (.ref dx), .val (.ref rx), .val (.ref xs), .val (.int nn), .unset] [(.int (cs.getD 3 0))])) _
  refine XS.bipush X4.here hx rfl (hb hby at_172) ?_
  show Steps p.tables e below (T4.setTop (mkF m 174 #[.val (.int p0), .val (.int p1), .val (.int p2), .val (.int x), .val (.int y), .val (.int w0), .val (.int w1), .val (.int w2), .val (.int d0), .val (.int d1), .val (.int d2), .val (.ref wx), .val (.ref dx), .val (.ref rx), .val (.ref xs), .val (.int nn), .unset] [(.int (32 : Int32)), (.int (cs.getD 3 0))])) _
  refine XS.icmpYes X4.here hx rfl (pc0 := 174) (pc' := 179) rfl (hb hby at_174) rfl (teq (h3_.2.2 : (cs.getD 3 0) = (32 : Int32))).1 (by decide) (by decide) ?_
  exact kt
set_option maxRecDepth 65536 in
set_option maxHeartbeats 40000000 in
theorem sgB0n_1 {p : Program} {l : Launch} {e : Env} {s : State} {m : MethodId} {args : Array Value} {below : List Frame} {meth : Method} {c : Code} {T0 : State} {locs : List Loc} {Z : State} {a0 : Array Value} {h0 : Heap} {n0 : Nat} (X0 : Stand p l e room_1 s m args below meth c T0 locs 26 2899) (hx : p.tables.exec = Jvm.exec) (hZ : Z.Warmed39 s.vm) (hw : ∀ d ∈ tables_1, d.before a0 Z = true) (hby : c.code = code) (hml : c.maxLocals = 17) (hown : s.vm.findClass "com/example/riverside/riverside/RefusedExceptionReplyLinePinLaw" = some m.cls) (e0 : T0.heap = h0) (N0 : Fr n0 locs) (O0 : Old Z n0 h0) {p0 p1 p2 x y w0 w1 w2 d0 d1 d2 nn z : Int32} {wx dx rx xs nb : Addr} {kn : ClassId} {cs : List Int32} {fm : Value} (Ex : Exa Z h0 xs "java/lang/String") (Vx : Fld Z h0 xs "java/lang/String" "value" "[B" (.ref nb)) (Cx : Fld Z h0 xs "java/lang/String" "coder" "B" (.int 0)) (Kx : Arv Z h0 nb kn .byte (Int32.ofNat (cs).length) (((cs).map StrChars.lo8).map Value.int) (.int 0)) (SC : Sta Z Z.heap "java/lang/String" "COMPACT_STRINGS" "Z" (.int z)) (hz : ¬ z = 0) (SF : Sta Z Z.heap "jdk/internal/util/Preconditions" "SIOOBE_FORMATTER" "Ljava/util/function/BiFunction;" fm) (hf : fm.isRef = true) (hg : own_good cs) (hq : ¬ ((0 : Int32) < x)) :
    ∃ (T' : State) (locs' : List Loc), Stand p l e room_1 s m args below meth c T' locs' 26 2899 ∧ T'.heap = h0 ∧ Fr n0 locs' ∧ ∀ target, Steps p.tables e below (T'.setTop (mkF m 196 #[.val (.int p0), .val (.int p1), .val (.int p2), .val (.int x), .val (.int y), .val (.int w0), .val (.int w1), .val (.int w2), .val (.int d0), .val (.int d1), .val (.int d2), .val (.ref wx), .val (.ref dx), .val (.ref rx), .val (.ref xs), .val (.int nn), .unset] [])) target → Steps p.tables e below (T0.setTop (mkF m 179 #[.val (.int p0), .val (.int p1), .val (.int p2), .val (.int x), .val (.int y), .val (.int w0), .val (.int w1), .val (.int w2), .val (.int d0), .val (.int d1), .val (.int d2), .val (.ref wx), .val (.ref dx), .val (.ref rx), .val (.ref xs), .val (.int nn), .unset] [])) target := by
  refine ⟨T0, _, X0, e0, N0, fun target kt => ?_⟩
  show Steps p.tables e below (T0.setTop (mkF m 179 #[.val (.int p0), .val (.int p1), .val (.int p2), .val (.int x), .val (.int y), .val (.int w0), .val (.int w1), .val (.int w2), .val (.int d0), .val (.int d1), .val (.int d2), .val (.ref wx), .val (.ref dx), .val (.ref rx), .val (.ref xs), .val (.int nn), .unset] [])) _
  refine XS.iloadN X0.here hx rfl (hb hby at_179) rfl ?_
  show Steps p.tables e below (T0.setTop (mkF m 180 #[.val (.int p0), .val (.int p1), .val (.int p2), .val (.int x), .val (.int y), .val (.int w0), .val (.int w1), .val (.int w2), .val (.int d0), .val (.int d1), .val (.int d2), .val (.ref wx), .val (.ref dx), .val (.ref rx), .val (.ref xs), .val (.int nn), .unset] [(.int x)])) _
  refine XS.ifYes X0.here hx rfl (pc0 := 180) (pc' := 196) rfl (hb hby at_180) rfl ((if0 _ _).trans (flt (hq : ¬ ((0 : Int32) < x))).2.2.2) (by decide) (by decide) ?_
  exact kt
set_option maxRecDepth 65536 in
set_option maxHeartbeats 40000000 in
theorem sgB0y_1 {p : Program} {l : Launch} {e : Env} {s : State} {m : MethodId} {args : Array Value} {below : List Frame} {meth : Method} {c : Code} {T0 : State} {locs : List Loc} {Z : State} {a0 : Array Value} {h0 : Heap} {n0 : Nat} (X0 : Stand p l e room_1 s m args below meth c T0 locs 26 2899) (hx : p.tables.exec = Jvm.exec) (hZ : Z.Warmed39 s.vm) (hw : ∀ d ∈ tables_1, d.before a0 Z = true) (hby : c.code = code) (hml : c.maxLocals = 17) (hown : s.vm.findClass "com/example/riverside/riverside/RefusedExceptionReplyLinePinLaw" = some m.cls) (e0 : T0.heap = h0) (N0 : Fr n0 locs) (O0 : Old Z n0 h0) {p0 p1 p2 x y w0 w1 w2 d0 d1 d2 nn z : Int32} {wx dx rx xs nb : Addr} {kn : ClassId} {cs : List Int32} {fm : Value} (Ex : Exa Z h0 xs "java/lang/String") (Vx : Fld Z h0 xs "java/lang/String" "value" "[B" (.ref nb)) (Cx : Fld Z h0 xs "java/lang/String" "coder" "B" (.int 0)) (Kx : Arv Z h0 nb kn .byte (Int32.ofNat (cs).length) (((cs).map StrChars.lo8).map Value.int) (.int 0)) (SC : Sta Z Z.heap "java/lang/String" "COMPACT_STRINGS" "Z" (.int z)) (hz : ¬ z = 0) (SF : Sta Z Z.heap "jdk/internal/util/Preconditions" "SIOOBE_FORMATTER" "Ljava/util/function/BiFunction;" fm) (hf : fm.isRef = true) (hg : own_good cs) (hq : (0 : Int32) < x) (hp : own_P cs 4 4 w0) :
    ∃ (T' : State) (locs' : List Loc), Stand p l e room_1 s m args below meth c T' locs' 26 2899 ∧ T'.heap = h0 ∧ Fr n0 locs' ∧ ∀ target, Steps p.tables e below (T'.setTop (mkF m 196 #[.val (.int p0), .val (.int p1), .val (.int p2), .val (.int x), .val (.int y), .val (.int w0), .val (.int w1), .val (.int w2), .val (.int d0), .val (.int d1), .val (.int d2), .val (.ref wx), .val (.ref dx), .val (.ref rx), .val (.ref xs), .val (.int nn), .unset] [])) target → Steps p.tables e below (T0.setTop (mkF m 179 #[.val (.int p0), .val (.int p1), .val (.int p2), .val (.int x), .val (.int y), .val (.int w0), .val (.int w1), .val (.int w2), .val (.int d0), .val (.int d1), .val (.int d2), .val (.ref wx), .val (.ref dx), .val (.ref rx), .val (.ref xs), .val (.int nn), .unset] [])) target := by
  obtain ⟨cq1, kq1, q1a, q1b, q1c⟩ := isOf hZ e0 Ex
  obtain ⟨_, _, ⟨T1, L1, k1, n1⟩, -, X1, ⟨Lc1, hQ1, l1, y1, z1⟩, st1⟩ := X0.virtualBack hx (y := (⟨"java/lang/String", "charAt", "(I)C"⟩ : MethodName)) (z := (⟨"java/lang/String", "charAt", "(I)C"⟩ : MethodName)) hown (mvT hZ (ww hw 215 rfl)) (mvT hZ (ww hw 216 rfl)) (notFace_of_selects (args := #[]) (mvT hZ (ww hw 218 rfl))) (mvT hZ (ww hw 218 rfl)) (mvT hZ (ww hw 217 rfl)) (by decide) (own_bk (n0 := n0) (fun _ q => q) (StrChars.Road.chN (W := 0) hZ (own_wC hw) (kI := 4) (ww hw 8 rfl) Ex Vx Cx Kx (own_cd hg) (own_hb hg) (Sta.ext O0.2 SC) hz (Sta.ext O0.2 SF) hf (Nat.le_trans hg.1 (by decide)) (i := 4) hp.1 hp.2.1 (by decide) (by decide))) q1a q1c (g := (mkF m 186 #[.val (.int p0), .val (.int p1), .val (.int p2), .val (.int x), .val (.int y), .val (.int w0), .val (.int w1), .val (.int w2), .val (.int d0), .val (.int d1), .val (.int d2), .val (.ref wx), .val (.ref dx), .val (.ref rx), .val (.ref xs), .val (.int nn), .unset] [(.int (4 : Int32)), (.ref xs)])) rfl (by rw [hml]; rfl) (Steps.refl _) (argsL := [(.int (4 : Int32))]) (rest := []) (lenOf own_pd19 rfl) rfl (by show 2 * 0 + _ ≤ _; exact Nat.le_of_eq rfl) (hb hby at_186) (fun _ _ => ⟨rfl, e0, (by decide : 26 + 0 ≤ _), (by decide : 2899 + 0 ≤ _)⟩)
  dsimp only [Pt.U, Pt.locs, Pt.cells, Pt.slots] at X1 l1 y1 z1 st1 hQ1
  subst l1 y1 z1
  obtain ⟨rfl, N1q, e1⟩ := hQ1
  have N1 := Fr.app N0 N1q
  refine ⟨T1, _, X1, e1, N1, fun target kt => ?_⟩
  show Steps p.tables e below (T0.setTop (mkF m 179 #[.val (.int p0), .val (.int p1), .val (.int p2), .val (.int x), .val (.int y), .val (.int w0), .val (.int w1), .val (.int w2), .val (.int d0), .val (.int d1), .val (.int d2), .val (.ref wx), .val (.ref dx), .val (.ref rx), .val (.ref xs), .val (.int nn), .unset] [])) _
  refine XS.iloadN X0.here hx rfl (hb hby at_179) rfl ?_
  show Steps p.tables e below (T0.setTop (mkF m 180 #[.val (.int p0), .val (.int p1), .val (.int p2), .val (.int x), .val (.int y), .val (.int w0), .val (.int w1), .val (.int w2), .val (.int d0), .val (.int d1), .val (.int d2), .val (.ref wx), .val (.ref dx), .val (.ref rx), .val (.ref xs), .val (.int nn), .unset] [(.int x)])) _
  refine XS.ifNo X0.here hx rfl (hb hby at_180) rfl ((if0 _ _).trans (tlt (hq : (0 : Int32) < x)).2.2.2) ?_
  show Steps p.tables e below (T0.setTop (mkF m 183 #[.val (.int p0), .val (.int p1), .val (.int p2), .val (.int x), .val (.int y), .val (.int w0), .val (.int w1), .val (.int w2), .val (.int d0), .val (.int d1), .val (.int d2), .val (.ref wx), .val (.ref dx), .val (.ref rx), .val (.ref xs), .val (.int nn), .unset] [])) _
  refine XS.aload X0.here hx rfl (hb hby at_183) rfl rfl ?_
  show Steps p.tables e below (T0.setTop (mkF m 185 #[.val (.int p0), .val (.int p1), .val (.int p2), .val (.int x), .val (.int y), .val (.int w0), .val (.int w1), .val (.int w2), .val (.int d0), .val (.int d1), .val (.int d2), .val (.ref wx), .val (.ref dx), .val (.ref rx), .val (.ref xs), .val (.int nn), .unset] [(.ref xs)])) _
  refine XS.iconst X0.here hx rfl (hb hby at_185) ?_
  show Steps p.tables e below (T0.setTop (mkF m 186 #[.val (.int p0), .val (.int p1), .val (.int p2), .val (.int x), .val (.int y), .val (.int w0), .val (.int w1), .val (.int w2), .val (.int d0), .val (.int d1), .val (.int d2), .val (.ref wx), .val (.ref dx), .val (.ref rx), .val (.ref xs), .val (.int nn), .unset] [(.int (4 : Int32)), (.ref xs)])) _
  refine st1.trans ?_
  show Steps p.tables e below (T1.setTop (mkF m 189 #[.val (.int p0), .val (.int p1), .val (.int p2), .val (.int x), .val (.int y), .val (.int w0), .val (.int w1), .val (.int w2), .val (.int d0), .val (.int d1), .val (.int d2), .val (.ref wx), .val (.ref dx), .val (.ref rx), .val (.ref xs), .val (.int nn), .unset] [(.int (cs.getD 4 0))])) _
  refine XS.iload X1.here hx rfl (hb hby at_189) rfl ?_
  show Steps p.tables e below (T1.setTop (mkF m 191 #[.val (.int p0), .val (.int p1), .val (.int p2), .val (.int x), .val (.int y), .val (.int w0), .val (.int w1), .val (.int w2), .val (.int d0), .val (.int d1), .val (.int d2), .val (.ref wx), .val (.ref dx), .val (.ref rx), .val (.ref xs), .val (.int nn), .unset] [(.int w0), (.int (cs.getD 4 0))])) _
  refine XS.icmpYes X1.here hx rfl (pc0 := 191) (pc' := 196) rfl (hb hby at_191) rfl (teq (hp.2.2 : (cs.getD 4 0) = w0)).1 (by decide) (by decide) ?_
  exact kt
theorem sgB0_1 {p : Program} {l : Launch} {e : Env} {s : State} {m : MethodId} {args : Array Value} {below : List Frame} {meth : Method} {c : Code} {T0 : State} {locs : List Loc} {Z : State} {a0 : Array Value} {h0 : Heap} {n0 : Nat} (X0 : Stand p l e room_1 s m args below meth c T0 locs 26 2899) (hx : p.tables.exec = Jvm.exec) (hZ : Z.Warmed39 s.vm) (hw : ∀ d ∈ tables_1, d.before a0 Z = true) (hby : c.code = code) (hml : c.maxLocals = 17) (hown : s.vm.findClass "com/example/riverside/riverside/RefusedExceptionReplyLinePinLaw" = some m.cls) (e0 : T0.heap = h0) (N0 : Fr n0 locs) (O0 : Old Z n0 h0) {p0 p1 p2 x y w0 w1 w2 d0 d1 d2 nn z : Int32} {wx dx rx xs nb : Addr} {kn : ClassId} {cs : List Int32} {fm : Value} (Ex : Exa Z h0 xs "java/lang/String") (Vx : Fld Z h0 xs "java/lang/String" "value" "[B" (.ref nb)) (Cx : Fld Z h0 xs "java/lang/String" "coder" "B" (.int 0)) (Kx : Arv Z h0 nb kn .byte (Int32.ofNat (cs).length) (((cs).map StrChars.lo8).map Value.int) (.int 0)) (SC : Sta Z Z.heap "java/lang/String" "COMPACT_STRINGS" "Z" (.int z)) (hz : ¬ z = 0) (SF : Sta Z Z.heap "jdk/internal/util/Preconditions" "SIOOBE_FORMATTER" "Ljava/util/function/BiFunction;" fm) (hf : fm.isRef = true) (hg : own_good cs) (hq : (0 : Int32) < x → own_P cs 4 4 w0) :
    ∃ (T' : State) (locs' : List Loc), Stand p l e room_1 s m args below meth c T' locs' 26 2899 ∧ T'.heap = h0 ∧ Fr n0 locs' ∧ ∀ target, Steps p.tables e below (T'.setTop (mkF m 196 #[.val (.int p0), .val (.int p1), .val (.int p2), .val (.int x), .val (.int y), .val (.int w0), .val (.int w1), .val (.int w2), .val (.int d0), .val (.int d1), .val (.int d2), .val (.ref wx), .val (.ref dx), .val (.ref rx), .val (.ref xs), .val (.int nn), .unset] [])) target → Steps p.tables e below (T0.setTop (mkF m 179 #[.val (.int p0), .val (.int p1), .val (.int p2), .val (.int x), .val (.int y), .val (.int w0), .val (.int w1), .val (.int w2), .val (.int d0), .val (.int d1), .val (.int d2), .val (.ref wx), .val (.ref dx), .val (.ref rx), .val (.ref xs), .val (.int nn), .unset] [])) target := by
  by_cases q : (0 : Int32) < x
  · exact sgB0y_1 X0 hx hZ hw hby hml hown e0 N0 O0 Ex Vx Cx Kx SC hz SF hf hg q (hq q)
  · exact sgB0n_1 X0 hx hZ hw hby hml hown e0 N0 O0 Ex Vx Cx Kx SC hz SF hf hg q
set_option maxRecDepth 65536 in
set_option maxHeartbeats 40000000 in
theorem sgB1n_1 {p : Program} {l : Launch} {e : Env} {s : State} {m : MethodId} {args : Array Value} {below : List Frame} {meth : Method} {c : Code} {T0 : State} {locs : List Loc} {Z : State} {a0 : Array Value} {h0 : Heap} {n0 : Nat} (X0 : Stand p l e room_1 s m args below meth c T0 locs 26 2899) (hx : p.tables.exec = Jvm.exec) (hZ : Z.Warmed39 s.vm) (hw : ∀ d ∈ tables_1, d.before a0 Z = true) (hby : c.code = code) (hml : c.maxLocals = 17) (hown : s.vm.findClass "com/example/riverside/riverside/RefusedExceptionReplyLinePinLaw" = some m.cls) (e0 : T0.heap = h0) (N0 : Fr n0 locs) (O0 : Old Z n0 h0) {p0 p1 p2 x y w0 w1 w2 d0 d1 d2 nn z : Int32} {wx dx rx xs nb : Addr} {kn : ClassId} {cs : List Int32} {fm : Value} (Ex : Exa Z h0 xs "java/lang/String") (Vx : Fld Z h0 xs "java/lang/String" "value" "[B" (.ref nb)) (Cx : Fld Z h0 xs "java/lang/String" "coder" "B" (.int 0)) (Kx : Arv Z h0 nb kn .byte (Int32.ofNat (cs).length) (((cs).map StrChars.lo8).map Value.int) (.int 0)) (SC : Sta Z Z.heap "java/lang/String" "COMPACT_STRINGS" "Z" (.int z)) (hz : ¬ z = 0) (SF : Sta Z Z.heap "jdk/internal/util/Preconditions" "SIOOBE_FORMATTER" "Ljava/util/function/BiFunction;" fm) (hf : fm.isRef = true) (hg : own_good cs) (hq : ¬ ((1 : Int32) < x)) :
    ∃ (T' : State) (locs' : List Loc), Stand p l e room_1 s m args below meth c T' locs' 26 2899 ∧ T'.heap = h0 ∧ Fr n0 locs' ∧ ∀ target, Steps p.tables e below (T'.setTop (mkF m 214 #[.val (.int p0), .val (.int p1), .val (.int p2), .val (.int x), .val (.int y), .val (.int w0), .val (.int w1), .val (.int w2), .val (.int d0), .val (.int d1), .val (.int d2), .val (.ref wx), .val (.ref dx), .val (.ref rx), .val (.ref xs), .val (.int nn), .unset] [])) target → Steps p.tables e below (T0.setTop (mkF m 196 #[.val (.int p0), .val (.int p1), .val (.int p2), .val (.int x), .val (.int y), .val (.int w0), .val (.int w1), .val (.int w2), .val (.int d0), .val (.int d1), .val (.int d2), .val (.ref wx), .val (.ref dx), .val (.ref rx), .val (.ref xs), .val (.int nn), .unset] [])) target := by
  refine ⟨T0, _, X0, e0, N0, fun target kt => ?_⟩
  show Steps p.tables e below (T0.setTop (mkF m 196 #[.val (.int p0), .val (.int p1), .val (.int p2), .val (.int x), .val (.int y), .val (.int w0), .val (.int w1), .val (.int w2), .val (.int d0), .val (.int d1), .val (.int d2), .val (.ref wx), .val (.ref dx), .val (.ref rx), .val (.ref xs), .val (.int nn), .unset] [])) _
  refine XS.iloadN X0.here hx rfl (hb hby at_196) rfl ?_
  show Steps p.tables e below (T0.setTop (mkF m 197 #[.val (.int p0), .val (.int p1), .val (.int p2), .val (.int x), .val (.int y), .val (.int w0), .val (.int w1), .val (.int w2), .val (.int d0), .val (.int d1), .val (.int d2), .val (.ref wx), .val (.ref dx), .val (.ref rx), .val (.ref xs), .val (.int nn), .unset] [(.int x)])) _
  refine XS.iconst X0.here hx rfl (hb hby at_197) ?_
  show Steps p.tables e below (T0.setTop (mkF m 198 #[.val (.int p0), .val (.int p1), .val (.int p2), .val (.int x), .val (.int y), .val (.int w0), .val (.int w1), .val (.int w2), .val (.int d0), .val (.int d1), .val (.int d2), .val (.ref wx), .val (.ref dx), .val (.ref rx), .val (.ref xs), .val (.int nn), .unset] [(.int (1 : Int32)), (.int x)])) _
  refine XS.icmpYes X0.here hx rfl (pc0 := 198) (pc' := 214) rfl (hb hby at_198) rfl (flt (hq : ¬ ((1 : Int32) < x))).2.2.2 (by decide) (by decide) ?_
  exact kt
set_option maxRecDepth 65536 in
set_option maxHeartbeats 40000000 in
theorem sgB1y_1 {p : Program} {l : Launch} {e : Env} {s : State} {m : MethodId} {args : Array Value} {below : List Frame} {meth : Method} {c : Code} {T0 : State} {locs : List Loc} {Z : State} {a0 : Array Value} {h0 : Heap} {n0 : Nat} (X0 : Stand p l e room_1 s m args below meth c T0 locs 26 2899) (hx : p.tables.exec = Jvm.exec) (hZ : Z.Warmed39 s.vm) (hw : ∀ d ∈ tables_1, d.before a0 Z = true) (hby : c.code = code) (hml : c.maxLocals = 17) (hown : s.vm.findClass "com/example/riverside/riverside/RefusedExceptionReplyLinePinLaw" = some m.cls) (e0 : T0.heap = h0) (N0 : Fr n0 locs) (O0 : Old Z n0 h0) {p0 p1 p2 x y w0 w1 w2 d0 d1 d2 nn z : Int32} {wx dx rx xs nb : Addr} {kn : ClassId} {cs : List Int32} {fm : Value} (Ex : Exa Z h0 xs "java/lang/String") (Vx : Fld Z h0 xs "java/lang/String" "value" "[B" (.ref nb)) (Cx : Fld Z h0 xs "java/lang/String" "coder" "B" (.int 0)) (Kx : Arv Z h0 nb kn .byte (Int32.ofNat (cs).length) (((cs).map StrChars.lo8).map Value.int) (.int 0)) (SC : Sta Z Z.heap "java/lang/String" "COMPACT_STRINGS" "Z" (.int z)) (hz : ¬ z = 0) (SF : Sta Z Z.heap "jdk/internal/util/Preconditions" "SIOOBE_FORMATTER" "Ljava/util/function/BiFunction;" fm) (hf : fm.isRef = true) (hg : own_good cs) (hq : (1 : Int32) < x) (hp : own_P cs 5 5 w1) :
    ∃ (T' : State) (locs' : List Loc), Stand p l e room_1 s m args below meth c T' locs' 26 2899 ∧ T'.heap = h0 ∧ Fr n0 locs' ∧ ∀ target, Steps p.tables e below (T'.setTop (mkF m 214 #[.val (.int p0), .val (.int p1), .val (.int p2), .val (.int x), .val (.int y), .val (.int w0), .val (.int w1), .val (.int w2), .val (.int d0), .val (.int d1), .val (.int d2), .val (.ref wx), .val (.ref dx), .val (.ref rx), .val (.ref xs), .val (.int nn), .unset] [])) target → Steps p.tables e below (T0.setTop (mkF m 196 #[.val (.int p0), .val (.int p1), .val (.int p2), .val (.int x), .val (.int y), .val (.int w0), .val (.int w1), .val (.int w2), .val (.int d0), .val (.int d1), .val (.int d2), .val (.ref wx), .val (.ref dx), .val (.ref rx), .val (.ref xs), .val (.int nn), .unset] [])) target := by
  obtain ⟨cq1, kq1, q1a, q1b, q1c⟩ := isOf hZ e0 Ex
  obtain ⟨_, _, ⟨T1, L1, k1, n1⟩, -, X1, ⟨Lc1, hQ1, l1, y1, z1⟩, st1⟩ := X0.virtualBack hx (y := (⟨"java/lang/String", "charAt", "(I)C"⟩ : MethodName)) (z := (⟨"java/lang/String", "charAt", "(I)C"⟩ : MethodName)) hown (mvT hZ (ww hw 215 rfl)) (mvT hZ (ww hw 216 rfl)) (notFace_of_selects (args := #[]) (mvT hZ (ww hw 218 rfl))) (mvT hZ (ww hw 218 rfl)) (mvT hZ (ww hw 217 rfl)) (by decide) (own_bk (n0 := n0) (fun _ q => q) (StrChars.Road.chN (W := 0) hZ (own_wC hw) (kI := 4) (ww hw 8 rfl) Ex Vx Cx Kx (own_cd hg) (own_hb hg) (Sta.ext O0.2 SC) hz (Sta.ext O0.2 SF) hf (Nat.le_trans hg.1 (by decide)) (i := 5) hp.1 hp.2.1 (by decide) (by decide))) q1a q1c (g := (mkF m 204 #[.val (.int p0), .val (.int p1), .val (.int p2), .val (.int x), .val (.int y), .val (.int w0), .val (.int w1), .val (.int w2), .val (.int d0), .val (.int d1), .val (.int d2), .val (.ref wx), .val (.ref dx), .val (.ref rx), .val (.ref xs), .val (.int nn), .unset] [(.int (5 : Int32)), (.ref xs)])) rfl (by rw [hml]; rfl) (Steps.refl _) (argsL := [(.int (5 : Int32))]) (rest := []) (lenOf own_pd19 rfl) rfl (by show 2 * 0 + _ ≤ _; exact Nat.le_of_eq rfl) (hb hby at_204) (fun _ _ => ⟨rfl, e0, (by decide : 26 + 0 ≤ _), (by decide : 2899 + 0 ≤ _)⟩)
  dsimp only [Pt.U, Pt.locs, Pt.cells, Pt.slots] at X1 l1 y1 z1 st1 hQ1
  subst l1 y1 z1
  obtain ⟨rfl, N1q, e1⟩ := hQ1
  have N1 := Fr.app N0 N1q
  refine ⟨T1, _, X1, e1, N1, fun target kt => ?_⟩
  show Steps p.tables e below (T0.setTop (mkF m 196 #[.val (.int p0), .val (.int p1), .val (.int p2), .val (.int x), .val (.int y), .val (.int w0), .val (.int w1), .val (.int w2), .val (.int d0), .val (.int d1), .val (.int d2), .val (.ref wx), .val (.ref dx), .val (.ref rx), .val (.ref xs), .val (.int nn), .unset] [])) _
  refine XS.iloadN X0.here hx rfl (hb hby at_196) rfl ?_
  show Steps p.tables e below (T0.setTop (mkF m 197 #[.val (.int p0), .val (.int p1), .val (.int p2), .val (.int x), .val (.int y), .val (.int w0), .val (.int w1), .val (.int w2), .val (.int d0), .val (.int d1), .val (.int d2), .val (.ref wx), .val (.ref dx), .val (.ref rx), .val (.ref xs), .val (.int nn), .unset] [(.int x)])) _
  refine XS.iconst X0.here hx rfl (hb hby at_197) ?_
  show Steps p.tables e below (T0.setTop (mkF m 198 #[.val (.int p0), .val (.int p1), .val (.int p2), .val (.int x), .val (.int y), .val (.int w0), .val (.int w1), .val (.int w2), .val (.int d0), .val (.int d1), .val (.int d2), .val (.ref wx), .val (.ref dx), .val (.ref rx), .val (.ref xs), .val (.int nn), .unset] [(.int (1 : Int32)), (.int x)])) _
  refine XS.icmpNo X0.here hx rfl (hb hby at_198) rfl (tlt (hq : (1 : Int32) < x)).2.2.2 ?_
  show Steps p.tables e below (T0.setTop (mkF m 201 #[.val (.int p0), .val (.int p1), .val (.int p2), .val (.int x), .val (.int y), .val (.int w0), .val (.int w1), .val (.int w2), .val (.int d0), .val (.int d1), .val (.int d2), .val (.ref wx), .val (.ref dx), .val (.ref rx), .val (.ref xs), .val (.int nn), .unset] [])) _
  refine XS.aload X0.here hx rfl (hb hby at_201) rfl rfl ?_
  show Steps p.tables e below (T0.setTop (mkF m 203 #[.val (.int p0), .val (.int p1), .val (.int p2), .val (.int x), .val (.int y), .val (.int w0), .val (.int w1), .val (.int w2), .val (.int d0), .val (.int d1), .val (.int d2), .val (.ref wx), .val (.ref dx), .val (.ref rx), .val (.ref xs), .val (.int nn), .unset] [(.ref xs)])) _
  refine XS.iconst X0.here hx rfl (hb hby at_203) ?_
  show Steps p.tables e below (T0.setTop (mkF m 204 #[.val (.int p0), .val (.int p1), .val (.int p2), .val (.int x), .val (.int y), .val (.int w0), .val (.int w1), .val (.int w2), .val (.int d0), .val (.int d1), .val (.int d2), .val (.ref wx), .val (.ref dx), .val (.ref rx), .val (.ref xs), .val (.int nn), .unset] [(.int (5 : Int32)), (.ref xs)])) _
  refine st1.trans ?_
  show Steps p.tables e below (T1.setTop (mkF m 207 #[.val (.int p0), .val (.int p1), .val (.int p2), .val (.int x), .val (.int y), .val (.int w0), .val (.int w1), .val (.int w2), .val (.int d0), .val (.int d1), .val (.int d2), .val (.ref wx), .val (.ref dx), .val (.ref rx), .val (.ref xs), .val (.int nn), .unset] [(.int (cs.getD 5 0))])) _
  refine XS.iload X1.here hx rfl (hb hby at_207) rfl ?_
  show Steps p.tables e below (T1.setTop (mkF m 209 #[.val (.int p0), .val (.int p1), .val (.int p2), .val (.int x), .val (.int y), .val (.int w0), .val (.int w1), .val (.int w2), .val (.int d0), .val (.int d1), .val (.int d2), .val (.ref wx), .val (.ref dx), .val (.ref rx), .val (.ref xs), .val (.int nn), .unset] [(.int w1), (.int (cs.getD 5 0))])) _
  refine XS.icmpYes X1.here hx rfl (pc0 := 209) (pc' := 214) rfl (hb hby at_209) rfl (teq (hp.2.2 : (cs.getD 5 0) = w1)).1 (by decide) (by decide) ?_
  exact kt
theorem sgB1_1 {p : Program} {l : Launch} {e : Env} {s : State} {m : MethodId} {args : Array Value} {below : List Frame} {meth : Method} {c : Code} {T0 : State} {locs : List Loc} {Z : State} {a0 : Array Value} {h0 : Heap} {n0 : Nat} (X0 : Stand p l e room_1 s m args below meth c T0 locs 26 2899) (hx : p.tables.exec = Jvm.exec) (hZ : Z.Warmed39 s.vm) (hw : ∀ d ∈ tables_1, d.before a0 Z = true) (hby : c.code = code) (hml : c.maxLocals = 17) (hown : s.vm.findClass "com/example/riverside/riverside/RefusedExceptionReplyLinePinLaw" = some m.cls) (e0 : T0.heap = h0) (N0 : Fr n0 locs) (O0 : Old Z n0 h0) {p0 p1 p2 x y w0 w1 w2 d0 d1 d2 nn z : Int32} {wx dx rx xs nb : Addr} {kn : ClassId} {cs : List Int32} {fm : Value} (Ex : Exa Z h0 xs "java/lang/String") (Vx : Fld Z h0 xs "java/lang/String" "value" "[B" (.ref nb)) (Cx : Fld Z h0 xs "java/lang/String" "coder" "B" (.int 0)) (Kx : Arv Z h0 nb kn .byte (Int32.ofNat (cs).length) (((cs).map StrChars.lo8).map Value.int) (.int 0)) (SC : Sta Z Z.heap "java/lang/String" "COMPACT_STRINGS" "Z" (.int z)) (hz : ¬ z = 0) (SF : Sta Z Z.heap "jdk/internal/util/Preconditions" "SIOOBE_FORMATTER" "Ljava/util/function/BiFunction;" fm) (hf : fm.isRef = true) (hg : own_good cs) (hq : (1 : Int32) < x → own_P cs 5 5 w1) :
    ∃ (T' : State) (locs' : List Loc), Stand p l e room_1 s m args below meth c T' locs' 26 2899 ∧ T'.heap = h0 ∧ Fr n0 locs' ∧ ∀ target, Steps p.tables e below (T'.setTop (mkF m 214 #[.val (.int p0), .val (.int p1), .val (.int p2), .val (.int x), .val (.int y), .val (.int w0), .val (.int w1), .val (.int w2), .val (.int d0), .val (.int d1), .val (.int d2), .val (.ref wx), .val (.ref dx), .val (.ref rx), .val (.ref xs), .val (.int nn), .unset] [])) target → Steps p.tables e below (T0.setTop (mkF m 196 #[.val (.int p0), .val (.int p1), .val (.int p2), .val (.int x), .val (.int y), .val (.int w0), .val (.int w1), .val (.int w2), .val (.int d0), .val (.int d1), .val (.int d2), .val (.ref wx), .val (.ref dx), .val (.ref rx), .val (.ref xs), .val (.int nn), .unset] [])) target := by
  by_cases q : (1 : Int32) < x
  · exact sgB1y_1 X0 hx hZ hw hby hml hown e0 N0 O0 Ex Vx Cx Kx SC hz SF hf hg q (hq q)
  · exact sgB1n_1 X0 hx hZ hw hby hml hown e0 N0 O0 Ex Vx Cx Kx SC hz SF hf hg q
set_option maxRecDepth 65536 in
set_option maxHeartbeats 40000000 in
theorem sgB2n_1 {p : Program} {l : Launch} {e : Env} {s : State} {m : MethodId} {args : Array Value} {below : List Frame} {meth : Method} {c : Code} {T0 : State} {locs : List Loc} {Z : State} {a0 : Array Value} {h0 : Heap} {n0 : Nat} (X0 : Stand p l e room_1 s m args below meth c T0 locs 26 2899) (hx : p.tables.exec = Jvm.exec) (hZ : Z.Warmed39 s.vm) (hw : ∀ d ∈ tables_1, d.before a0 Z = true) (hby : c.code = code) (hml : c.maxLocals = 17) (hown : s.vm.findClass "com/example/riverside/riverside/RefusedExceptionReplyLinePinLaw" = some m.cls) (e0 : T0.heap = h0) (N0 : Fr n0 locs) (O0 : Old Z n0 h0) {p0 p1 p2 x y w0 w1 w2 d0 d1 d2 nn z : Int32} {wx dx rx xs nb : Addr} {kn : ClassId} {cs : List Int32} {fm : Value} (Ex : Exa Z h0 xs "java/lang/String") (Vx : Fld Z h0 xs "java/lang/String" "value" "[B" (.ref nb)) (Cx : Fld Z h0 xs "java/lang/String" "coder" "B" (.int 0)) (Kx : Arv Z h0 nb kn .byte (Int32.ofNat (cs).length) (((cs).map StrChars.lo8).map Value.int) (.int 0)) (SC : Sta Z Z.heap "java/lang/String" "COMPACT_STRINGS" "Z" (.int z)) (hz : ¬ z = 0) (SF : Sta Z Z.heap "jdk/internal/util/Preconditions" "SIOOBE_FORMATTER" "Ljava/util/function/BiFunction;" fm) (hf : fm.isRef = true) (hg : own_good cs) (hq : ¬ ((2 : Int32) < x)) :
    ∃ (T' : State) (locs' : List Loc), Stand p l e room_1 s m args below meth c T' locs' 26 2899 ∧ T'.heap = h0 ∧ Fr n0 locs' ∧ ∀ target, Steps p.tables e below (T'.setTop (mkF m 233 #[.val (.int p0), .val (.int p1), .val (.int p2), .val (.int x), .val (.int y), .val (.int w0), .val (.int w1), .val (.int w2), .val (.int d0), .val (.int d1), .val (.int d2), .val (.ref wx), .val (.ref dx), .val (.ref rx), .val (.ref xs), .val (.int nn), .unset] [])) target → Steps p.tables e below (T0.setTop (mkF m 214 #[.val (.int p0), .val (.int p1), .val (.int p2), .val (.int x), .val (.int y), .val (.int w0), .val (.int w1), .val (.int w2), .val (.int d0), .val (.int d1), .val (.int d2), .val (.ref wx), .val (.ref dx), .val (.ref rx), .val (.ref xs), .val (.int nn), .unset] [])) target := by
  refine ⟨T0, _, X0, e0, N0, fun target kt => ?_⟩
  show Steps p.tables e below (T0.setTop (mkF m 214 #[.val (.int p0), .val (.int p1), .val (.int p2), .val (.int x), .val (.int y), .val (.int w0), .val (.int w1), .val (.int w2), .val (.int d0), .val (.int d1), .val (.int d2), .val (.ref wx), .val (.ref dx), .val (.ref rx), .val (.ref xs), .val (.int nn), .unset] [])) _
  refine XS.iloadN X0.here hx rfl (hb hby at_214) rfl ?_
  show Steps p.tables e below (T0.setTop (mkF m 215 #[.val (.int p0), .val (.int p1), .val (.int p2), .val (.int x), .val (.int y), .val (.int w0), .val (.int w1), .val (.int w2), .val (.int d0), .val (.int d1), .val (.int d2), .val (.ref wx), .val (.ref dx), .val (.ref rx), .val (.ref xs), .val (.int nn), .unset] [(.int x)])) _
  refine XS.iconst X0.here hx rfl (hb hby at_215) ?_
  show Steps p.tables e below (T0.setTop (mkF m 216 #[.val (.int p0), .val (.int p1), .val (.int p2), .val (.int x), .val (.int y), .val (.int w0), .val (.int w1), .val (.int w2), .val (.int d0), .val (.int d1), .val (.int d2), .val (.ref wx), .val (.ref dx), .val (.ref rx), .val (.ref xs), .val (.int nn), .unset] [(.int (2 : Int32)), (.int x)])) _
  refine XS.icmpYes X0.here hx rfl (pc0 := 216) (pc' := 233) rfl (hb hby at_216) rfl (flt (hq : ¬ ((2 : Int32) < x))).2.2.2 (by decide) (by decide) ?_
  exact kt
set_option maxRecDepth 65536 in
set_option maxHeartbeats 40000000 in
theorem sgB2y_1 {p : Program} {l : Launch} {e : Env} {s : State} {m : MethodId} {args : Array Value} {below : List Frame} {meth : Method} {c : Code} {T0 : State} {locs : List Loc} {Z : State} {a0 : Array Value} {h0 : Heap} {n0 : Nat} (X0 : Stand p l e room_1 s m args below meth c T0 locs 26 2899) (hx : p.tables.exec = Jvm.exec) (hZ : Z.Warmed39 s.vm) (hw : ∀ d ∈ tables_1, d.before a0 Z = true) (hby : c.code = code) (hml : c.maxLocals = 17) (hown : s.vm.findClass "com/example/riverside/riverside/RefusedExceptionReplyLinePinLaw" = some m.cls) (e0 : T0.heap = h0) (N0 : Fr n0 locs) (O0 : Old Z n0 h0) {p0 p1 p2 x y w0 w1 w2 d0 d1 d2 nn z : Int32} {wx dx rx xs nb : Addr} {kn : ClassId} {cs : List Int32} {fm : Value} (Ex : Exa Z h0 xs "java/lang/String") (Vx : Fld Z h0 xs "java/lang/String" "value" "[B" (.ref nb)) (Cx : Fld Z h0 xs "java/lang/String" "coder" "B" (.int 0)) (Kx : Arv Z h0 nb kn .byte (Int32.ofNat (cs).length) (((cs).map StrChars.lo8).map Value.int) (.int 0)) (SC : Sta Z Z.heap "java/lang/String" "COMPACT_STRINGS" "Z" (.int z)) (hz : ¬ z = 0) (SF : Sta Z Z.heap "jdk/internal/util/Preconditions" "SIOOBE_FORMATTER" "Ljava/util/function/BiFunction;" fm) (hf : fm.isRef = true) (hg : own_good cs) (hq : (2 : Int32) < x) (hp : own_P cs 6 6 w2) :
    ∃ (T' : State) (locs' : List Loc), Stand p l e room_1 s m args below meth c T' locs' 26 2899 ∧ T'.heap = h0 ∧ Fr n0 locs' ∧ ∀ target, Steps p.tables e below (T'.setTop (mkF m 233 #[.val (.int p0), .val (.int p1), .val (.int p2), .val (.int x), .val (.int y), .val (.int w0), .val (.int w1), .val (.int w2), .val (.int d0), .val (.int d1), .val (.int d2), .val (.ref wx), .val (.ref dx), .val (.ref rx), .val (.ref xs), .val (.int nn), .unset] [])) target → Steps p.tables e below (T0.setTop (mkF m 214 #[.val (.int p0), .val (.int p1), .val (.int p2), .val (.int x), .val (.int y), .val (.int w0), .val (.int w1), .val (.int w2), .val (.int d0), .val (.int d1), .val (.int d2), .val (.ref wx), .val (.ref dx), .val (.ref rx), .val (.ref xs), .val (.int nn), .unset] [])) target := by
  obtain ⟨cq1, kq1, q1a, q1b, q1c⟩ := isOf hZ e0 Ex
  obtain ⟨_, _, ⟨T1, L1, k1, n1⟩, -, X1, ⟨Lc1, hQ1, l1, y1, z1⟩, st1⟩ := X0.virtualBack hx (y := (⟨"java/lang/String", "charAt", "(I)C"⟩ : MethodName)) (z := (⟨"java/lang/String", "charAt", "(I)C"⟩ : MethodName)) hown (mvT hZ (ww hw 215 rfl)) (mvT hZ (ww hw 216 rfl)) (notFace_of_selects (args := #[]) (mvT hZ (ww hw 218 rfl))) (mvT hZ (ww hw 218 rfl)) (mvT hZ (ww hw 217 rfl)) (by decide) (own_bk (n0 := n0) (fun _ q => q) (StrChars.Road.chN (W := 0) hZ (own_wC hw) (kI := 4) (ww hw 8 rfl) Ex Vx Cx Kx (own_cd hg) (own_hb hg) (Sta.ext O0.2 SC) hz (Sta.ext O0.2 SF) hf (Nat.le_trans hg.1 (by decide)) (i := 6) hp.1 hp.2.1 (by decide) (by decide))) q1a q1c (g := (mkF m 223 #[.val (.int p0), .val (.int p1), .val (.int p2), .val (.int x), .val (.int y), .val (.int w0), .val (.int w1), .val (.int w2), .val (.int d0), .val (.int d1), .val (.int d2), .val (.ref wx), .val (.ref dx), .val (.ref rx), .val (.ref xs), .val (.int nn), .unset] [(.int (6 : Int32)), (.ref xs)])) rfl (by rw [hml]; rfl) (Steps.refl _) (argsL := [(.int (6 : Int32))]) (rest := []) (lenOf own_pd19 rfl) rfl (by show 2 * 0 + _ ≤ _; exact Nat.le_of_eq rfl) (hb hby at_223) (fun _ _ => ⟨rfl, e0, (by decide : 26 + 0 ≤ _), (by decide : 2899 + 0 ≤ _)⟩)
  dsimp only [Pt.U, Pt.locs, Pt.cells, Pt.slots] at X1 l1 y1 z1 st1 hQ1
  subst l1 y1 z1
  obtain ⟨rfl, N1q, e1⟩ := hQ1
  have N1 := Fr.app N0 N1q
  refine ⟨T1, _, X1, e1, N1, fun target kt => ?_⟩
  show Steps p.tables e below (T0.setTop (mkF m 214 #[.val (.int p0), .val (.int p1), .val (.int p2), .val (.int x), .val (.int y), .val (.int w0), .val (.int w1), .val (.int w2), .val (.int d0), .val (.int d1), .val (.int d2), .val (.ref wx), .val (.ref dx), .val (.ref rx), .val (.ref xs), .val (.int nn), .unset] [])) _
  refine XS.iloadN X0.here hx rfl (hb hby at_214) rfl ?_
  show Steps p.tables e below (T0.setTop (mkF m 215 #[.val (.int p0), .val (.int p1), .val (.int p2), .val (.int x), .val (.int y), .val (.int w0), .val (.int w1), .val (.int w2), .val (.int d0), .val (.int d1), .val (.int d2), .val (.ref wx), .val (.ref dx), .val (.ref rx), .val (.ref xs), .val (.int nn), .unset] [(.int x)])) _
  refine XS.iconst X0.here hx rfl (hb hby at_215) ?_
  show Steps p.tables e below (T0.setTop (mkF m 216 #[.val (.int p0), .val (.int p1), .val (.int p2), .val (.int x), .val (.int y), .val (.int w0), .val (.int w1), .val (.int w2), .val (.int d0), .val (.int d1), .val (.int d2), .val (.ref wx), .val (.ref dx), .val (.ref rx), .val (.ref xs), .val (.int nn), .unset] [(.int (2 : Int32)), (.int x)])) _
  refine XS.icmpNo X0.here hx rfl (hb hby at_216) rfl (tlt (hq : (2 : Int32) < x)).2.2.2 ?_
  show Steps p.tables e below (T0.setTop (mkF m 219 #[.val (.int p0), .val (.int p1), .val (.int p2), .val (.int x), .val (.int y), .val (.int w0), .val (.int w1), .val (.int w2), .val (.int d0), .val (.int d1), .val (.int d2), .val (.ref wx), .val (.ref dx), .val (.ref rx), .val (.ref xs), .val (.int nn), .unset] [])) _
  refine XS.aload X0.here hx rfl (hb hby at_219) rfl rfl ?_
  show Steps p.tables e below (T0.setTop (mkF m 221 #[.val (.int p0), .val (.int p1), .val (.int p2), .val (.int x), .val (.int y), .val (.int w0), .val (.int w1), .val (.int w2), .val (.int d0), .val (.int d1), .val (.int d2), .val (.ref wx), .val (.ref dx), .val (.ref rx), .val (.ref xs), .val (.int nn), .unset] [(.ref xs)])) _
  refine XS.bipush X0.here hx rfl (hb hby at_221) ?_
  show Steps p.tables e below (T0.setTop (mkF m 223 #[.val (.int p0), .val (.int p1), .val (.int p2), .val (.int x), .val (.int y), .val (.int w0), .val (.int w1), .val (.int w2), .val (.int d0), .val (.int d1), .val (.int d2), .val (.ref wx), .val (.ref dx), .val (.ref rx), .val (.ref xs), .val (.int nn), .unset] [(.int (6 : Int32)), (.ref xs)])) _
  refine st1.trans ?_
  show Steps p.tables e below (T1.setTop (mkF m 226 #[.val (.int p0), .val (.int p1), .val (.int p2), .val (.int x), .val (.int y), .val (.int w0), .val (.int w1), .val (.int w2), .val (.int d0), .val (.int d1), .val (.int d2), .val (.ref wx), .val (.ref dx), .val (.ref rx), .val (.ref xs), .val (.int nn), .unset] [(.int (cs.getD 6 0))])) _
  refine XS.iload X1.here hx rfl (hb hby at_226) rfl ?_
  show Steps p.tables e below (T1.setTop (mkF m 228 #[.val (.int p0), .val (.int p1), .val (.int p2), .val (.int x), .val (.int y), .val (.int w0), .val (.int w1), .val (.int w2), .val (.int d0), .val (.int d1), .val (.int d2), .val (.ref wx), .val (.ref dx), .val (.ref rx), .val (.ref xs), .val (.int nn), .unset] [(.int w2), (.int (cs.getD 6 0))])) _
  refine XS.icmpYes X1.here hx rfl (pc0 := 228) (pc' := 233) rfl (hb hby at_228) rfl (teq (hp.2.2 : (cs.getD 6 0) = w2)).1 (by decide) (by decide) ?_
  exact kt
theorem sgB2_1 {p : Program} {l : Launch} {e : Env} {s : State} {m : MethodId} {args : Array Value} {below : List Frame} {meth : Method} {c : Code} {T0 : State} {locs : List Loc} {Z : State} {a0 : Array Value} {h0 : Heap} {n0 : Nat} (X0 : Stand p l e room_1 s m args below meth c T0 locs 26 2899) (hx : p.tables.exec = Jvm.exec) (hZ : Z.Warmed39 s.vm) (hw : ∀ d ∈ tables_1, d.before a0 Z = true) (hby : c.code = code) (hml : c.maxLocals = 17) (hown : s.vm.findClass "com/example/riverside/riverside/RefusedExceptionReplyLinePinLaw" = some m.cls) (e0 : T0.heap = h0) (N0 : Fr n0 locs) (O0 : Old Z n0 h0) {p0 p1 p2 x y w0 w1 w2 d0 d1 d2 nn z : Int32} {wx dx rx xs nb : Addr} {kn : ClassId} {cs : List Int32} {fm : Value} (Ex : Exa Z h0 xs "java/lang/String") (Vx : Fld Z h0 xs "java/lang/String" "value" "[B" (.ref nb)) (Cx : Fld Z h0 xs "java/lang/String" "coder" "B" (.int 0)) (Kx : Arv Z h0 nb kn .byte (Int32.ofNat (cs).length) (((cs).map StrChars.lo8).map Value.int) (.int 0)) (SC : Sta Z Z.heap "java/lang/String" "COMPACT_STRINGS" "Z" (.int z)) (hz : ¬ z = 0) (SF : Sta Z Z.heap "jdk/internal/util/Preconditions" "SIOOBE_FORMATTER" "Ljava/util/function/BiFunction;" fm) (hf : fm.isRef = true) (hg : own_good cs) (hq : (2 : Int32) < x → own_P cs 6 6 w2) :
    ∃ (T' : State) (locs' : List Loc), Stand p l e room_1 s m args below meth c T' locs' 26 2899 ∧ T'.heap = h0 ∧ Fr n0 locs' ∧ ∀ target, Steps p.tables e below (T'.setTop (mkF m 233 #[.val (.int p0), .val (.int p1), .val (.int p2), .val (.int x), .val (.int y), .val (.int w0), .val (.int w1), .val (.int w2), .val (.int d0), .val (.int d1), .val (.int d2), .val (.ref wx), .val (.ref dx), .val (.ref rx), .val (.ref xs), .val (.int nn), .unset] [])) target → Steps p.tables e below (T0.setTop (mkF m 214 #[.val (.int p0), .val (.int p1), .val (.int p2), .val (.int x), .val (.int y), .val (.int w0), .val (.int w1), .val (.int w2), .val (.int d0), .val (.int d1), .val (.int d2), .val (.ref wx), .val (.ref dx), .val (.ref rx), .val (.ref xs), .val (.int nn), .unset] [])) target := by
  by_cases q : (2 : Int32) < x
  · exact sgB2y_1 X0 hx hZ hw hby hml hown e0 N0 O0 Ex Vx Cx Kx SC hz SF hf hg q (hq q)
  · exact sgB2n_1 X0 hx hZ hw hby hml hown e0 N0 O0 Ex Vx Cx Kx SC hz SF hf hg q
set_option maxRecDepth 65536 in
set_option maxHeartbeats 40000000 in
theorem sgC_1 {p : Program} {l : Launch} {e : Env} {s : State} {m : MethodId} {args : Array Value} {below : List Frame} {meth : Method} {c : Code} {T0 : State} {locs : List Loc} {Z : State} {a0 : Array Value} {h0 : Heap} {n0 : Nat} (X0 : Stand p l e room_1 s m args below meth c T0 locs 26 2899) (hx : p.tables.exec = Jvm.exec) (hZ : Z.Warmed39 s.vm) (hw : ∀ d ∈ tables_1, d.before a0 Z = true) (hby : c.code = code) (hml : c.maxLocals = 17) (hown : s.vm.findClass "com/example/riverside/riverside/RefusedExceptionReplyLinePinLaw" = some m.cls) (e0 : T0.heap = h0) (N0 : Fr n0 locs) (O0 : Old Z n0 h0) {p0 p1 p2 x y w0 w1 w2 d0 d1 d2 nn z : Int32} {wx dx rx xs nb : Addr} {kn : ClassId} {cs : List Int32} {fm : Value} (Ex : Exa Z h0 xs "java/lang/String") (Vx : Fld Z h0 xs "java/lang/String" "value" "[B" (.ref nb)) (Cx : Fld Z h0 xs "java/lang/String" "coder" "B" (.int 0)) (Kx : Arv Z h0 nb kn .byte (Int32.ofNat (cs).length) (((cs).map StrChars.lo8).map Value.int) (.int 0)) (SC : Sta Z Z.heap "java/lang/String" "COMPACT_STRINGS" "Z" (.int z)) (hz : ¬ z = 0) (SF : Sta Z Z.heap "jdk/internal/util/Preconditions" "SIOOBE_FORMATTER" "Ljava/util/function/BiFunction;" fm) (hf : fm.isRef = true) (hg : own_good cs) {i : Nat} (h0_ : own_P cs i ((4 : Int32) + x) 32) (h1_ : own_P cs (i + 1) (((4 : Int32) + x) + (1 : Int32)) d0) :
    ∃ (T' : State) (locs' : List Loc), Stand p l e room_1 s m args below meth c T' locs' 26 2899 ∧ T'.heap = h0 ∧ Fr n0 locs' ∧ ∀ target, Steps p.tables e below (T'.setTop (mkF m 275 #[.val (.int p0), .val (.int p1), .val (.int p2), .val (.int x), .val (.int y), .val (.int w0), .val (.int w1), .val (.int w2), .val (.int d0), .val (.int d1), .val (.int d2), .val (.ref wx), .val (.ref dx), .val (.ref rx), .val (.ref xs), .val (.int nn), .val (.int ((4 : Int32) + x))] [])) target → Steps p.tables e below (T0.setTop (mkF m 245 #[.val (.int p0), .val (.int p1), .val (.int p2), .val (.int x), .val (.int y), .val (.int w0), .val (.int w1), .val (.int w2), .val (.int d0), .val (.int d1), .val (.int d2), .val (.ref wx), .val (.ref dx), .val (.ref rx), .val (.ref xs), .val (.int nn), .val (.int ((4 : Int32) + x))] [])) target := by
  obtain ⟨cq1, kq1, q1a, q1b, q1c⟩ := isOf hZ e0 Ex
  obtain ⟨_, _, ⟨T1, L1, k1, n1⟩, -, X1, ⟨Lc1, hQ1, l1, y1, z1⟩, st1⟩ := X0.virtualBack hx (y := (⟨"java/lang/String", "charAt", "(I)C"⟩ : MethodName)) (z := (⟨"java/lang/String", "charAt", "(I)C"⟩ : MethodName)) hown (mvT hZ (ww hw 215 rfl)) (mvT hZ (ww hw 216 rfl)) (notFace_of_selects (args := #[]) (mvT hZ (ww hw 218 rfl))) (mvT hZ (ww hw 218 rfl)) (mvT hZ (ww hw 217 rfl)) (by decide) (own_bk (n0 := n0) (fun _ q => q) (StrChars.Road.chN (W := 0) hZ (own_wC hw) (kI := 4) (ww hw 8 rfl) Ex Vx Cx Kx (own_cd hg) (own_hb hg) (Sta.ext O0.2 SC) hz (Sta.ext O0.2 SF) hf (Nat.le_trans hg.1 (by decide)) (i := i) h0_.1 h0_.2.1 (by decide) (by decide))) q1a q1c (g := (mkF m 249 #[.val (.int p0), .val (.int p1), .val (.int p2), .val (.int x), .val (.int y), .val (.int w0), .val (.int w1), .val (.int w2), .val (.int d0), .val (.int d1), .val (.int d2), .val (.ref wx), .val (.ref dx), .val (.ref rx), .val (.ref xs), .val (.int nn), .val (.int ((4 : Int32) + x))] [(.int ((4 : Int32) + x)), (.ref xs)])) rfl (by rw [hml]; rfl) (Steps.refl _) (argsL := [(.int ((4 : Int32) + x))]) (rest := []) (lenOf own_pd19 rfl) rfl (by show 2 * 0 + _ ≤ _; exact Nat.le_of_eq rfl) (hb hby at_249) (fun _ _ => ⟨rfl, e0, (by decide : 26 + 0 ≤ _), (by decide : 2899 + 0 ≤ _)⟩)
  dsimp only [Pt.U, Pt.locs, Pt.cells, Pt.slots] at X1 l1 y1 z1 st1 hQ1
  subst l1 y1 z1
  obtain ⟨rfl, N1q, e1⟩ := hQ1
  have N1 := Fr.app N0 N1q
  obtain ⟨cq2, kq2, q2a, q2b, q2c⟩ := isOf hZ e1 Ex
  obtain ⟨_, _, ⟨T2, L2, k2, n2⟩, -, X2, ⟨Lc2, hQ2, l2, y2, z2⟩, st2⟩ := X1.virtualBack hx (y := (⟨"java/lang/String", "charAt", "(I)C"⟩ : MethodName)) (z := (⟨"java/lang/String", "charAt", "(I)C"⟩ : MethodName)) hown (mvT hZ (ww hw 215 rfl)) (mvT hZ (ww hw 216 rfl)) (notFace_of_selects (args := #[]) (mvT hZ (ww hw 218 rfl))) (mvT hZ (ww hw 218 rfl)) (mvT hZ (ww hw 217 rfl)) (by decide) (own_bk (n0 := n0) (fun _ q => q) (StrChars.Road.chN (W := 0) hZ (own_wC hw) (kI := 4) (ww hw 8 rfl) Ex Vx Cx Kx (own_cd hg) (own_hb hg) (Sta.ext O0.2 SC) hz (Sta.ext O0.2 SF) hf (Nat.le_trans hg.1 (by decide)) (i := (i + 1)) h1_.1 h1_.2.1 (by decide) (by decide))) q2a q2c (g := (mkF m 265 #[.val (.int p0), .val (.int p1), .val (.int p2), .val (.int x), .val (.int y), .val (.int w0), .val (.int w1), .val (.int w2), .val (.int d0), .val (.int d1), .val (.int d2), .val (.ref wx), .val (.ref dx), .val (.ref rx), .val (.ref xs), .val (.int nn), .val (.int ((4 : Int32) + x))] [(.int (((4 : Int32) + x) + (1 : Int32))), (.ref xs)])) rfl (by rw [hml]; rfl) (Steps.refl _) (argsL := [(.int (((4 : Int32) + x) + (1 : Int32)))]) (rest := []) (lenOf own_pd19 rfl) rfl (by show 2 * 0 + _ ≤ _; exact Nat.le_of_eq rfl) (hb hby at_265) (fun _ _ => ⟨rfl, e1, (by decide : 26 + 0 ≤ _), (by decide : 2899 + 0 ≤ _)⟩)
  dsimp only [Pt.U, Pt.locs, Pt.cells, Pt.slots] at X2 l2 y2 z2 st2 hQ2
  subst l2 y2 z2
  obtain ⟨rfl, N2q, e2⟩ := hQ2
  have N2 := Fr.app N1 N2q
  refine ⟨T2, _, X2, e2, N2, fun target kt => ?_⟩
  show Steps p.tables e below (T0.setTop (mkF m 245 #[.val (.int p0), .val (.int p1), .val (.int p2), .val (.int x), .val (.int y), .val (.int w0), .val (.int w1), .val (.int w2), .val (.int d0), .val (.int d1), .val (.int d2), .val (.ref wx), .val (.ref dx), .val (.ref rx), .val (.ref xs), .val (.int nn), .val (.int ((4 : Int32) + x))] [])) _
  refine XS.aload X0.here hx rfl (hb hby at_245) rfl rfl ?_
  show Steps p.tables e below (T0.setTop (mkF m 247 #[.val (.int p0), .val (.int p1), .val (.int p2), .val (.int x), .val (.int y), .val (.int w0), .val (.int w1), .val (.int w2), .val (.int d0), .val (.int d1), .val (.int d2), .val (.ref wx), .val (.ref dx), .val (.ref rx), .val (.ref xs), .val (.int nn), .val (.int ((4 : Int32) + x))] [(.ref xs)])) _
  refine XS.iload X0.here hx rfl (hb hby at_247) rfl ?_
  show Steps p.tables e below (T0.setTop (mkF m 249 #[.val (.int p0), .val (.int p1), .val (.int p2), .val (.int x), .val (.int y), .val (.int w0), .val (.int w1), .val (.int w2), .val (.int d0), .val (.int d1), .val (.int d2), .val (.ref wx), .val (.ref dx), .val (.ref rx), .val (.ref xs), .val (.int nn), .val (.int ((4 : Int32) + x))] [(.int ((4 : Int32) + x)), (.ref xs)])) _
  refine st1.trans ?_
  show Steps p.tables e below (T1.setTop (mkF m 252 #[.val (.int p0), .val (.int p1), .val (.int p2), .val (.int x), .val (.int y), .val (.int w0), .val (.int w1), .val (.int w2), .val (.int d0), .val (.int d1), .val (.int d2), .val (.ref wx), .val (.ref dx), .val (.ref rx), .val (.ref xs), .val (.int nn), .val (.int ((4 : Int32) + x))] [(.int (cs.getD i 0))])) _
  refine XS.bipush X1.here hx rfl (hb hby at_252) ?_
  show Steps p.tables e below (T1.setTop (mkF m 254 #[.val (.int p0), .val (.int p1), .val (.int p2), .val (.int x), .val (.int y), .val (.int w0), .val (.int w1), .val (.int w2), .val (.int d0), .val (.int d1), .val (.int d2), .val (.ref wx), .val (.ref dx), .val (.ref rx), .val (.ref xs), .val (.int nn), .val (.int ((4 : Int32) + x))] [(.int (32 : Int32)), (.int (cs.getD i 0))])) _
  refine XS.icmpYes X1.here hx rfl (pc0 := 254) (pc' := 259) rfl (hb hby at_254) rfl (teq (h0_.2.2 : (cs.getD i 0) = (32 : Int32))).1 (by decide) (by decide) ?_
  show Steps p.tables e below (T1.setTop (mkF m 259 #[.val (.int p0), .val (.int p1), .val (.int p2), .val (.int x), .val (.int y), .val (.int w0), .val (.int w1), .val (.int w2), .val (.int d0), .val (.int d1), .val (.int d2), .val (.ref wx), .val (.ref dx), .val (.ref rx), .val (.ref xs), .val (.int nn), .val (.int ((4 : Int32) + x))] [])) _
  refine XS.aload X1.here hx rfl (hb hby at_259) rfl rfl ?_
  show Steps p.tables e below (T1.setTop (mkF m 261 #[.val (.int p0), .val (.int p1), .val (.int p2), .val (.int x), .val (.int y), .val (.int w0), .val (.int w1), .val (.int w2), .val (.int d0), .val (.int d1), .val (.int d2), .val (.ref wx), .val (.ref dx), .val (.ref rx), .val (.ref xs), .val (.int nn), .val (.int ((4 : Int32) + x))] [(.ref xs)])) _
  refine XS.iload X1.here hx rfl (hb hby at_261) rfl ?_
  show Steps p.tables e below (T1.setTop (mkF m 263 #[.val (.int p0), .val (.int p1), .val (.int p2), .val (.int x), .val (.int y), .val (.int w0), .val (.int w1), .val (.int w2), .val (.int d0), .val (.int d1), .val (.int d2), .val (.ref wx), .val (.ref dx), .val (.ref rx), .val (.ref xs), .val (.int nn), .val (.int ((4 : Int32) + x))] [(.int ((4 : Int32) + x)), (.ref xs)])) _
  refine XS.iconst X1.here hx rfl (hb hby at_263) ?_
  show Steps p.tables e below (T1.setTop (mkF m 264 #[.val (.int p0), .val (.int p1), .val (.int p2), .val (.int x), .val (.int y), .val (.int w0), .val (.int w1), .val (.int w2), .val (.int d0), .val (.int d1), .val (.int d2), .val (.ref wx), .val (.ref dx), .val (.ref rx), .val (.ref xs), .val (.int nn), .val (.int ((4 : Int32) + x))] [(.int (1 : Int32)), (.int ((4 : Int32) + x)), (.ref xs)])) _
  refine XS.iadd X1.here hx rfl (hb hby at_264) rfl ?_
  show Steps p.tables e below (T1.setTop (mkF m 265 #[.val (.int p0), .val (.int p1), .val (.int p2), .val (.int x), .val (.int y), .val (.int w0), .val (.int w1), .val (.int w2), .val (.int d0), .val (.int d1), .val (.int d2), .val (.ref wx), .val (.ref dx), .val (.ref rx), .val (.ref xs), .val (.int nn), .val (.int ((4 : Int32) + x))] [(.int (((4 : Int32) + x) + (1 : Int32))), (.ref xs)])) _
  refine st2.trans ?_
  show Steps p.tables e below (T2.setTop (mkF m 268 #[.val (.int p0), .val (.int p1), .val (.int p2), .val (.int x), .val (.int y), .val (.int w0), .val (.int w1), .val (.int w2), .val (.int d0), .val (.int d1), .val (.int d2), .val (.ref wx), .val (.ref dx), .val (.ref rx), .val (.ref xs), .val (.int nn), .val (.int ((4 : Int32) + x))] [(.int (cs.getD (i + 1) 0))])) _
  refine XS.iload X2.here hx rfl (hb hby at_268) rfl ?_
  show Steps p.tables e below (T2.setTop (mkF m 270 #[.val (.int p0), .val (.int p1), .val (.int p2), .val (.int x), .val (.int y), .val (.int w0), .val (.int w1), .val (.int w2), .val (.int d0), .val (.int d1), .val (.int d2), .val (.ref wx), .val (.ref dx), .val (.ref rx), .val (.ref xs), .val (.int nn), .val (.int ((4 : Int32) + x))] [(.int d0), (.int (cs.getD (i + 1) 0))])) _
  refine XS.icmpYes X2.here hx rfl (pc0 := 270) (pc' := 275) rfl (hb hby at_270) rfl (teq (h1_.2.2 : (cs.getD (i + 1) 0) = d0)).1 (by decide) (by decide) ?_
  exact kt
set_option maxRecDepth 65536 in
set_option maxHeartbeats 40000000 in
theorem sgD1n_1 {p : Program} {l : Launch} {e : Env} {s : State} {m : MethodId} {args : Array Value} {below : List Frame} {meth : Method} {c : Code} {T0 : State} {locs : List Loc} {Z : State} {a0 : Array Value} {h0 : Heap} {n0 : Nat} (X0 : Stand p l e room_1 s m args below meth c T0 locs 26 2899) (hx : p.tables.exec = Jvm.exec) (hZ : Z.Warmed39 s.vm) (hw : ∀ d ∈ tables_1, d.before a0 Z = true) (hby : c.code = code) (hml : c.maxLocals = 17) (hown : s.vm.findClass "com/example/riverside/riverside/RefusedExceptionReplyLinePinLaw" = some m.cls) (e0 : T0.heap = h0) (N0 : Fr n0 locs) (O0 : Old Z n0 h0) {p0 p1 p2 x y w0 w1 w2 d0 d1 d2 nn z : Int32} {wx dx rx xs nb : Addr} {kn : ClassId} {cs : List Int32} {fm : Value} (Ex : Exa Z h0 xs "java/lang/String") (Vx : Fld Z h0 xs "java/lang/String" "value" "[B" (.ref nb)) (Cx : Fld Z h0 xs "java/lang/String" "coder" "B" (.int 0)) (Kx : Arv Z h0 nb kn .byte (Int32.ofNat (cs).length) (((cs).map StrChars.lo8).map Value.int) (.int 0)) (SC : Sta Z Z.heap "java/lang/String" "COMPACT_STRINGS" "Z" (.int z)) (hz : ¬ z = 0) (SF : Sta Z Z.heap "jdk/internal/util/Preconditions" "SIOOBE_FORMATTER" "Ljava/util/function/BiFunction;" fm) (hf : fm.isRef = true) (hg : own_good cs) (hq : ¬ ((1 : Int32) < y)) :
    ∃ (T' : State) (locs' : List Loc), Stand p l e room_1 s m args below meth c T' locs' 26 2899 ∧ T'.heap = h0 ∧ Fr n0 locs' ∧ ∀ target, Steps p.tables e below (T'.setTop (mkF m 297 #[.val (.int p0), .val (.int p1), .val (.int p2), .val (.int x), .val (.int y), .val (.int w0), .val (.int w1), .val (.int w2), .val (.int d0), .val (.int d1), .val (.int d2), .val (.ref wx), .val (.ref dx), .val (.ref rx), .val (.ref xs), .val (.int nn), .val (.int ((4 : Int32) + x))] [])) target → Steps p.tables e below (T0.setTop (mkF m 275 #[.val (.int p0), .val (.int p1), .val (.int p2), .val (.int x), .val (.int y), .val (.int w0), .val (.int w1), .val (.int w2), .val (.int d0), .val (.int d1), .val (.int d2), .val (.ref wx), .val (.ref dx), .val (.ref rx), .val (.ref xs), .val (.int nn), .val (.int ((4 : Int32) + x))] [])) target := by
  refine ⟨T0, _, X0, e0, N0, fun target kt => ?_⟩
  show Steps p.tables e below (T0.setTop (mkF m 275 #[.val (.int p0), .val (.int p1), .val (.int p2), .val (.int x), .val (.int y), .val (.int w0), .val (.int w1), .val (.int w2), .val (.int d0), .val (.int d1), .val (.int d2), .val (.ref wx), .val (.ref dx), .val (.ref rx), .val (.ref xs), .val (.int nn), .val (.int ((4 : Int32) + x))] [])) _
  refine XS.iload X0.here hx rfl (hb hby at_275) rfl ?_
  show Steps p.tables e below (T0.setTop (mkF m 277 #[.val (.int p0), .val (.int p1), .val (.int p2), .val (.int x), .val (.int y), .val (.int w0), .val (.int w1), .val (.int w2), .val (.int d0), .val (.int d1), .val (.int d2), .val (.ref wx), .val (.ref dx), .val (.ref rx), .val (.ref xs), .val (.int nn), .val (.int ((4 : Int32) + x))] [(.int y)])) _
  refine XS.iconst X0.here hx rfl (hb hby at_277) ?_
  show Steps p.tables e below (T0.setTop (mkF m 278 #[.val (.int p0), .val (.int p1), .val (.int p2), .val (.int x), .val (.int y), .val (.int w0), .val (.int w1), .val (.int w2), .val (.int d0), .val (.int d1), .val (.int d2), .val (.ref wx), .val (.ref dx), .val (.ref rx), .val (.ref xs), .val (.int nn), .val (.int ((4 : Int32) + x))] [(.int (1 : Int32)), (.int y)])) _
  refine XS.icmpYes X0.here hx rfl (pc0 := 278) (pc' := 297) rfl (hb hby at_278) rfl (flt (hq : ¬ ((1 : Int32) < y))).2.2.2 (by decide) (by decide) ?_
  exact kt
set_option maxRecDepth 65536 in
set_option maxHeartbeats 40000000 in
theorem sgD1y_1 {p : Program} {l : Launch} {e : Env} {s : State} {m : MethodId} {args : Array Value} {below : List Frame} {meth : Method} {c : Code} {T0 : State} {locs : List Loc} {Z : State} {a0 : Array Value} {h0 : Heap} {n0 : Nat} (X0 : Stand p l e room_1 s m args below meth c T0 locs 26 2899) (hx : p.tables.exec = Jvm.exec) (hZ : Z.Warmed39 s.vm) (hw : ∀ d ∈ tables_1, d.before a0 Z = true) (hby : c.code = code) (hml : c.maxLocals = 17) (hown : s.vm.findClass "com/example/riverside/riverside/RefusedExceptionReplyLinePinLaw" = some m.cls) (e0 : T0.heap = h0) (N0 : Fr n0 locs) (O0 : Old Z n0 h0) {p0 p1 p2 x y w0 w1 w2 d0 d1 d2 nn z : Int32} {wx dx rx xs nb : Addr} {kn : ClassId} {cs : List Int32} {fm : Value} (Ex : Exa Z h0 xs "java/lang/String") (Vx : Fld Z h0 xs "java/lang/String" "value" "[B" (.ref nb)) (Cx : Fld Z h0 xs "java/lang/String" "coder" "B" (.int 0)) (Kx : Arv Z h0 nb kn .byte (Int32.ofNat (cs).length) (((cs).map StrChars.lo8).map Value.int) (.int 0)) (SC : Sta Z Z.heap "java/lang/String" "COMPACT_STRINGS" "Z" (.int z)) (hz : ¬ z = 0) (SF : Sta Z Z.heap "jdk/internal/util/Preconditions" "SIOOBE_FORMATTER" "Ljava/util/function/BiFunction;" fm) (hf : fm.isRef = true) (hg : own_good cs) {i : Nat} (hq : (1 : Int32) < y) (hp : own_P cs (i + 2) (((4 : Int32) + x) + (2 : Int32)) d1) :
    ∃ (T' : State) (locs' : List Loc), Stand p l e room_1 s m args below meth c T' locs' 26 2899 ∧ T'.heap = h0 ∧ Fr n0 locs' ∧ ∀ target, Steps p.tables e below (T'.setTop (mkF m 297 #[.val (.int p0), .val (.int p1), .val (.int p2), .val (.int x), .val (.int y), .val (.int w0), .val (.int w1), .val (.int w2), .val (.int d0), .val (.int d1), .val (.int d2), .val (.ref wx), .val (.ref dx), .val (.ref rx), .val (.ref xs), .val (.int nn), .val (.int ((4 : Int32) + x))] [])) target → Steps p.tables e below (T0.setTop (mkF m 275 #[.val (.int p0), .val (.int p1), .val (.int p2), .val (.int x), .val (.int y), .val (.int w0), .val (.int w1), .val (.int w2), .val (.int d0), .val (.int d1), .val (.int d2), .val (.ref wx), .val (.ref dx), .val (.ref rx), .val (.ref xs), .val (.int nn), .val (.int ((4 : Int32) + x))] [])) target := by
  obtain ⟨cq1, kq1, q1a, q1b, q1c⟩ := isOf hZ e0 Ex
  obtain ⟨_, _, ⟨T1, L1, k1, n1⟩, -, X1, ⟨Lc1, hQ1, l1, y1, z1⟩, st1⟩ := X0.virtualBack hx (y := (⟨"java/lang/String", "charAt", "(I)C"⟩ : MethodName)) (z := (⟨"java/lang/String", "charAt", "(I)C"⟩ : MethodName)) hown (mvT hZ (ww hw 215 rfl)) (mvT hZ (ww hw 216 rfl)) (notFace_of_selects (args := #[]) (mvT hZ (ww hw 218 rfl))) (mvT hZ (ww hw 218 rfl)) (mvT hZ (ww hw 217 rfl)) (by decide) (own_bk (n0 := n0) (fun _ q => q) (StrChars.Road.chN (W := 0) hZ (own_wC hw) (kI := 4) (ww hw 8 rfl) Ex Vx Cx Kx (own_cd hg) (own_hb hg) (Sta.ext O0.2 SC) hz (Sta.ext O0.2 SF) hf (Nat.le_trans hg.1 (by decide)) (i := (i + 2)) hp.1 hp.2.1 (by decide) (by decide))) q1a q1c (g := (mkF m 287 #[.val (.int p0), .val (.int p1), .val (.int p2), .val (.int x), .val (.int y), .val (.int w0), .val (.int w1), .val (.int w2), .val (.int d0), .val (.int d1), .val (.int d2), .val (.ref wx), .val (.ref dx), .val (.ref rx), .val (.ref xs), .val (.int nn), .val (.int ((4 : Int32) + x))] [(.int (((4 : Int32) + x) + (2 : Int32))), (.ref xs)])) rfl (by rw [hml]; rfl) (Steps.refl _) (argsL := [(.int (((4 : Int32) + x) + (2 : Int32)))]) (rest := []) (lenOf own_pd19 rfl) rfl (by show 2 * 0 + _ ≤ _; exact Nat.le_of_eq rfl) (hb hby at_287) (fun _ _ => ⟨rfl, e0, (by decide : 26 + 0 ≤ _), (by decide : 2899 + 0 ≤ _)⟩)
  dsimp only [Pt.U, Pt.locs, Pt.cells, Pt.slots] at X1 l1 y1 z1 st1 hQ1
  subst l1 y1 z1
  obtain ⟨rfl, N1q, e1⟩ := hQ1
  have N1 := Fr.app N0 N1q
  refine ⟨T1, _, X1, e1, N1, fun target kt => ?_⟩
  show Steps p.tables e below (T0.setTop (mkF m 275 #[.val (.int p0), .val (.int p1), .val (.int p2), .val (.int x), .val (.int y), .val (.int w0), .val (.int w1), .val (.int w2), .val (.int d0), .val (.int d1), .val (.int d2), .val (.ref wx), .val (.ref dx), .val (.ref rx), .val (.ref xs), .val (.int nn), .val (.int ((4 : Int32) + x))] [])) _
  refine XS.iload X0.here hx rfl (hb hby at_275) rfl ?_
  show Steps p.tables e below (T0.setTop (mkF m 277 #[.val (.int p0), .val (.int p1), .val (.int p2), .val (.int x), .val (.int y), .val (.int w0), .val (.int w1), .val (.int w2), .val (.int d0), .val (.int d1), .val (.int d2), .val (.ref wx), .val (.ref dx), .val (.ref rx), .val (.ref xs), .val (.int nn), .val (.int ((4 : Int32) + x))] [(.int y)])) _
  refine XS.iconst X0.here hx rfl (hb hby at_277) ?_
  show Steps p.tables e below (T0.setTop (mkF m 278 #[.val (.int p0), .val (.int p1), .val (.int p2), .val (.int x), .val (.int y), .val (.int w0), .val (.int w1), .val (.int w2), .val (.int d0), .val (.int d1), .val (.int d2), .val (.ref wx), .val (.ref dx), .val (.ref rx), .val (.ref xs), .val (.int nn), .val (.int ((4 : Int32) + x))] [(.int (1 : Int32)), (.int y)])) _
  refine XS.icmpNo X0.here hx rfl (hb hby at_278) rfl (tlt (hq : (1 : Int32) < y)).2.2.2 ?_
  show Steps p.tables e below (T0.setTop (mkF m 281 #[.val (.int p0), .val (.int p1), .val (.int p2), .val (.int x), .val (.int y), .val (.int w0), .val (.int w1), .val (.int w2), .val (.int d0), .val (.int d1), .val (.int d2), .val (.ref wx), .val (.ref dx), .val (.ref rx), .val (.ref xs), .val (.int nn), .val (.int ((4 : Int32) + x))] [])) _
  refine XS.aload X0.here hx rfl (hb hby at_281) rfl rfl ?_
  show Steps p.tables e below (T0.setTop (mkF m 283 #[.val (.int p0), .val (.int p1), .val (.int p2), .val (.int x), .val (.int y), .val (.int w0), .val (.int w1), .val (.int w2), .val (.int d0), .val (.int d1), .val (.int d2), .val (.ref wx), .val (.ref dx), .val (.ref rx), .val (.ref xs), .val (.int nn), .val (.int ((4 : Int32) + x))] [(.ref xs)])) _
  refine XS.iload X0.here hx rfl (hb hby at_283) rfl ?_
  show Steps p.tables e below (T0.setTop (mkF m 285 #[.val (.int p0), .val (.int p1), .val (.int p2), .val (.int x), .val (.int y), .val (.int w0), .val (.int w1), .val (.int w2), .val (.int d0), .val (.int d1), .val (.int d2), .val (.ref wx), .val (.ref dx), .val (.ref rx), .val (.ref xs), .val (.int nn), .val (.int ((4 : Int32) + x))] [(.int ((4 : Int32) + x)), (.ref xs)])) _
  refine XS.iconst X0.here hx rfl (hb hby at_285) ?_
  show Steps p.tables e below (T0.setTop (mkF m 286 #[.val (.int p0), .val (.int p1), .val (.int p2), .val (.int x), .val (.int y), .val (.int w0), .val (.int w1), .val (.int w2), .val (.int d0), .val (.int d1), .val (.int d2), .val (.ref wx), .val (.ref dx), .val (.ref rx), .val (.ref xs), .val (.int nn), .val (.int ((4 : Int32) + x))] [(.int (2 : Int32)), (.int ((4 : Int32) + x)), (.ref xs)])) _
  refine XS.iadd X0.here hx rfl (hb hby at_286) rfl ?_
  show Steps p.tables e below (T0.setTop (mkF m 287 #[.val (.int p0), .val (.int p1), .val (.int p2), .val (.int x), .val (.int y), .val (.int w0), .val (.int w1), .val (.int w2), .val (.int d0), .val (.int d1), .val (.int d2), .val (.ref wx), .val (.ref dx), .val (.ref rx), .val (.ref xs), .val (.int nn), .val (.int ((4 : Int32) + x))] [(.int (((4 : Int32) + x) + (2 : Int32))), (.ref xs)])) _
  refine st1.trans ?_
  show Steps p.tables e below (T1.setTop (mkF m 290 #[.val (.int p0), .val (.int p1), .val (.int p2), .val (.int x), .val (.int y), .val (.int w0), .val (.int w1), .val (.int w2), .val (.int d0), .val (.int d1), .val (.int d2), .val (.ref wx), .val (.ref dx), .val (.ref rx), .val (.ref xs), .val (.int nn), .val (.int ((4 : Int32) + x))] [(.int (cs.getD (i + 2) 0))])) _
  refine XS.iload X1.here hx rfl (hb hby at_290) rfl ?_
  show Steps p.tables e below (T1.setTop (mkF m 292 #[.val (.int p0), .val (.int p1), .val (.int p2), .val (.int x), .val (.int y), .val (.int w0), .val (.int w1), .val (.int w2), .val (.int d0), .val (.int d1), .val (.int d2), .val (.ref wx), .val (.ref dx), .val (.ref rx), .val (.ref xs), .val (.int nn), .val (.int ((4 : Int32) + x))] [(.int d1), (.int (cs.getD (i + 2) 0))])) _
  refine XS.icmpYes X1.here hx rfl (pc0 := 292) (pc' := 297) rfl (hb hby at_292) rfl (teq (hp.2.2 : (cs.getD (i + 2) 0) = d1)).1 (by decide) (by decide) ?_
  exact kt
theorem sgD1_1 {p : Program} {l : Launch} {e : Env} {s : State} {m : MethodId} {args : Array Value} {below : List Frame} {meth : Method} {c : Code} {T0 : State} {locs : List Loc} {Z : State} {a0 : Array Value} {h0 : Heap} {n0 : Nat} (X0 : Stand p l e room_1 s m args below meth c T0 locs 26 2899) (hx : p.tables.exec = Jvm.exec) (hZ : Z.Warmed39 s.vm) (hw : ∀ d ∈ tables_1, d.before a0 Z = true) (hby : c.code = code) (hml : c.maxLocals = 17) (hown : s.vm.findClass "com/example/riverside/riverside/RefusedExceptionReplyLinePinLaw" = some m.cls) (e0 : T0.heap = h0) (N0 : Fr n0 locs) (O0 : Old Z n0 h0) {p0 p1 p2 x y w0 w1 w2 d0 d1 d2 nn z : Int32} {wx dx rx xs nb : Addr} {kn : ClassId} {cs : List Int32} {fm : Value} (Ex : Exa Z h0 xs "java/lang/String") (Vx : Fld Z h0 xs "java/lang/String" "value" "[B" (.ref nb)) (Cx : Fld Z h0 xs "java/lang/String" "coder" "B" (.int 0)) (Kx : Arv Z h0 nb kn .byte (Int32.ofNat (cs).length) (((cs).map StrChars.lo8).map Value.int) (.int 0)) (SC : Sta Z Z.heap "java/lang/String" "COMPACT_STRINGS" "Z" (.int z)) (hz : ¬ z = 0) (SF : Sta Z Z.heap "jdk/internal/util/Preconditions" "SIOOBE_FORMATTER" "Ljava/util/function/BiFunction;" fm) (hf : fm.isRef = true) (hg : own_good cs) {i : Nat} (hq : (1 : Int32) < y → own_P cs (i + 2) (((4 : Int32) + x) + (2 : Int32)) d1) :
    ∃ (T' : State) (locs' : List Loc), Stand p l e room_1 s m args below meth c T' locs' 26 2899 ∧ T'.heap = h0 ∧ Fr n0 locs' ∧ ∀ target, Steps p.tables e below (T'.setTop (mkF m 297 #[.val (.int p0), .val (.int p1), .val (.int p2), .val (.int x), .val (.int y), .val (.int w0), .val (.int w1), .val (.int w2), .val (.int d0), .val (.int d1), .val (.int d2), .val (.ref wx), .val (.ref dx), .val (.ref rx), .val (.ref xs), .val (.int nn), .val (.int ((4 : Int32) + x))] [])) target → Steps p.tables e below (T0.setTop (mkF m 275 #[.val (.int p0), .val (.int p1), .val (.int p2), .val (.int x), .val (.int y), .val (.int w0), .val (.int w1), .val (.int w2), .val (.int d0), .val (.int d1), .val (.int d2), .val (.ref wx), .val (.ref dx), .val (.ref rx), .val (.ref xs), .val (.int nn), .val (.int ((4 : Int32) + x))] [])) target := by
  by_cases q : (1 : Int32) < y
  · exact sgD1y_1 X0 hx hZ hw hby hml hown e0 N0 O0 Ex Vx Cx Kx SC hz SF hf hg q (hq q)
  · exact sgD1n_1 X0 hx hZ hw hby hml hown e0 N0 O0 Ex Vx Cx Kx SC hz SF hf hg q
set_option maxRecDepth 65536 in
set_option maxHeartbeats 40000000 in
theorem sgD2n_1 {p : Program} {l : Launch} {e : Env} {s : State} {m : MethodId} {args : Array Value} {below : List Frame} {meth : Method} {c : Code} {T0 : State} {locs : List Loc} {Z : State} {a0 : Array Value} {h0 : Heap} {n0 : Nat} (X0 : Stand p l e room_1 s m args below meth c T0 locs 26 2899) (hx : p.tables.exec = Jvm.exec) (hZ : Z.Warmed39 s.vm) (hw : ∀ d ∈ tables_1, d.before a0 Z = true) (hby : c.code = code) (hml : c.maxLocals = 17) (hown : s.vm.findClass "com/example/riverside/riverside/RefusedExceptionReplyLinePinLaw" = some m.cls) (e0 : T0.heap = h0) (N0 : Fr n0 locs) (O0 : Old Z n0 h0) {p0 p1 p2 x y w0 w1 w2 d0 d1 d2 nn z : Int32} {wx dx rx xs nb : Addr} {kn : ClassId} {cs : List Int32} {fm : Value} (Ex : Exa Z h0 xs "java/lang/String") (Vx : Fld Z h0 xs "java/lang/String" "value" "[B" (.ref nb)) (Cx : Fld Z h0 xs "java/lang/String" "coder" "B" (.int 0)) (Kx : Arv Z h0 nb kn .byte (Int32.ofNat (cs).length) (((cs).map StrChars.lo8).map Value.int) (.int 0)) (SC : Sta Z Z.heap "java/lang/String" "COMPACT_STRINGS" "Z" (.int z)) (hz : ¬ z = 0) (SF : Sta Z Z.heap "jdk/internal/util/Preconditions" "SIOOBE_FORMATTER" "Ljava/util/function/BiFunction;" fm) (hf : fm.isRef = true) (hg : own_good cs) (hq : ¬ ((2 : Int32) < y)) :
    ∃ (T' : State) (locs' : List Loc), Stand p l e room_1 s m args below meth c T' locs' 26 2899 ∧ T'.heap = h0 ∧ Fr n0 locs' ∧ ∀ target, Steps p.tables e below (T'.setTop (mkF m 319 #[.val (.int p0), .val (.int p1), .val (.int p2), .val (.int x), .val (.int y), .val (.int w0), .val (.int w1), .val (.int w2), .val (.int d0), .val (.int d1), .val (.int d2), .val (.ref wx), .val (.ref dx), .val (.ref rx), .val (.ref xs), .val (.int nn), .val (.int ((4 : Int32) + x))] [])) target → Steps p.tables e below (T0.setTop (mkF m 297 #[.val (.int p0), .val (.int p1), .val (.int p2), .val (.int x), .val (.int y), .val (.int w0), .val (.int w1), .val (.int w2), .val (.int d0), .val (.int d1), .val (.int d2), .val (.ref wx), .val (.ref dx), .val (.ref rx), .val (.ref xs), .val (.int nn), .val (.int ((4 : Int32) + x))] [])) target := by
  refine ⟨T0, _, X0, e0, N0, fun target kt => ?_⟩
  show Steps p.tables e below (T0.setTop (mkF m 297 #[.val (.int p0), .val (.int p1), .val (.int p2), .val (.int x), .val (.int y), .val (.int w0), .val (.int w1), .val (.int w2), .val (.int d0), .val (.int d1), .val (.int d2), .val (.ref wx), .val (.ref dx), .val (.ref rx), .val (.ref xs), .val (.int nn), .val (.int ((4 : Int32) + x))] [])) _
  refine XS.iload X0.here hx rfl (hb hby at_297) rfl ?_
  show Steps p.tables e below (T0.setTop (mkF m 299 #[.val (.int p0), .val (.int p1), .val (.int p2), .val (.int x), .val (.int y), .val (.int w0), .val (.int w1), .val (.int w2), .val (.int d0), .val (.int d1), .val (.int d2), .val (.ref wx), .val (.ref dx), .val (.ref rx), .val (.ref xs), .val (.int nn), .val (.int ((4 : Int32) + x))] [(.int y)])) _
  refine XS.iconst X0.here hx rfl (hb hby at_299) ?_
  show Steps p.tables e below (T0.setTop (mkF m 300 #[.val (.int p0), .val (.int p1), .val (.int p2), .val (.int x), .val (.int y), .val (.int w0), .val (.int w1), .val (.int w2), .val (.int d0), .val (.int d1), .val (.int d2), .val (.ref wx), .val (.ref dx), .val (.ref rx), .val (.ref xs), .val (.int nn), .val (.int ((4 : Int32) + x))] [(.int (2 : Int32)), (.int y)])) _
  refine XS.icmpYes X0.here hx rfl (pc0 := 300) (pc' := 319) rfl (hb hby at_300) rfl (flt (hq : ¬ ((2 : Int32) < y))).2.2.2 (by decide) (by decide) ?_
  exact kt
set_option maxRecDepth 65536 in
set_option maxHeartbeats 40000000 in
theorem sgD2y_1 {p : Program} {l : Launch} {e : Env} {s : State} {m : MethodId} {args : Array Value} {below : List Frame} {meth : Method} {c : Code} {T0 : State} {locs : List Loc} {Z : State} {a0 : Array Value} {h0 : Heap} {n0 : Nat} (X0 : Stand p l e room_1 s m args below meth c T0 locs 26 2899) (hx : p.tables.exec = Jvm.exec) (hZ : Z.Warmed39 s.vm) (hw : ∀ d ∈ tables_1, d.before a0 Z = true) (hby : c.code = code) (hml : c.maxLocals = 17) (hown : s.vm.findClass "com/example/riverside/riverside/RefusedExceptionReplyLinePinLaw" = some m.cls) (e0 : T0.heap = h0) (N0 : Fr n0 locs) (O0 : Old Z n0 h0) {p0 p1 p2 x y w0 w1 w2 d0 d1 d2 nn z : Int32} {wx dx rx xs nb : Addr} {kn : ClassId} {cs : List Int32} {fm : Value} (Ex : Exa Z h0 xs "java/lang/String") (Vx : Fld Z h0 xs "java/lang/String" "value" "[B" (.ref nb)) (Cx : Fld Z h0 xs "java/lang/String" "coder" "B" (.int 0)) (Kx : Arv Z h0 nb kn .byte (Int32.ofNat (cs).length) (((cs).map StrChars.lo8).map Value.int) (.int 0)) (SC : Sta Z Z.heap "java/lang/String" "COMPACT_STRINGS" "Z" (.int z)) (hz : ¬ z = 0) (SF : Sta Z Z.heap "jdk/internal/util/Preconditions" "SIOOBE_FORMATTER" "Ljava/util/function/BiFunction;" fm) (hf : fm.isRef = true) (hg : own_good cs) {i : Nat} (hq : (2 : Int32) < y) (hp : own_P cs (i + 3) (((4 : Int32) + x) + (3 : Int32)) d2) :
    ∃ (T' : State) (locs' : List Loc), Stand p l e room_1 s m args below meth c T' locs' 26 2899 ∧ T'.heap = h0 ∧ Fr n0 locs' ∧ ∀ target, Steps p.tables e below (T'.setTop (mkF m 319 #[.val (.int p0), .val (.int p1), .val (.int p2), .val (.int x), .val (.int y), .val (.int w0), .val (.int w1), .val (.int w2), .val (.int d0), .val (.int d1), .val (.int d2), .val (.ref wx), .val (.ref dx), .val (.ref rx), .val (.ref xs), .val (.int nn), .val (.int ((4 : Int32) + x))] [])) target → Steps p.tables e below (T0.setTop (mkF m 297 #[.val (.int p0), .val (.int p1), .val (.int p2), .val (.int x), .val (.int y), .val (.int w0), .val (.int w1), .val (.int w2), .val (.int d0), .val (.int d1), .val (.int d2), .val (.ref wx), .val (.ref dx), .val (.ref rx), .val (.ref xs), .val (.int nn), .val (.int ((4 : Int32) + x))] [])) target := by
  obtain ⟨cq1, kq1, q1a, q1b, q1c⟩ := isOf hZ e0 Ex
  obtain ⟨_, _, ⟨T1, L1, k1, n1⟩, -, X1, ⟨Lc1, hQ1, l1, y1, z1⟩, st1⟩ := X0.virtualBack hx (y := (⟨"java/lang/String", "charAt", "(I)C"⟩ : MethodName)) (z := (⟨"java/lang/String", "charAt", "(I)C"⟩ : MethodName)) hown (mvT hZ (ww hw 215 rfl)) (mvT hZ (ww hw 216 rfl)) (notFace_of_selects (args := #[]) (mvT hZ (ww hw 218 rfl))) (mvT hZ (ww hw 218 rfl)) (mvT hZ (ww hw 217 rfl)) (by decide) (own_bk (n0 := n0) (fun _ q => q) (StrChars.Road.chN (W := 0) hZ (own_wC hw) (kI := 4) (ww hw 8 rfl) Ex Vx Cx Kx (own_cd hg) (own_hb hg) (Sta.ext O0.2 SC) hz (Sta.ext O0.2 SF) hf (Nat.le_trans hg.1 (by decide)) (i := (i + 3)) hp.1 hp.2.1 (by decide) (by decide))) q1a q1c (g := (mkF m 309 #[.val (.int p0), .val (.int p1), .val (.int p2), .val (.int x), .val (.int y), .val (.int w0), .val (.int w1), .val (.int w2), .val (.int d0), .val (.int d1), .val (.int d2), .val (.ref wx), .val (.ref dx), .val (.ref rx), .val (.ref xs), .val (.int nn), .val (.int ((4 : Int32) + x))] [(.int (((4 : Int32) + x) + (3 : Int32))), (.ref xs)])) rfl (by rw [hml]; rfl) (Steps.refl _) (argsL := [(.int (((4 : Int32) + x) + (3 : Int32)))]) (rest := []) (lenOf own_pd19 rfl) rfl (by show 2 * 0 + _ ≤ _; exact Nat.le_of_eq rfl) (hb hby at_309) (fun _ _ => ⟨rfl, e0, (by decide : 26 + 0 ≤ _), (by decide : 2899 + 0 ≤ _)⟩)
  dsimp only [Pt.U, Pt.locs, Pt.cells, Pt.slots] at X1 l1 y1 z1 st1 hQ1
  subst l1 y1 z1
  obtain ⟨rfl, N1q, e1⟩ := hQ1
  have N1 := Fr.app N0 N1q
  refine ⟨T1, _, X1, e1, N1, fun target kt => ?_⟩
  show Steps p.tables e below (T0.setTop (mkF m 297 #[.val (.int p0), .val (.int p1), .val (.int p2), .val (.int x), .val (.int y), .val (.int w0), .val (.int w1), .val (.int w2), .val (.int d0), .val (.int d1), .val (.int d2), .val (.ref wx), .val (.ref dx), .val (.ref rx), .val (.ref xs), .val (.int nn), .val (.int ((4 : Int32) + x))] [])) _
  refine XS.iload X0.here hx rfl (hb hby at_297) rfl ?_
  show Steps p.tables e below (T0.setTop (mkF m 299 #[.val (.int p0), .val (.int p1), .val (.int p2), .val (.int x), .val (.int y), .val (.int w0), .val (.int w1), .val (.int w2), .val (.int d0), .val (.int d1), .val (.int d2), .val (.ref wx), .val (.ref dx), .val (.ref rx), .val (.ref xs), .val (.int nn), .val (.int ((4 : Int32) + x))] [(.int y)])) _
  refine XS.iconst X0.here hx rfl (hb hby at_299) ?_
  show Steps p.tables e below (T0.setTop (mkF m 300 #[.val (.int p0), .val (.int p1), .val (.int p2), .val (.int x), .val (.int y), .val (.int w0), .val (.int w1), .val (.int w2), .val (.int d0), .val (.int d1), .val (.int d2), .val (.ref wx), .val (.ref dx), .val (.ref rx), .val (.ref xs), .val (.int nn), .val (.int ((4 : Int32) + x))] [(.int (2 : Int32)), (.int y)])) _
  refine XS.icmpNo X0.here hx rfl (hb hby at_300) rfl (tlt (hq : (2 : Int32) < y)).2.2.2 ?_
  show Steps p.tables e below (T0.setTop (mkF m 303 #[.val (.int p0), .val (.int p1), .val (.int p2), .val (.int x), .val (.int y), .val (.int w0), .val (.int w1), .val (.int w2), .val (.int d0), .val (.int d1), .val (.int d2), .val (.ref wx), .val (.ref dx), .val (.ref rx), .val (.ref xs), .val (.int nn), .val (.int ((4 : Int32) + x))] [])) _
  refine XS.aload X0.here hx rfl (hb hby at_303) rfl rfl ?_
  show Steps p.tables e below (T0.setTop (mkF m 305 #[.val (.int p0), .val (.int p1), .val (.int p2), .val (.int x), .val (.int y), .val (.int w0), .val (.int w1), .val (.int w2), .val (.int d0), .val (.int d1), .val (.int d2), .val (.ref wx), .val (.ref dx), .val (.ref rx), .val (.ref xs), .val (.int nn), .val (.int ((4 : Int32) + x))] [(.ref xs)])) _
  refine XS.iload X0.here hx rfl (hb hby at_305) rfl ?_
  show Steps p.tables e below (T0.setTop (mkF m 307 #[.val (.int p0), .val (.int p1), .val (.int p2), .val (.int x), .val (.int y), .val (.int w0), .val (.int w1), .val (.int w2), .val (.int d0), .val (.int d1), .val (.int d2), .val (.ref wx), .val (.ref dx), .val (.ref rx), .val (.ref xs), .val (.int nn), .val (.int ((4 : Int32) + x))] [(.int ((4 : Int32) + x)), (.ref xs)])) _
  refine XS.iconst X0.here hx rfl (hb hby at_307) ?_
  show Steps p.tables e below (T0.setTop (mkF m 308 #[.val (.int p0), .val (.int p1), .val (.int p2), .val (.int x), .val (.int y), .val (.int w0), .val (.int w1), .val (.int w2), .val (.int d0), .val (.int d1), .val (.int d2), .val (.ref wx), .val (.ref dx), .val (.ref rx), .val (.ref xs), .val (.int nn), .val (.int ((4 : Int32) + x))] [(.int (3 : Int32)), (.int ((4 : Int32) + x)), (.ref xs)])) _
  refine XS.iadd X0.here hx rfl (hb hby at_308) rfl ?_
  show Steps p.tables e below (T0.setTop (mkF m 309 #[.val (.int p0), .val (.int p1), .val (.int p2), .val (.int x), .val (.int y), .val (.int w0), .val (.int w1), .val (.int w2), .val (.int d0), .val (.int d1), .val (.int d2), .val (.ref wx), .val (.ref dx), .val (.ref rx), .val (.ref xs), .val (.int nn), .val (.int ((4 : Int32) + x))] [(.int (((4 : Int32) + x) + (3 : Int32))), (.ref xs)])) _
  refine st1.trans ?_
  show Steps p.tables e below (T1.setTop (mkF m 312 #[.val (.int p0), .val (.int p1), .val (.int p2), .val (.int x), .val (.int y), .val (.int w0), .val (.int w1), .val (.int w2), .val (.int d0), .val (.int d1), .val (.int d2), .val (.ref wx), .val (.ref dx), .val (.ref rx), .val (.ref xs), .val (.int nn), .val (.int ((4 : Int32) + x))] [(.int (cs.getD (i + 3) 0))])) _
  refine XS.iload X1.here hx rfl (hb hby at_312) rfl ?_
  show Steps p.tables e below (T1.setTop (mkF m 314 #[.val (.int p0), .val (.int p1), .val (.int p2), .val (.int x), .val (.int y), .val (.int w0), .val (.int w1), .val (.int w2), .val (.int d0), .val (.int d1), .val (.int d2), .val (.ref wx), .val (.ref dx), .val (.ref rx), .val (.ref xs), .val (.int nn), .val (.int ((4 : Int32) + x))] [(.int d2), (.int (cs.getD (i + 3) 0))])) _
  refine XS.icmpYes X1.here hx rfl (pc0 := 314) (pc' := 319) rfl (hb hby at_314) rfl (teq (hp.2.2 : (cs.getD (i + 3) 0) = d2)).1 (by decide) (by decide) ?_
  exact kt
theorem sgD2_1 {p : Program} {l : Launch} {e : Env} {s : State} {m : MethodId} {args : Array Value} {below : List Frame} {meth : Method} {c : Code} {T0 : State} {locs : List Loc} {Z : State} {a0 : Array Value} {h0 : Heap} {n0 : Nat} (X0 : Stand p l e room_1 s m args below meth c T0 locs 26 2899) (hx : p.tables.exec = Jvm.exec) (hZ : Z.Warmed39 s.vm) (hw : ∀ d ∈ tables_1, d.before a0 Z = true) (hby : c.code = code) (hml : c.maxLocals = 17) (hown : s.vm.findClass "com/example/riverside/riverside/RefusedExceptionReplyLinePinLaw" = some m.cls) (e0 : T0.heap = h0) (N0 : Fr n0 locs) (O0 : Old Z n0 h0) {p0 p1 p2 x y w0 w1 w2 d0 d1 d2 nn z : Int32} {wx dx rx xs nb : Addr} {kn : ClassId} {cs : List Int32} {fm : Value} (Ex : Exa Z h0 xs "java/lang/String") (Vx : Fld Z h0 xs "java/lang/String" "value" "[B" (.ref nb)) (Cx : Fld Z h0 xs "java/lang/String" "coder" "B" (.int 0)) (Kx : Arv Z h0 nb kn .byte (Int32.ofNat (cs).length) (((cs).map StrChars.lo8).map Value.int) (.int 0)) (SC : Sta Z Z.heap "java/lang/String" "COMPACT_STRINGS" "Z" (.int z)) (hz : ¬ z = 0) (SF : Sta Z Z.heap "jdk/internal/util/Preconditions" "SIOOBE_FORMATTER" "Ljava/util/function/BiFunction;" fm) (hf : fm.isRef = true) (hg : own_good cs) {i : Nat} (hq : (2 : Int32) < y → own_P cs (i + 3) (((4 : Int32) + x) + (3 : Int32)) d2) :
    ∃ (T' : State) (locs' : List Loc), Stand p l e room_1 s m args below meth c T' locs' 26 2899 ∧ T'.heap = h0 ∧ Fr n0 locs' ∧ ∀ target, Steps p.tables e below (T'.setTop (mkF m 319 #[.val (.int p0), .val (.int p1), .val (.int p2), .val (.int x), .val (.int y), .val (.int w0), .val (.int w1), .val (.int w2), .val (.int d0), .val (.int d1), .val (.int d2), .val (.ref wx), .val (.ref dx), .val (.ref rx), .val (.ref xs), .val (.int nn), .val (.int ((4 : Int32) + x))] [])) target → Steps p.tables e below (T0.setTop (mkF m 297 #[.val (.int p0), .val (.int p1), .val (.int p2), .val (.int x), .val (.int y), .val (.int w0), .val (.int w1), .val (.int w2), .val (.int d0), .val (.int d1), .val (.int d2), .val (.ref wx), .val (.ref dx), .val (.ref rx), .val (.ref xs), .val (.int nn), .val (.int ((4 : Int32) + x))] [])) target := by
  by_cases q : (2 : Int32) < y
  · exact sgD2y_1 X0 hx hZ hw hby hml hown e0 N0 O0 Ex Vx Cx Kx SC hz SF hf hg q (hq q)
  · exact sgD2n_1 X0 hx hZ hw hby hml hown e0 N0 O0 Ex Vx Cx Kx SC hz SF hf hg q
set_option maxRecDepth 65536 in
set_option maxHeartbeats 40000000 in
theorem rm01 (l : Launch) (Z : State) (a0 : Array Value) (hw : ∀ d ∈ tables_1, d.before a0 Z = true) (ws : List Jvm.Cond) (p0 p1 p2 z : Int32) (fm uu sen : Value) (h0 : Heap) (n0 : Nat) (O0 : Old Z n0 h0) (SC : Sta Z Z.heap "java/lang/String" "COMPACT_STRINGS" "Z" (.int z)) (hz : ¬ z = 0) (SF : Sta Z Z.heap "jdk/internal/util/Preconditions" "SIOOBE_FORMATTER" "Ljava/util/function/BiFunction;" fm) (hf : fm.isRef = true) (SU : Sta Z Z.heap "java/lang/Throwable" "UNASSIGNED_STACK" "[Ljava/lang/StackTraceElement;" uu) (SS : Sta Z Z.heap "java/lang/Throwable" "SUPPRESSED_SENTINEL" "Ljava/util/List;" sen) (hu : uu.isRef = true) (hn : sen.isRef = true) (hST : l.stackTraces = true) (hdl : ¬ ((((p0.toUInt32 >>> ((2 : Int32) &&& 31).toUInt32).toInt32) &&& (3 : Int32)) = (0 : Int32))) :
    MetFree l x (head1 (Jvm.Cond.code x code maxLocals ret :: ws) room_1) (fun qq U => qq = #[(.int p0), (.int p1), (.int p2)] ∧ Z.Warmed39 U.vm ∧ U.heap = h0 ∧ CHv Z consts_1 U.vm h0) (fun _ _ bl st _ => st.vm.MethodsKnown ∧ st.vm.FramesKnown bl) (fun _ UU oo UU' => ∃ vv LL, oo = .returned vv ∧ Qd25 Z p0 p1 p2 z fm uu sen h0 n0 vv UU'.heap LL ∧ CHr Z consts_1 UU.vm UU.heap UU'.vm UU'.heap ∧ ReturnedEndW UU oo UU' LL room_1.cells room_1.slots) := by
  refine MetFree.of_bodySF (plainFor_of_name pn_0) hisR ?_
  intro p e s m args below meth c s₁ Bd hml0 hP hK
  obtain ⟨rfl, hZ, hh, hC0⟩ := hP
  have hZ : Z.Warmed39 (s.setVm s.vm).vm := hZ
  have CR0 := CHr.refl hC0
  have hx := Bd.exec
  have hby := Bd.bytes
  have hml : c.maxLocals = 17 := hml0
  have hown : (s.setVm s.vm).vm.findClass "com/example/riverside/riverside/RefusedExceptionReplyLinePinLaw" = some m.cls := findClass_of_methodNamed Bd.named
  have hnm := (name_of_methodNamed Bd.named Bd.method).1
  have X0 : Stand p l e room_1 (s.setVm s.vm) m #[(.int p0), (.int p1), (.int p2)] below meth c s₁ [] 0 0 := Stand.of_body Bd
  have e0 : s₁.heap = h0 := by rw [← hh, Bd.state]; rfl
  have N0 := Fr.nil n0
  have pre0 : ∀ tgt, Steps p.tables e below (s₁.setTop (mkF m 0 #[.val (.int p0), .val (.int p1), .val (.int p2), .unset, .unset, .unset, .unset, .unset, .unset, .unset, .unset, .unset, .unset, .unset, .unset, .unset, .unset] [])) tgt → Steps p.tables e below (s₁.setTop (entryFrame m #[(.int p0), (.int p1), (.int p2)] maxLocals)) tgt := fun tt kk => castTop (ef_0 m p0 p1 p2) kk
  have hZs := hZ
  obtain ⟨x, y, ⟨hx_, hy_, hye⟩, stA⟩ := lawpre (p0 := p0) (p1 := p1) (p2 := p2) X0 hx hZ hw hby hown e0
  rw [← hye] at hdl
  obtain ⟨_, _, ⟨T1q, L1q, k1q, n1q⟩, -, X1q, ⟨Lc1q, hQ1q, l1q, y1q, z1q⟩, st1q⟩ := Jvm.LawKit.callS X0 hx (y := (⟨"com/example/riverside/riverside/RefusedExceptionReplyLinePinLaw", "ch", "(II)C"⟩ : MethodName)) hown (mvT hZ (ww hw 0 rfl)) (mvT hZ (ww hw 1 rfl)) (mvT hZ (ww hw 2 rfl)) (mvT hZ (ww hw 3 rfl)) (by decide) (backOf (W := 0) (rmCh l Z a0 hw [] p1 (0 : Int32) h0 n0) hZ (ww hw 3 rfl) (ww hw 2 rfl) (by decide) (by decide)) (g := (mkF m 13 #[.val (.int p0), .val (.int p1), .val (.int p2), .val (.int x), .val (.int y), .unset, .unset, .unset, .unset, .unset, .unset, .unset, .unset, .unset, .unset, .unset, .unset] [(.int (0 : Int32)), (.int p1)])) rfl (by rw [hml]; rfl) (argsL := [(.int p1), (.int (0 : Int32))]) (rest := []) (lenOf own_pd20 rfl) rfl (by show 2 * 0 + _ ≤ _; exact Nat.le_of_eq rfl) (hb hby at_13) (fun _ _ => ⟨rfl, e0, (by decide : 0 + 0 ≤ _), (by decide : 0 + 0 ≤ _)⟩)
  dsimp only [Pt.U, Pt.locs, Pt.cells, Pt.slots] at X1q l1q y1q z1q st1q hQ1q
  subst l1q y1q z1q
  obtain ⟨w0, rfl, N1qq, e1q, Hw0⟩ := hQ1q
  have N1q := Fr.app N0 N1qq
  obtain ⟨_, _, ⟨T2q, L2q, k2q, n2q⟩, -, X2q, ⟨Lc2q, hQ2q, l2q, y2q, z2q⟩, st2q⟩ := Jvm.LawKit.callS X1q hx (y := (⟨"com/example/riverside/riverside/RefusedExceptionReplyLinePinLaw", "ch", "(II)C"⟩ : MethodName)) hown (mvT hZ (ww hw 0 rfl)) (mvT hZ (ww hw 1 rfl)) (mvT hZ (ww hw 2 rfl)) (mvT hZ (ww hw 3 rfl)) (by decide) (backOf (W := 0) (rmCh l Z a0 hw [] p1 (8 : Int32) h0 n0) hZ (ww hw 3 rfl) (ww hw 2 rfl) (by decide) (by decide)) (g := (mkF m 21 #[.val (.int p0), .val (.int p1), .val (.int p2), .val (.int x), .val (.int y), .val (.int w0), .unset, .unset, .unset, .unset, .unset, .unset, .unset, .unset, .unset, .unset, .unset] [(.int (8 : Int32)), (.int p1)])) rfl (by rw [hml]; rfl) (argsL := [(.int p1), (.int (8 : Int32))]) (rest := []) (lenOf own_pd20 rfl) rfl (by show 2 * 0 + _ ≤ _; exact Nat.le_of_eq rfl) (hb hby at_21) (fun _ _ => ⟨rfl, e1q, (by decide : 0 + 0 ≤ _), (by decide : 0 + 0 ≤ _)⟩)
  dsimp only [Pt.U, Pt.locs, Pt.cells, Pt.slots] at X2q l2q y2q z2q st2q hQ2q
  subst l2q y2q z2q
  obtain ⟨w1, rfl, N2qq, e2q, Hw1⟩ := hQ2q
  have N2q := Fr.app N1q N2qq
  obtain ⟨_, _, ⟨T3q, L3q, k3q, n3q⟩, -, X3q, ⟨Lc3q, hQ3q, l3q, y3q, z3q⟩, st3q⟩ := Jvm.LawKit.callS X2q hx (y := (⟨"com/example/riverside/riverside/RefusedExceptionReplyLinePinLaw", "ch", "(II)C"⟩ : MethodName)) hown (mvT hZ (ww hw 0 rfl)) (mvT hZ (ww hw 1 rfl)) (mvT hZ (ww hw 2 rfl)) (mvT hZ (ww hw 3 rfl)) (by decide) (backOf (W := 0) (rmCh l Z a0 hw [] p1 (16 : Int32) h0 n0) hZ (ww hw 3 rfl) (ww hw 2 rfl) (by decide) (by decide)) (g := (mkF m 29 #[.val (.int p0), .val (.int p1), .val (.int p2), .val (.int x), .val (.int y), .val (.int w0), .val (.int w1), .unset, .unset, .unset, .unset, .unset, .unset, .unset, .unset, .unset, .unset] [(.int (16 : Int32)), (.int p1)])) rfl (by rw [hml]; rfl) (argsL := [(.int p1), (.int (16 : Int32))]) (rest := []) (lenOf own_pd20 rfl) rfl (by show 2 * 0 + _ ≤ _; exact Nat.le_of_eq rfl) (hb hby at_29) (fun _ _ => ⟨rfl, e2q, (by decide : 0 + 0 ≤ _), (by decide : 0 + 0 ≤ _)⟩)
  dsimp only [Pt.U, Pt.locs, Pt.cells, Pt.slots] at X3q l3q y3q z3q st3q hQ3q
  subst l3q y3q z3q
  obtain ⟨w2, rfl, N3qq, e3q, Hw2⟩ := hQ3q
  have N3q := Fr.app N2q N3qq
  obtain ⟨_, _, ⟨T4q, L4q, k4q, n4q⟩, -, X4q, ⟨Lc4q, hQ4q, l4q, y4q, z4q⟩, st4q⟩ := Jvm.LawKit.callS X3q hx (y := (⟨"com/example/riverside/riverside/RefusedExceptionReplyLinePinLaw", "ch", "(II)C"⟩ : MethodName)) hown (mvT hZ (ww hw 0 rfl)) (mvT hZ (ww hw 1 rfl)) (mvT hZ (ww hw 2 rfl)) (mvT hZ (ww hw 3 rfl)) (by decide) (backOf (W := 0) (rmCh l Z a0 hw [] p2 (0 : Int32) h0 n0) hZ (ww hw 3 rfl) (ww hw 2 rfl) (by decide) (by decide)) (g := (mkF m 36 #[.val (.int p0), .val (.int p1), .val (.int p2), .val (.int x), .val (.int y), .val (.int w0), .val (.int w1), .val (.int w2), .unset, .unset, .unset, .unset, .unset, .unset, .unset, .unset, .unset] [(.int (0 : Int32)), (.int p2)])) rfl (by rw [hml]; rfl) (argsL := [(.int p2), (.int (0 : Int32))]) (rest := []) (lenOf own_pd20 rfl) rfl (by show 2 * 0 + _ ≤ _; exact Nat.le_of_eq rfl) (hb hby at_36) (fun _ _ => ⟨rfl, e3q, (by decide : 0 + 0 ≤ _), (by decide : 0 + 0 ≤ _)⟩)
  dsimp only [Pt.U, Pt.locs, Pt.cells, Pt.slots] at X4q l4q y4q z4q st4q hQ4q
  subst l4q y4q z4q
  obtain ⟨d0, rfl, N4qq, e4q, Hd0⟩ := hQ4q
  have N4q := Fr.app N3q N4qq
  obtain ⟨_, _, ⟨T5q, L5q, k5q, n5q⟩, -, X5q, ⟨Lc5q, hQ5q, l5q, y5q, z5q⟩, st5q⟩ := Jvm.LawKit.callS X4q hx (y := (⟨"com/example/riverside/riverside/RefusedExceptionReplyLinePinLaw", "ch", "(II)C"⟩ : MethodName)) hown (mvT hZ (ww hw 0 rfl)) (mvT hZ (ww hw 1 rfl)) (mvT hZ (ww hw 2 rfl)) (mvT hZ (ww hw 3 rfl)) (by decide) (backOf (W := 0) (rmCh l Z a0 hw [] p2 (8 : Int32) h0 n0) hZ (ww hw 3 rfl) (ww hw 2 rfl) (by decide) (by decide)) (g := (mkF m 44 #[.val (.int p0), .val (.int p1), .val (.int p2), .val (.int x), .val (.int y), .val (.int w0), .val (.int w1), .val (.int w2), .val (.int d0), .unset, .unset, .unset, .unset, .unset, .unset, .unset, .unset] [(.int (8 : Int32)), (.int p2)])) rfl (by rw [hml]; rfl) (argsL := [(.int p2), (.int (8 : Int32))]) (rest := []) (lenOf own_pd20 rfl) rfl (by show 2 * 0 + _ ≤ _; exact Nat.le_of_eq rfl) (hb hby at_44) (fun _ _ => ⟨rfl, e4q, (by decide : 0 + 0 ≤ _), (by decide : 0 + 0 ≤ _)⟩)
  dsimp only [Pt.U, Pt.locs, Pt.cells, Pt.slots] at X5q l5q y5q z5q st5q hQ5q
  subst l5q y5q z5q
  obtain ⟨d1, rfl, N5qq, e5q, Hd1⟩ := hQ5q
  have N5q := Fr.app N4q N5qq
  obtain ⟨_, _, ⟨T6q, L6q, k6q, n6q⟩, -, X6q, ⟨Lc6q, hQ6q, l6q, y6q, z6q⟩, st6q⟩ := Jvm.LawKit.callS X5q hx (y := (⟨"com/example/riverside/riverside/RefusedExceptionReplyLinePinLaw", "ch", "(II)C"⟩ : MethodName)) hown (mvT hZ (ww hw 0 rfl)) (mvT hZ (ww hw 1 rfl)) (mvT hZ (ww hw 2 rfl)) (mvT hZ (ww hw 3 rfl)) (by decide) (backOf (W := 0) (rmCh l Z a0 hw [] p2 (16 : Int32) h0 n0) hZ (ww hw 3 rfl) (ww hw 2 rfl) (by decide) (by decide)) (g := (mkF m 52 #[.val (.int p0), .val (.int p1), .val (.int p2), .val (.int x), .val (.int y), .val (.int w0), .val (.int w1), .val (.int w2), .val (.int d0), .val (.int d1), .unset, .unset, .unset, .unset, .unset, .unset, .unset] [(.int (16 : Int32)), (.int p2)])) rfl (by rw [hml]; rfl) (argsL := [(.int p2), (.int (16 : Int32))]) (rest := []) (lenOf own_pd20 rfl) rfl (by show 2 * 0 + _ ≤ _; exact Nat.le_of_eq rfl) (hb hby at_52) (fun _ _ => ⟨rfl, e5q, (by decide : 0 + 0 ≤ _), (by decide : 0 + 0 ≤ _)⟩)
  dsimp only [Pt.U, Pt.locs, Pt.cells, Pt.slots] at X6q l6q y6q z6q st6q hQ6q
  subst l6q y6q z6q
  obtain ⟨d2, rfl, N6qq, e6q, Hd2⟩ := hQ6q
  have N6q := Fr.app N5q N6qq
  obtain ⟨_, _, ⟨T7q, L7q, k7q, n7q⟩, -, X7q, Sq7q, gq7q, ⟨Lc7q, hQ7q, l7q, y7q, z7q, CC7q⟩, st7q⟩ := callSS X6q hx (y := (⟨"com/example/riverside/riverside/RefusedExceptionReplyLinePinLaw", "mk", "(ICCC)Ljava/lang/String;"⟩ : MethodName)) hown (mvT hZ (ww hw 4 rfl)) (mvT hZ (ww hw 5 rfl)) (mvT hZ (ww hw 2 rfl)) (mvT hZ (ww hw 6 rfl)) (by decide) (backOfSH (W := 0) (rmM l Z a0 hw [] x w0 w1 w2 z h0 n0 O0 SC hz Hw0 Hw1 Hw2) hZ (ww hw 6 rfl) (ww hw 2 rfl) (by decide) (by decide) (own_EW hw) CR0.1) (g := (mkF m 64 #[.val (.int p0), .val (.int p1), .val (.int p2), .val (.int x), .val (.int y), .val (.int w0), .val (.int w1), .val (.int w2), .val (.int d0), .val (.int d1), .val (.int d2), .unset, .unset, .unset, .unset, .unset, .unset] [(.int w2), (.int w1), (.int w0), (.int x)])) rfl (by rw [hml]; rfl) (argsL := [(.int x), (.int w0), (.int w1), (.int w2)]) (rest := []) (lenOf own_pd21 rfl) rfl (by show 2 * 0 + _ ≤ _; exact Nat.le_of_eq rfl) (hb hby at_64) (fun _ _ => ⟨rfl, e6q, (by decide : 0 + 6 ≤ _), (by decide : 0 + 16 ≤ _)⟩)
  dsimp only [Pt.U, Pt.locs, Pt.cells, Pt.slots] at X7q l7q y7q z7q st7q hQ7q Sq7q gq7q CC7q
  subst l7q y7q z7q
  obtain ⟨X7q, S7q, hZ7q, hown7q⟩ := rebS (n1 := T6q.heap.size) (State.WarmedH.since (State.WarmedH.refl s) 0) (by rw [e6q]; exact (Nat.zero_le _)) X7q Sq7q gq7q hZ hown
  obtain ⟨wx, tw, kbW, rfl, N7qq, KK7q, fE64, fV64, fC64, fK64⟩ := hQ7q
  have N7q := Fr.app N6q N7qq
  have SC7q := CC7q
  have CR7q := CHr.trans CR0 SC7q
  have O7q := Old.keep O0 KK7q all0
  obtain ⟨_, _, ⟨T8q, L8q, k8q, n8q⟩, -, X8q, Sq8q, gq8q, ⟨Lc8q, hQ8q, l8q, y8q, z8q, CC8q⟩, st8q⟩ := callSS X7q hx (y := (⟨"com/example/riverside/riverside/RefusedExceptionReplyLinePinLaw", "mk", "(ICCC)Ljava/lang/String;"⟩ : MethodName)) hown7q (mvT hZ7q (ww hw 4 rfl)) (mvT hZ7q (ww hw 5 rfl)) (mvT hZ7q (ww hw 2 rfl)) (mvT hZ7q (ww hw 6 rfl)) (by decide) (backOfSH (W := 0) (rmM l Z a0 hw [] y d0 d1 d2 z T7q.heap n0 O7q SC hz Hd0 Hd1 Hd2) hZ7q (ww hw 6 rfl) (ww hw 2 rfl) (by decide) (by decide) (own_EW hw) CR7q.1) (g := (mkF m 77 #[.val (.int p0), .val (.int p1), .val (.int p2), .val (.int x), .val (.int y), .val (.int w0), .val (.int w1), .val (.int w2), .val (.int d0), .val (.int d1), .val (.int d2), .val (.ref wx), .unset, .unset, .unset, .unset, .unset] [(.int d2), (.int d1), (.int d0), (.int y)])) rfl (by rw [hml]; rfl) (argsL := [(.int y), (.int d0), (.int d1), (.int d2)]) (rest := []) (lenOf own_pd21 rfl) rfl (by show 2 * 0 + _ ≤ _; exact Nat.le_of_eq rfl) (hb hby at_77) (fun _ _ => ⟨rfl, rfl, (by decide : 6 + 6 ≤ _), (by decide : 16 + 16 ≤ _)⟩)
  dsimp only [Pt.U, Pt.locs, Pt.cells, Pt.slots] at X8q l8q y8q z8q st8q hQ8q Sq8q gq8q CC8q
  subst l8q y8q z8q
  obtain ⟨X8q, S8q, hZ8q, hown8q⟩ := rebS (n1 := T7q.heap.size) S7q ((Nat.le_refl _)) X8q Sq8q gq8q hZ7q hown7q
  obtain ⟨dx, td, kbD, rfl, N8qq, KK8q, fE77, fV77, fC77, fK77⟩ := hQ8q
  have N8q := Fr.app N7q N8qq
  have SC8q := CC8q
  have CR8q := CHr.trans CR7q SC8q
  have O8q := Old.keep O7q KK8q all0
  obtain ⟨T9q, h9q, X9q, e9q, E9q, A9q, D9q, U9q, st9q⟩ := newO X8q hx hZ8q hown8q (ww hw 29 rfl) (ww hw 30 rfl) (ww hw 31 rfl) rfl (g := (mkF m 82 #[.val (.int p0), .val (.int p1), .val (.int p2), .val (.int x), .val (.int y), .val (.int w0), .val (.int w1), .val (.int w2), .val (.int d0), .val (.int d1), .val (.int d2), .val (.ref wx), .val (.ref dx), .unset, .unset, .unset, .unset] [])) rfl (hb hby at_82) (by decide) (by decide)
  obtain ⟨b9q, q9q⟩ : ∃ z, z = T8q.heap.size := ⟨_, rfl⟩
  rw [← q9q] at A9q D9q U9q st9q
  have g_b9q : n0 ≤ b9q := by rw [q9q]; exact (O8q).1 ▸ (O8q).2.1
  have ne_wx_b9q : wx ≠ b9q := by rw [q9q]; exact Nat.ne_of_lt (fE64.keep KK8q).lt
  have ne_tw_b9q : tw ≠ b9q := by rw [q9q]; exact Nat.ne_of_lt (fK64.keep KK8q nin0).lt
  have ne_dx_b9q : dx ≠ b9q := by rw [q9q]; exact Nat.ne_of_lt fE77.lt
  have ne_td_b9q : td ≠ b9q := by rw [q9q]; exact Nat.ne_of_lt fK77.lt
  have SC9q := CHr.ext E9q CR8q.1
  have CR9q := CHr.trans CR8q SC9q
  have O9q := Old.ext O8q E9q
  have sz9q := Nat.le_trans (Nat.le_refl _) (E9q.1)
  have F9q_cause : Fld Z h9q b9q "java/lang/Throwable" "cause" "Ljava/lang/Throwable;" .null := D9q (Or.inl (ww hw 48 rfl)) (ty := (.object "java/lang/Throwable")) (by decide)
  have F9q_stackTrace : Fld Z h9q b9q "java/lang/Throwable" "stackTrace" "[Ljava/lang/StackTraceElement;" .null := D9q (Or.inl (ww hw 51 rfl)) (ty := (.array (.object "java/lang/StackTraceElement"))) (by decide)
  have F9q_suppressedExceptions : Fld Z h9q b9q "java/lang/Throwable" "suppressedExceptions" "Ljava/util/List;" .null := D9q (Or.inl (ww hw 54 rfl)) (ty := (.object "java/util/List")) (by decide)
  have F9q_detailMessage : Fld Z h9q b9q "java/lang/Throwable" "detailMessage" "Ljava/lang/String;" .null := D9q (Or.inl (ww hw 78 rfl)) (ty := (.object "java/lang/String")) (by decide)
  have F9q_backtrace : Fld Z h9q b9q "java/lang/Throwable" "backtrace" "Ljava/lang/Object;" .null := D9q (Or.inl (ww hw 79 rfl)) (ty := (.object "java/lang/Object")) (by decide)
  have F9q_depth : Fld Z h9q b9q "java/lang/Throwable" "depth" "I" (.int (0 : Int32)) := D9q (Or.inl (ww hw 80 rfl)) (ty := .int) (by decide)
  have F9q_word : Fld Z h9q b9q "com/example/riverside/riverside/RefusedException" "word" "Ljava/lang/String;" .null := D9q (Or.inr (ww hw 84 rfl)) (ty := (.object "java/lang/String")) (by decide)
  have gW := own_mkg hx_ Hw0 Hw1 Hw2
  have gD := own_mkg hy_ Hd0 Hd1 Hd2
  obtain ⟨_, _, ⟨T10q, L10q, k10q, n10q⟩, -, X10q, ⟨Lc10q, hQ10q, l10q, y10q, z10q⟩, st10q⟩ := X9q.specialBack hx (y := (⟨"com/example/riverside/riverside/RefusedException", "<init>", "(Ljava/lang/String;Ljava/lang/String;)V"⟩ : MethodName)) rfl hown8q (mvT hZ8q (ww hw 32 rfl)) (mvT hZ8q (ww hw 33 rfl)) (mvT hZ8q (ww hw 34 rfl)) (by decide) (backOfKL (W := 1) (rmRI l Z a0 hw [] b9q wx dx uu sen h9q n0 O9q g_b9q A9q U9q F9q_cause F9q_stackTrace F9q_suppressedExceptions F9q_backtrace F9q_detailMessage F9q_word SU SS hu hn hST) hZ8q (ww hw 34 rfl) (ww hw 31 rfl) (by decide) (by decide) (Vm.MethodsKnown.alikeC (hZs.alike.symm.trans hZ8q.alike) hK.1) (Vm.FramesKnown.alikeC (hZs.alike.symm.trans hZ8q.alike) hK.2)) (g := (mkF m 90 #[.val (.int p0), .val (.int p1), .val (.int p2), .val (.int x), .val (.int y), .val (.int w0), .val (.int w1), .val (.int w2), .val (.int d0), .val (.int d1), .val (.int d2), .val (.ref wx), .val (.ref dx), .unset, .unset, .unset, .unset] [(.ref dx), (.ref wx), (.ref b9q), (.ref b9q)])) rfl (by rw [hml]; rfl) (Steps.refl _) (a := b9q) (argsL := [(.ref wx), (.ref dx)]) (rest := [(.ref b9q)]) (lenOf own_pd22 rfl) rfl (by show 2 * 0 + _ ≤ _; exact Nat.le_of_eq rfl) (hb hby at_90) (fun _ _ => ⟨rfl, e9q, (by decide : 13 + 1 ≤ _), (by decide : 39 + 2752 ≤ _)⟩)
  dsimp only [Pt.U, Pt.locs, Pt.cells, Pt.slots] at X10q l10q y10q z10q st10q hQ10q
  subst l10q y10q z10q
  obtain ⟨rfl, N10qq, KK10q, f10q_0, f10q_1⟩ := hQ10q
  have N10q := Fr.app N8q N10qq
  have SC10q := CHr.keep KK10q (sfS (Safe.exa hZ8q.alike A9q (by decide) (by decide)) sf0) CR9q.1
  have CR10q := CHr.trans CR9q SC10q
  have sz10q := Nat.le_trans sz9q (KK10q.1)
  have O10q := Old.keep O9q KK10q (allS g_b9q all0)
  have c11q := ((Fld.ext E9q (fV64.keep KK8q nin0)).keep KK10q (ninS ne_wx_b9q nin0))
  have c12q := ((Fld.ext E9q (fC64.keep KK8q nin0)).keep KK10q (ninS ne_wx_b9q nin0))
  have c13q := (((fK64.keep KK8q nin0).ext E9q).keep KK10q (ninS ne_tw_b9q nin0))
  obtain ⟨cq14q, kq14q, q14qa, q14qb, q14qc⟩ := isOf hZ8q rfl (A9q.keep KK10q)
  obtain ⟨_, _, ⟨T14q, L14q, k14q, n14q⟩, -, X14q, Sq14q, gq14q, ⟨Lc14q, hQ14q, l14q, y14q, z14q, CC14q⟩, st14q⟩ := X10q.virtualBackS hx (y := (⟨"com/example/riverside/riverside/RefusedException", "replyLine", "()Ljava/lang/String;"⟩ : MethodName)) (z := (⟨"com/example/riverside/riverside/RefusedException", "replyLine", "()Ljava/lang/String;"⟩ : MethodName)) hown8q (mvT hZ8q (ww hw 85 rfl)) (mvT hZ8q (ww hw 86 rfl)) (notFace_of_selects (args := #[]) (mvT hZ8q (ww hw 88 rfl))) (mvT hZ8q (ww hw 88 rfl)) (mvT hZ8q (ww hw 87 rfl)) (by decide) (backOfSH (W := 0) (rmRL1 l Z a0 hw [] b9q wx tw dx td kbW kbD (own_mk x w0 w1 w2) (own_mk y d0 d1 d2) z T10q.heap n0 O10q (A9q.keep KK10q) f10q_0 f10q_1 ((Exa.ext E9q (fE64.keep KK8q)).keep KK10q) c11q c12q c13q ((Exa.ext E9q fE77).keep KK10q) ((Fld.ext E9q fV77).keep KK10q (ninS ne_dx_b9q nin0)) ((Fld.ext E9q fC77).keep KK10q (ninS ne_dx_b9q nin0)) ((fK77.ext E9q).keep KK10q (ninS ne_td_b9q nin0)) SC hz gW.1 gD.1 gW.2 gD.2 (fun q => hdl ((own_mk0 hy_ d0 d1 d2).mp q))) hZ8q (ww hw 89 rfl) (ww hw 31 rfl) (by decide) (by decide) (own_EW hw) CR10q.1) q14qa q14qc (g := (mkF m 97 #[.val (.int p0), .val (.int p1), .val (.int p2), .val (.int x), .val (.int y), .val (.int w0), .val (.int w1), .val (.int w2), .val (.int d0), .val (.int d1), .val (.int d2), .val (.ref wx), .val (.ref dx), .val (.ref b9q), .unset, .unset, .unset] [(.ref b9q)])) rfl (by rw [hml]; rfl) (Steps.refl _) (argsL := []) (rest := []) (lenOf own_pd18 rfl) rfl (by show 2 * 0 + _ ≤ _; exact Nat.le_of_eq rfl) (hb hby at_97) (fun _ _ => ⟨rfl, rfl, (by decide : 14 + 12 ≤ _), (by decide : 2791 + 108 ≤ _)⟩)
  dsimp only [Pt.U, Pt.locs, Pt.cells, Pt.slots] at X14q l14q y14q z14q st14q hQ14q Sq14q gq14q CC14q
  subst l14q y14q z14q
  obtain ⟨X14q, S14q, hZ14q, hown14q⟩ := rebS (n1 := T10q.heap.size) S8q (sz10q) X14q Sq14q gq14q hZ8q hown8q
  obtain ⟨xs, nb, kn, rfl, N14qq, KK14q, fE97, fV97, fC97, fK97⟩ := hQ14q
  have N14q := Fr.app N10q N14qq
  have SC14q := CC14q
  have CR14q := CHr.trans CR10q SC14q
  have O14q := Old.keep O10q KK14q all0
  have hg : own_good (((([] : List Int32) ++ ([69, 82, 82, 32] : List Int32)) ++ (own_mk x w0 w1 w2)) ++ ((([] : List Int32) ++ ([32] : List Int32)) ++ (own_mk y d0 d1 d2))) := own_g1 gW.1 gD.1 gW.2 gD.2
  obtain ⟨hle, ⟨hF0, hF1, hF2, hF3, hF4, hF5, hF6⟩, ii, hG0, hG1, hG2, hG3⟩ := own_f1 hx_ hy_ hdl w0 w1 w2 d0 d1 d2
  obtain ⟨cq15q, kq15q, q15qa, q15qb, q15qc⟩ := isOf hZ14q rfl fE97
  obtain ⟨_, _, ⟨T15q, L15q, k15q, n15q⟩, -, X15q, ⟨Lc15q, hQ15q, l15q, y15q, z15q⟩, st15q⟩ := X14q.virtualBack hx (y := (⟨"java/lang/String", "length", "()I"⟩ : MethodName)) (z := (⟨"java/lang/String", "length", "()I"⟩ : MethodName)) hown14q (mvT hZ14q (ww hw 214 rfl)) (mvT hZ14q (ww hw 120 rfl)) (notFace_of_selects (args := #[]) (mvT hZ14q (ww hw 122 rfl))) (mvT hZ14q (ww hw 122 rfl)) (mvT hZ14q (ww hw 121 rfl)) (by decide) (own_bk (n0 := n0) (fun _ q => q) (StrChars.Road.lenW (W := 0) hZ14q (own_wL hw) (kI := 4) (ww hw 8 rfl) fE97 fV97 fC97 fK97 (own_cd hg) (own_hb hg) (Sta.ext O14q.2 SC) hz (Nat.le_trans hg.1 (by decide)) (by decide) (by decide))) q15qa q15qc (g := (mkF m 123 #[.val (.int p0), .val (.int p1), .val (.int p2), .val (.int x), .val (.int y), .val (.int w0), .val (.int w1), .val (.int w2), .val (.int d0), .val (.int d1), .val (.int d2), .val (.ref wx), .val (.ref dx), .val (.ref b9q), .val (.ref xs), .val (.int (((4 : Int32) + x) + ((1 : Int32) + y))), .unset] [(.ref xs)])) rfl (by rw [hml]; rfl) (Steps.refl _) (argsL := []) (rest := []) (lenOf own_pd4 rfl) rfl (by show 2 * 0 + _ ≤ _; exact Nat.le_of_eq rfl) (hb hby at_123) (fun _ _ => ⟨rfl, rfl, (by decide : 26 + 0 ≤ _), (by decide : 2899 + 0 ≤ _)⟩)
  dsimp only [Pt.U, Pt.locs, Pt.cells, Pt.slots] at X15q l15q y15q z15q st15q hQ15q
  subst l15q y15q z15q
  obtain ⟨rfl, N15qq, e15q⟩ := hQ15q
  have N15q := Fr.app N14q N15qq
  obtain ⟨T16q, L16q, X16q, e16q, N16q, st16q⟩ := sgA_1 X15q hx hZ14q hw hby hml hown14q e15q N15q O14q fE97 fV97 fC97 fK97 SC hz SF hf hg hF0 hF1 hF2 hF3
  obtain ⟨T17q, L17q, X17q, e17q, N17q, st17q⟩ := sgB0_1 X16q hx hZ14q hw hby hml hown14q e16q N16q O14q fE97 fV97 fC97 fK97 SC hz SF hf hg hF4
  obtain ⟨T18q, L18q, X18q, e18q, N18q, st18q⟩ := sgB1_1 X17q hx hZ14q hw hby hml hown14q e17q N17q O14q fE97 fV97 fC97 fK97 SC hz SF hf hg hF5
  obtain ⟨T19q, L19q, X19q, e19q, N19q, st19q⟩ := sgB2_1 X18q hx hZ14q hw hby hml hown14q e18q N18q O14q fE97 fV97 fC97 fK97 SC hz SF hf hg hF6
  obtain ⟨T20q, L20q, X20q, e20q, N20q, st20q⟩ := sgC_1 X19q hx hZ14q hw hby hml hown14q e19q N19q O14q fE97 fV97 fC97 fK97 SC hz SF hf hg hG0 hG1
  obtain ⟨T21q, L21q, X21q, e21q, N21q, st21q⟩ := sgD1_1 X20q hx hZ14q hw hby hml hown14q e20q N20q O14q fE97 fV97 fC97 fK97 SC hz SF hf hg hG2
  obtain ⟨T22q, L22q, X22q, e22q, N22q, st22q⟩ := sgD2_1 X21q hx hZ14q hw hby hml hown14q e21q N21q O14q fE97 fV97 fC97 fK97 SC hz SF hf hg hG3
  obtain ⟨fs, hr, hrun, hended, hE⟩ := X22q.leaveW (s := s) (vm₁ := T14q.vm) S14q (by rw [e22q]; exact (Nat.le_refl _)) (v := some (.int (1 : Int32))) (fun h => by rw [Bd.returns] at h; cases h)
  have CE : CHr Z consts_1 s.vm s.heap T22q.vm T22q.heap := by
    rw [hh, e22q]
    exact CHr.trans CR14q (CHv.at X22q hZ14q (own_EW hw) CR14q.1)
  refine ⟨_, _, pre0 _ ?_, hrun, hended, _, _, rfl, ?_, CE, hE.1, hE.2.1, hE.2.2.1, hE.2.2.2.mono (by decide) (by decide)⟩
  · show Steps p.tables e below (s₁.setTop (mkF m 0 #[.val (.int p0), .val (.int p1), .val (.int p2), .unset, .unset, .unset, .unset, .unset, .unset, .unset, .unset, .unset, .unset, .unset, .unset, .unset, .unset] [])) _
    refine stA _ ?_
    show Steps p.tables e below (s₁.setTop (mkF m 11 #[.val (.int p0), .val (.int p1), .val (.int p2), .val (.int x), .val (.int y), .unset, .unset, .unset, .unset, .unset, .unset, .unset, .unset, .unset, .unset, .unset, .unset] [])) _
    refine XS.iloadN X0.here hx rfl (hb hby at_11) rfl ?_
    show Steps p.tables e below (s₁.setTop (mkF m 12 #[.val (.int p0), .val (.int p1), .val (.int p2), .val (.int x), .val (.int y), .unset, .unset, .unset, .unset, .unset, .unset, .unset, .unset, .unset, .unset, .unset, .unset] [(.int p1)])) _
    refine XS.iconst X0.here hx rfl (hb hby at_12) ?_
    show Steps p.tables e below (s₁.setTop (mkF m 13 #[.val (.int p0), .val (.int p1), .val (.int p2), .val (.int x), .val (.int y), .unset, .unset, .unset, .unset, .unset, .unset, .unset, .unset, .unset, .unset, .unset, .unset] [(.int (0 : Int32)), (.int p1)])) _
    refine st1q _ ?_
    show Steps p.tables e below (T1q.setTop (mkF m 16 #[.val (.int p0), .val (.int p1), .val (.int p2), .val (.int x), .val (.int y), .unset, .unset, .unset, .unset, .unset, .unset, .unset, .unset, .unset, .unset, .unset, .unset] [(.int w0)])) _
    refine XS.istore X1q.here hx rfl (hb hby at_16) rfl (l' := #[.val (.int p0), .val (.int p1), .val (.int p2), .val (.int x), .val (.int y), .val (.int w0), .unset, .unset, .unset, .unset, .unset, .unset, .unset, .unset, .unset, .unset, .unset]) rfl ?_
    show Steps p.tables e below (T1q.setTop (mkF m 18 #[.val (.int p0), .val (.int p1), .val (.int p2), .val (.int x), .val (.int y), .val (.int w0), .unset, .unset, .unset, .unset, .unset, .unset, .unset, .unset, .unset, .unset, .unset] [])) _
    refine XS.iloadN X1q.here hx rfl (hb hby at_18) rfl ?_
    show Steps p.tables e below (T1q.setTop (mkF m 19 #[.val (.int p0), .val (.int p1), .val (.int p2), .val (.int x), .val (.int y), .val (.int w0), .unset, .unset, .unset, .unset, .unset, .unset, .unset, .unset, .unset, .unset, .unset] [(.int p1)])) _
    refine XS.bipush X1q.here hx rfl (hb hby at_19) ?_
    show Steps p.tables e below (T1q.setTop (mkF m 21 #[.val (.int p0), .val (.int p1), .val (.int p2), .val (.int x), .val (.int y), .val (.int w0), .unset, .unset, .unset, .unset, .unset, .unset, .unset, .unset, .unset, .unset, .unset] [(.int (8 : Int32)), (.int p1)])) _
    refine st2q _ ?_
    show Steps p.tables e below (T2q.setTop (mkF m 24 #[.val (.int p0), .val (.int p1), .val (.int p2), .val (.int x), .val (.int y), .val (.int w0), .unset, .unset, .unset, .unset, .unset, .unset, .unset, .unset, .unset, .unset, .unset] [(.int w1)])) _
    refine XS.istore X2q.here hx rfl (hb hby at_24) rfl (l' := #[.val (.int p0), .val (.int p1), .val (.int p2), .val (.int x), .val (.int y), .val (.int w0), .val (.int w1), .unset, .unset, .unset, .unset, .unset, .unset, .unset, .unset, .unset, .unset]) rfl ?_
    show Steps p.tables e below (T2q.setTop (mkF m 26 #[.val (.int p0), .val (.int p1), .val (.int p2), .val (.int x), .val (.int y), .val (.int w0), .val (.int w1), .unset, .unset, .unset, .unset, .unset, .unset, .unset, .unset, .unset, .unset] [])) _
    refine XS.iloadN X2q.here hx rfl (hb hby at_26) rfl ?_
    show Steps p.tables e below (T2q.setTop (mkF m 27 #[.val (.int p0), .val (.int p1), .val (.int p2), .val (.int x), .val (.int y), .val (.int w0), .val (.int w1), .unset, .unset, .unset, .unset, .unset, .unset, .unset, .unset, .unset, .unset] [(.int p1)])) _
    refine XS.bipush X2q.here hx rfl (hb hby at_27) ?_
    show Steps p.tables e below (T2q.setTop (mkF m 29 #[.val (.int p0), .val (.int p1), .val (.int p2), .val (.int x), .val (.int y), .val (.int w0), .val (.int w1), .unset, .unset, .unset, .unset, .unset, .unset, .unset, .unset, .unset, .unset] [(.int (16 : Int32)), (.int p1)])) _
    refine st3q _ ?_
    show Steps p.tables e below (T3q.setTop (mkF m 32 #[.val (.int p0), .val (.int p1), .val (.int p2), .val (.int x), .val (.int y), .val (.int w0), .val (.int w1), .unset, .unset, .unset, .unset, .unset, .unset, .unset, .unset, .unset, .unset] [(.int w2)])) _
    refine XS.istore X3q.here hx rfl (hb hby at_32) rfl (l' := #[.val (.int p0), .val (.int p1), .val (.int p2), .val (.int x), .val (.int y), .val (.int w0), .val (.int w1), .val (.int w2), .unset, .unset, .unset, .unset, .unset, .unset, .unset, .unset, .unset]) rfl ?_
    show Steps p.tables e below (T3q.setTop (mkF m 34 #[.val (.int p0), .val (.int p1), .val (.int p2), .val (.int x), .val (.int y), .val (.int w0), .val (.int w1), .val (.int w2), .unset, .unset, .unset, .unset, .unset, .unset, .unset, .unset, .unset] [])) _
    refine XS.iloadN X3q.here hx rfl (hb hby at_34) rfl ?_
    show Steps p.tables e below (T3q.setTop (mkF m 35 #[.val (.int p0), .val (.int p1), .val (.int p2), .val (.int x), .val (.int y), .val (.int w0), .val (.int w1), .val (.int w2), .unset, .unset, .unset, .unset, .unset, .unset, .unset, .unset, .unset] [(.int p2)])) _
    refine XS.iconst X3q.here hx rfl (hb hby at_35) ?_
    show Steps p.tables e below (T3q.setTop (mkF m 36 #[.val (.int p0), .val (.int p1), .val (.int p2), .val (.int x), .val (.int y), .val (.int w0), .val (.int w1), .val (.int w2), .unset, .unset, .unset, .unset, .unset, .unset, .unset, .unset, .unset] [(.int (0 : Int32)), (.int p2)])) _
    refine st4q _ ?_
    show Steps p.tables e below (T4q.setTop (mkF m 39 #[.val (.int p0), .val (.int p1), .val (.int p2), .val (.int x), .val (.int y), .val (.int w0), .val (.int w1), .val (.int w2), .unset, .unset, .unset, .unset, .unset, .unset, .unset, .unset, .unset] [(.int d0)])) _
    refine XS.istore X4q.here hx rfl (hb hby at_39) rfl (l' := #[.val (.int p0), .val (.int p1), .val (.int p2), .val (.int x), .val (.int y), .val (.int w0), .val (.int w1), .val (.int w2), .val (.int d0), .unset, .unset, .unset, .unset, .unset, .unset, .unset, .unset]) rfl ?_
    show Steps p.tables e below (T4q.setTop (mkF m 41 #[.val (.int p0), .val (.int p1), .val (.int p2), .val (.int x), .val (.int y), .val (.int w0), .val (.int w1), .val (.int w2), .val (.int d0), .unset, .unset, .unset, .unset, .unset, .unset, .unset, .unset] [])) _
    refine XS.iloadN X4q.here hx rfl (hb hby at_41) rfl ?_
    show Steps p.tables e below (T4q.setTop (mkF m 42 #[.val (.int p0), .val (.int p1), .val (.int p2), .val (.int x), .val (.int y), .val (.int w0), .val (.int w1), .val (.int w2), .val (.int d0), .unset, .unset, .unset, .unset, .unset, .unset, .unset, .unset] [(.int p2)])) _
    refine XS.bipush X4q.here hx rfl (hb hby at_42) ?_
    show Steps p.tables e below (T4q.setTop (mkF m 44 #[.val (.int p0), .val (.int p1), .val (.int p2), .val (.int x), .val (.int y), .val (.int w0), .val (.int w1), .val (.int w2), .val (.int d0), .unset, .unset, .unset, .unset, .unset, .unset, .unset, .unset] [(.int (8 : Int32)), (.int p2)])) _
    refine st5q _ ?_
    show Steps p.tables e below (T5q.setTop (mkF m 47 #[.val (.int p0), .val (.int p1), .val (.int p2), .val (.int x), .val (.int y), .val (.int w0), .val (.int w1), .val (.int w2), .val (.int d0), .unset, .unset, .unset, .unset, .unset, .unset, .unset, .unset] [(.int d1)])) _
    refine XS.istore X5q.here hx rfl (hb hby at_47) rfl (l' := #[.val (.int p0), .val (.int p1), .val (.int p2), .val (.int x), .val (.int y), .val (.int w0), .val (.int w1), .val (.int w2), .val (.int d0), .val (.int d1), .unset, .unset, .unset, .unset, .unset, .unset, .unset]) rfl ?_
    show Steps p.tables e below (T5q.setTop (mkF m 49 #[.val (.int p0), .val (.int p1), .val (.int p2), .val (.int x), .val (.int y), .val (.int w0), .val (.int w1), .val (.int w2), .val (.int d0), .val (.int d1), .unset, .unset, .unset, .unset, .unset, .unset, .unset] [])) _
    refine XS.iloadN X5q.here hx rfl (hb hby at_49) rfl ?_
    show Steps p.tables e below (T5q.setTop (mkF m 50 #[.val (.int p0), .val (.int p1), .val (.int p2), .val (.int x), .val (.int y), .val (.int w0), .val (.int w1), .val (.int w2), .val (.int d0), .val (.int d1), .unset, .unset, .unset, .unset, .unset, .unset, .unset] [(.int p2)])) _
    refine XS.bipush X5q.here hx rfl (hb hby at_50) ?_
    show Steps p.tables e below (T5q.setTop (mkF m 52 #[.val (.int p0), .val (.int p1), .val (.int p2), .val (.int x), .val (.int y), .val (.int w0), .val (.int w1), .val (.int w2), .val (.int d0), .val (.int d1), .unset, .unset, .unset, .unset, .unset, .unset, .unset] [(.int (16 : Int32)), (.int p2)])) _
    refine st6q _ ?_
    show Steps p.tables e below (T6q.setTop (mkF m 55 #[.val (.int p0), .val (.int p1), .val (.int p2), .val (.int x), .val (.int y), .val (.int w0), .val (.int w1), .val (.int w2), .val (.int d0), .val (.int d1), .unset, .unset, .unset, .unset, .unset, .unset, .unset] [(.int d2)])) _
    refine XS.istore X6q.here hx rfl (hb hby at_55) rfl (l' := #[.val (.int p0), .val (.int p1), .val (.int p2), .val (.int x), .val (.int y), .val (.int w0), .val (.int w1), .val (.int w2), .val (.int d0), .val (.int d1), .val (.int d2), .unset, .unset, .unset, .unset, .unset, .unset]) rfl ?_
    show Steps p.tables e below (T6q.setTop (mkF m 57 #[.val (.int p0), .val (.int p1), .val (.int p2), .val (.int x), .val (.int y), .val (.int w0), .val (.int w1), .val (.int w2), .val (.int d0), .val (.int d1), .val (.int d2), .unset, .unset, .unset, .unset, .unset, .unset] [])) _
    refine XS.iloadN X6q.here hx rfl (hb hby at_57) rfl ?_
    show Steps p.tables e below (T6q.setTop (mkF m 58 #[.val (.int p0), .val (.int p1), .val (.int p2), .val (.int x), .val (.int y), .val (.int w0), .val (.int w1), .val (.int w2), .val (.int d0), .val (.int d1), .val (.int d2), .unset, .unset, .unset, .unset, .unset, .unset] [(.int x)])) _
    refine XS.iload X6q.here hx rfl (hb hby at_58) rfl ?_
    show Steps p.tables e below (T6q.setTop (mkF m 60 #[.val (.int p0), .val (.int p1), .val (.int p2), .val (.int x), .val (.int y), .val (.int w0), .val (.int w1), .val (.int w2), .val (.int d0), .val (.int d1), .val (.int d2), .unset, .unset, .unset, .unset, .unset, .unset] [(.int w0), (.int x)])) _
    refine XS.iload X6q.here hx rfl (hb hby at_60) rfl ?_
    show Steps p.tables e below (T6q.setTop (mkF m 62 #[.val (.int p0), .val (.int p1), .val (.int p2), .val (.int x), .val (.int y), .val (.int w0), .val (.int w1), .val (.int w2), .val (.int d0), .val (.int d1), .val (.int d2), .unset, .unset, .unset, .unset, .unset, .unset] [(.int w1), (.int w0), (.int x)])) _
    refine XS.iload X6q.here hx rfl (hb hby at_62) rfl ?_
    show Steps p.tables e below (T6q.setTop (mkF m 64 #[.val (.int p0), .val (.int p1), .val (.int p2), .val (.int x), .val (.int y), .val (.int w0), .val (.int w1), .val (.int w2), .val (.int d0), .val (.int d1), .val (.int d2), .unset, .unset, .unset, .unset, .unset, .unset] [(.int w2), (.int w1), (.int w0), (.int x)])) _
    refine st7q.trans ?_
    show Steps p.tables e below (T7q.setTop (mkF m 67 #[.val (.int p0), .val (.int p1), .val (.int p2), .val (.int x), .val (.int y), .val (.int w0), .val (.int w1), .val (.int w2), .val (.int d0), .val (.int d1), .val (.int d2), .unset, .unset, .unset, .unset, .unset, .unset] [(.ref wx)])) _
    refine XS.astore X7q.here hx rfl (hb hby at_67) rfl rfl (l' := #[.val (.int p0), .val (.int p1), .val (.int p2), .val (.int x), .val (.int y), .val (.int w0), .val (.int w1), .val (.int w2), .val (.int d0), .val (.int d1), .val (.int d2), .val (.ref wx), .unset, .unset, .unset, .unset, .unset]) rfl ?_
    show Steps p.tables e below (T7q.setTop (mkF m 69 #[.val (.int p0), .val (.int p1), .val (.int p2), .val (.int x), .val (.int y), .val (.int w0), .val (.int w1), .val (.int w2), .val (.int d0), .val (.int d1), .val (.int d2), .val (.ref wx), .unset, .unset, .unset, .unset, .unset] [])) _
    refine XS.iload X7q.here hx rfl (hb hby at_69) rfl ?_
    show Steps p.tables e below (T7q.setTop (mkF m 71 #[.val (.int p0), .val (.int p1), .val (.int p2), .val (.int x), .val (.int y), .val (.int w0), .val (.int w1), .val (.int w2), .val (.int d0), .val (.int d1), .val (.int d2), .val (.ref wx), .unset, .unset, .unset, .unset, .unset] [(.int y)])) _
    refine XS.iload X7q.here hx rfl (hb hby at_71) rfl ?_
    show Steps p.tables e below (T7q.setTop (mkF m 73 #[.val (.int p0), .val (.int p1), .val (.int p2), .val (.int x), .val (.int y), .val (.int w0), .val (.int w1), .val (.int w2), .val (.int d0), .val (.int d1), .val (.int d2), .val (.ref wx), .unset, .unset, .unset, .unset, .unset] [(.int d0), (.int y)])) _
    refine XS.iload X7q.here hx rfl (hb hby at_73) rfl ?_
    show Steps p.tables e below (T7q.setTop (mkF m 75 #[.val (.int p0), .val (.int p1), .val (.int p2), .val (.int x), .val (.int y), .val (.int w0), .val (.int w1), .val (.int w2), .val (.int d0), .val (.int d1), .val (.int d2), .val (.ref wx), .unset, .unset, .unset, .unset, .unset] [(.int d1), (.int d0), (.int y)])) _
    refine XS.iload X7q.here hx rfl (hb hby at_75) rfl ?_
    show Steps p.tables e below (T7q.setTop (mkF m 77 #[.val (.int p0), .val (.int p1), .val (.int p2), .val (.int x), .val (.int y), .val (.int w0), .val (.int w1), .val (.int w2), .val (.int d0), .val (.int d1), .val (.int d2), .val (.ref wx), .unset, .unset, .unset, .unset, .unset] [(.int d2), (.int d1), (.int d0), (.int y)])) _
    refine st8q.trans ?_
    show Steps p.tables e below (T8q.setTop (mkF m 80 #[.val (.int p0), .val (.int p1), .val (.int p2), .val (.int x), .val (.int y), .val (.int w0), .val (.int w1), .val (.int w2), .val (.int d0), .val (.int d1), .val (.int d2), .val (.ref wx), .unset, .unset, .unset, .unset, .unset] [(.ref dx)])) _
    refine XS.astore X8q.here hx rfl (hb hby at_80) rfl rfl (l' := #[.val (.int p0), .val (.int p1), .val (.int p2), .val (.int x), .val (.int y), .val (.int w0), .val (.int w1), .val (.int w2), .val (.int d0), .val (.int d1), .val (.int d2), .val (.ref wx), .val (.ref dx), .unset, .unset, .unset, .unset]) rfl ?_
    show Steps p.tables e below (T8q.setTop (mkF m 82 #[.val (.int p0), .val (.int p1), .val (.int p2), .val (.int x), .val (.int y), .val (.int w0), .val (.int w1), .val (.int w2), .val (.int d0), .val (.int d1), .val (.int d2), .val (.ref wx), .val (.ref dx), .unset, .unset, .unset, .unset] [])) _
    refine st9q _ ?_
    show Steps p.tables e below (T9q.setTop (mkF m 85 #[.val (.int p0), .val (.int p1), .val (.int p2), .val (.int x), .val (.int y), .val (.int w0), .val (.int w1), .val (.int w2), .val (.int d0), .val (.int d1), .val (.int d2), .val (.ref wx), .val (.ref dx), .unset, .unset, .unset, .unset] [(.ref b9q)])) _
    refine XS.dup X9q.here hx rfl (hb hby at_85) rfl rfl ?_
    show Steps p.tables e below (T9q.setTop (mkF m 86 #[.val (.int p0), .val (.int p1), .val (.int p2), .val (.int x), .val (.int y), .val (.int w0), .val (.int w1), .val (.int w2), .val (.int d0), .val (.int d1), .val (.int d2), .val (.ref wx), .val (.ref dx), .unset, .unset, .unset, .unset] [(.ref b9q), (.ref b9q)])) _
    refine XS.aload X9q.here hx rfl (hb hby at_86) rfl rfl ?_
    show Steps p.tables e below (T9q.setTop (mkF m 88 #[.val (.int p0), .val (.int p1), .val (.int p2), .val (.int x), .val (.int y), .val (.int w0), .val (.int w1), .val (.int w2), .val (.int d0), .val (.int d1), .val (.int d2), .val (.ref wx), .val (.ref dx), .unset, .unset, .unset, .unset] [(.ref wx), (.ref b9q), (.ref b9q)])) _
    refine XS.aload X9q.here hx rfl (hb hby at_88) rfl rfl ?_
    show Steps p.tables e below (T9q.setTop (mkF m 90 #[.val (.int p0), .val (.int p1), .val (.int p2), .val (.int x), .val (.int y), .val (.int w0), .val (.int w1), .val (.int w2), .val (.int d0), .val (.int d1), .val (.int d2), .val (.ref wx), .val (.ref dx), .unset, .unset, .unset, .unset] [(.ref dx), (.ref wx), (.ref b9q), (.ref b9q)])) _
    refine st10q.trans ?_
    show Steps p.tables e below (T10q.setTop (mkF m 93 #[.val (.int p0), .val (.int p1), .val (.int p2), .val (.int x), .val (.int y), .val (.int w0), .val (.int w1), .val (.int w2), .val (.int d0), .val (.int d1), .val (.int d2), .val (.ref wx), .val (.ref dx), .unset, .unset, .unset, .unset] [(.ref b9q)])) _
    refine XS.astore X10q.here hx rfl (hb hby at_93) rfl rfl (l' := #[.val (.int p0), .val (.int p1), .val (.int p2), .val (.int x), .val (.int y), .val (.int w0), .val (.int w1), .val (.int w2), .val (.int d0), .val (.int d1), .val (.int d2), .val (.ref wx), .val (.ref dx), .val (.ref b9q), .unset, .unset, .unset]) rfl ?_
    show Steps p.tables e below (T10q.setTop (mkF m 95 #[.val (.int p0), .val (.int p1), .val (.int p2), .val (.int x), .val (.int y), .val (.int w0), .val (.int w1), .val (.int w2), .val (.int d0), .val (.int d1), .val (.int d2), .val (.ref wx), .val (.ref dx), .val (.ref b9q), .unset, .unset, .unset] [])) _
    refine XS.aload X10q.here hx rfl (hb hby at_95) rfl rfl ?_
    show Steps p.tables e below (T10q.setTop (mkF m 97 #[.val (.int p0), .val (.int p1), .val (.int p2), .val (.int x), .val (.int y), .val (.int w0), .val (.int w1), .val (.int w2), .val (.int d0), .val (.int d1), .val (.int d2), .val (.ref wx), .val (.ref dx), .val (.ref b9q), .unset, .unset, .unset] [(.ref b9q)])) _
    refine st14q.trans ?_
    show Steps p.tables e below (T14q.setTop (mkF m 100 #[.val (.int p0), .val (.int p1), .val (.int p2), .val (.int x), .val (.int y), .val (.int w0), .val (.int w1), .val (.int w2), .val (.int d0), .val (.int d1), .val (.int d2), .val (.ref wx), .val (.ref dx), .val (.ref b9q), .unset, .unset, .unset] [(.ref xs)])) _
    refine XS.astore X14q.here hx rfl (hb hby at_100) rfl rfl (l' := #[.val (.int p0), .val (.int p1), .val (.int p2), .val (.int x), .val (.int y), .val (.int w0), .val (.int w1), .val (.int w2), .val (.int d0), .val (.int d1), .val (.int d2), .val (.ref wx), .val (.ref dx), .val (.ref b9q), .val (.ref xs), .unset, .unset]) rfl ?_
    show Steps p.tables e below (T14q.setTop (mkF m 102 #[.val (.int p0), .val (.int p1), .val (.int p2), .val (.int x), .val (.int y), .val (.int w0), .val (.int w1), .val (.int w2), .val (.int d0), .val (.int d1), .val (.int d2), .val (.ref wx), .val (.ref dx), .val (.ref b9q), .val (.ref xs), .unset, .unset] [])) _
    refine XS.iconst X14q.here hx rfl (hb hby at_102) ?_
    show Steps p.tables e below (T14q.setTop (mkF m 103 #[.val (.int p0), .val (.int p1), .val (.int p2), .val (.int x), .val (.int y), .val (.int w0), .val (.int w1), .val (.int w2), .val (.int d0), .val (.int d1), .val (.int d2), .val (.ref wx), .val (.ref dx), .val (.ref b9q), .val (.ref xs), .unset, .unset] [(.int (4 : Int32))])) _
    refine XS.iloadN X14q.here hx rfl (hb hby at_103) rfl ?_
    show Steps p.tables e below (T14q.setTop (mkF m 104 #[.val (.int p0), .val (.int p1), .val (.int p2), .val (.int x), .val (.int y), .val (.int w0), .val (.int w1), .val (.int w2), .val (.int d0), .val (.int d1), .val (.int d2), .val (.ref wx), .val (.ref dx), .val (.ref b9q), .val (.ref xs), .unset, .unset] [(.int x), (.int (4 : Int32))])) _
    refine XS.iadd X14q.here hx rfl (hb hby at_104) rfl ?_
    show Steps p.tables e below (T14q.setTop (mkF m 105 #[.val (.int p0), .val (.int p1), .val (.int p2), .val (.int x), .val (.int y), .val (.int w0), .val (.int w1), .val (.int w2), .val (.int d0), .val (.int d1), .val (.int d2), .val (.ref wx), .val (.ref dx), .val (.ref b9q), .val (.ref xs), .unset, .unset] [(.int ((4 : Int32) + x))])) _
    refine XS.iload X14q.here hx rfl (hb hby at_105) rfl ?_
    show Steps p.tables e below (T14q.setTop (mkF m 107 #[.val (.int p0), .val (.int p1), .val (.int p2), .val (.int x), .val (.int y), .val (.int w0), .val (.int w1), .val (.int w2), .val (.int d0), .val (.int d1), .val (.int d2), .val (.ref wx), .val (.ref dx), .val (.ref b9q), .val (.ref xs), .unset, .unset] [(.int y), (.int ((4 : Int32) + x))])) _
    refine XS.ifYes X14q.here hx rfl (pc0 := 107) (pc' := 114) rfl (hb hby at_107) rfl ((if0 _ _).trans (feq (hdl : ¬ (y = (0 : Int32)))).2) (by decide) (by decide) ?_
    show Steps p.tables e below (T14q.setTop (mkF m 114 #[.val (.int p0), .val (.int p1), .val (.int p2), .val (.int x), .val (.int y), .val (.int w0), .val (.int w1), .val (.int w2), .val (.int d0), .val (.int d1), .val (.int d2), .val (.ref wx), .val (.ref dx), .val (.ref b9q), .val (.ref xs), .unset, .unset] [(.int ((4 : Int32) + x))])) _
    refine XS.iconst X14q.here hx rfl (hb hby at_114) ?_
    show Steps p.tables e below (T14q.setTop (mkF m 115 #[.val (.int p0), .val (.int p1), .val (.int p2), .val (.int x), .val (.int y), .val (.int w0), .val (.int w1), .val (.int w2), .val (.int d0), .val (.int d1), .val (.int d2), .val (.ref wx), .val (.ref dx), .val (.ref b9q), .val (.ref xs), .unset, .unset] [(.int (1 : Int32)), (.int ((4 : Int32) + x))])) _
    refine XS.iload X14q.here hx rfl (hb hby at_115) rfl ?_
    show Steps p.tables e below (T14q.setTop (mkF m 117 #[.val (.int p0), .val (.int p1), .val (.int p2), .val (.int x), .val (.int y), .val (.int w0), .val (.int w1), .val (.int w2), .val (.int d0), .val (.int d1), .val (.int d2), .val (.ref wx), .val (.ref dx), .val (.ref b9q), .val (.ref xs), .unset, .unset] [(.int y), (.int (1 : Int32)), (.int ((4 : Int32) + x))])) _
    refine XS.iadd X14q.here hx rfl (hb hby at_117) rfl ?_
    show Steps p.tables e below (T14q.setTop (mkF m 118 #[.val (.int p0), .val (.int p1), .val (.int p2), .val (.int x), .val (.int y), .val (.int w0), .val (.int w1), .val (.int w2), .val (.int d0), .val (.int d1), .val (.int d2), .val (.ref wx), .val (.ref dx), .val (.ref b9q), .val (.ref xs), .unset, .unset] [(.int ((1 : Int32) + y)), (.int ((4 : Int32) + x))])) _
    refine XS.iadd X14q.here hx rfl (hb hby at_118) rfl ?_
    show Steps p.tables e below (T14q.setTop (mkF m 119 #[.val (.int p0), .val (.int p1), .val (.int p2), .val (.int x), .val (.int y), .val (.int w0), .val (.int w1), .val (.int w2), .val (.int d0), .val (.int d1), .val (.int d2), .val (.ref wx), .val (.ref dx), .val (.ref b9q), .val (.ref xs), .unset, .unset] [(.int (((4 : Int32) + x) + ((1 : Int32) + y)))])) _
    refine XS.istore X14q.here hx rfl (hb hby at_119) rfl (l' := #[.val (.int p0), .val (.int p1), .val (.int p2), .val (.int x), .val (.int y), .val (.int w0), .val (.int w1), .val (.int w2), .val (.int d0), .val (.int d1), .val (.int d2), .val (.ref wx), .val (.ref dx), .val (.ref b9q), .val (.ref xs), .val (.int (((4 : Int32) + x) + ((1 : Int32) + y))), .unset]) rfl ?_
    show Steps p.tables e below (T14q.setTop (mkF m 121 #[.val (.int p0), .val (.int p1), .val (.int p2), .val (.int x), .val (.int y), .val (.int w0), .val (.int w1), .val (.int w2), .val (.int d0), .val (.int d1), .val (.int d2), .val (.ref wx), .val (.ref dx), .val (.ref b9q), .val (.ref xs), .val (.int (((4 : Int32) + x) + ((1 : Int32) + y))), .unset] [])) _
    refine XS.aload X14q.here hx rfl (hb hby at_121) rfl rfl ?_
    show Steps p.tables e below (T14q.setTop (mkF m 123 #[.val (.int p0), .val (.int p1), .val (.int p2), .val (.int x), .val (.int y), .val (.int w0), .val (.int w1), .val (.int w2), .val (.int d0), .val (.int d1), .val (.int d2), .val (.ref wx), .val (.ref dx), .val (.ref b9q), .val (.ref xs), .val (.int (((4 : Int32) + x) + ((1 : Int32) + y))), .unset] [(.ref xs)])) _
    refine st15q.trans ?_
    show Steps p.tables e below (T15q.setTop (mkF m 126 #[.val (.int p0), .val (.int p1), .val (.int p2), .val (.int x), .val (.int y), .val (.int w0), .val (.int w1), .val (.int w2), .val (.int d0), .val (.int d1), .val (.int d2), .val (.ref wx), .val (.ref dx), .val (.ref b9q), .val (.ref xs), .val (.int (((4 : Int32) + x) + ((1 : Int32) + y))), .unset] [(.int (Int32.ofNat (((([] : List Int32) ++ ([69, 82, 82, 32] : List Int32)) ++ (own_mk x w0 w1 w2)) ++ ((([] : List Int32) ++ ([32] : List Int32)) ++ (own_mk y d0 d1 d2))).length))])) _
    refine XS.iload X15q.here hx rfl (hb hby at_126) rfl ?_
    show Steps p.tables e below (T15q.setTop (mkF m 128 #[.val (.int p0), .val (.int p1), .val (.int p2), .val (.int x), .val (.int y), .val (.int w0), .val (.int w1), .val (.int w2), .val (.int d0), .val (.int d1), .val (.int d2), .val (.ref wx), .val (.ref dx), .val (.ref b9q), .val (.ref xs), .val (.int (((4 : Int32) + x) + ((1 : Int32) + y))), .unset] [(.int (((4 : Int32) + x) + ((1 : Int32) + y))), (.int (Int32.ofNat (((([] : List Int32) ++ ([69, 82, 82, 32] : List Int32)) ++ (own_mk x w0 w1 w2)) ++ ((([] : List Int32) ++ ([32] : List Int32)) ++ (own_mk y d0 d1 d2))).length))])) _
    refine XS.icmpYes X15q.here hx rfl (pc0 := 128) (pc' := 133) rfl (hb hby at_128) rfl (teq (hle : (Int32.ofNat (((([] : List Int32) ++ ([69, 82, 82, 32] : List Int32)) ++ (own_mk x w0 w1 w2)) ++ ((([] : List Int32) ++ ([32] : List Int32)) ++ (own_mk y d0 d1 d2))).length) = (((4 : Int32) + x) + ((1 : Int32) + y)))).1 (by decide) (by decide) ?_
    show Steps p.tables e below (T15q.setTop (mkF m 133 #[.val (.int p0), .val (.int p1), .val (.int p2), .val (.int x), .val (.int y), .val (.int w0), .val (.int w1), .val (.int w2), .val (.int d0), .val (.int d1), .val (.int d2), .val (.ref wx), .val (.ref dx), .val (.ref b9q), .val (.ref xs), .val (.int (((4 : Int32) + x) + ((1 : Int32) + y))), .unset] [])) _
    refine st16q _ ?_
    show Steps p.tables e below (T16q.setTop (mkF m 179 #[.val (.int p0), .val (.int p1), .val (.int p2), .val (.int x), .val (.int y), .val (.int w0), .val (.int w1), .val (.int w2), .val (.int d0), .val (.int d1), .val (.int d2), .val (.ref wx), .val (.ref dx), .val (.ref b9q), .val (.ref xs), .val (.int (((4 : Int32) + x) + ((1 : Int32) + y))), .unset] [])) _
    refine st17q _ ?_
    show Steps p.tables e below (T17q.setTop (mkF m 196 #[.val (.int p0), .val (.int p1), .val (.int p2), .val (.int x), .val (.int y), .val (.int w0), .val (.int w1), .val (.int w2), .val (.int d0), .val (.int d1), .val (.int d2), .val (.ref wx), .val (.ref dx), .val (.ref b9q), .val (.ref xs), .val (.int (((4 : Int32) + x) + ((1 : Int32) + y))), .unset] [])) _
    refine st18q _ ?_
    show Steps p.tables e below (T18q.setTop (mkF m 214 #[.val (.int p0), .val (.int p1), .val (.int p2), .val (.int x), .val (.int y), .val (.int w0), .val (.int w1), .val (.int w2), .val (.int d0), .val (.int d1), .val (.int d2), .val (.ref wx), .val (.ref dx), .val (.ref b9q), .val (.ref xs), .val (.int (((4 : Int32) + x) + ((1 : Int32) + y))), .unset] [])) _
    refine st19q _ ?_
    show Steps p.tables e below (T19q.setTop (mkF m 233 #[.val (.int p0), .val (.int p1), .val (.int p2), .val (.int x), .val (.int y), .val (.int w0), .val (.int w1), .val (.int w2), .val (.int d0), .val (.int d1), .val (.int d2), .val (.ref wx), .val (.ref dx), .val (.ref b9q), .val (.ref xs), .val (.int (((4 : Int32) + x) + ((1 : Int32) + y))), .unset] [])) _
    refine XS.iload X19q.here hx rfl (hb hby at_233) rfl ?_
    show Steps p.tables e below (T19q.setTop (mkF m 235 #[.val (.int p0), .val (.int p1), .val (.int p2), .val (.int x), .val (.int y), .val (.int w0), .val (.int w1), .val (.int w2), .val (.int d0), .val (.int d1), .val (.int d2), .val (.ref wx), .val (.ref dx), .val (.ref b9q), .val (.ref xs), .val (.int (((4 : Int32) + x) + ((1 : Int32) + y))), .unset] [(.int y)])) _
    refine XS.ifYes X19q.here hx rfl (pc0 := 235) (pc' := 240) rfl (hb hby at_235) rfl ((if0 _ _).trans (feq (hdl : ¬ (y = (0 : Int32)))).2) (by decide) (by decide) ?_
    show Steps p.tables e below (T19q.setTop (mkF m 240 #[.val (.int p0), .val (.int p1), .val (.int p2), .val (.int x), .val (.int y), .val (.int w0), .val (.int w1), .val (.int w2), .val (.int d0), .val (.int d1), .val (.int d2), .val (.ref wx), .val (.ref dx), .val (.ref b9q), .val (.ref xs), .val (.int (((4 : Int32) + x) + ((1 : Int32) + y))), .unset] [])) _
    refine XS.iconst X19q.here hx rfl (hb hby at_240) ?_
    show Steps p.tables e below (T19q.setTop (mkF m 241 #[.val (.int p0), .val (.int p1), .val (.int p2), .val (.int x), .val (.int y), .val (.int w0), .val (.int w1), .val (.int w2), .val (.int d0), .val (.int d1), .val (.int d2), .val (.ref wx), .val (.ref dx), .val (.ref b9q), .val (.ref xs), .val (.int (((4 : Int32) + x) + ((1 : Int32) + y))), .unset] [(.int (4 : Int32))])) _
    refine XS.iloadN X19q.here hx rfl (hb hby at_241) rfl ?_
    show Steps p.tables e below (T19q.setTop (mkF m 242 #[.val (.int p0), .val (.int p1), .val (.int p2), .val (.int x), .val (.int y), .val (.int w0), .val (.int w1), .val (.int w2), .val (.int d0), .val (.int d1), .val (.int d2), .val (.ref wx), .val (.ref dx), .val (.ref b9q), .val (.ref xs), .val (.int (((4 : Int32) + x) + ((1 : Int32) + y))), .unset] [(.int x), (.int (4 : Int32))])) _
    refine XS.iadd X19q.here hx rfl (hb hby at_242) rfl ?_
    show Steps p.tables e below (T19q.setTop (mkF m 243 #[.val (.int p0), .val (.int p1), .val (.int p2), .val (.int x), .val (.int y), .val (.int w0), .val (.int w1), .val (.int w2), .val (.int d0), .val (.int d1), .val (.int d2), .val (.ref wx), .val (.ref dx), .val (.ref b9q), .val (.ref xs), .val (.int (((4 : Int32) + x) + ((1 : Int32) + y))), .unset] [(.int ((4 : Int32) + x))])) _
    refine XS.istore X19q.here hx rfl (hb hby at_243) rfl (l' := #[.val (.int p0), .val (.int p1), .val (.int p2), .val (.int x), .val (.int y), .val (.int w0), .val (.int w1), .val (.int w2), .val (.int d0), .val (.int d1), .val (.int d2), .val (.ref wx), .val (.ref dx), .val (.ref b9q), .val (.ref xs), .val (.int (((4 : Int32) + x) + ((1 : Int32) + y))), .val (.int ((4 : Int32) + x))]) rfl ?_
    show Steps p.tables e below (T19q.setTop (mkF m 245 #[.val (.int p0), .val (.int p1), .val (.int p2), .val (.int x), .val (.int y), .val (.int w0), .val (.int w1), .val (.int w2), .val (.int d0), .val (.int d1), .val (.int d2), .val (.ref wx), .val (.ref dx), .val (.ref b9q), .val (.ref xs), .val (.int (((4 : Int32) + x) + ((1 : Int32) + y))), .val (.int ((4 : Int32) + x))] [])) _
    refine st20q _ ?_
    show Steps p.tables e below (T20q.setTop (mkF m 275 #[.val (.int p0), .val (.int p1), .val (.int p2), .val (.int x), .val (.int y), .val (.int w0), .val (.int w1), .val (.int w2), .val (.int d0), .val (.int d1), .val (.int d2), .val (.ref wx), .val (.ref dx), .val (.ref b9q), .val (.ref xs), .val (.int (((4 : Int32) + x) + ((1 : Int32) + y))), .val (.int ((4 : Int32) + x))] [])) _
    refine st21q _ ?_
    show Steps p.tables e below (T21q.setTop (mkF m 297 #[.val (.int p0), .val (.int p1), .val (.int p2), .val (.int x), .val (.int y), .val (.int w0), .val (.int w1), .val (.int w2), .val (.int d0), .val (.int d1), .val (.int d2), .val (.ref wx), .val (.ref dx), .val (.ref b9q), .val (.ref xs), .val (.int (((4 : Int32) + x) + ((1 : Int32) + y))), .val (.int ((4 : Int32) + x))] [])) _
    refine st22q _ ?_
    show Steps p.tables e below (T22q.setTop (mkF m 319 #[.val (.int p0), .val (.int p1), .val (.int p2), .val (.int x), .val (.int y), .val (.int w0), .val (.int w1), .val (.int w2), .val (.int d0), .val (.int d1), .val (.int d2), .val (.ref wx), .val (.ref dx), .val (.ref b9q), .val (.ref xs), .val (.int (((4 : Int32) + x) + ((1 : Int32) + y))), .val (.int ((4 : Int32) + x))] [])) _
    refine XS.iconst X22q.here hx rfl (hb hby at_319) ?_
    show Steps p.tables e below (T22q.setTop (mkF m 320 #[.val (.int p0), .val (.int p1), .val (.int p2), .val (.int x), .val (.int y), .val (.int w0), .val (.int w1), .val (.int w2), .val (.int d0), .val (.int d1), .val (.int d2), .val (.ref wx), .val (.ref dx), .val (.ref b9q), .val (.ref xs), .val (.int (((4 : Int32) + x) + ((1 : Int32) + y))), .val (.int ((4 : Int32) + x))] [(.int (1 : Int32))])) _
    exact retN X22q hx (t := .boolean) Bd.returns (by simp) (hb hby at_320) hr
  · show Qd25 Z p0 p1 p2 z fm uu sen h0 n0 _ T22q.heap _
    rw [e22q]
    exact ⟨rfl, N22q⟩
theorem rm0 (l : Launch) (Z : State) (a0 : Array Value) (hw : ∀ d ∈ tables_1, d.before a0 Z = true) (ws : List Jvm.Cond) (p0 p1 p2 z : Int32) (fm uu sen : Value) (h0 : Heap) (n0 : Nat) (O0 : Old Z n0 h0) (SC : Sta Z Z.heap "java/lang/String" "COMPACT_STRINGS" "Z" (.int z)) (hz : ¬ z = 0) (SF : Sta Z Z.heap "jdk/internal/util/Preconditions" "SIOOBE_FORMATTER" "Ljava/util/function/BiFunction;" fm) (hf : fm.isRef = true) (SU : Sta Z Z.heap "java/lang/Throwable" "UNASSIGNED_STACK" "[Ljava/lang/StackTraceElement;" uu) (SS : Sta Z Z.heap "java/lang/Throwable" "SUPPRESSED_SENTINEL" "Ljava/util/List;" sen) (hu : uu.isRef = true) (hn : sen.isRef = true) (hST : l.stackTraces = true) :
    MetFree l x (head1 (Jvm.Cond.code x code maxLocals ret :: ws) room_1) (fun qq U => qq = #[(.int p0), (.int p1), (.int p2)] ∧ Z.Warmed39 U.vm ∧ U.heap = h0 ∧ CHv Z consts_1 U.vm h0) (fun _ _ bl st _ => st.vm.MethodsKnown ∧ st.vm.FramesKnown bl) (fun _ UU oo UU' => ∃ vv LL, oo = .returned vv ∧ Qd25 Z p0 p1 p2 z fm uu sen h0 n0 vv UU'.heap LL ∧ CHr Z consts_1 UU.vm UU.heap UU'.vm UU'.heap ∧ ReturnedEndW UU oo UU' LL room_1.cells room_1.slots) := by
  by_cases q : (((p0.toUInt32 >>> ((2 : Int32) &&& 31).toUInt32).toInt32) &&& (3 : Int32)) = (0 : Int32)
  · exact rm00 l Z a0 hw ws p0 p1 p2 z fm uu sen h0 n0 O0 SC hz SF hf SU SS hu hn hST q
  · exact rm01 l Z a0 hw ws p0 p1 p2 z fm uu sen h0 n0 O0 SC hz SF hf SU SS hu hn hST q
set_option maxRecDepth 65536 in
set_option maxHeartbeats 40000000 in
theorem comes_1 {Post : Tables → Env → Array Value → State → Outcome → State → Prop} (hpost : ∀ tb e args s v u, (limb_1_1.after args s (.returned v) u = true ∧ limb_1_2.after args s (.returned v) u = true ∧ True) → ReturnedEndW s (.returned v) u (Jvm.fieldLocs frame_1_writes args s ++ Jvm.arrayLocs frame_1_arrays args s ++ Jvm.staticLocs frame_1_statics s) 48 9920 → Post tb e args s (.returned v) u) :
    ArmFor flags0 classFile x code maxLocals ret World_1 tables_1 room_1 Calls_1 rest_1 Pre_1 Post := by
  intro l hfl _ _ p e ha hc hk s m args below hf hA hF happ hP
  obtain ⟨hcalls, hrest, hpre⟩ := hP
  obtain ⟨-, -, -, hnamed, -, -, -, hat⟩ := (Spec.applies_iff hf).mp happ
  obtain ⟨hg, hn⟩ := and_e (Cond.before_iff.mp (show (Jvm.Cond.and given_1 narrow_1).before args s = true from hpre))
  obtain ⟨gc, hg⟩ := and_e hg
  obtain ⟨g0, hg⟩ := and_e hg
  obtain ⟨g1, hg⟩ := and_e hg
  have g2 := hg
  obtain ⟨w0, w1, w2, rfl⟩ : ∃ w0 w1 w2 : Value, args = #[w0, w1, w2] := by
    have hs : args.size = 3 := by simpa [Cond.value, given_1] using gc
    obtain ⟨L⟩ := args
    match L, hs with
    | [w0, w1, w2], _ => exact ⟨w0, w1, w2, rfl⟩
  have hw := fun d (hd : d ∈ tables_1) => atoms_spec (ws := Jvm.Cond.code x code maxLocals ret :: tables_1) hat d (List.mem_cons_of_mem _ hd)
  have hfit : Fit s := fun {y c} hc i hi => by
    obtain ⟨ha, rfl⟩ := Array.getElem?_eq_some_iff.mp hc
    have q := List.all_eq_true.mp ((Array.all_eq_true_iff_forall_mem.mp hF) _ (Array.getElem_mem ha)) i (List.mem_range.mpr hi)
    simpa [Array.getElem?_eq_getElem hi] using q
  obtain ⟨hsets, hown0⟩ := atoms_of _ (rest_1_c_eq ▸ (show rest_1_c.before _ s = true from hrest))
  have hr0 := Cond.before_iff.mp hown0
  obtain ⟨i0, ei0⟩ := is_v g0
  obtain rfl : w0 = (.int i0) := Option.some.inj ei0
  obtain ⟨i1, ei1⟩ := is_v g1
  obtain rfl : w1 = (.int i1) := Option.some.inj ei1
  obtain ⟨i2, ei2⟩ := is_v g2
  obtain rfl : w2 = (.int i2) := Option.some.inj ei2
  obtain ⟨z, ez⟩ := is_v (Cond.before_iff.mp (hsets _ (List.mem_of_getElem? (i := 21) rfl)))
  have SC : Sta s s.heap "java/lang/String" "COMPACT_STRINGS" "Z" (.int z) := Sta.start ez (Or.inl (hsets _ (List.mem_of_getElem? (i := 20) rfl)))
  have hz : ¬ (z = (0 : Int32)) := gotF (Cond.eq_ints ez (Term.int_eval (0))) (not_v (Cond.before_iff.mp (hsets _ (List.mem_of_getElem? (i := 22) rfl))))
  obtain ⟨fm, ef, hfm⟩ := isR_v (Cond.before_iff.mp (hsets _ (List.mem_of_getElem? (i := 28) rfl)))
  have SF : Sta s s.heap "jdk/internal/util/Preconditions" "SIOOBE_FORMATTER" "Ljava/util/function/BiFunction;" fm := Sta.start ef (Or.inl (hsets _ (List.mem_of_getElem? (i := 27) rfl)))
  obtain ⟨uu, eu, hu⟩ := isR_v (Cond.before_iff.mp (hsets _ (List.mem_of_getElem? (i := 7) rfl)))
  have SU : Sta s s.heap "java/lang/Throwable" "UNASSIGNED_STACK" "[Ljava/lang/StackTraceElement;" uu := Sta.start eu (Or.inl (hsets _ (List.mem_of_getElem? (i := 6) rfl)))
  obtain ⟨sen, en, hn_⟩ := isR_v (Cond.before_iff.mp (hsets _ (List.mem_of_getElem? (i := 12) rfl)))
  have SS : Sta s s.heap "java/lang/Throwable" "SUPPRESSED_SENTINEL" "Ljava/util/List;" sen := Sta.start en (Or.inl (hsets _ (List.mem_of_getElem? (i := 11) rfl)))
  have hST : l.stackTraces = true := by unfold Launch.stackTraces; rw [hfl]; decide
  have HC0 : CHv s consts_1 s.vm s.heap := CHv.start (own_EW hw) (show ∀ p ∈ consts_1, Jvm.Lit.constHeld s p.1 p.2 from hcalls.2.2.1) (hsets _ (List.mem_of_getElem? (i := 22) rfl)) (hw _ (List.mem_of_getElem? (i := 22) rfl)) (hw _ (List.mem_of_getElem? (i := 8) rfl))
  obtain ⟨n, o, h1, h2, h3, _, L, rfl, ⟨rfl, N⟩, -, hq⟩ := rm0 l s _ hw tables_1 i0 i1 i2 z fm uu sen s.heap s.heap.size (Old.start s) SC hz SF hfm SU SS hu hn_ hST p e ha hc hk s m _ below hf ((Spec.applies_iff_loose hf).mp happ).1 ⟨rfl, State.Warmed39.refl s, rfl, HC0⟩ ⟨MethodsKnown_of_tablesKnown hcalls.2.1, FramesKnown_of_framesKnown hcalls.1 hf⟩
  refine ⟨n, _, h1, h2, h3, hpost _ _ _ _ _ _ ⟨Cond.after_iff.mpr rfl, Cond.after_iff.mpr (eq_i res_at (Term.int_eval (1)) rfl), trivial⟩ ⟨hq.1, hq.2.1, hq.2.2.1, (hq.2.2.2.sift fun y hy => Or.inr (N y hy)).mono (by decide) (by decide)⟩⟩
theorem main_1_1 : Claimed_1_1 := comes_1 fun _ _ _ _ _ _ h hF => ⟨h.1, hF⟩
theorem main_1_2 : Claimed_1_2 := comes_1 fun _ _ _ _ _ _ h hF => ⟨h.2.1, hF⟩
end Jvm.Pilot.@@N@@
namespace Jvm.Pilot.@@N@@
open Jvm Jvm.ClassFile Sem Op Lib Jvm.Free Jvm.Stand Jvm.Pilot.@@N@@.Jvm.D
/-! MADE BY PROGRAM (witnessworld.py) out of the Statement's table words and the real class files: 41 classes; the members and pool entries that the words name. The judged class is class 1, her method 3. -/
namespace start1
open Jvm.ClassFile
def u (s : String) : CpInfo := .utf8 (stringToUtf16 s)
/-- a pool by its gaps: so many unusable entries, then the entry; so many at the end -/
def gap : Nat → List CpInfo → List CpInfo
  | 0, r => r
  | n + 1, r => .unusable :: gap n r
def poolList (es : List (Nat × CpInfo)) (last : Nat) : List CpInfo := es.foldr (fun e r => gap e.1 (e.2 :: r)) (gap last [])
def pool (es : List (Nat × CpInfo)) (last : Nat) : Array CpInfo := ⟨poolList es last⟩
def fileOf (pool : Array CpInfo) (this : Nat) (attrs : Array Attribute := #[]) (ms : Array MethodInfo := #[]) (fl : Nat := 33) (sup : Nat := 0) (ifs : Array Nat := #[]) (fds : Array FieldInfo := #[]) : ClassFile where
  minorVersion := 0
  majorVersion := 65
  constantPool := pool
  accessFlags := fl
  thisClass := this
  superClass := sup
  interfaces := ifs
  fields := fds
  methods := ms
  attributes := attrs
def plain (name : String) (sup : Option ClassId) : Class where
  name := name
  kind := .ordinary
  loader := none
  accessFlags := 33
  super := sup
  interfaces := #[]
  cf := none
  fields := #[]
  methods := #[]
  instanceTypes := #[]
  staticTypes := #[]
  resolved := #[]
  callSites := []
  init := .initialized
  statics := none
  mirror := none

def pool0 : Array CpInfo := pool [(5, u "<init>"), (0, u "()V"), (1, .class_ 10), (1, u "java/lang/Object")] 113

def k0c0 : Code := { maxStack := 0, maxLocals := 1, code := object_method_1_code, exceptionTable := #[], attributes := #[] }
def k0m0 : Method := { name := "<init>", desc := "()V", sig := { parameters := [], returnType := none }, accessFlags := 1, code := some k0c0 }
/-- java/lang/Object -/
def k0 : Class := { plain "java/lang/Object" none with
  accessFlags := 33
  interfaces := #[]
  cf := some (fileOf pool0 8 #[] #[{ accessFlags := 1, nameIndex := 5, descriptorIndex := 6, attributes := #[] }] 33 0 #[] #[])
  fields := #[]
  methods := #[k0m0]
  instanceTypes := #[]
  staticTypes := #[]
  resolved := Array.replicate 124 none
  statics := none }

def pool1 : Array CpInfo := pool [(2, .class_ 4), (1, u "java/lang/Object"), (0, u "<init>"), (0, u "()V"), (0, .class_ 8), (0, u "java/lang/String"), (0, .methodref 7 10), (0, .nameAndType 5 11), (0, u "([C)V"), (0, .methodref 13 14), (0, .class_ 15), (0, .nameAndType 16 17), (0, u "com/example/riverside/riverside/RefusedExceptionReplyLinePinLaw"), (0, u "ch"), (0, u "(II)C"), (0, .methodref 13 19), (0, .nameAndType 20 21), (0, u "mk"), (0, u "(ICCC)Ljava/lang/String;"), (0, .class_ 23), (0, u "com/example/riverside/riverside/RefusedException"), (0, .methodref 22 25), (0, .nameAndType 5 26), (0, u "(Ljava/lang/String;Ljava/lang/String;)V"), (0, .methodref 22 28), (0, .nameAndType 29 30), (0, u "replyLine"), (0, u "()Ljava/lang/String;"), (0, .methodref 7 32), (0, .nameAndType 33 34), (0, u "length"), (0, u "()I"), (0, .methodref 7 36), (0, .nameAndType 37 38), (0, u "charAt"), (0, u "(I)C"), (3, u "law"), (0, u "(III)Z")] 2

def k1m0 : Method := { name := "<init>", desc := "()V", sig := { parameters := [], returnType := none }, accessFlags := 1, code := none }
def k1c1 : Code := { maxStack := 6, maxLocals := 4, code := method_2_code, exceptionTable := #[], attributes := #[] }
def k1m1 : Method := { name := "mk", desc := "(ICCC)Ljava/lang/String;", sig := { parameters := [.int, .char, .char, .char], returnType := some (.object "java/lang/String") }, accessFlags := 10, code := some k1c1 }
def k1c2 : Code := { maxStack := 2, maxLocals := 2, code := method_3_code, exceptionTable := #[], attributes := #[] }
def k1m2 : Method := { name := "ch", desc := "(II)C", sig := { parameters := [.int, .int], returnType := some .char }, accessFlags := 10, code := some k1c2 }
def k1c3 : Code := { maxStack := 4, maxLocals := 17, code := code, exceptionTable := #[], attributes := #[] }
def k1m3 : Method := { name := "law", desc := "(III)Z", sig := { parameters := [.int, .int, .int], returnType := some .boolean }, accessFlags := 9, code := some k1c3 }
/-- com/example/riverside/riverside/RefusedExceptionReplyLinePinLaw -/
def k1 : Class := { plain "com/example/riverside/riverside/RefusedExceptionReplyLinePinLaw" (some 0) with
  accessFlags := 49
  interfaces := #[]
  cf := some (fileOf pool1 13 #[] #[{ accessFlags := 1, nameIndex := 5, descriptorIndex := 6, attributes := #[] }, { accessFlags := 10, nameIndex := 20, descriptorIndex := 21, attributes := #[] }, { accessFlags := 10, nameIndex := 16, descriptorIndex := 17, attributes := #[] }, { accessFlags := 9, nameIndex := 42, descriptorIndex := 43, attributes := #[] }] 49 2 #[] #[])
  fields := #[]
  methods := #[k1m0, k1m1, k1m2, k1m3]
  instanceTypes := #[]
  staticTypes := #[]
  resolved := Array.replicate 46 none
  statics := none }

def pool2 : Array CpInfo := pool [(1, .class_ 2), (0, u "java/io/Serializable"), (0, .class_ 4), (0, u "java/lang/Object")] 2

/-- java/io/Serializable -/
def k2 : Class := { plain "java/io/Serializable" (some 0) with
  accessFlags := 1537
  interfaces := #[]
  cf := some (fileOf pool2 1 #[] #[] 1537 3 #[] #[])
  fields := #[]
  methods := #[]
  instanceTypes := #[]
  staticTypes := #[]
  resolved := Array.replicate 7 none
  statics := none }

def pool3 : Array CpInfo := pool [(1, .class_ 2), (0, u "java/lang/Comparable"), (0, .class_ 4), (0, u "java/lang/Object")] 7

/-- java/lang/Comparable -/
def k3 : Class := { plain "java/lang/Comparable" (some 0) with
  accessFlags := 1537
  interfaces := #[]
  cf := some (fileOf pool3 1 #[] #[] 1537 3 #[] #[])
  fields := #[]
  methods := #[]
  instanceTypes := #[]
  staticTypes := #[]
  resolved := Array.replicate 12 none
  statics := none }

def pool4 : Array CpInfo := pool [(2, .class_ 4), (1, u "java/lang/CharSequence"), (42, .class_ 48), (0, u "java/lang/CharSequence$1CodePointIterator"), (10, .class_ 60), (0, u "java/lang/CharSequence$1CharIterator"), (5, .class_ 67), (0, u "java/lang/Object")] 63

/-- java/lang/CharSequence -/
def k4 : Class := { plain "java/lang/CharSequence" (some 0) with
  accessFlags := 1537
  interfaces := #[]
  cf := some (fileOf pool4 2 #[.nestMembers #[47, 59]] #[] 1537 66 #[] #[])
  fields := #[]
  methods := #[]
  instanceTypes := #[]
  staticTypes := #[]
  resolved := Array.replicate 131 none
  statics := none }

def pool5 : Array CpInfo := pool [(1, .class_ 2), (0, u "java/lang/constant/Constable"), (0, .class_ 4), (0, u "java/lang/Object")] 6

/-- java/lang/constant/Constable -/
def k5 : Class := { plain "java/lang/constant/Constable" (some 0) with
  accessFlags := 1537
  interfaces := #[]
  cf := some (fileOf pool5 1 #[] #[] 1537 3 #[] #[])
  fields := #[]
  methods := #[]
  instanceTypes := #[]
  staticTypes := #[]
  resolved := Array.replicate 11 none
  statics := none }

def pool6 : Array CpInfo := pool [(1, .class_ 2), (0, u "java/lang/constant/ConstantDesc"), (0, .class_ 4), (0, u "java/lang/Object")] 32

/-- java/lang/constant/ConstantDesc -/
def k6 : Class := { plain "java/lang/constant/ConstantDesc" (some 0) with
  accessFlags := 1537
  interfaces := #[]
  cf := some (fileOf pool6 1 #[] #[] 1537 3 #[] #[])
  fields := #[]
  methods := #[]
  instanceTypes := #[]
  staticTypes := #[]
  resolved := Array.replicate 37 none
  statics := none }

def pool7 : Array CpInfo := pool [(1, .methodref 2 3), (0, .class_ 4), (0, .nameAndType 5 6), (0, u "java/lang/Object"), (0, u "<init>"), (0, u "()V"), (0, .string 8), (0, u ""), (0, .fieldref 10 11), (0, .class_ 12), (0, .nameAndType 13 14), (0, u "java/lang/String"), (0, u "value"), (0, u "[B"), (0, .fieldref 10 16), (0, .nameAndType 17 18), (0, u "coder"), (0, u "B"), (2, u "hash"), (0, u "I"), (2, u "hashIsZero"), (0, u "Z"), (0, .methodref 10 28), (0, .nameAndType 5 29), (0, u "([CIILjava/lang/Void;)V"), (8, .fieldref 10 39), (0, .nameAndType 40 26), (0, u "COMPACT_STRINGS"), (1, .class_ 44), (1, u "java/lang/StringUTF16"), (0, u "compress"), (1, .methodref 42 48), (0, .nameAndType 49 50), (0, u "coderFromArrayLen"), (0, u "([BI)B"), (3, .methodref 55 56), (0, .class_ 57), (0, .nameAndType 58 59), (0, u "java/util/Arrays"), (0, u "copyOfRange"), (0, u "([BII)[B"), (47, .class_ 109), (1, u "java/lang/StringLatin1"), (32, u "()Z"), (34, .methodref 42 178), (0, .nameAndType 45 179), (0, u "([CII)[B"), (13, .class_ 195), (1, u "java/lang/System"), (16, .methodref 193 213), (0, .nameAndType 214 215), (0, u "arraycopy"), (0, u "(Ljava/lang/Object;ILjava/lang/Object;II)V"), (118, u "()I"), (0, .methodref 10 336), (0, .nameAndType 17 337), (0, u "()B"), (2, u "()[B"), (22, u "([BI)C"), (27, u "(II)V"), (35, u "(I)C"), (61, .methodref 10 490), (0, .nameAndType 5 491), (0, u "(Ljava/lang/AbstractStringBuilder;Ljava/lang/Void;)V"), (0, .methodref 10 493), (0, .nameAndType 494 142), (0, u "isLatin1"), (0, .methodref 107 496), (0, .nameAndType 497 363), (0, u "charAt"), (3, u "checkIndex"), (4, .nameAndType 507 334), (0, u "length"), (24, u "getBytes"), (16, .methodref 550 506), (0, .class_ 551), (0, u "java/lang/AbstractStringBuilder"), (0, .methodref 550 553), (0, .nameAndType 554 340), (0, u "getValue"), (20, .class_ 576), (0, u "java/lang/CharSequence"), (22, u "CASE_INSENSITIVE_ORDER"), (0, u "Ljava/util/Comparator;"), (91, u "isEmpty"), (128, u "([BIB)V"), (188, u "([C)V"), (36, .methodref 550 493), (5, .fieldref 1054 1055), (0, .class_ 1056), (0, .nameAndType 1057 1058), (0, u "jdk/internal/util/Preconditions"), (0, u "SIOOBE_FORMATTER"), (0, u "Ljava/util/function/BiFunction;"), (0, .methodref 1054 1060), (0, .nameAndType 501 1061), (0, u "(IILjava/util/function/BiFunction;)I"), (39, u "serialPersistentFields"), (0, u "[Ljava/io/ObjectStreamField;"), (0, .class_ 1104), (0, u "java/lang/String$CaseInsensitiveComparator"), (1, .class_ 1107), (0, u "java/io/Serializable"), (0, .class_ 1109), (0, u "java/lang/Comparable"), (0, .class_ 1111), (0, u "java/lang/constant/Constable"), (0, .class_ 1113), (0, u "java/lang/constant/ConstantDesc"), (2, u "serialVersionUID"), (0, u "J"), (3, u "REPL"), (0, u "C"), (2, u "LATIN1"), (1, u "UTF16"), (105, u "(Ljava/lang/StringBuilder;)V")] 217

def k7m0 : Method := { name := "<init>", desc := "()V", sig := { parameters := [], returnType := none }, accessFlags := 1, code := none }
def k7c1 : Code := { maxStack := 5, maxLocals := 2, code := jdk_42_method_3_code, exceptionTable := #[], attributes := #[] }
def k7m1 : Method := { name := "<init>", desc := "([C)V", sig := { parameters := [(.array .char)], returnType := none }, accessFlags := 1, code := some k7c1 }
def k7c2 : Code := { maxStack := 3, maxLocals := 2, code := jdk_42_method_53_code, exceptionTable := #[], attributes := #[] }
def k7m2 : Method := { name := "<init>", desc := "(Ljava/lang/StringBuilder;)V", sig := { parameters := [(.object "java/lang/StringBuilder")], returnType := none }, accessFlags := 1, code := some k7c2 }
def k7c3 : Code := { maxStack := 2, maxLocals := 1, code := jdk_42_method_54_code, exceptionTable := #[], attributes := #[] }
def k7m3 : Method := { name := "length", desc := "()I", sig := { parameters := [], returnType := some .int }, accessFlags := 1, code := some k7c3 }
def k7c4 : Code := { maxStack := 1, maxLocals := 1, code := jdk_42_method_55_code, exceptionTable := #[], attributes := #[] }
def k7m4 : Method := { name := "isEmpty", desc := "()Z", sig := { parameters := [], returnType := some .boolean }, accessFlags := 1, code := some k7c4 }
def k7c5 : Code := { maxStack := 2, maxLocals := 2, code := jdk_42_method_56_code, exceptionTable := #[], attributes := #[] }
def k7m5 : Method := { name := "charAt", desc := "(I)C", sig := { parameters := [.int], returnType := some .char }, accessFlags := 1, code := some k7c5 }
def k7c6 : Code := { maxStack := 5, maxLocals := 4, code := jdk_42_method_147_code, exceptionTable := #[], attributes := #[] }
def k7m6 : Method := { name := "getBytes", desc := "([BIB)V", sig := { parameters := [(.array .byte), .int, .byte], returnType := none }, accessFlags := 0, code := some k7c6 }
def k7c7 : Code := { maxStack := 4, maxLocals := 6, code := jdk_42_method_149_code, exceptionTable := #[], attributes := #[] }
def k7m7 : Method := { name := "<init>", desc := "([CIILjava/lang/Void;)V", sig := { parameters := [(.array .char), .int, .int, (.object "java/lang/Void")], returnType := none }, accessFlags := 2, code := some k7c7 }
def k7c8 : Code := { maxStack := 5, maxLocals := 5, code := jdk_42_method_150_code, exceptionTable := #[], attributes := #[] }
def k7m8 : Method := { name := "<init>", desc := "(Ljava/lang/AbstractStringBuilder;Ljava/lang/Void;)V", sig := { parameters := [(.object "java/lang/AbstractStringBuilder"), (.object "java/lang/Void")], returnType := none }, accessFlags := 0, code := some k7c8 }
def k7c9 : Code := { maxStack := 1, maxLocals := 1, code := jdk_42_method_152_code, exceptionTable := #[], attributes := #[] }
def k7m9 : Method := { name := "coder", desc := "()B", sig := { parameters := [], returnType := some .byte }, accessFlags := 0, code := some k7c9 }
def k7c10 : Code := { maxStack := 1, maxLocals := 1, code := jdk_42_method_154_code, exceptionTable := #[], attributes := #[] }
def k7m10 : Method := { name := "isLatin1", desc := "()Z", sig := { parameters := [], returnType := some .boolean }, accessFlags := 0, code := some k7c10 }
def k7c11 : Code := { maxStack := 3, maxLocals := 2, code := jdk_42_method_155_code, exceptionTable := #[], attributes := #[] }
def k7m11 : Method := { name := "checkIndex", desc := "(II)V", sig := { parameters := [.int, .int], returnType := none }, accessFlags := 8, code := some k7c11 }
/-- java/lang/String -/
def k7 : Class := { plain "java/lang/String" (some 0) with
  accessFlags := 49
  interfaces := #[2, 3, 4, 5, 6]
  cf := some (fileOf pool7 10 #[.nestMembers #[1103]] #[{ accessFlags := 1, nameIndex := 5, descriptorIndex := 6, attributes := #[] }, { accessFlags := 1, nameIndex := 5, descriptorIndex := 1010, attributes := #[] }, { accessFlags := 1, nameIndex := 5, descriptorIndex := 1233, attributes := #[] }, { accessFlags := 1, nameIndex := 507, descriptorIndex := 334, attributes := #[] }, { accessFlags := 1, nameIndex := 692, descriptorIndex := 142, attributes := #[] }, { accessFlags := 1, nameIndex := 497, descriptorIndex := 427, attributes := #[] }, { accessFlags := 0, nameIndex := 532, descriptorIndex := 821, attributes := #[] }, { accessFlags := 2, nameIndex := 5, descriptorIndex := 29, attributes := #[] }, { accessFlags := 0, nameIndex := 5, descriptorIndex := 491, attributes := #[] }, { accessFlags := 0, nameIndex := 17, descriptorIndex := 337, attributes := #[] }, { accessFlags := 0, nameIndex := 494, descriptorIndex := 142, attributes := #[] }, { accessFlags := 8, nameIndex := 501, descriptorIndex := 391, attributes := #[] }] 49 2 #[1106, 1108, 575, 1110, 1112] #[{ accessFlags := 18, nameIndex := 13, descriptorIndex := 14, attributes := #[] }, { accessFlags := 18, nameIndex := 17, descriptorIndex := 18, attributes := #[] }, { accessFlags := 2, nameIndex := 21, descriptorIndex := 22, attributes := #[] }, { accessFlags := 2, nameIndex := 25, descriptorIndex := 26, attributes := #[] }, { accessFlags := 26, nameIndex := 1116, descriptorIndex := 1117, attributes := #[] }, { accessFlags := 24, nameIndex := 40, descriptorIndex := 26, attributes := #[] }, { accessFlags := 26, nameIndex := 1101, descriptorIndex := 1102, attributes := #[] }, { accessFlags := 26, nameIndex := 1121, descriptorIndex := 1122, attributes := #[] }, { accessFlags := 25, nameIndex := 599, descriptorIndex := 600, attributes := #[] }, { accessFlags := 24, nameIndex := 1125, descriptorIndex := 18, attributes := #[] }, { accessFlags := 24, nameIndex := 1127, descriptorIndex := 18, attributes := #[] }])
  fields := #[{ name := "value", type := (.array .byte), accessFlags := 18, slot := 0, constantValue := 0 }, { name := "coder", type := .byte, accessFlags := 18, slot := 1, constantValue := 0 }, { name := "hash", type := .int, accessFlags := 2, slot := 2, constantValue := 0 }, { name := "hashIsZero", type := .boolean, accessFlags := 2, slot := 3, constantValue := 0 }, { name := "serialVersionUID", type := .long, accessFlags := 26, slot := 0, constantValue := 0 }, { name := "COMPACT_STRINGS", type := .boolean, accessFlags := 24, slot := 1, constantValue := 0 }, { name := "serialPersistentFields", type := (.array (.object "java/io/ObjectStreamField")), accessFlags := 26, slot := 2, constantValue := 0 }, { name := "REPL", type := .char, accessFlags := 26, slot := 3, constantValue := 0 }, { name := "CASE_INSENSITIVE_ORDER", type := (.object "java/util/Comparator"), accessFlags := 25, slot := 4, constantValue := 0 }, { name := "LATIN1", type := .byte, accessFlags := 24, slot := 5, constantValue := 0 }, { name := "UTF16", type := .byte, accessFlags := 24, slot := 6, constantValue := 0 }]
  methods := #[k7m0, k7m1, k7m2, k7m3, k7m4, k7m5, k7m6, k7m7, k7m8, k7m9, k7m10, k7m11]
  instanceTypes := #[(.array .byte), .byte, .int, .boolean]
  staticTypes := #[.long, .boolean, (.array (.object "java/io/ObjectStreamField")), .char, (.object "java/util/Comparator"), .byte, .byte]
  resolved := Array.replicate 1451 none
  statics := some 0 }

def pool8 : Array CpInfo := pool [(1, .methodref 2 3), (0, .class_ 4), (0, .nameAndType 5 6), (0, u "java/lang/Object"), (0, u "<init>"), (0, u "()V"), (0, .fieldref 8 9), (0, .class_ 10), (0, .nameAndType 11 12), (0, u "java/lang/Throwable"), (0, u "cause"), (0, u "Ljava/lang/Throwable;"), (0, .fieldref 8 14), (0, .nameAndType 15 16), (0, u "UNASSIGNED_STACK"), (0, u "[Ljava/lang/StackTraceElement;"), (0, .fieldref 8 18), (0, .nameAndType 19 16), (0, u "stackTrace"), (0, .fieldref 8 21), (0, .nameAndType 22 23), (0, u "SUPPRESSED_SENTINEL"), (0, u "Ljava/util/List;"), (0, .fieldref 8 25), (0, .nameAndType 26 23), (0, u "suppressedExceptions"), (0, .methodref 8 28), (0, .nameAndType 29 30), (0, u "fillInStackTrace"), (0, u "()Ljava/lang/Throwable;"), (0, .fieldref 8 32), (0, .nameAndType 33 34), (0, u "detailMessage"), (0, u "Ljava/lang/String;"), (3, u "()Ljava/lang/String;"), (2, u "getMessage"), (51, .class_ 94), (0, u "java/lang/Throwable$WrappedPrintStream"), (6, .class_ 103), (1, u "java/lang/Throwable$PrintStreamOrWriter"), (61, u "$assertionsDisabled"), (0, u "Z"), (26, .class_ 194), (0, u "java/lang/Throwable$WrappedPrintWriter"), (3, .fieldref 8 199), (0, .nameAndType 200 201), (0, u "backtrace"), (0, u "Ljava/lang/Object;"), (0, .methodref 8 203), (0, .nameAndType 29 204), (0, u "(I)Ljava/lang/Throwable;"), (6, u "depth"), (0, u "I"), (10, u "(Ljava/lang/String;)V"), (45, .class_ 271), (1, u "java/lang/Throwable$SentinelHolder"), (32, u "EMPTY_THROWABLE_ARRAY"), (0, u "[Ljava/lang/Throwable;"), (12, .class_ 319), (0, u "java/io/Serializable"), (0, u "serialVersionUID"), (0, u "J"), (5, u "NULL_CAUSE_MESSAGE"), (0, u "SELF_SUPPRESSION_MESSAGE"), (0, u "CAUSE_CAPTION"), (0, u "SUPPRESSED_CAPTION")] 73

def k8c0 : Code := { maxStack := 2, maxLocals := 1, code := jdk_78_method_1_code, exceptionTable := #[], attributes := #[] }
def k8m0 : Method := { name := "<init>", desc := "()V", sig := { parameters := [], returnType := none }, accessFlags := 1, code := some k8c0 }
def k8c1 : Code := { maxStack := 2, maxLocals := 2, code := jdk_78_method_2_code, exceptionTable := #[], attributes := #[] }
def k8m1 : Method := { name := "<init>", desc := "(Ljava/lang/String;)V", sig := { parameters := [(.object "java/lang/String")], returnType := none }, accessFlags := 1, code := some k8c1 }
def k8c2 : Code := { maxStack := 1, maxLocals := 1, code := jdk_78_method_6_code, exceptionTable := #[], attributes := #[] }
def k8m2 : Method := { name := "getMessage", desc := "()Ljava/lang/String;", sig := { parameters := [], returnType := some (.object "java/lang/String") }, accessFlags := 1, code := some k8c2 }
def k8c3 : Code := { maxStack := 2, maxLocals := 1, code := ⟨#[0x2a, 0xb4, 0x00, 0x11, 0xc7, 0x00, 0x0a, 0x2a, 0xb4, 0x00, 0xc6, 0xc6, 0x00, 0x10, 0x2a, 0x03, 0xb6, 0x00, 0xca, 0x57, 0x2a, 0xb2, 0x00, 0x0d, 0xb5, 0x00, 0x11, 0x2a, 0xb0]⟩, exceptionTable := #[], attributes := #[] }
def k8m3 : Method := { name := "fillInStackTrace", desc := "()Ljava/lang/Throwable;", sig := { parameters := [], returnType := some (.object "java/lang/Throwable") }, accessFlags := 33, code := some k8c3 }
def k8m4 : Method := { name := "fillInStackTrace", desc := "(I)Ljava/lang/Throwable;", sig := { parameters := [.int], returnType := some (.object "java/lang/Throwable") }, accessFlags := 258, code := none }
/-- java/lang/Throwable -/
def k8 : Class := { plain "java/lang/Throwable" (some 0) with
  accessFlags := 33
  interfaces := #[2]
  cf := some (fileOf pool8 8 #[.nestMembers #[193, 93, 101, 269]] #[{ accessFlags := 1, nameIndex := 5, descriptorIndex := 6, attributes := #[] }, { accessFlags := 1, nameIndex := 5, descriptorIndex := 223, attributes := #[] }, { accessFlags := 1, nameIndex := 41, descriptorIndex := 38, attributes := #[] }, { accessFlags := 33, nameIndex := 29, descriptorIndex := 30, attributes := #[] }, { accessFlags := 258, nameIndex := 29, descriptorIndex := 204, attributes := #[] }] 33 2 #[318] #[{ accessFlags := 26, nameIndex := 320, descriptorIndex := 321, attributes := #[] }, { accessFlags := 130, nameIndex := 200, descriptorIndex := 201, attributes := #[] }, { accessFlags := 2, nameIndex := 33, descriptorIndex := 34, attributes := #[] }, { accessFlags := 26, nameIndex := 15, descriptorIndex := 16, attributes := #[] }, { accessFlags := 2, nameIndex := 11, descriptorIndex := 12, attributes := #[] }, { accessFlags := 2, nameIndex := 19, descriptorIndex := 16, attributes := #[] }, { accessFlags := 130, nameIndex := 211, descriptorIndex := 212, attributes := #[] }, { accessFlags := 26, nameIndex := 22, descriptorIndex := 23, attributes := #[] }, { accessFlags := 2, nameIndex := 26, descriptorIndex := 23, attributes := #[] }, { accessFlags := 26, nameIndex := 327, descriptorIndex := 34, attributes := #[] }, { accessFlags := 26, nameIndex := 328, descriptorIndex := 34, attributes := #[] }, { accessFlags := 26, nameIndex := 329, descriptorIndex := 34, attributes := #[] }, { accessFlags := 26, nameIndex := 330, descriptorIndex := 34, attributes := #[] }, { accessFlags := 26, nameIndex := 304, descriptorIndex := 305, attributes := #[] }, { accessFlags := 4120, nameIndex := 165, descriptorIndex := 166, attributes := #[] }])
  fields := #[{ name := "serialVersionUID", type := .long, accessFlags := 26, slot := 0, constantValue := 0 }, { name := "backtrace", type := (.object "java/lang/Object"), accessFlags := 130, slot := 0, constantValue := 0 }, { name := "detailMessage", type := (.object "java/lang/String"), accessFlags := 2, slot := 1, constantValue := 0 }, { name := "UNASSIGNED_STACK", type := (.array (.object "java/lang/StackTraceElement")), accessFlags := 26, slot := 1, constantValue := 0 }, { name := "cause", type := (.object "java/lang/Throwable"), accessFlags := 2, slot := 2, constantValue := 0 }, { name := "stackTrace", type := (.array (.object "java/lang/StackTraceElement")), accessFlags := 2, slot := 3, constantValue := 0 }, { name := "depth", type := .int, accessFlags := 130, slot := 4, constantValue := 0 }, { name := "SUPPRESSED_SENTINEL", type := (.object "java/util/List"), accessFlags := 26, slot := 2, constantValue := 0 }, { name := "suppressedExceptions", type := (.object "java/util/List"), accessFlags := 2, slot := 5, constantValue := 0 }, { name := "NULL_CAUSE_MESSAGE", type := (.object "java/lang/String"), accessFlags := 26, slot := 3, constantValue := 0 }, { name := "SELF_SUPPRESSION_MESSAGE", type := (.object "java/lang/String"), accessFlags := 26, slot := 4, constantValue := 0 }, { name := "CAUSE_CAPTION", type := (.object "java/lang/String"), accessFlags := 26, slot := 5, constantValue := 0 }, { name := "SUPPRESSED_CAPTION", type := (.object "java/lang/String"), accessFlags := 26, slot := 6, constantValue := 0 }, { name := "EMPTY_THROWABLE_ARRAY", type := (.array (.object "java/lang/Throwable")), accessFlags := 26, slot := 7, constantValue := 0 }, { name := "$assertionsDisabled", type := .boolean, accessFlags := 4120, slot := 8, constantValue := 0 }]
  methods := #[k8m0, k8m1, k8m2, k8m3, k8m4]
  instanceTypes := #[(.object "java/lang/Object"), (.object "java/lang/String"), (.object "java/lang/Throwable"), (.array (.object "java/lang/StackTraceElement")), .int, (.object "java/util/List")]
  staticTypes := #[.long, (.array (.object "java/lang/StackTraceElement")), (.object "java/util/List"), (.object "java/lang/String"), (.object "java/lang/String"), (.object "java/lang/String"), (.object "java/lang/String"), (.array (.object "java/lang/Throwable")), .boolean]
  resolved := Array.replicate 404 none
  statics := some 1 }

def pool9 : Array CpInfo := pool [(2, .class_ 4), (1, u "java/lang/Throwable"), (0, u "<init>"), (0, u "()V"), (0, .methodref 2 8), (0, .nameAndType 5 9), (0, u "(Ljava/lang/String;)V"), (9, .class_ 20), (0, u "java/lang/Exception"), (0, u "serialVersionUID"), (0, u "J")] 17

def k9m0 : Method := { name := "<init>", desc := "()V", sig := { parameters := [], returnType := none }, accessFlags := 1, code := none }
def k9c1 : Code := { maxStack := 2, maxLocals := 2, code := jdk_59_method_2_code, exceptionTable := #[], attributes := #[] }
def k9m1 : Method := { name := "<init>", desc := "(Ljava/lang/String;)V", sig := { parameters := [(.object "java/lang/String")], returnType := none }, accessFlags := 1, code := some k9c1 }
/-- java/lang/Exception -/
def k9 : Class := { plain "java/lang/Exception" (some 8) with
  accessFlags := 33
  interfaces := #[]
  cf := some (fileOf pool9 19 #[] #[{ accessFlags := 1, nameIndex := 5, descriptorIndex := 6, attributes := #[] }, { accessFlags := 1, nameIndex := 5, descriptorIndex := 9, attributes := #[] }] 33 2 #[] #[{ accessFlags := 24, nameIndex := 21, descriptorIndex := 22, attributes := #[] }])
  fields := #[{ name := "serialVersionUID", type := .long, accessFlags := 24, slot := 0, constantValue := 0 }]
  methods := #[k9m0, k9m1]
  instanceTypes := #[(.object "java/lang/Object"), (.object "java/lang/String"), (.object "java/lang/Throwable"), (.array (.object "java/lang/StackTraceElement")), .int, (.object "java/util/List")]
  staticTypes := #[.long]
  resolved := Array.replicate 40 none
  statics := none }

def pool10 : Array CpInfo := pool [(1, .methodref 2 3), (0, .class_ 4), (0, .nameAndType 5 6), (0, u "java/lang/Exception"), (0, u "<init>"), (0, u "(Ljava/lang/String;)V"), (0, .fieldref 8 9), (0, .class_ 10), (0, .nameAndType 11 12), (0, u "com/example/riverside/riverside/RefusedException"), (0, u "word"), (0, u "Ljava/lang/String;"), (0, .class_ 14), (0, u "java/lang/StringBuilder"), (0, .methodref 13 16), (0, .nameAndType 5 17), (0, u "()V"), (0, .string 19), (0, u "ERR "), (0, .methodref 13 21), (0, .nameAndType 22 23), (0, u "append"), (0, u "(Ljava/lang/String;)Ljava/lang/StringBuilder;"), (0, .methodref 8 25), (0, .nameAndType 26 27), (0, u "getMessage"), (0, u "()Ljava/lang/String;"), (0, .methodref 29 30), (0, .class_ 31), (0, .nameAndType 32 33), (0, u "java/lang/String"), (0, u "isEmpty"), (0, u "()Z"), (0, .string 35), (0, u ""), (0, .string 37), (0, u " "), (0, .methodref 13 39), (0, .nameAndType 40 27), (0, u "toString"), (0, u "EXISTS"), (3, u "ABSENT"), (2, u "NOT_OPEN"), (2, u "TOO_MUCH"), (2, u "NOT_HELD"), (2, u "BAD_REQUEST"), (2, u "serialVersionUID"), (0, u "J"), (2, u "(Ljava/lang/String;Ljava/lang/String;)V"), (3, u "replyLine")] 3

def k10c0 : Code := { maxStack := 2, maxLocals := 3, code := prog_14_method_1_code, exceptionTable := #[], attributes := #[] }
def k10m0 : Method := { name := "<init>", desc := "(Ljava/lang/String;Ljava/lang/String;)V", sig := { parameters := [(.object "java/lang/String"), (.object "java/lang/String")], returnType := none }, accessFlags := 0, code := some k10c0 }
def k10c1 : Code := { maxStack := 3, maxLocals := 1, code := prog_14_method_3_code, exceptionTable := #[], attributes := #[] }
def k10m1 : Method := { name := "replyLine", desc := "()Ljava/lang/String;", sig := { parameters := [], returnType := some (.object "java/lang/String") }, accessFlags := 0, code := some k10c1 }
/-- com/example/riverside/riverside/RefusedException -/
def k10 : Class := { plain "com/example/riverside/riverside/RefusedException" (some 9) with
  accessFlags := 48
  interfaces := #[]
  cf := some (fileOf pool10 8 #[] #[{ accessFlags := 0, nameIndex := 5, descriptorIndex := 64, attributes := #[] }, { accessFlags := 0, nameIndex := 68, descriptorIndex := 27, attributes := #[] }] 48 2 #[] #[{ accessFlags := 24, nameIndex := 41, descriptorIndex := 12, attributes := #[] }, { accessFlags := 24, nameIndex := 45, descriptorIndex := 12, attributes := #[] }, { accessFlags := 24, nameIndex := 48, descriptorIndex := 12, attributes := #[] }, { accessFlags := 24, nameIndex := 51, descriptorIndex := 12, attributes := #[] }, { accessFlags := 24, nameIndex := 54, descriptorIndex := 12, attributes := #[] }, { accessFlags := 24, nameIndex := 57, descriptorIndex := 12, attributes := #[] }, { accessFlags := 26, nameIndex := 60, descriptorIndex := 61, attributes := #[] }, { accessFlags := 18, nameIndex := 11, descriptorIndex := 12, attributes := #[] }])
  fields := #[{ name := "EXISTS", type := (.object "java/lang/String"), accessFlags := 24, slot := 0, constantValue := 0 }, { name := "ABSENT", type := (.object "java/lang/String"), accessFlags := 24, slot := 1, constantValue := 0 }, { name := "NOT_OPEN", type := (.object "java/lang/String"), accessFlags := 24, slot := 2, constantValue := 0 }, { name := "TOO_MUCH", type := (.object "java/lang/String"), accessFlags := 24, slot := 3, constantValue := 0 }, { name := "NOT_HELD", type := (.object "java/lang/String"), accessFlags := 24, slot := 4, constantValue := 0 }, { name := "BAD_REQUEST", type := (.object "java/lang/String"), accessFlags := 24, slot := 5, constantValue := 0 }, { name := "serialVersionUID", type := .long, accessFlags := 26, slot := 6, constantValue := 0 }, { name := "word", type := (.object "java/lang/String"), accessFlags := 18, slot := 6, constantValue := 0 }]
  methods := #[k10m0, k10m1]
  instanceTypes := #[(.object "java/lang/Object"), (.object "java/lang/String"), (.object "java/lang/Throwable"), (.array (.object "java/lang/StackTraceElement")), .int, (.object "java/util/List"), (.object "java/lang/String")]
  staticTypes := #[(.object "java/lang/String"), (.object "java/lang/String"), (.object "java/lang/String"), (.object "java/lang/String"), (.object "java/lang/String"), (.object "java/lang/String"), .long]
  resolved := Array.replicate 72 none
  statics := none }

def pool11 : Array CpInfo := pool [(1, .class_ 2), (0, u "java/lang/Appendable"), (0, .class_ 4), (0, u "java/lang/Object")] 9

/-- java/lang/Appendable -/
def k11 : Class := { plain "java/lang/Appendable" (some 0) with
  accessFlags := 1537
  interfaces := #[]
  cf := some (fileOf pool11 1 #[] #[] 1537 3 #[] #[])
  fields := #[]
  methods := #[]
  instanceTypes := #[]
  staticTypes := #[]
  resolved := Array.replicate 14 none
  statics := none }

def pool12 : Array CpInfo := pool [(1, .class_ 2), (0, u "java/lang/String"), (0, .methodref 4 5), (0, .class_ 6), (0, .nameAndType 7 8), (0, u "java/lang/Object"), (0, u "<init>"), (0, u "()V"), (1, .class_ 12), (1, u "java/lang/AbstractStringBuilder"), (0, u "EMPTYVALUE"), (0, u "[B"), (0, .fieldref 10 16), (0, .nameAndType 17 14), (0, u "value"), (0, .fieldref 1 19), (0, .nameAndType 20 21), (0, u "COMPACT_STRINGS"), (0, u "Z"), (0, .fieldref 10 23), (0, .nameAndType 24 25), (0, u "coder"), (0, u "B"), (6, .methodref 1 33), (0, .nameAndType 34 35), (0, u "length"), (0, u "()I"), (4, .methodref 1 41), (0, .nameAndType 24 42), (0, u "()B"), (2, u "append"), (0, u "(Ljava/lang/String;)Ljava/lang/AbstractStringBuilder;"), (1, .class_ 49), (0, u "java/lang/CharSequence"), (19, u "(Ljava/lang/String;)V"), (5, u "maybeLatin1"), (3, .fieldref 10 80), (0, .nameAndType 81 82), (0, u "count"), (0, u "I"), (2, u "isLatin1"), (0, u "()Z"), (13, .methodref 10 101), (0, .nameAndType 102 103), (0, u "ensureCapacityInternal"), (0, u "(I)V"), (104, .methodref 10 209), (0, .nameAndType 210 211), (0, u "putStringAt"), (0, u "(ILjava/lang/String;)V"), (5, u "inflateIfNeededFor"), (2, .nameAndType 221 222), (0, u "getBytes"), (0, u "([BIB)V"), (174, .methodref 10 398), (0, .nameAndType 217 69), (0, .methodref 1 220), (3, u "()[B"), (40, .class_ 445), (0, u "java/lang/Appendable"), (106, u "getValue")] 56

def k12m0 : Method := { name := "<init>", desc := "()V", sig := { parameters := [], returnType := none }, accessFlags := 0, code := none }
def k12c1 : Code := { maxStack := 2, maxLocals := 2, code := jdk_68_method_2_code, exceptionTable := #[], attributes := #[] }
def k12m1 : Method := { name := "<init>", desc := "(I)V", sig := { parameters := [.int], returnType := none }, accessFlags := 0, code := some k12c1 }
def k12c2 : Code := { maxStack := 1, maxLocals := 1, code := jdk_68_method_6_code, exceptionTable := #[], attributes := #[] }
def k12m2 : Method := { name := "length", desc := "()I", sig := { parameters := [], returnType := some .int }, accessFlags := 1, code := some k12c2 }
def k12c3 : Code := { maxStack := 4, maxLocals := 3, code := jdk_68_method_9_code, exceptionTable := #[], attributes := #[] }
def k12m3 : Method := { name := "ensureCapacityInternal", desc := "(I)V", sig := { parameters := [.int], returnType := none }, accessFlags := 2, code := some k12c3 }
def k12c4 : Code := { maxStack := 3, maxLocals := 3, code := jdk_68_method_22_code, exceptionTable := #[], attributes := #[] }
def k12m4 : Method := { name := "append", desc := "(Ljava/lang/String;)Ljava/lang/AbstractStringBuilder;", sig := { parameters := [(.object "java/lang/String")], returnType := some (.object "java/lang/AbstractStringBuilder") }, accessFlags := 1, code := some k12c4 }
def k12c5 : Code := { maxStack := 1, maxLocals := 1, code := jdk_68_method_64_code, exceptionTable := #[], attributes := #[] }
def k12m5 : Method := { name := "getValue", desc := "()[B", sig := { parameters := [], returnType := some (.array .byte) }, accessFlags := 16, code := some k12c5 }
def k12c6 : Code := { maxStack := 1, maxLocals := 1, code := jdk_68_method_68_code, exceptionTable := #[], attributes := #[] }
def k12m6 : Method := { name := "isLatin1", desc := "()Z", sig := { parameters := [], returnType := some .boolean }, accessFlags := 16, code := some k12c6 }
def k12c7 : Code := { maxStack := 2, maxLocals := 2, code := jdk_68_method_71_code, exceptionTable := #[], attributes := #[] }
def k12m7 : Method := { name := "inflateIfNeededFor", desc := "(Ljava/lang/String;)V", sig := { parameters := [(.object "java/lang/String")], returnType := none }, accessFlags := 2, code := some k12c7 }
def k12c8 : Code := { maxStack := 4, maxLocals := 3, code := jdk_68_method_73_code, exceptionTable := #[], attributes := #[] }
def k12m8 : Method := { name := "putStringAt", desc := "(ILjava/lang/String;)V", sig := { parameters := [.int, (.object "java/lang/String")], returnType := none }, accessFlags := 2, code := some k12c8 }
/-- java/lang/AbstractStringBuilder -/
def k12 : Class := { plain "java/lang/AbstractStringBuilder" (some 0) with
  accessFlags := 1056
  interfaces := #[11, 4]
  cf := some (fileOf pool12 10 #[] #[{ accessFlags := 0, nameIndex := 7, descriptorIndex := 8, attributes := #[] }, { accessFlags := 0, nameIndex := 7, descriptorIndex := 103, attributes := #[] }, { accessFlags := 1, nameIndex := 34, descriptorIndex := 35, attributes := #[] }, { accessFlags := 2, nameIndex := 102, descriptorIndex := 103, attributes := #[] }, { accessFlags := 1, nameIndex := 45, descriptorIndex := 46, attributes := #[] }, { accessFlags := 16, nameIndex := 552, descriptorIndex := 403, attributes := #[] }, { accessFlags := 16, nameIndex := 85, descriptorIndex := 86, attributes := #[] }, { accessFlags := 2, nameIndex := 217, descriptorIndex := 69, attributes := #[] }, { accessFlags := 2, nameIndex := 210, descriptorIndex := 211, attributes := #[] }] 1056 4 #[444, 48] #[{ accessFlags := 0, nameIndex := 17, descriptorIndex := 14, attributes := #[] }, { accessFlags := 0, nameIndex := 24, descriptorIndex := 25, attributes := #[] }, { accessFlags := 0, nameIndex := 75, descriptorIndex := 21, attributes := #[] }, { accessFlags := 0, nameIndex := 81, descriptorIndex := 82, attributes := #[] }, { accessFlags := 26, nameIndex := 13, descriptorIndex := 14, attributes := #[] }])
  fields := #[{ name := "value", type := (.array .byte), accessFlags := 0, slot := 0, constantValue := 0 }, { name := "coder", type := .byte, accessFlags := 0, slot := 1, constantValue := 0 }, { name := "maybeLatin1", type := .boolean, accessFlags := 0, slot := 2, constantValue := 0 }, { name := "count", type := .int, accessFlags := 0, slot := 3, constantValue := 0 }, { name := "EMPTYVALUE", type := (.array .byte), accessFlags := 26, slot := 0, constantValue := 0 }]
  methods := #[k12m0, k12m1, k12m2, k12m3, k12m4, k12m5, k12m6, k12m7, k12m8]
  instanceTypes := #[(.array .byte), .byte, .boolean, .int]
  staticTypes := #[(.array .byte)]
  resolved := Array.replicate 609 none
  statics := none }

def pool13 : Array CpInfo := pool [(1, .methodref 2 3), (0, .class_ 4), (0, .nameAndType 5 6), (0, u "java/lang/AbstractStringBuilder"), (0, u "<init>"), (0, u "(I)V"), (11, .class_ 20), (1, u "java/lang/String"), (3, .class_ 26), (1, u "java/lang/StringBuilder"), (0, u "append"), (0, u "(Ljava/lang/String;)Ljava/lang/StringBuilder;"), (0, .methodref 2 30), (0, .nameAndType 27 31), (0, u "(Ljava/lang/String;)Ljava/lang/AbstractStringBuilder;"), (105, .methodref 18 138), (0, .nameAndType 5 139), (0, u "(Ljava/lang/StringBuilder;)V"), (5, u "()V"), (10, u "()I"), (186, .methodref 2 344), (0, .nameAndType 345 156), (0, u "length"), (3, .class_ 350), (0, u "java/lang/Appendable"), (0, .class_ 352), (0, u "java/io/Serializable"), (0, .class_ 354), (0, u "java/lang/Comparable"), (0, .class_ 356), (0, u "java/lang/CharSequence"), (0, u "serialVersionUID"), (0, u "J"), (40, u "toString"), (0, u "()Ljava/lang/String;")] 21

def k13c0 : Code := { maxStack := 2, maxLocals := 1, code := jdk_67_method_1_code, exceptionTable := #[], attributes := #[] }
def k13m0 : Method := { name := "<init>", desc := "()V", sig := { parameters := [], returnType := none }, accessFlags := 1, code := some k13c0 }
def k13c1 : Code := { maxStack := 2, maxLocals := 2, code := jdk_67_method_7_code, exceptionTable := #[], attributes := #[] }
def k13m1 : Method := { name := "append", desc := "(Ljava/lang/String;)Ljava/lang/StringBuilder;", sig := { parameters := [(.object "java/lang/String")], returnType := some (.object "java/lang/StringBuilder") }, accessFlags := 1, code := some k13c1 }
def k13c2 : Code := { maxStack := 3, maxLocals := 1, code := jdk_67_method_42_code, exceptionTable := #[], attributes := #[] }
def k13m2 : Method := { name := "toString", desc := "()Ljava/lang/String;", sig := { parameters := [], returnType := some (.object "java/lang/String") }, accessFlags := 1, code := some k13c2 }
def k13c3 : Code := { maxStack := 1, maxLocals := 1, code := jdk_67_method_93_code, exceptionTable := #[], attributes := #[] }
def k13m3 : Method := { name := "length", desc := "()I", sig := { parameters := [], returnType := some .int }, accessFlags := 4161, code := some k13c3 }
/-- java/lang/StringBuilder -/
def k13 : Class := { plain "java/lang/StringBuilder" (some 12) with
  accessFlags := 49
  interfaces := #[11, 2, 3, 4]
  cf := some (fileOf pool13 24 #[] #[{ accessFlags := 1, nameIndex := 5, descriptorIndex := 145, attributes := #[] }, { accessFlags := 1, nameIndex := 27, descriptorIndex := 28, attributes := #[] }, { accessFlags := 1, nameIndex := 399, descriptorIndex := 400, attributes := #[] }, { accessFlags := 4161, nameIndex := 345, descriptorIndex := 156, attributes := #[] }] 49 2 #[349, 351, 353, 355] #[{ accessFlags := 24, nameIndex := 357, descriptorIndex := 358, attributes := #[] }])
  fields := #[{ name := "serialVersionUID", type := .long, accessFlags := 24, slot := 0, constantValue := 0 }]
  methods := #[k13m0, k13m1, k13m2, k13m3]
  instanceTypes := #[(.array .byte), .byte, .boolean, .int]
  staticTypes := #[.long]
  resolved := Array.replicate 422 none
  statics := none }

def pool14 : Array CpInfo := pool [(2, .class_ 4), (1, u "java/lang/Object"), (0, u "<init>"), (0, u "()V"), (1, .class_ 10), (1, u "java/lang/System"), (0, u "allowSecurityManager"), (0, u "I"), (16, u "cons"), (0, u "Ljava/io/Console;"), (77, .class_ 110), (1, u "java/lang/System$CallersHolder"), (43, u "initialErrStream"), (0, u "Ljava/io/PrintStream;"), (19, u "security"), (0, u "Ljava/lang/SecurityManager;"), (31, .class_ 209), (0, u "java/lang/System$1"), (7, u "props"), (0, u "Ljava/util/Properties;"), (2, u "lineSeparator"), (0, u "Ljava/lang/String;"), (96, .class_ 321), (1, u "java/lang/System$LoggerFinder"), (5, .class_ 328), (0, u "java/lang/System$Logger"), (67, u "err"), (2, u "out"), (91, u "notSupportedJnuEncoding"), (15, u "in"), (17, u "initialIn"), (0, u "Ljava/io/InputStream;"), (35, u "bootLayer"), (0, u "Ljava/lang/ModuleLayer;"), (99, .class_ 664), (0, u "java/lang/System$2"), (9, u "NEVER"), (2, u "MAYBE"), (49, u "arraycopy"), (0, u "(Ljava/lang/Object;ILjava/lang/Object;II)V"), (72, .class_ 802), (0, u "java/lang/System$Logger$Level")] 31

def k14m0 : Method := { name := "<init>", desc := "()V", sig := { parameters := [], returnType := none }, accessFlags := 2, code := none }
def k14m1 : Method := { name := "arraycopy", desc := "(Ljava/lang/Object;ILjava/lang/Object;II)V", sig := { parameters := [(.object "java/lang/Object"), .int, (.object "java/lang/Object"), .int, .int], returnType := none }, accessFlags := 265, code := none }
/-- java/lang/System -/
def k14 : Class := { plain "java/lang/System" (some 0) with
  accessFlags := 49
  interfaces := #[]
  cf := some (fileOf pool14 8 #[.nestMembers #[319, 327, 801, 108, 663, 208]] #[{ accessFlags := 2, nameIndex := 5, descriptorIndex := 6, attributes := #[] }, { accessFlags := 265, nameIndex := 727, descriptorIndex := 728, attributes := #[] }] 49 2 #[] #[{ accessFlags := 25, nameIndex := 507, descriptorIndex := 526, attributes := #[] }, { accessFlags := 25, nameIndex := 399, descriptorIndex := 155, attributes := #[] }, { accessFlags := 25, nameIndex := 396, descriptorIndex := 155, attributes := #[] }, { accessFlags := 10, nameIndex := 525, descriptorIndex := 526, attributes := #[] }, { accessFlags := 26, nameIndex := 674, descriptorIndex := 12, attributes := #[] }, { accessFlags := 26, nameIndex := 677, descriptorIndex := 12, attributes := #[] }, { accessFlags := 10, nameIndex := 11, descriptorIndex := 12, attributes := #[] }, { accessFlags := 74, nameIndex := 175, descriptorIndex := 176, attributes := #[] }, { accessFlags := 10, nameIndex := 491, descriptorIndex := 222, attributes := #[] }, { accessFlags := 74, nameIndex := 29, descriptorIndex := 30, attributes := #[] }, { accessFlags := 74, nameIndex := 154, descriptorIndex := 155, attributes := #[] }, { accessFlags := 10, nameIndex := 217, descriptorIndex := 218, attributes := #[] }, { accessFlags := 10, nameIndex := 221, descriptorIndex := 222, attributes := #[] }, { accessFlags := 8, nameIndex := 562, descriptorIndex := 563, attributes := #[] }])
  fields := #[{ name := "in", type := (.object "java/io/InputStream"), accessFlags := 25, slot := 0, constantValue := 0 }, { name := "out", type := (.object "java/io/PrintStream"), accessFlags := 25, slot := 1, constantValue := 0 }, { name := "err", type := (.object "java/io/PrintStream"), accessFlags := 25, slot := 2, constantValue := 0 }, { name := "initialIn", type := (.object "java/io/InputStream"), accessFlags := 10, slot := 3, constantValue := 0 }, { name := "NEVER", type := .int, accessFlags := 26, slot := 4, constantValue := 0 }, { name := "MAYBE", type := .int, accessFlags := 26, slot := 5, constantValue := 0 }, { name := "allowSecurityManager", type := .int, accessFlags := 10, slot := 6, constantValue := 0 }, { name := "security", type := (.object "java/lang/SecurityManager"), accessFlags := 74, slot := 7, constantValue := 0 }, { name := "notSupportedJnuEncoding", type := (.object "java/lang/String"), accessFlags := 10, slot := 8, constantValue := 0 }, { name := "cons", type := (.object "java/io/Console"), accessFlags := 74, slot := 9, constantValue := 0 }, { name := "initialErrStream", type := (.object "java/io/PrintStream"), accessFlags := 74, slot := 10, constantValue := 0 }, { name := "props", type := (.object "java/util/Properties"), accessFlags := 10, slot := 11, constantValue := 0 }, { name := "lineSeparator", type := (.object "java/lang/String"), accessFlags := 10, slot := 12, constantValue := 0 }, { name := "bootLayer", type := (.object "java/lang/ModuleLayer"), accessFlags := 8, slot := 13, constantValue := 0 }]
  methods := #[k14m0, k14m1]
  instanceTypes := #[]
  staticTypes := #[(.object "java/io/InputStream"), (.object "java/io/PrintStream"), (.object "java/io/PrintStream"), (.object "java/io/InputStream"), .int, .int, .int, (.object "java/lang/SecurityManager"), (.object "java/lang/String"), (.object "java/io/Console"), (.object "java/io/PrintStream"), (.object "java/util/Properties"), (.object "java/lang/String"), (.object "java/lang/ModuleLayer")]
  resolved := Array.replicate 834 none
  statics := none }

def pool15 : Array CpInfo := pool [(2, .class_ 4), (1, u "java/lang/Object"), (0, u "<init>"), (0, u "()V"), (7, .class_ 16), (1, u "java/util/Arrays"), (57, .class_ 76), (1, u "java/util/Arrays$NaturalOrder"), (36, .class_ 115), (1, u "java/util/Arrays$LegacyMergeSort"), (1, u "Z"), (21, u "copyOfRange"), (10, .methodref 151 152), (0, .class_ 153), (0, .nameAndType 154 155), (0, u "java/lang/System"), (0, u "arraycopy"), (0, u "(Ljava/lang/Object;ILjava/lang/Object;II)V"), (148, .methodref 305 306), (0, .class_ 307), (0, .nameAndType 308 309), (0, u "java/lang/Math"), (0, u "min"), (0, u "(II)I"), (29, .methodref 14 340), (0, .nameAndType 341 342), (0, u "copyOfRangeByte"), (0, u "([BII)[B"), (0, .methodref 14 344), (0, .nameAndType 345 346), (0, u "checkLength"), (0, u "(II)V"), (28, .class_ 376), (0, u "java/util/Arrays$ArrayList"), (68, u "$assertionsDisabled"), (269, u "MIN_ARRAY_SORT_GRAN"), (0, u "I"), (2, u "INSERTIONSORT_THRESHOLD"), (255, .class_ 976), (0, u "java/util/Arrays$ArrayItr")] 52

def k15m0 : Method := { name := "<init>", desc := "()V", sig := { parameters := [], returnType := none }, accessFlags := 2, code := none }
def k15c1 : Code := { maxStack := 4, maxLocals := 2, code := jdk_65_method_131_code, exceptionTable := #[], attributes := #[] }
def k15m1 : Method := { name := "checkLength", desc := "(II)V", sig := { parameters := [.int, .int], returnType := none }, accessFlags := 10, code := some k15c1 }
def k15c2 : Code := { maxStack := 3, maxLocals := 3, code := jdk_65_method_132_code, exceptionTable := #[], attributes := #[] }
def k15m2 : Method := { name := "copyOfRange", desc := "([BII)[B", sig := { parameters := [(.array .byte), .int, .int], returnType := some (.array .byte) }, accessFlags := 9, code := some k15c2 }
def k15c3 : Code := { maxStack := 6, maxLocals := 5, code := jdk_65_method_133_code, exceptionTable := #[], attributes := #[] }
def k15m3 : Method := { name := "copyOfRangeByte", desc := "([BII)[B", sig := { parameters := [(.array .byte), .int, .int], returnType := some (.array .byte) }, accessFlags := 10, code := some k15c3 }
/-- java/util/Arrays -/
def k15 : Class := { plain "java/util/Arrays" (some 0) with
  accessFlags := 49
  interfaces := #[]
  cf := some (fileOf pool15 14 #[.nestMembers #[975, 375, 113, 74]] #[{ accessFlags := 2, nameIndex := 5, descriptorIndex := 6, attributes := #[] }, { accessFlags := 10, nameIndex := 345, descriptorIndex := 346, attributes := #[] }, { accessFlags := 9, nameIndex := 139, descriptorIndex := 342, attributes := #[] }, { accessFlags := 10, nameIndex := 341, descriptorIndex := 342, attributes := #[] }] 49 2 #[] #[{ accessFlags := 26, nameIndex := 715, descriptorIndex := 716, attributes := #[] }, { accessFlags := 26, nameIndex := 719, descriptorIndex := 716, attributes := #[] }, { accessFlags := 4120, nameIndex := 445, descriptorIndex := 117, attributes := #[] }])
  fields := #[{ name := "MIN_ARRAY_SORT_GRAN", type := .int, accessFlags := 26, slot := 0, constantValue := 0 }, { name := "INSERTIONSORT_THRESHOLD", type := .int, accessFlags := 26, slot := 1, constantValue := 0 }, { name := "$assertionsDisabled", type := .boolean, accessFlags := 4120, slot := 2, constantValue := 0 }]
  methods := #[k15m0, k15m1, k15m2, k15m3]
  instanceTypes := #[]
  staticTypes := #[.int, .int, .boolean]
  resolved := Array.replicate 1029 none
  statics := none }

def pool16 : Array CpInfo := pool [(1, .class_ 2), (0, u "java/lang/Math"), (1, .class_ 6), (1, u "java/lang/Object"), (0, u "<init>"), (0, u "()V"), (89, .class_ 100), (1, u "java/lang/Math$RandomNumberGeneratorHolder"), (71, u "negativeZeroFloatBits"), (0, u "J"), (2, u "negativeZeroDoubleBits"), (24, u "min"), (43, u "$assertionsDisabled"), (0, u "Z"), (88, u "(II)I"), (2, u "twoToTheDoubleScaleDown"), (0, u "D"), (4, u "twoToTheDoubleScaleUp"), (9, u "E"), (3, u "PI"), (2, u "TAU"), (2, u "DEGREES_TO_RADIANS"), (0, u "RADIANS_TO_DEGREES")] 94

def k16m0 : Method := { name := "<init>", desc := "()V", sig := { parameters := [], returnType := none }, accessFlags := 2, code := none }
def k16c1 : Code := { maxStack := 2, maxLocals := 2, code := jdk_29_method_69_code, exceptionTable := #[], attributes := #[] }
def k16m1 : Method := { name := "min", desc := "(II)I", sig := { parameters := [.int, .int], returnType := some .int }, accessFlags := 9, code := some k16c1 }
/-- java/lang/Math -/
def k16 : Class := { plain "java/lang/Math" (some 0) with
  accessFlags := 49
  interfaces := #[]
  cf := some (fileOf pool16 1 #[.nestMembers #[98]] #[{ accessFlags := 2, nameIndex := 7, descriptorIndex := 8, attributes := #[] }, { accessFlags := 9, nameIndex := 201, descriptorIndex := 335, attributes := #[] }] 49 4 #[] #[{ accessFlags := 25, nameIndex := 354, descriptorIndex := 339, attributes := #[] }, { accessFlags := 25, nameIndex := 358, descriptorIndex := 339, attributes := #[] }, { accessFlags := 25, nameIndex := 361, descriptorIndex := 339, attributes := #[] }, { accessFlags := 26, nameIndex := 364, descriptorIndex := 339, attributes := #[] }, { accessFlags := 26, nameIndex := 365, descriptorIndex := 339, attributes := #[] }, { accessFlags := 26, nameIndex := 172, descriptorIndex := 173, attributes := #[] }, { accessFlags := 26, nameIndex := 176, descriptorIndex := 173, attributes := #[] }, { accessFlags := 8, nameIndex := 344, descriptorIndex := 339, attributes := #[] }, { accessFlags := 8, nameIndex := 338, descriptorIndex := 339, attributes := #[] }, { accessFlags := 4120, nameIndex := 245, descriptorIndex := 246, attributes := #[] }])
  fields := #[{ name := "E", type := .double, accessFlags := 25, slot := 0, constantValue := 0 }, { name := "PI", type := .double, accessFlags := 25, slot := 1, constantValue := 0 }, { name := "TAU", type := .double, accessFlags := 25, slot := 2, constantValue := 0 }, { name := "DEGREES_TO_RADIANS", type := .double, accessFlags := 26, slot := 3, constantValue := 0 }, { name := "RADIANS_TO_DEGREES", type := .double, accessFlags := 26, slot := 4, constantValue := 0 }, { name := "negativeZeroFloatBits", type := .long, accessFlags := 26, slot := 5, constantValue := 0 }, { name := "negativeZeroDoubleBits", type := .long, accessFlags := 26, slot := 6, constantValue := 0 }, { name := "twoToTheDoubleScaleUp", type := .double, accessFlags := 8, slot := 7, constantValue := 0 }, { name := "twoToTheDoubleScaleDown", type := .double, accessFlags := 8, slot := 8, constantValue := 0 }, { name := "$assertionsDisabled", type := .boolean, accessFlags := 4120, slot := 9, constantValue := 0 }]
  methods := #[k16m0, k16m1]
  instanceTypes := #[]
  staticTypes := #[.double, .double, .double, .double, .double, .long, .long, .double, .double, .boolean]
  resolved := Array.replicate 460 none
  statics := none }

def pool17 : Array CpInfo := pool [(1, .class_ 2), (0, u "java/lang/String"), (1, .class_ 6), (1, u "java/lang/Object"), (0, u "<init>"), (0, u "()V"), (0, .methodref 1 10), (0, .nameAndType 11 12), (0, u "checkIndex"), (0, u "(II)V"), (1, .class_ 16), (1, u "java/lang/StringLatin1"), (36, u "([BI)C"), (67, u "$assertionsDisabled"), (0, u "Z"), (98, .class_ 223), (1, u "java/lang/StringLatin1$LinesSpliterator"), (28, u "charAt"), (137, .class_ 391), (0, u "java/lang/StringLatin1$CharsSpliterator")] 3

def k17m0 : Method := { name := "<init>", desc := "()V", sig := { parameters := [], returnType := none }, accessFlags := 0, code := none }
def k17c1 : Code := { maxStack := 2, maxLocals := 2, code := jdk_43_method_2_code, exceptionTable := #[], attributes := #[] }
def k17m1 : Method := { name := "charAt", desc := "([BI)C", sig := { parameters := [(.array .byte), .int], returnType := some .char }, accessFlags := 9, code := some k17c1 }
/-- java/lang/StringLatin1 -/
def k17 : Class := { plain "java/lang/StringLatin1" (some 0) with
  accessFlags := 48
  interfaces := #[]
  cf := some (fileOf pool17 14 #[.nestMembers #[390, 221]] #[{ accessFlags := 0, nameIndex := 7, descriptorIndex := 8, attributes := #[] }, { accessFlags := 9, nameIndex := 252, descriptorIndex := 53, attributes := #[] }] 48 4 #[] #[{ accessFlags := 4120, nameIndex := 121, descriptorIndex := 122, attributes := #[] }])
  fields := #[{ name := "$assertionsDisabled", type := .boolean, accessFlags := 4120, slot := 0, constantValue := 0 }]
  methods := #[k17m0, k17m1]
  instanceTypes := #[]
  staticTypes := #[.boolean]
  resolved := Array.replicate 395 none
  statics := none }

def pool18 : Array CpInfo := pool [(2, .class_ 4), (1, u "java/lang/Object"), (0, u "<init>"), (0, u "()V"), (17, .class_ 26), (1, u "jdk/internal/util/Preconditions"), (6, u "checkIndex"), (21, .class_ 56), (0, u "jdk/internal/util/Preconditions$4"), (57, .class_ 115), (0, u "jdk/internal/util/Preconditions$1"), (7, u "SIOOBE_FORMATTER"), (0, u "Ljava/util/function/BiFunction;"), (0, .class_ 126), (0, u "jdk/internal/util/Preconditions$2"), (3, u "AIOOBE_FORMATTER"), (0, .class_ 132), (0, u "jdk/internal/util/Preconditions$3"), (3, u "IOOBE_FORMATTER"), (41, u "(IILjava/util/function/BiFunction;)I")] 15

def k18m0 : Method := { name := "<init>", desc := "()V", sig := { parameters := [], returnType := none }, accessFlags := 1, code := none }
def k18c1 : Code := { maxStack := 3, maxLocals := 3, code := jdk_41_method_11_code, exceptionTable := #[], attributes := #[] }
def k18m1 : Method := { name := "checkIndex", desc := "(IILjava/util/function/BiFunction;)I", sig := { parameters := [.int, .int, (.object "java/util/function/BiFunction")], returnType := some .int }, accessFlags := 9, code := some k18c1 }
/-- jdk/internal/util/Preconditions -/
def k18 : Class := { plain "jdk/internal/util/Preconditions" (some 0) with
  accessFlags := 33
  interfaces := #[]
  cf := some (fileOf pool18 24 #[.nestMembers #[55, 131, 125, 114]] #[{ accessFlags := 1, nameIndex := 5, descriptorIndex := 6, attributes := #[] }, { accessFlags := 9, nameIndex := 33, descriptorIndex := 178, attributes := #[] }] 33 2 #[] #[{ accessFlags := 25, nameIndex := 123, descriptorIndex := 124, attributes := #[] }, { accessFlags := 25, nameIndex := 130, descriptorIndex := 124, attributes := #[] }, { accessFlags := 25, nameIndex := 136, descriptorIndex := 124, attributes := #[] }])
  fields := #[{ name := "SIOOBE_FORMATTER", type := (.object "java/util/function/BiFunction"), accessFlags := 25, slot := 0, constantValue := 0 }, { name := "AIOOBE_FORMATTER", type := (.object "java/util/function/BiFunction"), accessFlags := 25, slot := 1, constantValue := 0 }, { name := "IOOBE_FORMATTER", type := (.object "java/util/function/BiFunction"), accessFlags := 25, slot := 2, constantValue := 0 }]
  methods := #[k18m0, k18m1]
  instanceTypes := #[]
  staticTypes := #[(.object "java/util/function/BiFunction"), (.object "java/util/function/BiFunction"), (.object "java/util/function/BiFunction")]
  resolved := Array.replicate 194 none
  statics := some 2 }

def pool19 : Array CpInfo := pool [(6, .class_ 8), (1, u "java/lang/Object"), (0, u "<init>"), (0, u "()V"), (1, .class_ 14), (1, u "java/lang/StringUTF16"), (31, u "$assertionsDisabled"), (0, u "Z"), (13, u "HI_BYTE_SHIFT"), (0, u "I"), (2, u "LO_BYTE_SHIFT"), (49, .methodref 12 116), (0, .nameAndType 117 118), (0, u "compress"), (0, u "([CI[BII)I"), (3, u "([CII)[B"), (138, u "coderFromArrayLen"), (0, u "([BI)B"), (106, .class_ 371), (1, u "java/lang/StringUTF16$LinesSpliterator"), (58, u "MAX_LENGTH"), (196, .class_ 628), (0, u "java/lang/StringUTF16$CodePointsSpliterator"), (0, .class_ 630), (0, u "java/lang/StringUTF16$CharsSpliterator")] 4

def k19m0 : Method := { name := "<init>", desc := "()V", sig := { parameters := [], returnType := none }, accessFlags := 0, code := none }
def k19c1 : Code := { maxStack := 2, maxLocals := 2, code := jdk_52_method_15_code, exceptionTable := #[], attributes := #[] }
def k19m1 : Method := { name := "coderFromArrayLen", desc := "([BI)B", sig := { parameters := [(.array .byte), .int], returnType := some .byte }, accessFlags := 8, code := some k19c1 }
def k19c2 : Code := { maxStack := 5, maxLocals := 6, code := jdk_52_method_16_code, exceptionTable := #[], attributes := #[] }
def k19m2 : Method := { name := "compress", desc := "([CII)[B", sig := { parameters := [(.array .char), .int, .int], returnType := some (.array .byte) }, accessFlags := 9, code := some k19c2 }
def k19c3 : Code := { maxStack := 3, maxLocals := 7, code := jdk_52_method_21_code, exceptionTable := #[], attributes := #[] }
def k19m3 : Method := { name := "compress", desc := "([CI[BII)I", sig := { parameters := [(.array .char), .int, (.array .byte), .int, .int], returnType := some .int }, accessFlags := 9, code := some k19c3 }
/-- java/lang/StringUTF16 -/
def k19 : Class := { plain "java/lang/StringUTF16" (some 0) with
  accessFlags := 48
  interfaces := #[]
  cf := some (fileOf pool19 12 #[.nestMembers #[627, 629, 369]] #[{ accessFlags := 0, nameIndex := 9, descriptorIndex := 10, attributes := #[] }, { accessFlags := 8, nameIndex := 261, descriptorIndex := 262, attributes := #[] }, { accessFlags := 9, nameIndex := 117, descriptorIndex := 122, attributes := #[] }, { accessFlags := 9, nameIndex := 117, descriptorIndex := 118, attributes := #[] }] 48 6 #[] #[{ accessFlags := 26, nameIndex := 61, descriptorIndex := 62, attributes := #[] }, { accessFlags := 26, nameIndex := 65, descriptorIndex := 62, attributes := #[] }, { accessFlags := 24, nameIndex := 430, descriptorIndex := 62, attributes := #[] }, { accessFlags := 4120, nameIndex := 46, descriptorIndex := 47, attributes := #[] }])
  fields := #[{ name := "HI_BYTE_SHIFT", type := .int, accessFlags := 26, slot := 0, constantValue := 0 }, { name := "LO_BYTE_SHIFT", type := .int, accessFlags := 26, slot := 1, constantValue := 0 }, { name := "MAX_LENGTH", type := .int, accessFlags := 24, slot := 2, constantValue := 0 }, { name := "$assertionsDisabled", type := .boolean, accessFlags := 4120, slot := 3, constantValue := 0 }]
  methods := #[k19m0, k19m1, k19m2, k19m3]
  instanceTypes := #[]
  staticTypes := #[.int, .int, .int, .boolean]
  resolved := Array.replicate 635 none
  statics := none }

def pool20 : Array CpInfo := pool [(2, .class_ 4), (1, u "java/lang/Object"), (0, u "<init>"), (0, u "()V"), (12, .class_ 20), (0, u "java/util/Collections"), (63, u "r"), (0, u "Ljava/util/Random;"), (80, .class_ 167), (0, u "java/util/Collections$UnmodifiableCollection"), (6, .class_ 175), (0, u "java/util/Collections$UnmodifiableSequencedCollection"), (6, .class_ 183), (0, u "java/util/Collections$UnmodifiableSet"), (6, .class_ 191), (0, u "java/util/Collections$UnmodifiableSequencedSet"), (6, .class_ 199), (0, u "java/util/Collections$UnmodifiableSortedSet"), (6, .class_ 207), (0, u "java/util/Collections$UnmodifiableNavigableSet"), (4, .class_ 213), (0, u "java/util/Collections$UnmodifiableList"), (1, .class_ 216), (0, u "java/util/Collections$UnmodifiableRandomAccessList"), (6, .class_ 224), (0, u "java/util/Collections$UnmodifiableMap"), (6, .class_ 232), (0, u "java/util/Collections$UnmodifiableSequencedMap"), (4, .class_ 238), (0, u "java/util/Collections$UnmodifiableSortedMap"), (6, .class_ 246), (0, u "java/util/Collections$UnmodifiableNavigableMap"), (3, .class_ 251), (0, u "java/util/Collections$SynchronizedCollection"), (4, .class_ 257), (0, u "java/util/Collections$SynchronizedSet"), (4, .class_ 263), (0, u "java/util/Collections$SynchronizedSortedSet"), (1, .class_ 266), (0, u "java/util/Collections$SynchronizedNavigableSet"), (1, .class_ 269), (0, u "java/util/Collections$SynchronizedRandomAccessList"), (1, .class_ 272), (0, u "java/util/Collections$SynchronizedList"), (5, .class_ 279), (0, u "java/util/Collections$SynchronizedMap"), (1, .class_ 282), (0, u "java/util/Collections$SynchronizedSortedMap"), (1, .class_ 285), (0, u "java/util/Collections$SynchronizedNavigableMap"), (1, .class_ 288), (0, u "java/util/Collections$CheckedCollection"), (11, .class_ 301), (0, u "java/util/Collections$CheckedQueue"), (3, .class_ 306), (0, u "java/util/Collections$CheckedSet"), (3, .class_ 311), (0, u "java/util/Collections$CheckedSortedSet"), (3, .class_ 316), (0, u "java/util/Collections$CheckedNavigableSet"), (3, .class_ 321), (0, u "java/util/Collections$CheckedRandomAccessList"), (3, .class_ 326), (0, u "java/util/Collections$CheckedList"), (1, .class_ 329), (0, u "java/util/Collections$CheckedMap"), (3, .class_ 334), (0, u "java/util/Collections$CheckedSortedMap"), (3, .class_ 339), (0, u "java/util/Collections$CheckedNavigableMap"), (4, .class_ 346), (1, u "java/util/Collections$EmptyIterator"), (3, .class_ 352), (1, u "java/util/Collections$EmptyListIterator"), (2, .class_ 357), (1, u "java/util/Collections$EmptyEnumeration"), (4, u "EMPTY_SET"), (0, u "Ljava/util/Set;"), (6, u "EMPTY_LIST"), (0, u "Ljava/util/List;"), (2, u "EMPTY_MAP"), (0, u "Ljava/util/Map;"), (4, .class_ 381), (0, u "java/util/Collections$SingletonSet"), (2, .class_ 385), (0, u "java/util/Collections$1"), (1, .class_ 388), (0, u "java/util/Collections$2"), (1, .class_ 391), (0, u "java/util/Collections$SingletonList"), (1, .class_ 394), (0, u "java/util/Collections$SingletonMap"), (22, .class_ 418), (0, u "java/util/Collections$CopiesList"), (4, .class_ 425), (1, u "java/util/Collections$ReverseComparator"), (8, .class_ 435), (0, u "java/util/Collections$ReverseComparator2"), (6, .class_ 443), (0, u "java/util/Collections$3"), (25, .class_ 470), (0, u "java/util/Collections$SetFromMap"), (2, .class_ 474), (0, u "java/util/Collections$SequencedSetFromMap"), (3, .class_ 479), (0, u "java/util/Collections$AsLIFOQueue"), (11, .class_ 492), (0, u "java/util/Collections$EmptySet"), (1, .class_ 495), (0, u "java/util/Collections$EmptyList"), (1, .class_ 498), (0, u "java/util/Collections$EmptyMap"), (1, u "BINARYSEARCH_THRESHOLD"), (0, u "I"), (2, u "REVERSE_THRESHOLD"), (1, u "SHUFFLE_THRESHOLD"), (1, u "FILL_THRESHOLD"), (1, u "ROTATE_THRESHOLD"), (1, u "COPY_THRESHOLD"), (1, u "REPLACEALL_THRESHOLD"), (1, u "INDEXOFSUBLIST_THRESHOLD"), (333, .class_ 851), (0, u "java/util/Collections$CheckedMap$CheckedEntrySet"), (0, .class_ 853), (0, u "java/util/Collections$CheckedMap$CheckedEntrySet$CheckedEntry"), (0, .class_ 855), (0, u "java/util/Collections$CheckedMap$CheckedEntrySet$1"), (0, .class_ 857), (0, u "java/util/Collections$CheckedList$1"), (0, .class_ 859), (0, u "java/util/Collections$CheckedCollection$1"), (0, .class_ 861), (0, u "java/util/Collections$UnmodifiableNavigableMap$EmptyNavigableMap"), (0, .class_ 863), (0, u "java/util/Collections$UnmodifiableMap$UnmodifiableEntrySet"), (0, .class_ 865), (0, u "java/util/Collections$UnmodifiableMap$UnmodifiableEntrySet$UnmodifiableEntry"), (0, .class_ 867), (0, u "java/util/Collections$UnmodifiableMap$UnmodifiableEntrySet$UnmodifiableEntrySetSpliterator"), (0, .class_ 869), (0, u "java/util/Collections$UnmodifiableMap$UnmodifiableEntrySet$1"), (0, .class_ 871), (0, u "java/util/Collections$UnmodifiableList$1"), (0, .class_ 873), (0, u "java/util/Collections$UnmodifiableNavigableSet$EmptyNavigableSet"), (0, .class_ 875), (0, u "java/util/Collections$UnmodifiableCollection$1")] 57

def k20m0 : Method := { name := "<init>", desc := "()V", sig := { parameters := [], returnType := none }, accessFlags := 2, code := none }
/-- java/util/Collections -/
def k20 : Class := { plain "java/util/Collections" (some 0) with
  accessFlags := 33
  interfaces := #[]
  cf := some (fileOf pool20 19 #[.nestMembers #[478, 473, 469, 434, 423, 417, 393, 390, 380, 497, 494, 491, 355, 350, 344, 338, 333, 328, 850, 852, 854, 320, 325, 856, 315, 310, 305, 300, 287, 858, 284, 281, 278, 268, 271, 265, 262, 256, 250, 245, 860, 237, 231, 223, 862, 864, 866, 868, 215, 212, 870, 206, 872, 198, 190, 182, 174, 166, 874, 442, 387, 384]] #[{ accessFlags := 2, nameIndex := 5, descriptorIndex := 6, attributes := #[] }] 33 2 #[] #[{ accessFlags := 26, nameIndex := 500, descriptorIndex := 501, attributes := #[] }, { accessFlags := 26, nameIndex := 504, descriptorIndex := 501, attributes := #[] }, { accessFlags := 26, nameIndex := 506, descriptorIndex := 501, attributes := #[] }, { accessFlags := 26, nameIndex := 508, descriptorIndex := 501, attributes := #[] }, { accessFlags := 26, nameIndex := 510, descriptorIndex := 501, attributes := #[] }, { accessFlags := 26, nameIndex := 512, descriptorIndex := 501, attributes := #[] }, { accessFlags := 26, nameIndex := 514, descriptorIndex := 501, attributes := #[] }, { accessFlags := 26, nameIndex := 516, descriptorIndex := 501, attributes := #[] }, { accessFlags := 10, nameIndex := 84, descriptorIndex := 85, attributes := #[] }, { accessFlags := 25, nameIndex := 362, descriptorIndex := 363, attributes := #[] }, { accessFlags := 25, nameIndex := 370, descriptorIndex := 371, attributes := #[] }, { accessFlags := 25, nameIndex := 374, descriptorIndex := 375, attributes := #[] }])
  fields := #[{ name := "BINARYSEARCH_THRESHOLD", type := .int, accessFlags := 26, slot := 0, constantValue := 0 }, { name := "REVERSE_THRESHOLD", type := .int, accessFlags := 26, slot := 1, constantValue := 0 }, { name := "SHUFFLE_THRESHOLD", type := .int, accessFlags := 26, slot := 2, constantValue := 0 }, { name := "FILL_THRESHOLD", type := .int, accessFlags := 26, slot := 3, constantValue := 0 }, { name := "ROTATE_THRESHOLD", type := .int, accessFlags := 26, slot := 4, constantValue := 0 }, { name := "COPY_THRESHOLD", type := .int, accessFlags := 26, slot := 5, constantValue := 0 }, { name := "REPLACEALL_THRESHOLD", type := .int, accessFlags := 26, slot := 6, constantValue := 0 }, { name := "INDEXOFSUBLIST_THRESHOLD", type := .int, accessFlags := 26, slot := 7, constantValue := 0 }, { name := "r", type := (.object "java/util/Random"), accessFlags := 10, slot := 8, constantValue := 0 }, { name := "EMPTY_SET", type := (.object "java/util/Set"), accessFlags := 25, slot := 9, constantValue := 0 }, { name := "EMPTY_LIST", type := (.object "java/util/List"), accessFlags := 25, slot := 10, constantValue := 0 }, { name := "EMPTY_MAP", type := (.object "java/util/Map"), accessFlags := 25, slot := 11, constantValue := 0 }]
  methods := #[k20m0]
  instanceTypes := #[]
  staticTypes := #[.int, .int, .int, .int, .int, .int, .int, .int, (.object "java/util/Random"), (.object "java/util/Set"), (.object "java/util/List"), (.object "java/util/Map")]
  resolved := Array.replicate 933 none
  statics := some 3 }

def pool21 : Array CpInfo := pool [(9, u "<init>"), (6, .class_ 18), (1, u "java/lang/Object"), (0, u "()V"), (1, .class_ 23), (1, u "jdk/internal/util/ArraysSupport"), (0, u "LOG2_ARRAY_LONG_INDEX_SCALE"), (0, u "I"), (2, u "U"), (0, u "Ljdk/internal/misc/Unsafe;"), (8, u "BIG_ENDIAN"), (0, u "Z"), (8, u "LOG2_BYTE_BIT_SIZE"), (4, u "LOG2_ARRAY_INT_INDEX_SCALE"), (54, u "JLA"), (0, u "Ljdk/internal/access/JavaLangAccess;"), (11, u "LOG2_ARRAY_BOOLEAN_INDEX_SCALE"), (9, u "LOG2_ARRAY_BYTE_INDEX_SCALE"), (5, u "LOG2_ARRAY_CHAR_INDEX_SCALE"), (5, u "LOG2_ARRAY_SHORT_INDEX_SCALE"), (18, u "LOG2_ARRAY_FLOAT_INDEX_SCALE"), (24, u "LOG2_ARRAY_DOUBLE_INDEX_SCALE"), (89, u "T_BOOLEAN"), (2, u "T_CHAR"), (1, u "T_FLOAT"), (1, u "T_DOUBLE"), (1, u "T_BYTE"), (1, u "T_SHORT"), (1, u "T_INT"), (1, u "T_LONG"), (1, u "SOFT_MAX_ARRAY_LENGTH")] 83

def k21m0 : Method := { name := "<init>", desc := "()V", sig := { parameters := [], returnType := none }, accessFlags := 2, code := none }
/-- jdk/internal/util/ArraysSupport -/
def k21 : Class := { plain "jdk/internal/util/ArraysSupport" (some 0) with
  accessFlags := 33
  interfaces := #[]
  cf := some (fileOf pool21 21 #[] #[{ accessFlags := 2, nameIndex := 9, descriptorIndex := 19, attributes := #[] }] 33 16 #[] #[{ accessFlags := 24, nameIndex := 28, descriptorIndex := 29, attributes := #[] }, { accessFlags := 26, nameIndex := 38, descriptorIndex := 39, attributes := #[] }, { accessFlags := 25, nameIndex := 121, descriptorIndex := 25, attributes := #[] }, { accessFlags := 25, nameIndex := 131, descriptorIndex := 25, attributes := #[] }, { accessFlags := 25, nameIndex := 137, descriptorIndex := 25, attributes := #[] }, { accessFlags := 25, nameIndex := 143, descriptorIndex := 25, attributes := #[] }, { accessFlags := 25, nameIndex := 53, descriptorIndex := 25, attributes := #[] }, { accessFlags := 25, nameIndex := 24, descriptorIndex := 25, attributes := #[] }, { accessFlags := 25, nameIndex := 162, descriptorIndex := 25, attributes := #[] }, { accessFlags := 25, nameIndex := 187, descriptorIndex := 25, attributes := #[] }, { accessFlags := 26, nameIndex := 48, descriptorIndex := 25, attributes := #[] }, { accessFlags := 25, nameIndex := 277, descriptorIndex := 25, attributes := #[] }, { accessFlags := 25, nameIndex := 280, descriptorIndex := 25, attributes := #[] }, { accessFlags := 25, nameIndex := 282, descriptorIndex := 25, attributes := #[] }, { accessFlags := 25, nameIndex := 284, descriptorIndex := 25, attributes := #[] }, { accessFlags := 25, nameIndex := 286, descriptorIndex := 25, attributes := #[] }, { accessFlags := 25, nameIndex := 288, descriptorIndex := 25, attributes := #[] }, { accessFlags := 25, nameIndex := 290, descriptorIndex := 25, attributes := #[] }, { accessFlags := 25, nameIndex := 292, descriptorIndex := 25, attributes := #[] }, { accessFlags := 26, nameIndex := 108, descriptorIndex := 109, attributes := #[] }, { accessFlags := 25, nameIndex := 294, descriptorIndex := 25, attributes := #[] }])
  fields := #[{ name := "U", type := (.object "jdk/internal/misc/Unsafe"), accessFlags := 24, slot := 0, constantValue := 0 }, { name := "BIG_ENDIAN", type := .boolean, accessFlags := 26, slot := 1, constantValue := 0 }, { name := "LOG2_ARRAY_BOOLEAN_INDEX_SCALE", type := .int, accessFlags := 25, slot := 2, constantValue := 0 }, { name := "LOG2_ARRAY_BYTE_INDEX_SCALE", type := .int, accessFlags := 25, slot := 3, constantValue := 0 }, { name := "LOG2_ARRAY_CHAR_INDEX_SCALE", type := .int, accessFlags := 25, slot := 4, constantValue := 0 }, { name := "LOG2_ARRAY_SHORT_INDEX_SCALE", type := .int, accessFlags := 25, slot := 5, constantValue := 0 }, { name := "LOG2_ARRAY_INT_INDEX_SCALE", type := .int, accessFlags := 25, slot := 6, constantValue := 0 }, { name := "LOG2_ARRAY_LONG_INDEX_SCALE", type := .int, accessFlags := 25, slot := 7, constantValue := 0 }, { name := "LOG2_ARRAY_FLOAT_INDEX_SCALE", type := .int, accessFlags := 25, slot := 8, constantValue := 0 }, { name := "LOG2_ARRAY_DOUBLE_INDEX_SCALE", type := .int, accessFlags := 25, slot := 9, constantValue := 0 }, { name := "LOG2_BYTE_BIT_SIZE", type := .int, accessFlags := 26, slot := 10, constantValue := 0 }, { name := "T_BOOLEAN", type := .int, accessFlags := 25, slot := 11, constantValue := 0 }, { name := "T_CHAR", type := .int, accessFlags := 25, slot := 12, constantValue := 0 }, { name := "T_FLOAT", type := .int, accessFlags := 25, slot := 13, constantValue := 0 }, { name := "T_DOUBLE", type := .int, accessFlags := 25, slot := 14, constantValue := 0 }, { name := "T_BYTE", type := .int, accessFlags := 25, slot := 15, constantValue := 0 }, { name := "T_SHORT", type := .int, accessFlags := 25, slot := 16, constantValue := 0 }, { name := "T_INT", type := .int, accessFlags := 25, slot := 17, constantValue := 0 }, { name := "T_LONG", type := .int, accessFlags := 25, slot := 18, constantValue := 0 }, { name := "JLA", type := (.object "jdk/internal/access/JavaLangAccess"), accessFlags := 26, slot := 19, constantValue := 0 }, { name := "SOFT_MAX_ARRAY_LENGTH", type := .int, accessFlags := 25, slot := 20, constantValue := 0 }]
  methods := #[k21m0]
  instanceTypes := #[]
  staticTypes := #[(.object "jdk/internal/misc/Unsafe"), .boolean, .int, .int, .int, .int, .int, .int, .int, .int, .int, .int, .int, .int, .int, .int, .int, .int, .int, (.object "jdk/internal/access/JavaLangAccess"), .int]
  resolved := Array.replicate 378 none
  statics := none }

def pool22 : Array CpInfo := pool [(8, .class_ 10), (1, u "java/lang/Iterable"), (24, .class_ 36), (0, u "java/lang/Object")] 25

/-- java/lang/Iterable -/
def k22 : Class := { plain "java/lang/Iterable" (some 0) with
  accessFlags := 1537
  interfaces := #[]
  cf := some (fileOf pool22 8 #[] #[] 1537 35 #[] #[])
  fields := #[]
  methods := #[]
  instanceTypes := #[]
  staticTypes := #[]
  resolved := Array.replicate 62 none
  statics := none }

def pool23 : Array CpInfo := pool [(10, .class_ 12), (1, u "java/util/Collection"), (47, .class_ 61), (0, u "java/lang/Object"), (0, .class_ 63), (0, u "java/lang/Iterable")] 51

/-- java/util/Collection -/
def k23 : Class := { plain "java/util/Collection" (some 0) with
  accessFlags := 1537
  interfaces := #[22]
  cf := some (fileOf pool23 10 #[] #[] 1537 60 #[62] #[])
  fields := #[]
  methods := #[]
  instanceTypes := #[]
  staticTypes := #[]
  resolved := Array.replicate 115 none
  statics := none }

def pool24 : Array CpInfo := pool [(2, .class_ 4), (1, u "java/lang/Object"), (0, u "<init>"), (0, u "()V"), (1, .class_ 10), (1, u "java/util/AbstractCollection"), (66, .class_ 78), (0, u "java/util/Collection")] 81

def k24m0 : Method := { name := "<init>", desc := "()V", sig := { parameters := [], returnType := none }, accessFlags := 4, code := none }
/-- java/util/AbstractCollection -/
def k24 : Class := { plain "java/util/AbstractCollection" (some 0) with
  accessFlags := 1057
  interfaces := #[23]
  cf := some (fileOf pool24 8 #[] #[{ accessFlags := 4, nameIndex := 5, descriptorIndex := 6, attributes := #[] }] 1057 2 #[77] #[])
  fields := #[]
  methods := #[k24m0]
  instanceTypes := #[]
  staticTypes := #[]
  resolved := Array.replicate 160 none
  statics := none }

def pool25 : Array CpInfo := pool [(8, .class_ 10), (1, u "java/util/SequencedCollection"), (15, .class_ 27), (0, u "java/lang/Object"), (0, .class_ 29), (0, u "java/util/Collection")] 27

/-- java/util/SequencedCollection -/
def k25 : Class := { plain "java/util/SequencedCollection" (some 0) with
  accessFlags := 1537
  interfaces := #[23]
  cf := some (fileOf pool25 8 #[] #[] 1537 26 #[28] #[])
  fields := #[]
  methods := #[]
  instanceTypes := #[]
  staticTypes := #[]
  resolved := Array.replicate 57 none
  statics := none }

def pool26 : Array CpInfo := pool [(8, .class_ 10), (1, u "java/util/List"), (92, .class_ 104), (0, u "java/lang/Object"), (15, .class_ 121), (0, u "java/util/SequencedCollection")] 129

/-- java/util/List -/
def k26 : Class := { plain "java/util/List" (some 0) with
  accessFlags := 1537
  interfaces := #[25]
  cf := some (fileOf pool26 8 #[] #[] 1537 103 #[120] #[])
  fields := #[]
  methods := #[]
  instanceTypes := #[]
  staticTypes := #[]
  resolved := Array.replicate 251 none
  statics := none }

def pool27 : Array CpInfo := pool [(2, .class_ 4), (1, u "java/util/AbstractCollection"), (0, u "<init>"), (0, u "()V"), (1, .class_ 10), (1, u "java/util/AbstractList"), (0, u "modCount"), (0, u "I"), (64, .class_ 78), (0, u "java/util/AbstractList$Itr"), (3, .class_ 83), (0, u "java/util/AbstractList$ListItr"), (9, .class_ 94), (0, u "java/util/AbstractList$RandomAccessSubList"), (3, .class_ 99), (0, u "java/util/AbstractList$SubList"), (33, .class_ 134), (0, u "java/util/List"), (73, .class_ 209), (0, u "java/util/AbstractList$SubList$1"), (0, .class_ 211), (0, u "java/util/AbstractList$RandomAccessSpliterator")] 6

def k27m0 : Method := { name := "<init>", desc := "()V", sig := { parameters := [], returnType := none }, accessFlags := 4, code := none }
/-- java/util/AbstractList -/
def k27 : Class := { plain "java/util/AbstractList" (some 24) with
  accessFlags := 1057
  interfaces := #[26]
  cf := some (fileOf pool27 8 #[.nestMembers #[93, 98, 208, 210, 82, 77]] #[{ accessFlags := 4, nameIndex := 5, descriptorIndex := 6, attributes := #[] }] 1057 2 #[133] #[{ accessFlags := 132, nameIndex := 11, descriptorIndex := 12, attributes := #[] }])
  fields := #[{ name := "modCount", type := .int, accessFlags := 132, slot := 0, constantValue := 0 }]
  methods := #[k27m0]
  instanceTypes := #[.int]
  staticTypes := #[]
  resolved := Array.replicate 218 none
  statics := none }

def pool28 : Array CpInfo := pool [(1, .class_ 2), (0, u "java/util/RandomAccess"), (0, .class_ 4), (0, u "java/lang/Object")] 2

/-- java/util/RandomAccess -/
def k28 : Class := { plain "java/util/RandomAccess" (some 0) with
  accessFlags := 1537
  interfaces := #[]
  cf := some (fileOf pool28 1 #[] #[] 1537 3 #[] #[])
  fields := #[]
  methods := #[]
  instanceTypes := #[]
  staticTypes := #[]
  resolved := Array.replicate 7 none
  statics := none }

def pool29 : Array CpInfo := pool [(2, .class_ 4), (1, u "java/util/AbstractList"), (0, u "<init>"), (0, u "()V"), (1, .class_ 10), (1, u "java/util/Collections"), (54, .class_ 66), (0, u "java/util/Collections$EmptyList"), (0, .class_ 68), (0, u "java/util/RandomAccess"), (0, .class_ 70), (0, u "java/io/Serializable"), (0, u "serialVersionUID"), (0, u "J")] 77

def k29m0 : Method := { name := "<init>", desc := "()V", sig := { parameters := [], returnType := none }, accessFlags := 2, code := none }
/-- java/util/Collections$EmptyList -/
def k29 : Class := { plain "java/util/Collections$EmptyList" (some 27) with
  accessFlags := 32
  interfaces := #[28, 2]
  cf := some (fileOf pool29 65 #[.nestHost 8] #[{ accessFlags := 2, nameIndex := 5, descriptorIndex := 6, attributes := #[] }] 32 2 #[67, 69] #[{ accessFlags := 26, nameIndex := 71, descriptorIndex := 72, attributes := #[] }])
  fields := #[{ name := "serialVersionUID", type := .long, accessFlags := 26, slot := 0, constantValue := 0 }]
  methods := #[k29m0]
  instanceTypes := #[.int]
  staticTypes := #[.long]
  resolved := Array.replicate 150 none
  statics := none }

def pool30 : Array CpInfo := pool [(2, .class_ 4), (1, u "java/lang/StackTraceElement"), (0, u "<init>"), (2, .class_ 10), (1, u "java/lang/Object"), (0, u "()V"), (2, u "format"), (0, u "B"), (2, u "classLoaderName"), (0, u "Ljava/lang/String;"), (2, u "moduleName"), (2, u "moduleVersion"), (12, u "declaringClass"), (4, u "methodName"), (2, u "fileName"), (2, u "lineNumber"), (0, u "I"), (65, u "declaringClassObject"), (0, u "Ljava/lang/Class;"), (33, .class_ 153), (1, u "java/lang/StackTraceElement$HashedModules"), (17, .class_ 172), (0, u "java/io/Serializable"), (0, u "NATIVE_METHOD"), (1, u "UNKNOWN_SOURCE"), (2, u "BUILTIN_CLASS_LOADER"), (1, u "JDK_NON_UPGRADEABLE_MODULE"), (1, u "serialVersionUID"), (0, u "J")] 51

def k30m0 : Method := { name := "<init>", desc := "()V", sig := { parameters := [], returnType := none }, accessFlags := 2, code := none }
/-- java/lang/StackTraceElement -/
def k30 : Class := { plain "java/lang/StackTraceElement" (some 0) with
  accessFlags := 49
  interfaces := #[2]
  cf := some (fileOf pool30 2 #[.nestMembers #[151]] #[{ accessFlags := 2, nameIndex := 5, descriptorIndex := 11, attributes := #[] }] 49 8 #[171] #[{ accessFlags := 26, nameIndex := 173, descriptorIndex := 19, attributes := #[] }, { accessFlags := 26, nameIndex := 175, descriptorIndex := 19, attributes := #[] }, { accessFlags := 130, nameIndex := 116, descriptorIndex := 117, attributes := #[] }, { accessFlags := 2, nameIndex := 18, descriptorIndex := 19, attributes := #[] }, { accessFlags := 2, nameIndex := 22, descriptorIndex := 19, attributes := #[] }, { accessFlags := 2, nameIndex := 25, descriptorIndex := 19, attributes := #[] }, { accessFlags := 2, nameIndex := 38, descriptorIndex := 19, attributes := #[] }, { accessFlags := 2, nameIndex := 43, descriptorIndex := 19, attributes := #[] }, { accessFlags := 2, nameIndex := 46, descriptorIndex := 19, attributes := #[] }, { accessFlags := 2, nameIndex := 49, descriptorIndex := 50, attributes := #[] }, { accessFlags := 2, nameIndex := 14, descriptorIndex := 15, attributes := #[] }, { accessFlags := 26, nameIndex := 178, descriptorIndex := 15, attributes := #[] }, { accessFlags := 26, nameIndex := 180, descriptorIndex := 15, attributes := #[] }, { accessFlags := 26, nameIndex := 182, descriptorIndex := 183, attributes := #[] }])
  fields := #[{ name := "NATIVE_METHOD", type := (.object "java/lang/String"), accessFlags := 26, slot := 0, constantValue := 0 }, { name := "UNKNOWN_SOURCE", type := (.object "java/lang/String"), accessFlags := 26, slot := 1, constantValue := 0 }, { name := "declaringClassObject", type := (.object "java/lang/Class"), accessFlags := 130, slot := 0, constantValue := 0 }, { name := "classLoaderName", type := (.object "java/lang/String"), accessFlags := 2, slot := 1, constantValue := 0 }, { name := "moduleName", type := (.object "java/lang/String"), accessFlags := 2, slot := 2, constantValue := 0 }, { name := "moduleVersion", type := (.object "java/lang/String"), accessFlags := 2, slot := 3, constantValue := 0 }, { name := "declaringClass", type := (.object "java/lang/String"), accessFlags := 2, slot := 4, constantValue := 0 }, { name := "methodName", type := (.object "java/lang/String"), accessFlags := 2, slot := 5, constantValue := 0 }, { name := "fileName", type := (.object "java/lang/String"), accessFlags := 2, slot := 6, constantValue := 0 }, { name := "lineNumber", type := .int, accessFlags := 2, slot := 7, constantValue := 0 }, { name := "format", type := .byte, accessFlags := 2, slot := 8, constantValue := 0 }, { name := "BUILTIN_CLASS_LOADER", type := .byte, accessFlags := 26, slot := 2, constantValue := 0 }, { name := "JDK_NON_UPGRADEABLE_MODULE", type := .byte, accessFlags := 26, slot := 3, constantValue := 0 }, { name := "serialVersionUID", type := .long, accessFlags := 26, slot := 4, constantValue := 0 }]
  methods := #[k30m0]
  instanceTypes := #[(.object "java/lang/Class"), (.object "java/lang/String"), (.object "java/lang/String"), (.object "java/lang/String"), (.object "java/lang/String"), (.object "java/lang/String"), (.object "java/lang/String"), .int, .byte]
  staticTypes := #[(.object "java/lang/String"), (.object "java/lang/String"), .byte, .byte, .long]
  resolved := Array.replicate 235 none
  statics := none }

def pool31 : Array CpInfo := pool [(1, u "java/lang/Cloneable"), (0, .class_ 1), (0, u "java/lang/Object"), (0, .class_ 3)] 3

/-- java/lang/Cloneable -/
def k31 : Class := { plain "java/lang/Cloneable" (some 0) with
  accessFlags := 1537
  interfaces := #[]
  cf := some (fileOf pool31 2 #[] #[] 1537 4 #[] #[])
  fields := #[]
  methods := #[]
  instanceTypes := #[]
  staticTypes := #[]
  resolved := Array.replicate 8 none
  statics := none }

/-- the primitive byte -/
def k32 : Class := { plain "byte" none with kind := .primitive 'B', accessFlags := 0x411 }
/-- [B -/
def k33 : Class := { plain "[B" (some 0) with kind := .array 32 .byte, interfaces := #[31, 2], accessFlags := 1041 }

/-- the primitive char -/
def k34 : Class := { plain "char" none with kind := .primitive 'C', accessFlags := 0x411 }
/-- [C -/
def k35 : Class := { plain "[C" (some 0) with kind := .array 34 .char, interfaces := #[31, 2], accessFlags := 1041 }

/-- the primitive int -/
def k36 : Class := { plain "int" none with kind := .primitive 'I', accessFlags := 0x411 }
/-- [I -/
def k37 : Class := { plain "[I" (some 0) with kind := .array 36 .int, interfaces := #[31, 2], accessFlags := 1041 }

/-- [Ljava/lang/Object; -/
def k38 : Class := { plain "[Ljava/lang/Object;" (some 0) with kind := .array 0 (.object "java/lang/Object"), interfaces := #[31, 2], accessFlags := 1041 }

/-- [Ljava/lang/StackTraceElement; -/
def k39 : Class := { plain "[Ljava/lang/StackTraceElement;" (some 0) with kind := .array 30 (.object "java/lang/StackTraceElement"), interfaces := #[31, 2], accessFlags := 1041 }

/-- [Ljava/lang/Throwable; -/
def k40 : Class := { plain "[Ljava/lang/Throwable;" (some 0) with kind := .array 8 (.object "java/lang/Throwable"), interfaces := #[31, 2], accessFlags := 1041 }

def heap : Heap := #[{ cls := 7, slots := #[.long 0, .int 1, .null, .int 0, .null, .int 0, .int 0], vm := .statics 7 },
  { cls := 8, slots := #[.long 0, .ref 4, .ref 5, .null, .null, .null, .null, .ref 6, .int 1], vm := .statics 8 },
  { cls := 18, slots := #[.null, .null, .null], vm := .statics 18 },
  { cls := 20, slots := #[.int 0, .int 0, .int 0, .int 0, .int 0, .int 0, .int 0, .int 0, .null, .null, .ref 5, .null], vm := .statics 20 },
  { cls := 39, slots := #[], vm := .none },
  { cls := 29, slots := #[.int 0], vm := .none },
  { cls := 40, slots := #[], vm := .none }]
def classes : Array Class := #[k0, k1, k2, k3, k4, k5, k6, k7, k8, k9, k10, k11, k12, k13, k14, k15, k16, k17, k18, k19, k20, k21, k22, k23, k24, k25, k26, k27, k28, k29, k30, k31, k32, k33, k34, k35, k36, k37, k38, k39, k40]
def interned : List (Array UInt16 × Addr) := []
def slotsUsed : Nat := 32
def theMethod : MethodId := ⟨1, 3⟩
def args0 : Array Value := #[.int 5, .int 5, .int 5]
def aboutOver (below : List Frame) : State where
  vm := { classes := classes, interned := interned.toArray }
  heap := heap
  slotsUsed := slotsUsed
  threads := #[{ frames := .invoking theMethod args0 :: below }]
def below0 : List Frame := [.native { method := ⟨0, 0⟩, args := #[] }]
def about1 : State := aboutOver below0
def p0 : Program := .bare "" "" ""
def e0 : Env := launch0.env 0 0 0
theorem w_frames : about1.frames = Frame.invoking theMethod args0 :: below0 := rfl
set_option maxRecDepth 65536 in
theorem w_args : argsFit about1.vm theMethod args0 = true := by decide +kernel
set_option maxRecDepth 65536 in
theorem w_heap : heapFits about1 = true := by decide +kernel
set_option maxRecDepth 65536 in
theorem w_runnable : about1.curStatus? = some .runnable := by decide +kernel
set_option maxRecDepth 65536 in
theorem w_alone : about1.alone = true := by decide +kernel
set_option maxRecDepth 65536 in
theorem w_named : about1.methodNamed? x = some theMethod := by decide +kernel
set_option maxRecDepth 65536 in
theorem w_hears : about1.hears theMethod below0 = true := by decide +kernel
set_option maxRecDepth 65536 in
theorem w_ripe : about1.ripe theMethod args0 below0 = true := by decide +kernel
theorem w_running : about1.status = .running := rfl
set_option maxRecDepth 65536 in
theorem w_room : about1.hasRoom e0.platform room_1 = true :=
  launch0.hasRoom_least _ room_1 (by decide +kernel) (by decide +kernel) (by decide +kernel) (by decide +kernel) (by decide +kernel) (by decide +kernel)
theorem allAtoms_all (ts : List Jvm.Cond) (a : Array Jvm.Value) (st : Jvm.State) : (allAtoms ts).before a st = ts.all (fun c => c.before a st) := by
  induction ts with
  | nil => rfl
  | cons c t ih =>
    show (Jvm.Cond.and c (allAtoms t)).before a st = _
    rw [Jvm.Cond.before_and, ih, List.all_cons]
def words1 : List Jvm.Cond := Jvm.Cond.code x code maxLocals ret :: tables_1
/-- a 'code' word, met by the world's own term for the bytes: nothing is compared byte by byte -/
theorem code_word {y : MethodName} {bytes : ByteArray} {mx : Nat} {rt : Option FieldType} {a : Array Value} {s : State} {m : MethodId} {meth : Method} {c : Code} (h1 : s.methodNamed? y = some m) (h2 : s.vm.method? m = some meth) (h3 : meth.code = some c) (h4 : c.code = bytes)
    (h5 : (c.maxLocals == mx && c.exceptionTable.isEmpty && decide (c.maxStack ≤ mostOperands) && decide (meth.sig.returnType = rt) && !meth.locks && decide (parseMethodDescriptor y.desc = some meth.sig)) = true) : (Jvm.Cond.code y bytes mx rt).before a s = true := by
  simp only [Bool.and_eq_true, beq_iff_eq, Bool.not_eq_true', decide_eq_true_eq] at h5
  obtain ⟨⟨⟨⟨⟨g1, g2⟩, g3⟩, g4⟩, g5⟩, g6⟩ := h5
  simp [Cond.before, Cond.holds, Cond.value, h1, h2, h3, h4, g1, g2, g3, g4, g5, g6]
def isCode : Jvm.Cond → Bool
  | .code _ _ _ _ => true
  | _ => false
theorem all_split {L : List Jvm.Cond} {P : Jvm.Cond → Bool} (h1 : L.all (fun c => isCode c || P c) = true) (h2 : ∀ c ∈ L.filter isCode, P c = true) : L.all P = true := by
  refine List.all_eq_true.mpr fun c hc => ?_
  have h := List.all_eq_true.mp h1 c hc
  rcases Bool.eq_false_or_eq_true (isCode c) with hi | hi
  · exact h2 c (List.mem_filter.mpr ⟨hc, hi⟩)
  · simpa [hi] using h
set_option maxRecDepth 65536 in
theorem w_c0 : (Jvm.Cond.code x code maxLocals ret).before args0 about1 = true := code_word (m := ⟨1, 3⟩) (meth := k1m3) (c := k1c3) (by decide +kernel) rfl rfl rfl (by decide +kernel)
set_option maxRecDepth 65536 in
theorem w_c1 : (Jvm.Cond.code ({ cls := "com/example/riverside/riverside/RefusedExceptionReplyLinePinLaw", name := "ch", desc := "(II)C" } : Jvm.MethodName) method_3_code (2 : Nat) (Option.some Jvm.ClassFile.FieldType.char)).before args0 about1 = true := code_word (m := ⟨1, 2⟩) (meth := k1m2) (c := k1c2) (by decide +kernel) rfl rfl rfl (by decide +kernel)
set_option maxRecDepth 65536 in
theorem w_c2 : (Jvm.Cond.code ({ cls := "com/example/riverside/riverside/RefusedExceptionReplyLinePinLaw", name := "mk", desc := "(ICCC)Ljava/lang/String;" } : Jvm.MethodName) method_2_code (4 : Nat) (Option.some (Jvm.ClassFile.FieldType.object "java/lang/String"))).before args0 about1 = true := code_word (m := ⟨1, 1⟩) (meth := k1m1) (c := k1c1) (by decide +kernel) rfl rfl rfl (by decide +kernel)
set_option maxRecDepth 65536 in
theorem w_c3 : (Jvm.Cond.code ({ cls := "java/lang/String", name := "<init>", desc := "([C)V" } : Jvm.MethodName) jdk_42_method_3_code (2 : Nat) (Option.none : Option Jvm.ClassFile.FieldType)).before args0 about1 = true := code_word (m := ⟨7, 1⟩) (meth := k7m1) (c := k7c1) (by decide +kernel) rfl rfl rfl (by decide +kernel)
set_option maxRecDepth 65536 in
theorem w_c4 : (Jvm.Cond.code ({ cls := "java/lang/String", name := "<init>", desc := "([CIILjava/lang/Void;)V" } : Jvm.MethodName) jdk_42_method_149_code (6 : Nat) (Option.none : Option Jvm.ClassFile.FieldType)).before args0 about1 = true := code_word (m := ⟨7, 7⟩) (meth := k7m7) (c := k7c7) (by decide +kernel) rfl rfl rfl (by decide +kernel)
set_option maxRecDepth 65536 in
theorem w_c5 : (Jvm.Cond.code ({ cls := "java/lang/Object", name := "<init>", desc := "()V" } : Jvm.MethodName) object_method_1_code (1 : Nat) (Option.none : Option Jvm.ClassFile.FieldType)).before args0 about1 = true := code_word (m := ⟨0, 0⟩) (meth := k0m0) (c := k0c0) (by decide +kernel) rfl rfl rfl (by decide +kernel)
set_option maxRecDepth 65536 in
theorem w_c6 : (Jvm.Cond.code ({ cls := "com/example/riverside/riverside/RefusedException", name := "<init>", desc := "(Ljava/lang/String;Ljava/lang/String;)V" } : Jvm.MethodName) prog_14_method_1_code (3 : Nat) (Option.none : Option Jvm.ClassFile.FieldType)).before args0 about1 = true := code_word (m := ⟨10, 0⟩) (meth := k10m0) (c := k10c0) (by decide +kernel) rfl rfl rfl (by decide +kernel)
set_option maxRecDepth 65536 in
theorem w_c7 : (Jvm.Cond.code ({ cls := "java/lang/Exception", name := "<init>", desc := "(Ljava/lang/String;)V" } : Jvm.MethodName) jdk_59_method_2_code (2 : Nat) (Option.none : Option Jvm.ClassFile.FieldType)).before args0 about1 = true := code_word (m := ⟨9, 1⟩) (meth := k9m1) (c := k9c1) (by decide +kernel) rfl rfl rfl (by decide +kernel)
set_option maxRecDepth 65536 in
theorem w_c8 : (Jvm.Cond.code ({ cls := "java/lang/Throwable", name := "<init>", desc := "(Ljava/lang/String;)V" } : Jvm.MethodName) jdk_78_method_2_code (2 : Nat) (Option.none : Option Jvm.ClassFile.FieldType)).before args0 about1 = true := code_word (m := ⟨8, 1⟩) (meth := k8m1) (c := k8c1) (by decide +kernel) rfl rfl rfl (by decide +kernel)
set_option maxRecDepth 65536 in
theorem w_c9 : (Jvm.Cond.code ({ cls := "java/lang/Throwable", name := "<init>", desc := "()V" } : Jvm.MethodName) jdk_78_method_1_code (1 : Nat) (Option.none : Option Jvm.ClassFile.FieldType)).before args0 about1 = true := code_word (m := ⟨8, 0⟩) (meth := k8m0) (c := k8c0) (by decide +kernel) rfl rfl rfl (by decide +kernel)
set_option maxRecDepth 65536 in
theorem w_c10 : (Jvm.Cond.code ({ cls := "com/example/riverside/riverside/RefusedException", name := "replyLine", desc := "()Ljava/lang/String;" } : Jvm.MethodName) prog_14_method_3_code (1 : Nat) (Option.some (Jvm.ClassFile.FieldType.object "java/lang/String"))).before args0 about1 = true := code_word (m := ⟨10, 1⟩) (meth := k10m1) (c := k10c1) (by decide +kernel) rfl rfl rfl (by decide +kernel)
set_option maxRecDepth 65536 in
theorem w_c11 : (Jvm.Cond.code ({ cls := "java/lang/StringBuilder", name := "<init>", desc := "()V" } : Jvm.MethodName) jdk_67_method_1_code (1 : Nat) (Option.none : Option Jvm.ClassFile.FieldType)).before args0 about1 = true := code_word (m := ⟨13, 0⟩) (meth := k13m0) (c := k13c0) (by decide +kernel) rfl rfl rfl (by decide +kernel)
set_option maxRecDepth 65536 in
theorem w_c12 : (Jvm.Cond.code ({ cls := "java/lang/AbstractStringBuilder", name := "<init>", desc := "(I)V" } : Jvm.MethodName) jdk_68_method_2_code (2 : Nat) (Option.none : Option Jvm.ClassFile.FieldType)).before args0 about1 = true := code_word (m := ⟨12, 1⟩) (meth := k12m1) (c := k12c1) (by decide +kernel) rfl rfl rfl (by decide +kernel)
set_option maxRecDepth 65536 in
theorem w_c13 : (Jvm.Cond.code ({ cls := "java/lang/StringBuilder", name := "append", desc := "(Ljava/lang/String;)Ljava/lang/StringBuilder;" } : Jvm.MethodName) jdk_67_method_7_code (2 : Nat) (Option.some (Jvm.ClassFile.FieldType.object "java/lang/StringBuilder"))).before args0 about1 = true := code_word (m := ⟨13, 1⟩) (meth := k13m1) (c := k13c1) (by decide +kernel) rfl rfl rfl (by decide +kernel)
set_option maxRecDepth 65536 in
theorem w_c14 : (Jvm.Cond.code ({ cls := "java/lang/AbstractStringBuilder", name := "append", desc := "(Ljava/lang/String;)Ljava/lang/AbstractStringBuilder;" } : Jvm.MethodName) jdk_68_method_22_code (3 : Nat) (Option.some (Jvm.ClassFile.FieldType.object "java/lang/AbstractStringBuilder"))).before args0 about1 = true := code_word (m := ⟨12, 4⟩) (meth := k12m4) (c := k12c4) (by decide +kernel) rfl rfl rfl (by decide +kernel)
set_option maxRecDepth 65536 in
theorem w_c15 : (Jvm.Cond.code ({ cls := "java/lang/String", name := "length", desc := "()I" } : Jvm.MethodName) jdk_42_method_54_code (1 : Nat) (Option.some Jvm.ClassFile.FieldType.int)).before args0 about1 = true := code_word (m := ⟨7, 3⟩) (meth := k7m3) (c := k7c3) (by decide +kernel) rfl rfl rfl (by decide +kernel)
set_option maxRecDepth 65536 in
theorem w_c16 : (Jvm.Cond.code ({ cls := "java/lang/String", name := "coder", desc := "()B" } : Jvm.MethodName) jdk_42_method_152_code (1 : Nat) (Option.some Jvm.ClassFile.FieldType.byte)).before args0 about1 = true := code_word (m := ⟨7, 9⟩) (meth := k7m9) (c := k7c9) (by decide +kernel) rfl rfl rfl (by decide +kernel)
set_option maxRecDepth 65536 in
theorem w_c17 : (Jvm.Cond.code ({ cls := "java/lang/AbstractStringBuilder", name := "ensureCapacityInternal", desc := "(I)V" } : Jvm.MethodName) jdk_68_method_9_code (3 : Nat) (Option.none : Option Jvm.ClassFile.FieldType)).before args0 about1 = true := code_word (m := ⟨12, 3⟩) (meth := k12m3) (c := k12c3) (by decide +kernel) rfl rfl rfl (by decide +kernel)
set_option maxRecDepth 65536 in
theorem w_c18 : (Jvm.Cond.code ({ cls := "java/lang/AbstractStringBuilder", name := "putStringAt", desc := "(ILjava/lang/String;)V" } : Jvm.MethodName) jdk_68_method_73_code (3 : Nat) (Option.none : Option Jvm.ClassFile.FieldType)).before args0 about1 = true := code_word (m := ⟨12, 8⟩) (meth := k12m8) (c := k12c8) (by decide +kernel) rfl rfl rfl (by decide +kernel)
set_option maxRecDepth 65536 in
theorem w_c19 : (Jvm.Cond.code ({ cls := "java/lang/AbstractStringBuilder", name := "inflateIfNeededFor", desc := "(Ljava/lang/String;)V" } : Jvm.MethodName) jdk_68_method_71_code (2 : Nat) (Option.none : Option Jvm.ClassFile.FieldType)).before args0 about1 = true := code_word (m := ⟨12, 7⟩) (meth := k12m7) (c := k12c7) (by decide +kernel) rfl rfl rfl (by decide +kernel)
set_option maxRecDepth 65536 in
theorem w_c20 : (Jvm.Cond.code ({ cls := "java/lang/String", name := "getBytes", desc := "([BIB)V" } : Jvm.MethodName) jdk_42_method_147_code (4 : Nat) (Option.none : Option Jvm.ClassFile.FieldType)).before args0 about1 = true := code_word (m := ⟨7, 6⟩) (meth := k7m6) (c := k7c6) (by decide +kernel) rfl rfl rfl (by decide +kernel)
set_option maxRecDepth 65536 in
theorem w_c21 : (Jvm.Cond.code ({ cls := "java/lang/Throwable", name := "getMessage", desc := "()Ljava/lang/String;" } : Jvm.MethodName) jdk_78_method_6_code (1 : Nat) (Option.some (Jvm.ClassFile.FieldType.object "java/lang/String"))).before args0 about1 = true := code_word (m := ⟨8, 2⟩) (meth := k8m2) (c := k8c2) (by decide +kernel) rfl rfl rfl (by decide +kernel)
set_option maxRecDepth 65536 in
theorem w_c22 : (Jvm.Cond.code ({ cls := "java/lang/String", name := "isEmpty", desc := "()Z" } : Jvm.MethodName) jdk_42_method_55_code (1 : Nat) (Option.some Jvm.ClassFile.FieldType.boolean)).before args0 about1 = true := code_word (m := ⟨7, 4⟩) (meth := k7m4) (c := k7c4) (by decide +kernel) rfl rfl rfl (by decide +kernel)
set_option maxRecDepth 65536 in
theorem w_c23 : (Jvm.Cond.code ({ cls := "java/lang/StringBuilder", name := "toString", desc := "()Ljava/lang/String;" } : Jvm.MethodName) jdk_67_method_42_code (1 : Nat) (Option.some (Jvm.ClassFile.FieldType.object "java/lang/String"))).before args0 about1 = true := code_word (m := ⟨13, 2⟩) (meth := k13m2) (c := k13c2) (by decide +kernel) rfl rfl rfl (by decide +kernel)
set_option maxRecDepth 65536 in
theorem w_c24 : (Jvm.Cond.code ({ cls := "java/lang/String", name := "<init>", desc := "(Ljava/lang/StringBuilder;)V" } : Jvm.MethodName) jdk_42_method_53_code (2 : Nat) (Option.none : Option Jvm.ClassFile.FieldType)).before args0 about1 = true := code_word (m := ⟨7, 2⟩) (meth := k7m2) (c := k7c2) (by decide +kernel) rfl rfl rfl (by decide +kernel)
set_option maxRecDepth 65536 in
theorem w_c25 : (Jvm.Cond.code ({ cls := "java/lang/String", name := "<init>", desc := "(Ljava/lang/AbstractStringBuilder;Ljava/lang/Void;)V" } : Jvm.MethodName) jdk_42_method_150_code (5 : Nat) (Option.none : Option Jvm.ClassFile.FieldType)).before args0 about1 = true := code_word (m := ⟨7, 8⟩) (meth := k7m8) (c := k7c8) (by decide +kernel) rfl rfl rfl (by decide +kernel)
set_option maxRecDepth 65536 in
theorem w_c26 : (Jvm.Cond.code ({ cls := "java/lang/AbstractStringBuilder", name := "getValue", desc := "()[B" } : Jvm.MethodName) jdk_68_method_64_code (1 : Nat) (Option.some (Jvm.ClassFile.FieldType.array Jvm.ClassFile.FieldType.byte))).before args0 about1 = true := code_word (m := ⟨12, 5⟩) (meth := k12m5) (c := k12c5) (by decide +kernel) rfl rfl rfl (by decide +kernel)
set_option maxRecDepth 65536 in
theorem w_c27 : (Jvm.Cond.code ({ cls := "java/lang/StringBuilder", name := "length", desc := "()I" } : Jvm.MethodName) jdk_67_method_93_code (1 : Nat) (Option.some Jvm.ClassFile.FieldType.int)).before args0 about1 = true := code_word (m := ⟨13, 3⟩) (meth := k13m3) (c := k13c3) (by decide +kernel) rfl rfl rfl (by decide +kernel)
set_option maxRecDepth 65536 in
theorem w_c28 : (Jvm.Cond.code ({ cls := "java/lang/AbstractStringBuilder", name := "length", desc := "()I" } : Jvm.MethodName) jdk_68_method_6_code (1 : Nat) (Option.some Jvm.ClassFile.FieldType.int)).before args0 about1 = true := code_word (m := ⟨12, 2⟩) (meth := k12m2) (c := k12c2) (by decide +kernel) rfl rfl rfl (by decide +kernel)
set_option maxRecDepth 65536 in
theorem w_c29 : (Jvm.Cond.code ({ cls := "java/lang/AbstractStringBuilder", name := "isLatin1", desc := "()Z" } : Jvm.MethodName) jdk_68_method_68_code (1 : Nat) (Option.some Jvm.ClassFile.FieldType.boolean)).before args0 about1 = true := code_word (m := ⟨12, 6⟩) (meth := k12m6) (c := k12c6) (by decide +kernel) rfl rfl rfl (by decide +kernel)
set_option maxRecDepth 65536 in
theorem w_c30 : (Jvm.Cond.code ({ cls := "java/util/Arrays", name := "copyOfRange", desc := "([BII)[B" } : Jvm.MethodName) jdk_65_method_132_code (3 : Nat) (Option.some (Jvm.ClassFile.FieldType.array Jvm.ClassFile.FieldType.byte))).before args0 about1 = true := code_word (m := ⟨15, 2⟩) (meth := k15m2) (c := k15c2) (by decide +kernel) rfl rfl rfl (by decide +kernel)
set_option maxRecDepth 65536 in
theorem w_c31 : (Jvm.Cond.code ({ cls := "java/util/Arrays", name := "copyOfRangeByte", desc := "([BII)[B" } : Jvm.MethodName) jdk_65_method_133_code (5 : Nat) (Option.some (Jvm.ClassFile.FieldType.array Jvm.ClassFile.FieldType.byte))).before args0 about1 = true := code_word (m := ⟨15, 3⟩) (meth := k15m3) (c := k15c3) (by decide +kernel) rfl rfl rfl (by decide +kernel)
set_option maxRecDepth 65536 in
theorem w_c32 : (Jvm.Cond.code ({ cls := "java/util/Arrays", name := "checkLength", desc := "(II)V" } : Jvm.MethodName) jdk_65_method_131_code (2 : Nat) (Option.none : Option Jvm.ClassFile.FieldType)).before args0 about1 = true := code_word (m := ⟨15, 1⟩) (meth := k15m1) (c := k15c1) (by decide +kernel) rfl rfl rfl (by decide +kernel)
set_option maxRecDepth 65536 in
theorem w_c33 : (Jvm.Cond.code ({ cls := "java/lang/Math", name := "min", desc := "(II)I" } : Jvm.MethodName) jdk_29_method_69_code (2 : Nat) (Option.some Jvm.ClassFile.FieldType.int)).before args0 about1 = true := code_word (m := ⟨16, 1⟩) (meth := k16m1) (c := k16c1) (by decide +kernel) rfl rfl rfl (by decide +kernel)
set_option maxRecDepth 65536 in
theorem w_c34 : (Jvm.Cond.code ({ cls := "java/lang/String", name := "charAt", desc := "(I)C" } : Jvm.MethodName) jdk_42_method_56_code (2 : Nat) (Option.some Jvm.ClassFile.FieldType.char)).before args0 about1 = true := code_word (m := ⟨7, 5⟩) (meth := k7m5) (c := k7c5) (by decide +kernel) rfl rfl rfl (by decide +kernel)
set_option maxRecDepth 65536 in
theorem w_c35 : (Jvm.Cond.code ({ cls := "java/lang/String", name := "isLatin1", desc := "()Z" } : Jvm.MethodName) jdk_42_method_154_code (1 : Nat) (Option.some Jvm.ClassFile.FieldType.boolean)).before args0 about1 = true := code_word (m := ⟨7, 10⟩) (meth := k7m10) (c := k7c10) (by decide +kernel) rfl rfl rfl (by decide +kernel)
set_option maxRecDepth 65536 in
theorem w_c36 : (Jvm.Cond.code ({ cls := "java/lang/StringLatin1", name := "charAt", desc := "([BI)C" } : Jvm.MethodName) jdk_43_method_2_code (2 : Nat) (Option.some Jvm.ClassFile.FieldType.char)).before args0 about1 = true := code_word (m := ⟨17, 1⟩) (meth := k17m1) (c := k17c1) (by decide +kernel) rfl rfl rfl (by decide +kernel)
set_option maxRecDepth 65536 in
theorem w_c37 : (Jvm.Cond.code ({ cls := "java/lang/String", name := "checkIndex", desc := "(II)V" } : Jvm.MethodName) jdk_42_method_155_code (2 : Nat) (Option.none : Option Jvm.ClassFile.FieldType)).before args0 about1 = true := code_word (m := ⟨7, 11⟩) (meth := k7m11) (c := k7c11) (by decide +kernel) rfl rfl rfl (by decide +kernel)
set_option maxRecDepth 65536 in
theorem w_c38 : (Jvm.Cond.code ({ cls := "jdk/internal/util/Preconditions", name := "checkIndex", desc := "(IILjava/util/function/BiFunction;)I" } : Jvm.MethodName) jdk_41_method_11_code (3 : Nat) (Option.some Jvm.ClassFile.FieldType.int)).before args0 about1 = true := code_word (m := ⟨18, 1⟩) (meth := k18m1) (c := k18c1) (by decide +kernel) rfl rfl rfl (by decide +kernel)
set_option maxRecDepth 65536 in
theorem w_c39 : (Jvm.Cond.code ({ cls := "java/lang/StringUTF16", name := "compress", desc := "([CII)[B" } : Jvm.MethodName) jdk_52_method_16_code (6 : Nat) (Option.some (Jvm.ClassFile.FieldType.array Jvm.ClassFile.FieldType.byte))).before args0 about1 = true := code_word (m := ⟨19, 2⟩) (meth := k19m2) (c := k19c2) (by decide +kernel) rfl rfl rfl (by decide +kernel)
set_option maxRecDepth 65536 in
theorem w_c40 : (Jvm.Cond.code ({ cls := "java/lang/StringUTF16", name := "compress", desc := "([CI[BII)I" } : Jvm.MethodName) jdk_52_method_21_code (7 : Nat) (Option.some Jvm.ClassFile.FieldType.int)).before args0 about1 = true := code_word (m := ⟨19, 3⟩) (meth := k19m3) (c := k19c3) (by decide +kernel) rfl rfl rfl (by decide +kernel)
set_option maxRecDepth 65536 in
theorem w_c41 : (Jvm.Cond.code ({ cls := "java/lang/StringUTF16", name := "coderFromArrayLen", desc := "([BI)B" } : Jvm.MethodName) jdk_52_method_15_code (2 : Nat) (Option.some Jvm.ClassFile.FieldType.byte)).before args0 about1 = true := code_word (m := ⟨19, 1⟩) (meth := k19m1) (c := k19c1) (by decide +kernel) rfl rfl rfl (by decide +kernel)
def codes1 : List Jvm.Cond := [Jvm.Cond.code x code maxLocals ret, Jvm.Cond.code ({ cls := "com/example/riverside/riverside/RefusedExceptionReplyLinePinLaw", name := "ch", desc := "(II)C" } : Jvm.MethodName) method_3_code (2 : Nat) (Option.some Jvm.ClassFile.FieldType.char), Jvm.Cond.code ({ cls := "com/example/riverside/riverside/RefusedExceptionReplyLinePinLaw", name := "mk", desc := "(ICCC)Ljava/lang/String;" } : Jvm.MethodName) method_2_code (4 : Nat) (Option.some (Jvm.ClassFile.FieldType.object "java/lang/String")), Jvm.Cond.code ({ cls := "java/lang/String", name := "<init>", desc := "([C)V" } : Jvm.MethodName) jdk_42_method_3_code (2 : Nat) (Option.none : Option Jvm.ClassFile.FieldType), Jvm.Cond.code ({ cls := "java/lang/String", name := "<init>", desc := "([CIILjava/lang/Void;)V" } : Jvm.MethodName) jdk_42_method_149_code (6 : Nat) (Option.none : Option Jvm.ClassFile.FieldType), Jvm.Cond.code ({ cls := "java/lang/Object", name := "<init>", desc := "()V" } : Jvm.MethodName) object_method_1_code (1 : Nat) (Option.none : Option Jvm.ClassFile.FieldType), Jvm.Cond.code ({ cls := "com/example/riverside/riverside/RefusedException", name := "<init>", desc := "(Ljava/lang/String;Ljava/lang/String;)V" } : Jvm.MethodName) prog_14_method_1_code (3 : Nat) (Option.none : Option Jvm.ClassFile.FieldType), Jvm.Cond.code ({ cls := "java/lang/Exception", name := "<init>", desc := "(Ljava/lang/String;)V" } : Jvm.MethodName) jdk_59_method_2_code (2 : Nat) (Option.none : Option Jvm.ClassFile.FieldType), Jvm.Cond.code ({ cls := "java/lang/Throwable", name := "<init>", desc := "(Ljava/lang/String;)V" } : Jvm.MethodName) jdk_78_method_2_code (2 : Nat) (Option.none : Option Jvm.ClassFile.FieldType), Jvm.Cond.code ({ cls := "java/lang/Throwable", name := "<init>", desc := "()V" } : Jvm.MethodName) jdk_78_method_1_code (1 : Nat) (Option.none : Option Jvm.ClassFile.FieldType), Jvm.Cond.code ({ cls := "com/example/riverside/riverside/RefusedException", name := "replyLine", desc := "()Ljava/lang/String;" } : Jvm.MethodName) prog_14_method_3_code (1 : Nat) (Option.some (Jvm.ClassFile.FieldType.object "java/lang/String")), Jvm.Cond.code ({ cls := "java/lang/StringBuilder", name := "<init>", desc := "()V" } : Jvm.MethodName) jdk_67_method_1_code (1 : Nat) (Option.none : Option Jvm.ClassFile.FieldType), Jvm.Cond.code ({ cls := "java/lang/AbstractStringBuilder", name := "<init>", desc := "(I)V" } : Jvm.MethodName) jdk_68_method_2_code (2 : Nat) (Option.none : Option Jvm.ClassFile.FieldType), Jvm.Cond.code ({ cls := "java/lang/StringBuilder", name := "append", desc := "(Ljava/lang/String;)Ljava/lang/StringBuilder;" } : Jvm.MethodName) jdk_67_method_7_code (2 : Nat) (Option.some (Jvm.ClassFile.FieldType.object "java/lang/StringBuilder")), Jvm.Cond.code ({ cls := "java/lang/AbstractStringBuilder", name := "append", desc := "(Ljava/lang/String;)Ljava/lang/AbstractStringBuilder;" } : Jvm.MethodName) jdk_68_method_22_code (3 : Nat) (Option.some (Jvm.ClassFile.FieldType.object "java/lang/AbstractStringBuilder")), Jvm.Cond.code ({ cls := "java/lang/String", name := "length", desc := "()I" } : Jvm.MethodName) jdk_42_method_54_code (1 : Nat) (Option.some Jvm.ClassFile.FieldType.int), Jvm.Cond.code ({ cls := "java/lang/String", name := "coder", desc := "()B" } : Jvm.MethodName) jdk_42_method_152_code (1 : Nat) (Option.some Jvm.ClassFile.FieldType.byte), Jvm.Cond.code ({ cls := "java/lang/AbstractStringBuilder", name := "ensureCapacityInternal", desc := "(I)V" } : Jvm.MethodName) jdk_68_method_9_code (3 : Nat) (Option.none : Option Jvm.ClassFile.FieldType), Jvm.Cond.code ({ cls := "java/lang/AbstractStringBuilder", name := "putStringAt", desc := "(ILjava/lang/String;)V" } : Jvm.MethodName) jdk_68_method_73_code (3 : Nat) (Option.none : Option Jvm.ClassFile.FieldType), Jvm.Cond.code ({ cls := "java/lang/AbstractStringBuilder", name := "inflateIfNeededFor", desc := "(Ljava/lang/String;)V" } : Jvm.MethodName) jdk_68_method_71_code (2 : Nat) (Option.none : Option Jvm.ClassFile.FieldType), Jvm.Cond.code ({ cls := "java/lang/String", name := "getBytes", desc := "([BIB)V" } : Jvm.MethodName) jdk_42_method_147_code (4 : Nat) (Option.none : Option Jvm.ClassFile.FieldType), Jvm.Cond.code ({ cls := "java/lang/Throwable", name := "getMessage", desc := "()Ljava/lang/String;" } : Jvm.MethodName) jdk_78_method_6_code (1 : Nat) (Option.some (Jvm.ClassFile.FieldType.object "java/lang/String")), Jvm.Cond.code ({ cls := "java/lang/String", name := "isEmpty", desc := "()Z" } : Jvm.MethodName) jdk_42_method_55_code (1 : Nat) (Option.some Jvm.ClassFile.FieldType.boolean), Jvm.Cond.code ({ cls := "java/lang/StringBuilder", name := "toString", desc := "()Ljava/lang/String;" } : Jvm.MethodName) jdk_67_method_42_code (1 : Nat) (Option.some (Jvm.ClassFile.FieldType.object "java/lang/String")), Jvm.Cond.code ({ cls := "java/lang/String", name := "<init>", desc := "(Ljava/lang/StringBuilder;)V" } : Jvm.MethodName) jdk_42_method_53_code (2 : Nat) (Option.none : Option Jvm.ClassFile.FieldType), Jvm.Cond.code ({ cls := "java/lang/String", name := "<init>", desc := "(Ljava/lang/AbstractStringBuilder;Ljava/lang/Void;)V" } : Jvm.MethodName) jdk_42_method_150_code (5 : Nat) (Option.none : Option Jvm.ClassFile.FieldType), Jvm.Cond.code ({ cls := "java/lang/AbstractStringBuilder", name := "getValue", desc := "()[B" } : Jvm.MethodName) jdk_68_method_64_code (1 : Nat) (Option.some (Jvm.ClassFile.FieldType.array Jvm.ClassFile.FieldType.byte)), Jvm.Cond.code ({ cls := "java/lang/StringBuilder", name := "length", desc := "()I" } : Jvm.MethodName) jdk_67_method_93_code (1 : Nat) (Option.some Jvm.ClassFile.FieldType.int), Jvm.Cond.code ({ cls := "java/lang/AbstractStringBuilder", name := "length", desc := "()I" } : Jvm.MethodName) jdk_68_method_6_code (1 : Nat) (Option.some Jvm.ClassFile.FieldType.int), Jvm.Cond.code ({ cls := "java/lang/AbstractStringBuilder", name := "isLatin1", desc := "()Z" } : Jvm.MethodName) jdk_68_method_68_code (1 : Nat) (Option.some Jvm.ClassFile.FieldType.boolean), Jvm.Cond.code ({ cls := "java/util/Arrays", name := "copyOfRange", desc := "([BII)[B" } : Jvm.MethodName) jdk_65_method_132_code (3 : Nat) (Option.some (Jvm.ClassFile.FieldType.array Jvm.ClassFile.FieldType.byte)), Jvm.Cond.code ({ cls := "java/util/Arrays", name := "copyOfRangeByte", desc := "([BII)[B" } : Jvm.MethodName) jdk_65_method_133_code (5 : Nat) (Option.some (Jvm.ClassFile.FieldType.array Jvm.ClassFile.FieldType.byte)), Jvm.Cond.code ({ cls := "java/util/Arrays", name := "checkLength", desc := "(II)V" } : Jvm.MethodName) jdk_65_method_131_code (2 : Nat) (Option.none : Option Jvm.ClassFile.FieldType), Jvm.Cond.code ({ cls := "java/lang/Math", name := "min", desc := "(II)I" } : Jvm.MethodName) jdk_29_method_69_code (2 : Nat) (Option.some Jvm.ClassFile.FieldType.int), Jvm.Cond.code ({ cls := "java/lang/String", name := "charAt", desc := "(I)C" } : Jvm.MethodName) jdk_42_method_56_code (2 : Nat) (Option.some Jvm.ClassFile.FieldType.char), Jvm.Cond.code ({ cls := "java/lang/String", name := "isLatin1", desc := "()Z" } : Jvm.MethodName) jdk_42_method_154_code (1 : Nat) (Option.some Jvm.ClassFile.FieldType.boolean), Jvm.Cond.code ({ cls := "java/lang/StringLatin1", name := "charAt", desc := "([BI)C" } : Jvm.MethodName) jdk_43_method_2_code (2 : Nat) (Option.some Jvm.ClassFile.FieldType.char), Jvm.Cond.code ({ cls := "java/lang/String", name := "checkIndex", desc := "(II)V" } : Jvm.MethodName) jdk_42_method_155_code (2 : Nat) (Option.none : Option Jvm.ClassFile.FieldType), Jvm.Cond.code ({ cls := "jdk/internal/util/Preconditions", name := "checkIndex", desc := "(IILjava/util/function/BiFunction;)I" } : Jvm.MethodName) jdk_41_method_11_code (3 : Nat) (Option.some Jvm.ClassFile.FieldType.int), Jvm.Cond.code ({ cls := "java/lang/StringUTF16", name := "compress", desc := "([CII)[B" } : Jvm.MethodName) jdk_52_method_16_code (6 : Nat) (Option.some (Jvm.ClassFile.FieldType.array Jvm.ClassFile.FieldType.byte)), Jvm.Cond.code ({ cls := "java/lang/StringUTF16", name := "compress", desc := "([CI[BII)I" } : Jvm.MethodName) jdk_52_method_21_code (7 : Nat) (Option.some Jvm.ClassFile.FieldType.int), Jvm.Cond.code ({ cls := "java/lang/StringUTF16", name := "coderFromArrayLen", desc := "([BI)B" } : Jvm.MethodName) jdk_52_method_15_code (2 : Nat) (Option.some Jvm.ClassFile.FieldType.byte)]
set_option maxRecDepth 65536 in
theorem codes_eq : words1.filter isCode = codes1 := rfl
theorem w_codes : ∀ c ∈ words1.filter isCode, c.before args0 about1 = true := by
  rw [codes_eq]
  intro c hc
  simp only [codes1, List.mem_cons, List.not_mem_nil, or_false] at hc
  rcases hc with rfl | rfl | rfl | rfl | rfl | rfl | rfl | rfl | rfl | rfl | rfl | rfl | rfl | rfl | rfl | rfl | rfl | rfl | rfl | rfl | rfl | rfl | rfl | rfl | rfl | rfl | rfl | rfl | rfl | rfl | rfl | rfl | rfl | rfl | rfl | rfl | rfl | rfl | rfl | rfl | rfl | rfl
  · exact w_c0
  · exact w_c1
  · exact w_c2
  · exact w_c3
  · exact w_c4
  · exact w_c5
  · exact w_c6
  · exact w_c7
  · exact w_c8
  · exact w_c9
  · exact w_c10
  · exact w_c11
  · exact w_c12
  · exact w_c13
  · exact w_c14
  · exact w_c15
  · exact w_c16
  · exact w_c17
  · exact w_c18
  · exact w_c19
  · exact w_c20
  · exact w_c21
  · exact w_c22
  · exact w_c23
  · exact w_c24
  · exact w_c25
  · exact w_c26
  · exact w_c27
  · exact w_c28
  · exact w_c29
  · exact w_c30
  · exact w_c31
  · exact w_c32
  · exact w_c33
  · exact w_c34
  · exact w_c35
  · exact w_c36
  · exact w_c37
  · exact w_c38
  · exact w_c39
  · exact w_c40
  · exact w_c41
set_option maxRecDepth 65536 in
theorem w_t1 : (words1.take 24).all (fun c => isCode c || c.before args0 about1) = true := by decide +kernel
set_option maxRecDepth 65536 in
theorem w_t2 : ((words1.drop 24).take 24).all (fun c => isCode c || c.before args0 about1) = true := by decide +kernel
set_option maxRecDepth 65536 in
theorem w_t3 : (((words1.drop 24).drop 24).take 24).all (fun c => isCode c || c.before args0 about1) = true := by decide +kernel
set_option maxRecDepth 65536 in
theorem w_t4 : ((((words1.drop 24).drop 24).drop 24).take 24).all (fun c => isCode c || c.before args0 about1) = true := by decide +kernel
set_option maxRecDepth 65536 in
theorem w_t5 : (((((words1.drop 24).drop 24).drop 24).drop 24).take 24).all (fun c => isCode c || c.before args0 about1) = true := by decide +kernel
set_option maxRecDepth 65536 in
theorem w_t6 : ((((((words1.drop 24).drop 24).drop 24).drop 24).drop 24).take 24).all (fun c => isCode c || c.before args0 about1) = true := by decide +kernel
set_option maxRecDepth 65536 in
theorem w_t7 : (((((((words1.drop 24).drop 24).drop 24).drop 24).drop 24).drop 24).take 24).all (fun c => isCode c || c.before args0 about1) = true := by decide +kernel
set_option maxRecDepth 65536 in
theorem w_t8 : ((((((((words1.drop 24).drop 24).drop 24).drop 24).drop 24).drop 24).drop 24).take 24).all (fun c => isCode c || c.before args0 about1) = true := by decide +kernel
set_option maxRecDepth 65536 in
theorem w_t9 : (((((((((words1.drop 24).drop 24).drop 24).drop 24).drop 24).drop 24).drop 24).drop 24).take 24).all (fun c => isCode c || c.before args0 about1) = true := by decide +kernel
set_option maxRecDepth 65536 in
theorem w_t10 : ((((((((((words1.drop 24).drop 24).drop 24).drop 24).drop 24).drop 24).drop 24).drop 24).drop 24).take 24).all (fun c => isCode c || c.before args0 about1) = true := by decide +kernel
set_option maxRecDepth 65536 in
theorem w_t11 : ((((((((((words1.drop 24).drop 24).drop 24).drop 24).drop 24).drop 24).drop 24).drop 24).drop 24).drop 24).all (fun c => isCode c || c.before args0 about1) = true := by decide +kernel
theorem w_tables : (allAtoms (Jvm.Cond.code x code maxLocals ret :: tables_1)).before args0 about1 = true := by
  rw [allAtoms_all]
  show words1.all (fun c => c.before args0 about1) = true
  refine all_split ?_ w_codes
  rw [← List.take_append_drop 24 words1, List.all_append, w_t1, ← List.take_append_drop 24 (words1.drop 24), List.all_append, w_t2, ← List.take_append_drop 24 ((words1.drop 24).drop 24), List.all_append, w_t3, ← List.take_append_drop 24 (((words1.drop 24).drop 24).drop 24), List.all_append, w_t4, ← List.take_append_drop 24 ((((words1.drop 24).drop 24).drop 24).drop 24), List.all_append, w_t5, ← List.take_append_drop 24 (((((words1.drop 24).drop 24).drop 24).drop 24).drop 24), List.all_append, w_t6, ← List.take_append_drop 24 ((((((words1.drop 24).drop 24).drop 24).drop 24).drop 24).drop 24), List.all_append, w_t7, ← List.take_append_drop 24 (((((((words1.drop 24).drop 24).drop 24).drop 24).drop 24).drop 24).drop 24), List.all_append, w_t8, ← List.take_append_drop 24 ((((((((words1.drop 24).drop 24).drop 24).drop 24).drop 24).drop 24).drop 24).drop 24), List.all_append, w_t9, ← List.take_append_drop 24 (((((((((words1.drop 24).drop 24).drop 24).drop 24).drop 24).drop 24).drop 24).drop 24).drop 24), List.all_append, w_t10, w_t11]
  rfl
set_option maxRecDepth 65536 in
theorem w_rest : rest_1_c.before args0 about1 = true := by decide +kernel
set_option maxRecDepth 65536 in
theorem w_case : (Jvm.Cond.and given_1 narrow_1).before args0 about1 = true := by decide +kernel
set_option maxRecDepth 65536 in
theorem w_consts : constsHeld consts_1 about1 := Jvm.Lit.constsHeldB_iff.mp (by decide +kernel)
theorem w_applies : (headSpec (Jvm.Cond.code x code maxLocals ret :: tables_1) room_1).applies x e0.platform about1 = true :=
  (Spec.applies_iff w_frames).mpr ⟨w_running, w_runnable, w_alone, w_named, w_hears, w_ripe, w_room, w_tables⟩
theorem atStart : AtStart classFile x code maxLocals ret World_1 tables_1 room_1 Calls_1 rest_1 Pre_1 launch0 p0 e0 about1 theMethod args0 below0 :=
  ⟨lists_1, trivial, launch0.admits_env _ _ _, launch0.least_env, fairChoices_fair.cas, fairChoices_fair.clock, w_frames, w_args, w_heap, w_applies, ⟨(by decide +kernel : framesKnown about1 = true), ⟨(by decide +kernel : tablesKnown about1 = true), ⟨w_consts, trivial⟩⟩⟩, w_rest, w_case⟩
end start1
theorem witness_1 : WitnessClaimed_1 := ⟨start1.p0, start1.e0, start1.about1, start1.theMethod, start1.args0, start1.below0, start1.atStart⟩
end Jvm.Pilot.@@N@@
