import JvmDerived
import JvmDerived.Pilot.@@N@@Statement
import JvmDerived.Pilot.@@N@@Code
set_option linter.unusedVariables false
set_option linter.unusedSimpArgs false
namespace Jvm.RoadKit
open Sem ClassFile Op Lib Jvm.Stand Jvm.Free Jvm.LawKit
section New
variable {p : Program} {l : Launch} {e : Env} {R : Room} {s : State} {m : MethodId} {args : Array Value} {below : List Frame} {meth : Method} {c : Code} {T : State} {locs : List Loc} {cells slots : Nat}
theorem retI (X : Stand p l e R s m args below meth c T locs cells slots) (hx : p.tables.exec = Jvm.exec) {pc : Nat} {Ls : Array Slot} {z : Int32} {rest : List Value} (hret : meth.sig.returnType = some .int) (hd : decode c.code pc = .ok (.ireturn, 1)) {fs : List Frame}
    (hl : ∀ (f : JFrame) (acts : List Action), f.method = m → f.locked = none → f.entered = [] → (doReturn e (T.setTop f) acts (some (.int z))).1 = T.setFrames fs) : Steps p.tables e below (T.setTop (mkF m pc Ls (.int z :: rest))) (T.setFrames fs) := by
  have hm' : T.vm.method? m = some meth := X.method'
  have hn : narrow .int (.int z) = .int z := rfl
  show Steps p.tables e below (T.setTop { method := m, pc := pc, locals := Ls, stack := _ :: rest, locked := none }) _
  jvm_step X.here [X.here.top, hx, hd, hm', hret, hn]
  first | (intro acts; rw [hl _ acts rfl rfl rfl]) | rw [hl _ _ rfl rfl rfl]
  exact Steps.refl _
end New
end Jvm.RoadKit
/- laws to paste: Road.backV, Road.eqW, Road.codOf (cut by pick.py; bodies as the Statement names them) -/
namespace Jvm.Pilot.@@N@@
namespace StrChars
open Jvm Sem ClassFile Op Lib Jvm.Stand Jvm.Free.XT Jvm.Free.ALB Jvm.Free.JM Jvm.Free
open Jvm.Lib.Cold (StaticIs)
/-- a char array whose places are chars -/
def Ch (a : Addr) (A : Cell) (U : State) : Prop := Arr .char a A U ∧ Typed .char A
theorem Ch.mv {a : Addr} {A : Cell} {U U' : State} (h : Ch a A U) (hal : U.vm.Alike U'.vm) (hh : U'.heap = U.heap) : Ch a A U' := ⟨h.1.mv hal hh, h.2⟩
theorem Ch.keep {a : Addr} {A : Cell} {U U' : State} (h : Ch a A U) (hal : U.vm.Alike U'.vm) (hk : U'.heap[a]? = some A) : Ch a A U' := ⟨h.1.keep hal hk, h.2⟩
/-- what place i of a char[]'s cell holds -/
def cv (A : Cell) (i : Nat) : Int32 := match A.slots[i]? with | some (.int x) => x | _ => 0
theorem Ch.get {a : Addr} {A : Cell} {U : State} (h : Ch a A U) {i : Nat} (hi : i < A.slots.size) : A.slots[i]? = some (.int (cv A i)) := by
  have e := Array.getElem?_eq_getElem hi
  have f := h.2 i _ e
  unfold cv; rw [e]
  generalize A.slots[i] = v at f
  cases v <;> simp [fits] at f ⊢
/-- the byte that i2b leaves of a char -/
def lo8 (x : Int32) : Int32 := x.toInt8.toInt32
theorem fits_lo8 (y : Int32) : fits .byte (.int (lo8 y)) = true := by
  have h1 := y.toInt8.le_toInt
  have h2 := y.toInt8.toInt_lt
  simp only [lo8, fits, Bool.and_eq_true, decide_eq_true_eq, Int32.le_iff_toInt_le, Int8.toInt_toInt32, show (-128 : Int32).toInt = -128 from by decide, show (127 : Int32).toInt = 127 from by decide]
  omega
/-- A' is A but that each place j of lo .. hi - 1 holds f j -/
def Laid (A A' : Cell) (lo hi : Nat) (f : Nat → Value) : Prop := A'.cls = A.cls ∧ A'.vm = A.vm ∧ A'.slots.size = A.slots.size ∧ ∀ i, A'.slots[i]? = if lo ≤ i ∧ i < hi then some (f i) else A.slots[i]?
theorem Laid.zero (A : Cell) (lo : Nat) (f : Nat → Value) : Laid A A lo (lo + 0) f := ⟨rfl, rfl, rfl, fun i => by rw [if_neg (by omega)]⟩
theorem Laid.step {A Ak : Cell} {lo k : Nat} {f : Nat → Value} {v : Value} (h : Laid A Ak lo k f) (hlo : lo ≤ k) (hk : k < Ak.slots.size) (hv : v = f k) : Laid A (Ak.setSlot k v) lo (k + 1) f := by
  refine ⟨h.1, h.2.1, by simpa [Cell.setSlot] using h.2.2.1, fun i => ?_⟩
  by_cases e : k = i
  · subst e; rw [Cell.slots_setSlot_self v hk, if_pos (by omega), hv]
  · rw [Cell.slots_setSlot_ne v e, h.2.2.2 i]
    by_cases q : lo ≤ i ∧ i < k
    · rw [if_pos q, if_pos (by omega)]
    · rw [if_neg q, if_neg (by omega)]
def U16 : String := "java/lang/StringUTF16"
namespace Cmp5
def yN : MethodName := ⟨"java/lang/StringUTF16", "compress", "([CI[BII)I"⟩
abbrev yB : ByteArray := jdk_52_method_21_code
theorem d0 : decode yB 0 = .ok (.iconst 0, 1) := by decide +kernel
theorem d1 : decode yB 1 = .ok (.istore 5, 2) := by decide +kernel
theorem d3 : decode yB 3 = .ok (.iload 5, 2) := by decide +kernel
theorem d5 : decode yB 5 = .ok (.iload 4, 2) := by decide +kernel
theorem d7 : decode yB 7 = .ok (.if_icmp (.ge) 37, 3) := by decide +kernel
theorem d10 : decode yB 10 = .ok (.aload_n 0, 1) := by decide +kernel
theorem d11 : decode yB 11 = .ok (.iload_n 1, 1) := by decide +kernel
theorem d12 : decode yB 12 = .ok (.caload, 1) := by decide +kernel
theorem d13 : decode yB 13 = .ok (.istore 6, 2) := by decide +kernel
theorem d15 : decode yB 15 = .ok (.iload 6, 2) := by decide +kernel
theorem d17 : decode yB 17 = .ok (.sipush 255, 3) := by decide +kernel
theorem d20 : decode yB 20 = .ok (.if_icmp (.le) 6, 3) := by decide +kernel
theorem d26 : decode yB 26 = .ok (.aload_n 2, 1) := by decide +kernel
theorem d27 : decode yB 27 = .ok (.iload_n 3, 1) := by decide +kernel
theorem d28 : decode yB 28 = .ok (.iload 6, 2) := by decide +kernel
theorem d30 : decode yB 30 = .ok (.i2b, 1) := by decide +kernel
theorem d31 : decode yB 31 = .ok (.bastore, 1) := by decide +kernel
theorem d32 : decode yB 32 = .ok (.iinc 1 1, 3) := by decide +kernel
theorem d35 : decode yB 35 = .ok (.iinc 3 1, 3) := by decide +kernel
theorem d38 : decode yB 38 = .ok (.iinc 5 1, 3) := by decide +kernel
theorem d41 : decode yB 41 = .ok (.goto (-38), 3) := by decide +kernel
theorem d44 : decode yB 44 = .ok (.iload 4, 2) := by decide +kernel
theorem d46 : decode yB 46 = .ok (.ireturn, 1) := by decide +kernel
def site : List Cond := []
def tab : Cond := tabOf yN yB 7 (some .int) site
def P (b : Addr) (A : Cell) (d : Addr) (B : Cell) (o q len : Nat) (args : Array Value) (s : State) : Prop := args = #[.ref b, .int (Int32.ofNat o), .ref d, .int (Int32.ofNat q), .int (Int32.ofNat len)] ∧ Ch b A s ∧ Arr .byte d B s ∧ b ≠ d ∧ o + len ≤ A.slots.size ∧ q + len ≤ B.slots.size ∧ ∀ i, i < len → ¬ 255 < cv A (o + i)
def E (b : Addr) (A : Cell) (d : Addr) (B : Cell) (o q len : Nat) (r : Option Value) (s u : State) : Prop := r = some (.int (Int32.ofNat len)) ∧ ∃ B', Put d B' s u ∧ Laid B B' q (q + len) (fun j => Value.int (lo8 (cv A (o + (j - q)))))
/-- no char of the range above 255: len; the places written hold each char's low byte -/
theorem law (l : Launch) (b : Addr) (A : Cell) (d : Addr) (B : Cell) (o q len : Nat) : Law l yN 5 5 0 0 yB 7 (some .int) site (P b A d B o q len) (E b A d B o q len) (copyLocs d q len) 0 0 := by
  refine Law.of_walk (plainFor_of_name (by decide +kernel)) (by decide +kernel) (by decide +kernel) (by decide) (fun _ _ h => by rw [h.1]; rfl) (fun _ U U' hal hh h => ⟨h.1, h.2.1.mv hal hh, h.2.2.1.mv hal hh, h.2.2.2⟩) (fun r U U' V V' h1 hal h2 h => ⟨h.1, h.2.elim fun B' q => ⟨B', q.1.mv h1 h2, q.2⟩⟩) ?_
  intro p e s m args below meth c s₁ X0 hexec hbytes hml hret hlk hnm hown hh0 W hP
  obtain ⟨rfl, hA, hB, hne, l1, l2, hp⟩ := hP
  have c1 : Steps p.tables e below (s₁.setTop (entryFrame m #[.ref b, .int (Int32.ofNat o), .ref d, .int (Int32.ofNat q), .int (Int32.ofNat len)] 7)) (s₁.setTop (mkF m 0 #[.val (.ref b), .val (.int (Int32.ofNat o)), .val (.ref d), .val (.int (Int32.ofNat q)), .val (.int (Int32.ofNat len)), .unset, .unset] [])) := entry rfl
  have hA0 := hA.1.mv X0.warmed.alike hh0
  have hB0 := hB.mv X0.warmed.alike hh0
  have a31 := hA.1.2.2.2
  have c2 : Steps p.tables e below (s₁.setTop (entryFrame m #[.ref b, .int (Int32.ofNat o), .ref d, .int (Int32.ofNat q), .int (Int32.ofNat len)] 7)) (s₁.setTop (mkF m 3 #[.val (.ref b), .val (.int (Int32.ofNat o)), .val (.ref d), .val (.int (Int32.ofNat q)), .val (.int (Int32.ofNat len)), .val (.int 0), .unset] [])) := c1.trans (by
    refine iconstV X0.here hexec rfl 0 (hb hbytes d0) (by decide) ?_
    refine XS.istore X0.here hexec rfl (hb hbytes d1) rfl rfl ?_
    exact Steps.refl _)
  have loop : ∀ (r i : Nat), i + r = len → ∀ (z : Slot), (z = .unset ∨ ∃ w, z = .val w ∧ w.category = 1) → ∀ (Tl : State) (Bk : Cell), Stand p l e { frames := 0, locals := 0, cells := 0, slots := 0 } s m #[.ref b, .int (Int32.ofNat o), .ref d, .int (Int32.ofNat q), .int (Int32.ofNat len)] below meth c Tl ([] ++ copyLocs d q i) 0 0 → Put d Bk s₁ Tl → Laid B Bk q (q + i) (fun j => Value.int (lo8 (cv A (o + (j - q))))) →
      Steps p.tables e below (s₁.setTop (entryFrame m #[.ref b, .int (Int32.ofNat o), .ref d, .int (Int32.ofNat q), .int (Int32.ofNat len)] 7)) (Tl.setTop (mkF m 3 #[.val (.ref b), .val (.int (Int32.ofNat (o + i))), .val (.ref d), .val (.int (Int32.ofNat (q + i))), .val (.int (Int32.ofNat len)), .val (.int (Int32.ofNat i)), z] [])) → ∃ (T' : State) (B' : Cell) (z' : Slot), Stand p l e { frames := 0, locals := 0, cells := 0, slots := 0 } s m #[.ref b, .int (Int32.ofNat o), .ref d, .int (Int32.ofNat q), .int (Int32.ofNat len)] below meth c T' ([] ++ copyLocs d q len) 0 0 ∧ Put d B' s₁ T' ∧ Laid B B' q (q + len) (fun j => Value.int (lo8 (cv A (o + (j - q))))) ∧
      Steps p.tables e below (s₁.setTop (entryFrame m #[.ref b, .int (Int32.ofNat o), .ref d, .int (Int32.ofNat q), .int (Int32.ofNat len)] 7)) (T'.setTop (mkF m 3 #[.val (.ref b), .val (.int (Int32.ofNat (o + len))), .val (.ref d), .val (.int (Int32.ofNat (q + len))), .val (.int (Int32.ofNat len)), .val (.int (Int32.ofNat len)), z'] [])) := by
    intro r
    induction r with
    | zero =>
      intro i hi z hz Tl Bk Xl pl fl cl
      have hil : i = len := by omega
      rw [hil] at Xl fl cl
      exact ⟨Tl, Bk, z, Xl, pl, fl, cl⟩
    | succ r ih =>
      intro i hi z hz Tl Bk Xl pl fl cl
      have all := X0.warmed.alike.symm.trans Xl.warmed.alike
      have hAl := hA0.keep all (pl.other hne hA0.1)
      have hBk := hB0.like all pl.1 fl.1 fl.2.1 fl.2.2.1
      have hlt : q + i < Bk.slots.size := by rw [fl.2.2.1]; omega
      have c3 : Steps p.tables e below (s₁.setTop (entryFrame m #[.ref b, .int (Int32.ofNat o), .ref d, .int (Int32.ofNat q), .int (Int32.ofNat len)] 7)) (Tl.setTop (mkF m 12 #[.val (.ref b), .val (.int (Int32.ofNat (o + i))), .val (.ref d), .val (.int (Int32.ofNat (q + i))), .val (.int (Int32.ofNat len)), .val (.int (Int32.ofNat i)), z] [.int (Int32.ofNat (o + i)), .ref b])) := cl.trans (by
        refine XS.iload Xl.here hexec rfl (hb hbytes d3) rfl ?_
        refine XS.iload Xl.here hexec rfl (hb hbytes d5) rfl ?_
        refine XS.icmpNo Xl.here hexec rfl (hb hbytes d7) rfl (ii_ge_f (lt32 (by omega) (by omega))) ?_
        refine XS.aloadN Xl.here hexec rfl (hb hbytes d10) rfl rfl ?_
        refine XS.iloadN Xl.here hexec rfl (hb hbytes d11) rfl ?_
        exact Steps.refl _)
      have c4 : Steps p.tables e below (s₁.setTop (entryFrame m #[.ref b, .int (Int32.ofNat o), .ref d, .int (Int32.ofNat q), .int (Int32.ofNat len)] 7)) (Tl.setTop (mkF m 13 #[.val (.ref b), .val (.int (Int32.ofNat (o + i))), .val (.ref d), .val (.int (Int32.ofNat (q + i))), .val (.int (Int32.ofNat len)), .val (.int (Int32.ofNat i)), z] [.int (cv A (o + i))])) := c3.trans (by
        refine Xl.aget hexec hAl rfl (hA.get (i := o + i) (by omega)) rfl rfl (hb hbytes d12) ?_
        exact Steps.refl _)
      have c5 : Steps p.tables e below (s₁.setTop (entryFrame m #[.ref b, .int (Int32.ofNat o), .ref d, .int (Int32.ofNat q), .int (Int32.ofNat len)] 7)) (Tl.setTop (mkF m 15 #[.val (.ref b), .val (.int (Int32.ofNat (o + i))), .val (.ref d), .val (.int (Int32.ofNat (q + i))), .val (.int (Int32.ofNat len)), .val (.int (Int32.ofNat i)), .val (.int (cv A (o + i)))] [])) := c4.trans (by
        refine XS.istoreS Xl.here hexec rfl (hb hbytes d13) rfl rfl hz ?_
        exact Steps.refl _)
      have c6 : Steps p.tables e below (s₁.setTop (entryFrame m #[.ref b, .int (Int32.ofNat o), .ref d, .int (Int32.ofNat q), .int (Int32.ofNat len)] 7)) (Tl.setTop (mkF m 31 #[.val (.ref b), .val (.int (Int32.ofNat (o + i))), .val (.ref d), .val (.int (Int32.ofNat (q + i))), .val (.int (Int32.ofNat len)), .val (.int (Int32.ofNat i)), .val (.int (cv A (o + i)))] [.int (lo8 (cv A (o + i))), .int (Int32.ofNat (q + i)), .ref d])) := c5.trans (by
        refine XS.iload Xl.here hexec rfl (hb hbytes d15) rfl ?_
        refine sipushV Xl.here hexec rfl 255 (hb hbytes d17) (by decide) ?_
        refine XS.icmpYes Xl.here hexec rfl (pc0 := 20) rfl (hb hbytes d20) rfl (ii_le_t (hp i (by omega))) (by decide) rfl ?_
        refine XS.aloadN Xl.here hexec rfl (hb hbytes d26) rfl rfl ?_
        refine XS.iloadN Xl.here hexec rfl (hb hbytes d27) rfl ?_
        refine XS.iload Xl.here hexec rfl (hb hbytes d28) rfl ?_
        refine i2b Xl.here hexec rfl (hb hbytes d30) rfl ?_
        exact Steps.refl _)
      obtain ⟨T7, X7, p7, st7⟩ := Xl.aput hexec hBk rfl hlt rfl (fits_lo8 (cv A (o + i))) (g := (mkF m 31 #[.val (.ref b), .val (.int (Int32.ofNat (o + i))), .val (.ref d), .val (.int (Int32.ofNat (q + i))), .val (.int (Int32.ofNat len)), .val (.int (Int32.ofNat i)), .val (.int (cv A (o + i)))] [.int (lo8 (cv A (o + i))), .int (Int32.ofNat (q + i)), .ref d])) rfl (rest := []) rfl (hb hbytes d31)
      have c8 : Steps p.tables e below (s₁.setTop (entryFrame m #[.ref b, .int (Int32.ofNat o), .ref d, .int (Int32.ofNat q), .int (Int32.ofNat len)] 7)) (T7.setTop (mkF m 32 #[.val (.ref b), .val (.int (Int32.ofNat (o + i))), .val (.ref d), .val (.int (Int32.ofNat (q + i))), .val (.int (Int32.ofNat len)), .val (.int (Int32.ofNat i)), .val (.int (cv A (o + i)))] [])) := c6.trans (st7 _ (Steps.refl _))
      have c9 : Steps p.tables e below (s₁.setTop (entryFrame m #[.ref b, .int (Int32.ofNat o), .ref d, .int (Int32.ofNat q), .int (Int32.ofNat len)] 7)) (T7.setTop (mkF m 3 #[.val (.ref b), .val (.int (Int32.ofNat (o + i) + 1)), .val (.ref d), .val (.int (Int32.ofNat (q + i) + 1)), .val (.int (Int32.ofNat len)), .val (.int (Int32.ofNat i + 1)), .val (.int (cv A (o + i)))] [])) := c8.trans (by
        refine iincV X7.here hexec rfl 1 (hb hbytes d32) (by decide) rfl rfl ?_
        refine iincV X7.here hexec rfl 1 (hb hbytes d35) (by decide) rfl rfl ?_
        refine iincV X7.here hexec rfl 1 (hb hbytes d38) (by decide) rfl rfl ?_
        refine XS.goto X7.here hexec rfl (pc0 := 41) rfl (hb hbytes d41) (by decide) rfl ?_
        exact Steps.refl _)
      have c10 : Steps p.tables e below (s₁.setTop (entryFrame m #[.ref b, .int (Int32.ofNat o), .ref d, .int (Int32.ofNat q), .int (Int32.ofNat len)] 7)) (T7.setTop (mkF m 3 #[.val (.ref b), .val (.int (Int32.ofNat (o + (i + 1)))), .val (.ref d), .val (.int (Int32.ofNat (q + (i + 1)))), .val (.int (Int32.ofNat len)), .val (.int (Int32.ofNat (i + 1))), .val (.int (cv A (o + i)))] [])) := by
        have := c9
        rw [succ32, succ32, succ32] at this
        exact this
      exact ih (i + 1) (by omega) _ (Or.inr ⟨_, rfl, rfl⟩) T7 _ (by rw [copyLocs_step, ← List.append_assoc]; exact X7) (pl.trans p7) (fl.step (by omega) hlt (by simp)) c10
  obtain ⟨T9, B9, z9, X9, p9, f9, g9⟩ := loop len 0 (by omega) .unset (Or.inl rfl) s₁ B (by simpa [copyLocs] using X0) ⟨hB0.1, fun _ _ => rfl, rfl⟩ (Laid.zero _ _ _) c2
  have c11 : Steps p.tables e below (s₁.setTop (entryFrame m #[.ref b, .int (Int32.ofNat o), .ref d, .int (Int32.ofNat q), .int (Int32.ofNat len)] 7)) (T9.setTop (mkF m 46 #[.val (.ref b), .val (.int (Int32.ofNat (o + len))), .val (.ref d), .val (.int (Int32.ofNat (q + len))), .val (.int (Int32.ofNat len)), .val (.int (Int32.ofNat len)), z9] [.int (Int32.ofNat len)])) := g9.trans (by
    refine XS.iload X9.here hexec rfl (hb hbytes d3) rfl ?_
    refine XS.iload X9.here hexec rfl (hb hbytes d5) rfl ?_
    refine XS.icmpYes X9.here hexec rfl (pc0 := 7) rfl (hb hbytes d7) rfl (ii_ge_t (nlt32 (by omega) (Nat.le_refl _))) (by decide) rfl ?_
    refine XS.iload X9.here hexec rfl (hb hbytes d44) rfl ?_
    exact Steps.refl _)
  exact ⟨T9, some (.int (Int32.ofNat len)), _, _, _, X9, by simp, rfl, rfl, (fun h => by cases h), ⟨rfl, B9, p9.from hh0, f9⟩, fun fs hl => c11.trans (X9.ireturnOut hexec hret rfl (Or.inl rfl) (hb hbytes d46) hl)⟩
end Cmp5
namespace Cmp3
def yN : MethodName := ⟨"java/lang/StringUTF16", "compress", "([CII)[B"⟩
abbrev yB : ByteArray := jdk_52_method_16_code
theorem d0 : decode yB 0 = .ok (.iload_n 2, 1) := by decide +kernel
theorem d1 : decode yB 1 = .ok (.newarray .byte, 2) := by decide +kernel
theorem d3 : decode yB 3 = .ok (.astore_n 3, 1) := by decide +kernel
theorem d4 : decode yB 4 = .ok (.aload_n 0, 1) := by decide +kernel
theorem d5 : decode yB 5 = .ok (.iload_n 1, 1) := by decide +kernel
theorem d6 : decode yB 6 = .ok (.aload_n 3, 1) := by decide +kernel
theorem d7 : decode yB 7 = .ok (.iconst 0, 1) := by decide +kernel
theorem d8 : decode yB 8 = .ok (.iload_n 2, 1) := by decide +kernel
theorem d9 : decode yB 9 = .ok (.invokestatic 115, 3) := by decide +kernel
theorem d12 : decode yB 12 = .ok (.istore 4, 2) := by decide +kernel
theorem d14 : decode yB 14 = .ok (.iload 4, 2) := by decide +kernel
theorem d16 : decode yB 16 = .ok (.iload_n 2, 1) := by decide +kernel
theorem d17 : decode yB 17 = .ok (.if_icmp (.eq) 40, 3) := by decide +kernel
theorem d57 : decode yB 57 = .ok (.aload_n 3, 1) := by decide +kernel
theorem d58 : decode yB 58 = .ok (.areturn, 1) := by decide +kernel
def site : List Cond := [.arrayClass .byte, Cmp5.tab] ++ staticW U16 115 Cmp5.yN
def tab : Cond := tabOf yN yB 6 (some (.array .byte)) site
def P (b : Addr) (A : Cell) (o len : Nat) (args : Array Value) (s : State) : Prop := args = #[.ref b, .int (Int32.ofNat o), .int (Int32.ofNat len)] ∧ Ch b A s ∧ o + len ≤ A.slots.size ∧ len ≤ 536870912 ∧ ∀ i, i < len → ¬ 255 < cv A (o + i)
def E (b : Addr) (A : Cell) (o len : Nat) (r : Option Value) (s u : State) : Prop := NewArr .byte "[B" len (fun j => .int (lo8 (cv A (o + j)))) r s u ∧ u.heap.size = s.heap.size + 1
/-- no char of the range above 255: a new byte[] of their low bytes -/
theorem law (l : Launch) (b : Addr) (A : Cell) (o len : Nat) : Law l yN 3 3 1 18 yB 6 (some (.array .byte)) site (P b A o len) (E b A o len) [] 1 len := by
  refine Law.of_walk (plainFor_of_name (by decide +kernel)) (by decide +kernel) (by decide +kernel) (by decide) (fun _ _ h => by rw [h.1]; rfl) (fun _ U U' hal hh h => ⟨h.1, h.2.1.mv hal hh, h.2.2⟩) (fun r U U' V V' h1 hal h2 h => ⟨NewArr.mv r U U' V V' h1 hal h2 h.1, by rw [h1, h2]; exact h.2⟩) ?_
  intro p e s m args below meth c s₁ X0 hexec hbytes hml hret hlk hnm hown hh0 W hP
  obtain ⟨rfl, hA, l1, l2, hp⟩ := hP
  have a31 := hA.1.2.2.2
  have c1 : Steps p.tables e below (s₁.setTop (entryFrame m #[.ref b, .int (Int32.ofNat o), .int (Int32.ofNat len)] 6)) (s₁.setTop (mkF m 0 #[.val (.ref b), .val (.int (Int32.ofNat o)), .val (.int (Int32.ofNat len)), .unset, .unset, .unset] [])) := entry rfl
  have c2 : Steps p.tables e below (s₁.setTop (entryFrame m #[.ref b, .int (Int32.ofNat o), .int (Int32.ofNat len)] 6)) (s₁.setTop (mkF m 1 #[.val (.ref b), .val (.int (Int32.ofNat o)), .val (.int (Int32.ofNat len)), .unset, .unset, .unset] [.int (Int32.ofNat len)])) := c1.trans (by
    refine XS.iloadN X0.here hexec rfl (hb hbytes d0) rfl ?_
    exact Steps.refl _)
  obtain ⟨T3, B3, X3, ba3, bs3, bv3, bh3, bf3, st3⟩ := X0.anew hexec (atype := .byte) (wk W (.arrayClass .byte)) rfl (by show len * 1 ≤ _; omega) (by omega) (g := (mkF m 1 #[.val (.ref b), .val (.int (Int32.ofNat o)), .val (.int (Int32.ofNat len)), .unset, .unset, .unset] [.int (Int32.ofNat len)])) rfl (hb hbytes d1) (rest := []) rfl (Nat.le_refl _) (by show 0 + len ≤ len; omega)
  rw [hh0] at ba3 st3
  have kp3 : XT.Kept s T3 := (XT.Kept.of_eq hh0).push bh3
  have hA3 := hA.keep X3.warmed.alike (kp3 _ _ hA.1.1)
  have hne : b ≠ s.heap.size := hA.1.ne
  have c4 : Steps p.tables e below (s₁.setTop (entryFrame m #[.ref b, .int (Int32.ofNat o), .int (Int32.ofNat len)] 6)) (T3.setTop (mkF m 3 #[.val (.ref b), .val (.int (Int32.ofNat o)), .val (.int (Int32.ofNat len)), .unset, .unset, .unset] [.ref s.heap.size])) := c2.trans (st3 _ (Steps.refl _))
  have c5 : Steps p.tables e below (s₁.setTop (entryFrame m #[.ref b, .int (Int32.ofNat o), .int (Int32.ofNat len)] 6)) (T3.setTop (mkF m 9 #[.val (.ref b), .val (.int (Int32.ofNat o)), .val (.int (Int32.ofNat len)), .val (.ref s.heap.size), .unset, .unset] [.int (Int32.ofNat len), .int 0, .ref s.heap.size, .int (Int32.ofNat o), .ref b])) := c4.trans (by
    refine XS.astoreN X3.here hexec rfl (hb hbytes d3) rfl rfl rfl ?_
    refine XS.aloadN X3.here hexec rfl (hb hbytes d4) rfl rfl ?_
    refine XS.iloadN X3.here hexec rfl (hb hbytes d5) rfl ?_
    refine XS.aloadN X3.here hexec rfl (hb hbytes d6) rfl rfl ?_
    refine iconstV X3.here hexec rfl 0 (hb hbytes d7) (by decide) ?_
    refine XS.iloadN X3.here hexec rfl (hb hbytes d8) rfl ?_
    exact Steps.refl _)
  obtain ⟨v6, T6, X6, E6, g6⟩ := X3.callS hexec (Cmp5.law l b A s.heap.size B3 o 0 len) hown (wks W (staticW U16 115 Cmp5.yN)) (wk W Cmp5.tab) (W := 0) (Nat.le_of_ble_eq_true rfl) (Nat.le_of_ble_eq_true rfl) (Nat.le_refl _) (by show 0 + len + 0 ≤ len; omega) (g := (mkF m 9 #[.val (.ref b), .val (.int (Int32.ofNat o)), .val (.int (Int32.ofNat len)), .val (.ref s.heap.size), .unset, .unset] [.int (Int32.ofNat len), .int (Int32.ofNat 0), .ref s.heap.size, .int (Int32.ofNat o), .ref b])) rfl (by rw [hml]; rfl) c5 (argsL := [.ref b, .int (Int32.ofNat o), .ref s.heap.size, .int (Int32.ofNat 0), .int (Int32.ofNat len)]) (rest := []) rfl rfl (by show 2 * 0 + 0 ≤ _; decide) (hb hbytes d9) (⟨rfl, hA3, ba3, hne, l1, by rw [bs3]; simp, hp⟩)
  obtain ⟨rfl, B6, p6, f6⟩ := E6
  have c7 : Steps p.tables e below (s₁.setTop (entryFrame m #[.ref b, .int (Int32.ofNat o), .int (Int32.ofNat len)] 6)) (T6.setTop (mkF m 12 #[.val (.ref b), .val (.int (Int32.ofNat o)), .val (.int (Int32.ofNat len)), .val (.ref s.heap.size), .unset, .unset] [.int (Int32.ofNat len)])) := g6
  have c8 : Steps p.tables e below (s₁.setTop (entryFrame m #[.ref b, .int (Int32.ofNat o), .int (Int32.ofNat len)] 6)) (T6.setTop (mkF m 58 #[.val (.ref b), .val (.int (Int32.ofNat o)), .val (.int (Int32.ofNat len)), .val (.ref s.heap.size), .val (.int (Int32.ofNat len)), .unset] [.ref s.heap.size])) := c7.trans (by
    refine XS.istore X6.here hexec rfl (hb hbytes d12) rfl rfl ?_
    refine XS.iload X6.here hexec rfl (hb hbytes d14) rfl ?_
    refine XS.iloadN X6.here hexec rfl (hb hbytes d16) rfl ?_
    refine XS.icmpYes X6.here hexec rfl (pc0 := 17) rfl (hb hbytes d17) rfl (ii_eq_t rfl) (by decide) rfl ?_
    refine XS.aloadN X6.here hexec rfl (hb hbytes d57) rfl rfl ?_
    exact Steps.refl _)
  have X8 := X6.wide (L' := []) (cells' := 1) (slots' := len) (fun x hx hlt => by
    simp only [List.nil_append, copyLocs, List.mem_map, List.mem_range] at hx
    obtain ⟨i, -, rfl⟩ := hx
    exact absurd hlt (Nat.lt_irrefl _)) (Nat.le_refl _) (by omega)
  exact ⟨T6, some (.ref s.heap.size), _, _, _, X8, rfl, rfl, rfl, (fun h => by cases h), ⟨⟨rfl, B6, ba3.like (X3.warmed.alike.symm.trans X6.warmed.alike) p6.1 f6.1 f6.2.1 f6.2.2.1, f6.2.1.trans bv3, by rw [X6.warmed.alike.findClass, f6.1]; exact bf3, by rw [f6.2.2.1, bs3]; simp, fun j hj => by rw [f6.2.2.2 j, if_pos (by omega)]; rfl, kp3.put p6 (Nat.le_refl _)⟩, by rw [p6.2.2, bh3, hh0]; simp⟩, fun fs hl => c8.trans (X8.areturnOut hexec rfl hret rfl (hb hbytes d58) hl)⟩
end Cmp3
namespace CodL
def yN : MethodName := ⟨"java/lang/StringUTF16", "coderFromArrayLen", "([BI)B"⟩
abbrev yB : ByteArray := jdk_52_method_15_code
theorem d0 : decode yB 0 = .ok (.iload_n 1, 1) := by decide +kernel
theorem d1 : decode yB 1 = .ok (.aload_n 0, 1) := by decide +kernel
theorem d2 : decode yB 2 = .ok (.arraylength, 1) := by decide +kernel
theorem d3 : decode yB 3 = .ok (.isub, 1) := by decide +kernel
theorem d4 : decode yB 4 = .ok (.bipush 31, 2) := by decide +kernel
theorem d6 : decode yB 6 = .ok (.iushr, 1) := by decide +kernel
theorem d7 : decode yB 7 = .ok (.i2b, 1) := by decide +kernel
theorem d8 : decode yB 8 = .ok (.ireturn, 1) := by decide +kernel
def site : List Cond := []
def tab : Cond := tabOf yN yB 2 (some .byte) site
def P (d : Addr) (B : Cell) (args : Array Value) (s : State) : Prop := args = #[.ref d, .int (Int32.ofNat B.slots.size)] ∧ Arr .byte d B s
def E (r : Option Value) (s u : State) : Prop := XT.PureE (some (.int 0)) r s u
/-- an array as long as the number of chars: LATIN1 -/
theorem law (l : Launch) (d : Addr) (B : Cell) : Law l yN 2 2 0 0 yB 2 (some .byte) site (P d B) E [] 0 0 := by
  refine Law.of_walk (plainFor_of_name (by decide +kernel)) (by decide +kernel) (by decide +kernel) (by decide) (fun _ _ h => by rw [h.1]; rfl) (fun _ U U' hal hh h => ⟨h.1, h.2.mv hal hh⟩) (fun r U U' V V' h1 hal h2 h => XT.PureE.mv r U U' V V' h1 hal h2 h) ?_
  intro p e s m args below meth c s₁ X0 hexec hbytes hml hret hlk hnm hown hh0 W hP
  obtain ⟨rfl, hB⟩ := hP
  have hB0 := hB.mv X0.warmed.alike hh0
  have c1 : Steps p.tables e below (s₁.setTop (entryFrame m #[.ref d, .int (Int32.ofNat B.slots.size)] 2)) (s₁.setTop (mkF m 0 #[.val (.ref d), .val (.int (Int32.ofNat B.slots.size))] [])) := entry rfl
  have c2 : Steps p.tables e below (s₁.setTop (entryFrame m #[.ref d, .int (Int32.ofNat B.slots.size)] 2)) (s₁.setTop (mkF m 2 #[.val (.ref d), .val (.int (Int32.ofNat B.slots.size))] [.ref d, .int (Int32.ofNat B.slots.size)])) := c1.trans (by
    refine XS.iloadN X0.here hexec rfl (hb hbytes d0) rfl ?_
    refine XS.aloadN X0.here hexec rfl (hb hbytes d1) rfl rfl ?_
    exact Steps.refl _)
  have c3 : Steps p.tables e below (s₁.setTop (entryFrame m #[.ref d, .int (Int32.ofNat B.slots.size)] 2)) (s₁.setTop (mkF m 8 #[.val (.ref d), .val (.int (Int32.ofNat B.slots.size))] [.int (lo8 (ushr (Int32.ofNat B.slots.size - Int32.ofNat B.slots.size) 31))])) := c2.trans (by
    refine X0.alen hexec hB0 rfl rfl (hb hbytes d2) ?_
    refine XS.isub X0.here hexec rfl (hb hbytes d3) rfl ?_
    refine bipushV X0.here hexec rfl 31 (hb hbytes d4) (by decide) ?_
    refine iushr X0.here hexec rfl (hb hbytes d6) rfl ?_
    refine i2b X0.here hexec rfl (hb hbytes d7) rfl ?_
    exact Steps.refl _)
  have e0 : lo8 (ushr (Int32.ofNat B.slots.size - Int32.ofNat B.slots.size) 31) = 0 := by rw [Int32.sub_self]; decide
  rw [e0] at c3
  exact ⟨s₁, some (.int 0), _, _, _, X0, rfl, rfl, rfl, (fun h => by cases h), ⟨rfl, hh0⟩, fun fs hl => c3.trans (X0.ireturnOut hexec hret rfl (Or.inr (Or.inr (Or.inl rfl))) (hb hbytes d8) hl)⟩
end CodL
/-- the String at a is Latin-1 over a new byte[] (the heap's one new cell): the low bytes of the len chars of A from o on; every cell but a is kept -/
def Got (a : Addr) (D : Cell) (fV fC : Field) (A : Cell) (o len : Nat) (r : Option Value) (s u : State) : Prop := r = none ∧ ∃ D' V : Cell, Blank "java/lang/String" a D' u ∧ Same D D' [fV.slot, fC.slot] ∧ D'.slots[fV.slot]? = some (.ref s.heap.size) ∧ D'.slots[fC.slot]? = some (.int 0) ∧ Arr .byte s.heap.size V u ∧ V.vm = .none ∧ u.vm.findClass "[B" = some V.cls ∧ V.slots.size = len ∧ (∀ j, j < len → V.slots[j]? = some (.int (lo8 (cv A (o + j))))) ∧ (∀ (y : Addr) (c : Cell), y ≠ a → s.heap[y]? = some c → u.heap[y]? = some c) ∧ u.heap.size = s.heap.size + 1
theorem Got.mv {a : Addr} {D A : Cell} {fV fC : Field} {o len : Nat} : ∀ r (U U' V V' : State), U'.heap = U.heap → V.vm.Alike V'.vm → V'.heap = V.heap → Got a D fV fC A o len r U V → Got a D fV fC A o len r U' V' :=
  fun r U U' V V' h1 hal h2 ⟨e0, D', X, a1, a2, a3, a4, a5, a6, a7, a8, a9, a10, a11⟩ => ⟨e0, D', X, a1.mv hal h2, a2, by rw [h1]; exact a3, a4, by rw [h1]; exact a5.mv hal h2, a6, by rw [hal.findClass]; exact a7, a8, a9, by rw [h1, h2]; exact a10, by rw [h1, h2]; exact a11⟩
namespace New4
def yN : MethodName := ⟨"java/lang/String", "<init>", "([CIILjava/lang/Void;)V"⟩
abbrev yB : ByteArray := jdk_42_method_149_code
theorem d0 : decode yB 0 = .ok (.aload_n 0, 1) := by decide +kernel
theorem d1 : decode yB 1 = .ok (.invokespecial 1, 3) := by decide +kernel
theorem d4 : decode yB 4 = .ok (.iload_n 3, 1) := by decide +kernel
theorem d5 : decode yB 5 = .ok (.ifCond (.ne) 22, 3) := by decide +kernel
theorem d27 : decode yB 27 = .ok (.getstatic 38, 3) := by decide +kernel
theorem d30 : decode yB 30 = .ok (.ifCond (.eq) 28, 3) := by decide +kernel
theorem d33 : decode yB 33 = .ok (.aload_n 1, 1) := by decide +kernel
theorem d34 : decode yB 34 = .ok (.iload_n 2, 1) := by decide +kernel
theorem d35 : decode yB 35 = .ok (.iload_n 3, 1) := by decide +kernel
theorem d36 : decode yB 36 = .ok (.invokestatic 177, 3) := by decide +kernel
theorem d39 : decode yB 39 = .ok (.astore 5, 2) := by decide +kernel
theorem d41 : decode yB 41 = .ok (.aload_n 0, 1) := by decide +kernel
theorem d42 : decode yB 42 = .ok (.aload 5, 2) := by decide +kernel
theorem d44 : decode yB 44 = .ok (.iload_n 3, 1) := by decide +kernel
theorem d45 : decode yB 45 = .ok (.invokestatic 47, 3) := by decide +kernel
theorem d48 : decode yB 48 = .ok (.putfield 15, 3) := by decide +kernel
theorem d51 : decode yB 51 = .ok (.aload_n 0, 1) := by decide +kernel
theorem d52 : decode yB 52 = .ok (.aload 5, 2) := by decide +kernel
theorem d54 : decode yB 54 = .ok (.putfield 9, 3) := by decide +kernel
theorem d57 : decode yB 57 = .ok (.return_, 1) := by decide +kernel
def site : List Cond := [.fieldLink "java/lang/String" 38 "java/lang/String" "COMPACT_STRINGS" "Z", Cmp3.tab, CodL.tab, .laysFinal "java/lang/String" "java/lang/String" "value" "[B", .fieldLink "java/lang/String" 9 "java/lang/String" "value" "[B", .laysFinal "java/lang/String" "java/lang/String" "coder" "B", .fieldLink "java/lang/String" 15 "java/lang/String" "coder" "B"] ++ objW "java/lang/String" 1 ++ staticW "java/lang/String" 177 Cmp3.yN ++ staticW "java/lang/String" 47 CodL.yN
def tab : Cond := tabOf yN yB 6 none site
def P (a : Addr) (D : Cell) (fV fC : Field) (b : Addr) (A : Cell) (z : Int32) (o len : Nat) (args : Array Value) (s : State) : Prop := args = #[.ref a, .ref b, .int (Int32.ofNat o), .int (Int32.ofNat len), .null] ∧ Blank "java/lang/String" a D s ∧ Found "java/lang/String" "value" "[B" fV s ∧ Found "java/lang/String" "coder" "B" fC s ∧ Ch b A s ∧ StaticIs s "java/lang/String" "COMPACT_STRINGS" "Z" (.int z) ∧ ¬ z = 0 ∧ 0 < len ∧ o + len ≤ A.slots.size ∧ len ≤ 536870912 ∧ ∀ i, i < len → ¬ 255 < cv A (o + i)
def E (a : Addr) (D : Cell) (fV fC : Field) (A : Cell) (o len : Nat) (r : Option Value) (s u : State) : Prop := Got a D fV fC A o len r s u
/-- len > 0, no char of the range above 255: a Latin-1 String of their low bytes -/
theorem law (l : Launch) (a : Addr) (D : Cell) (fV fC : Field) (b : Addr) (A : Cell) (z : Int32) (o len : Nat) : Law l yN 5 4 2 35 yB 6 none site (P a D fV fC b A z o len) (E a D fV fC A o len) [⟨a, fC.slot⟩, ⟨a, fV.slot⟩] 1 len := by
  refine Law.of_walk (plainFor_of_name (by decide +kernel)) (by decide +kernel) (by decide +kernel) (by decide) (fun _ _ h => by rw [h.1]; rfl) (fun _ U U' hal hh h => ⟨h.1, h.2.1.mv hal hh, h.2.2.1.al hal, h.2.2.2.1.al hal, h.2.2.2.2.1.mv hal hh, h.2.2.2.2.2.1.there hal hh, h.2.2.2.2.2.2⟩) (fun r U U' V V' h1 hal h2 h => Got.mv r U U' V V' h1 hal h2 h) ?_
  intro p e s m args below meth c s₁ X0 hexec hbytes hml hret hlk hnm hown hh0 W hP
  obtain ⟨rfl, hB, f1, f2, hA, s1, hz, l0, l1, l2, hp⟩ := hP
  have a31 := hA.1.2.2.2
  have c1 : Steps p.tables e below (s₁.setTop (entryFrame m #[.ref a, .ref b, .int (Int32.ofNat o), .int (Int32.ofNat len), .null] 6)) (s₁.setTop (mkF m 0 #[.val (.ref a), .val (.ref b), .val (.int (Int32.ofNat o)), .val (.int (Int32.ofNat len)), .val .null, .unset] [])) := entry rfl
  have c2 : Steps p.tables e below (s₁.setTop (entryFrame m #[.ref a, .ref b, .int (Int32.ofNat o), .int (Int32.ofNat len), .null] 6)) (s₁.setTop (mkF m 1 #[.val (.ref a), .val (.ref b), .val (.int (Int32.ofNat o)), .val (.int (Int32.ofNat len)), .val .null, .unset] [.ref a])) := c1.trans (by
    refine XS.aloadN X0.here hexec rfl (hb hbytes d0) rfl rfl ?_
    exact Steps.refl _)
  obtain ⟨T3, X3, q3, st3⟩ := X0.oinit hexec hown (wks W (objW "java/lang/String" 1)) (g := (mkF m 1 #[.val (.ref a), .val (.ref b), .val (.int (Int32.ofNat o)), .val (.int (Int32.ofNat len)), .val .null, .unset] [.ref a])) rfl (by rw [hml]; rfl) (rest := []) rfl (hb hbytes d1) (W := 0) (by show 2 * 0 + 0 ≤ _; decide) (Nat.le_of_ble_eq_true rfl) (Nat.le_of_ble_eq_true rfl)
  have hh3 := q3.trans hh0
  have c4 : Steps p.tables e below (s₁.setTop (entryFrame m #[.ref a, .ref b, .int (Int32.ofNat o), .int (Int32.ofNat len), .null] 6)) (T3.setTop (mkF m 27 #[.val (.ref a), .val (.ref b), .val (.int (Int32.ofNat o)), .val (.int (Int32.ofNat len)), .val .null, .unset] [])) := (c2.trans (st3 _ (Steps.refl _))).trans (by
    refine XS.iloadN X3.here hexec rfl (hb hbytes d4) rfl ?_
    refine XS.ifYes X3.here hexec rfl (pc0 := 5) rfl (hb hbytes d5) rfl (i0_ne_t (nz32 (by omega) l0)) (by decide) rfl ?_
    exact Steps.refl _)
  obtain ⟨T5, X5, q5, st5⟩ := X3.sget hexec hown (wk W (.fieldLink "java/lang/String" 38 "java/lang/String" "COMPACT_STRINGS" "Z")) s1 (fun _ _ h => by rw [hh3]; exact h) (g := (mkF m 27 #[.val (.ref a), .val (.ref b), .val (.int (Int32.ofNat o)), .val (.int (Int32.ofNat len)), .val .null, .unset] [])) rfl (hb hbytes d27)
  have hh5 := q5.trans hh3
  have c6 : Steps p.tables e below (s₁.setTop (entryFrame m #[.ref a, .ref b, .int (Int32.ofNat o), .int (Int32.ofNat len), .null] 6)) (T5.setTop (mkF m 30 #[.val (.ref a), .val (.ref b), .val (.int (Int32.ofNat o)), .val (.int (Int32.ofNat len)), .val .null, .unset] [.int z])) := c4.trans (st5 _ (Steps.refl _))
  have c7 : Steps p.tables e below (s₁.setTop (entryFrame m #[.ref a, .ref b, .int (Int32.ofNat o), .int (Int32.ofNat len), .null] 6)) (T5.setTop (mkF m 36 #[.val (.ref a), .val (.ref b), .val (.int (Int32.ofNat o)), .val (.int (Int32.ofNat len)), .val .null, .unset] [.int (Int32.ofNat len), .int (Int32.ofNat o), .ref b])) := c6.trans (by
    refine XS.ifNo X5.here hexec rfl (hb hbytes d30) rfl (i0_eq_f hz) ?_
    refine XS.aloadN X5.here hexec rfl (hb hbytes d33) rfl rfl ?_
    refine XS.iloadN X5.here hexec rfl (hb hbytes d34) rfl ?_
    refine XS.iloadN X5.here hexec rfl (hb hbytes d35) rfl ?_
    exact Steps.refl _)
  obtain ⟨v8, T8, X8, E8, g8⟩ := X5.callS hexec (Cmp3.law l b A o len) hown (wks W (staticW "java/lang/String" 177 Cmp3.yN)) (wk W Cmp3.tab) (W := 0) (Nat.le_of_ble_eq_true rfl) (Nat.le_of_ble_eq_true rfl) (Nat.le_refl _) (by show 0 + len ≤ len; omega) (g := (mkF m 36 #[.val (.ref a), .val (.ref b), .val (.int (Int32.ofNat o)), .val (.int (Int32.ofNat len)), .val .null, .unset] [.int (Int32.ofNat len), .int (Int32.ofNat o), .ref b])) rfl (by rw [hml]; rfl) c7 (argsL := [.ref b, .int (Int32.ofNat o), .int (Int32.ofNat len)]) (rest := []) rfl rfl (by show 2 * 0 + 0 ≤ _; decide) (hb hbytes d36) (⟨rfl, hA.mv X5.warmed.alike hh5, l1, l2, hp⟩)
  obtain ⟨e8, z8⟩ := E8
  obtain ⟨rfl, N, n1, n2, n3, n4, n5, n6⟩ := NewArr.mv _ T5 s _ _ hh5.symm (Vm.Alike.refl _) rfl e8
  rw [hh5] at z8
  have hB1 := hB.keep X8.warmed.alike (n6 _ _ hB.1)
  have hne : s.heap.size ≠ a := (Nat.ne_of_lt (Array.getElem?_eq_some_iff.mp hB.1).1).symm
  have c9 : Steps p.tables e below (s₁.setTop (entryFrame m #[.ref a, .ref b, .int (Int32.ofNat o), .int (Int32.ofNat len), .null] 6)) (T8.setTop (mkF m 39 #[.val (.ref a), .val (.ref b), .val (.int (Int32.ofNat o)), .val (.int (Int32.ofNat len)), .val .null, .unset] [.ref s.heap.size])) := g8
  have c10 : Steps p.tables e below (s₁.setTop (entryFrame m #[.ref a, .ref b, .int (Int32.ofNat o), .int (Int32.ofNat len), .null] 6)) (T8.setTop (mkF m 45 #[.val (.ref a), .val (.ref b), .val (.int (Int32.ofNat o)), .val (.int (Int32.ofNat len)), .val .null, .val (.ref s.heap.size)] [.int (Int32.ofNat N.slots.size), .ref s.heap.size, .ref a])) := by
    have hc : Steps p.tables e below (s₁.setTop (entryFrame m #[.ref a, .ref b, .int (Int32.ofNat o), .int (Int32.ofNat len), .null] 6)) (T8.setTop (mkF m 45 #[.val (.ref a), .val (.ref b), .val (.int (Int32.ofNat o)), .val (.int (Int32.ofNat len)), .val .null, .val (.ref s.heap.size)] [.int (Int32.ofNat len), .ref s.heap.size, .ref a])) := c9.trans (by
      refine XS.astore X8.here hexec rfl (hb hbytes d39) rfl rfl rfl ?_
      refine XS.aloadN X8.here hexec rfl (hb hbytes d41) rfl rfl ?_
      refine XS.aload X8.here hexec rfl (hb hbytes d42) rfl rfl ?_
      refine XS.iloadN X8.here hexec rfl (hb hbytes d44) rfl ?_
      exact Steps.refl _)
    rw [n4]; exact hc
  obtain ⟨v11, T11, X11, E11, g11⟩ := X8.callS hexec (CodL.law l s.heap.size N) hown (wks W (staticW "java/lang/String" 47 CodL.yN)) (wk W CodL.tab) (W := 1) (Nat.le_of_ble_eq_true rfl) (Nat.le_of_ble_eq_true rfl) (Nat.le_refl _) (by show 0 + len + 0 ≤ len; omega) (g := (mkF m 45 #[.val (.ref a), .val (.ref b), .val (.int (Int32.ofNat o)), .val (.int (Int32.ofNat len)), .val .null, .val (.ref s.heap.size)] [.int (Int32.ofNat N.slots.size), .ref s.heap.size, .ref a])) rfl (by rw [hml]; rfl) c10 (argsL := [.ref s.heap.size, .int (Int32.ofNat N.slots.size)]) (rest := [.ref a]) rfl rfl (by show 2 * 0 + (1 + 0) ≤ _; decide) (hb hbytes d45) (⟨rfl, n1⟩)
  obtain ⟨rfl, q11⟩ := E11
  have hB11 := hB1.mv (X8.warmed.alike.symm.trans X11.warmed.alike) q11
  have c12 : Steps p.tables e below (s₁.setTop (entryFrame m #[.ref a, .ref b, .int (Int32.ofNat o), .int (Int32.ofNat len), .null] 6)) (T11.setTop (mkF m 48 #[.val (.ref a), .val (.ref b), .val (.int (Int32.ofNat o)), .val (.int (Int32.ofNat len)), .val .null, .val (.ref s.heap.size)] [.int 0, .ref a])) := g11
  obtain ⟨T13, X13, p13, bl13, sl13, st13⟩ := X11.finit hexec hown (wk W (.fieldLink "java/lang/String" 15 "java/lang/String" "coder" "B")) (Or.inr ⟨_, (wk W (.laysFinal "java/lang/String" "java/lang/String" "coder" "B"))⟩) (Or.inl ⟨rfl, hnm⟩) f2 (Or.inl rfl) hB11 (t := .byte) (by decide +kernel) rfl (g := (mkF m 48 #[.val (.ref a), .val (.ref b), .val (.int (Int32.ofNat o)), .val (.int (Int32.ofNat len)), .val .null, .val (.ref s.heap.size)] [.int 0, .ref a])) rfl (rest := []) rfl (hb hbytes d48)
  have c14 : Steps p.tables e below (s₁.setTop (entryFrame m #[.ref a, .ref b, .int (Int32.ofNat o), .int (Int32.ofNat len), .null] 6)) (T13.setTop (mkF m 54 #[.val (.ref a), .val (.ref b), .val (.int (Int32.ofNat o)), .val (.int (Int32.ofNat len)), .val .null, .val (.ref s.heap.size)] [.ref s.heap.size, .ref a])) := (c12.trans (st13 _ (Steps.refl _))).trans (by
    refine XS.aloadN X13.here hexec rfl (hb hbytes d51) rfl rfl ?_
    refine XS.aload X13.here hexec rfl (hb hbytes d52) rfl rfl ?_
    exact Steps.refl _)
  obtain ⟨T15, X15, p15, bl15, sl15, st15⟩ := X13.finit hexec hown (wk W (.fieldLink "java/lang/String" 9 "java/lang/String" "value" "[B")) (Or.inr ⟨_, (wk W (.laysFinal "java/lang/String" "java/lang/String" "value" "[B"))⟩) (Or.inl ⟨rfl, hnm⟩) f1 (Or.inl rfl) bl13 (t := (.array .byte)) (by decide +kernel) rfl (g := (mkF m 54 #[.val (.ref a), .val (.ref b), .val (.int (Int32.ofNat o)), .val (.int (Int32.ofNat len)), .val .null, .val (.ref s.heap.size)] [.ref s.heap.size, .ref a])) rfl (rest := []) rfl (hb hbytes d54)
  have c16 : Steps p.tables e below (s₁.setTop (entryFrame m #[.ref a, .ref b, .int (Int32.ofNat o), .int (Int32.ofNat len), .null] 6)) (T15.setTop (mkF m 57 #[.val (.ref a), .val (.ref b), .val (.int (Int32.ofNat o)), .val (.int (Int32.ofNat len)), .val .null, .val (.ref s.heap.size)] [])) := c14.trans (st15 _ (Steps.refl _))
  have ap := apart (Or.inr ⟨_, (wk W (.laysFinal "java/lang/String" "java/lang/String" "value" "[B"))⟩) (Or.inr ⟨_, (wk W (.laysFinal "java/lang/String" "java/lang/String" "coder" "B"))⟩) f1 f2 (t₁ := .array .byte) (t₂ := .byte) (by decide +kernel) (by decide +kernel) (by decide)
  have al := X8.warmed.alike.symm.trans X15.warmed.alike
  have n7 : T11.heap[s.heap.size]? = some N := by rw [q11]; exact n1.1
  exact ⟨T15, none, _, _, _, X15, by simp, rfl, by omega, (fun _ => rfl), ⟨rfl, _, N, bl15, ((Same.refl D _).set _ (by simp)).set _ (by simp), sl15, (Cell.slots_setSlot_ne _ ap).trans sl13, n1.keep al (p15.other hne (p13.other hne n7)), n2, by rw [al.findClass]; exact n3, n4, n5, fun y c h1 h2 => p15.other h1 (p13.other h1 (by rw [q11]; exact n6 y c h2)), by rw [p15.2.2, p13.2.2, q11]; exact z8⟩, fun fs hl => c16.trans (X15.returnOut hexec hret (hb hbytes d57) hl)⟩
end New4
namespace New1
def yN : MethodName := ⟨"java/lang/String", "<init>", "([C)V"⟩
abbrev yB : ByteArray := jdk_42_method_3_code
theorem d0 : decode yB 0 = .ok (.aload_n 0, 1) := by decide +kernel
theorem d1 : decode yB 1 = .ok (.aload_n 1, 1) := by decide +kernel
theorem d2 : decode yB 2 = .ok (.iconst 0, 1) := by decide +kernel
theorem d3 : decode yB 3 = .ok (.aload_n 1, 1) := by decide +kernel
theorem d4 : decode yB 4 = .ok (.arraylength, 1) := by decide +kernel
theorem d5 : decode yB 5 = .ok (.aconst_null, 1) := by decide +kernel
theorem d6 : decode yB 6 = .ok (.invokespecial 27, 3) := by decide +kernel
theorem d9 : decode yB 9 = .ok (.return_, 1) := by decide +kernel
def site : List Cond := [New4.tab] ++ initW "java/lang/String" 27 New4.yN
def tab : Cond := tabOf yN yB 2 none site
def P (a : Addr) (D : Cell) (fV fC : Field) (b : Addr) (A : Cell) (z : Int32) (args : Array Value) (s : State) : Prop := args = #[.ref a, .ref b] ∧ Blank "java/lang/String" a D s ∧ Found "java/lang/String" "value" "[B" fV s ∧ Found "java/lang/String" "coder" "B" fC s ∧ Ch b A s ∧ StaticIs s "java/lang/String" "COMPACT_STRINGS" "Z" (.int z) ∧ ¬ z = 0 ∧ 0 < A.slots.size ∧ A.slots.size ≤ 536870912 ∧ ∀ i, i < A.slots.size → ¬ 255 < cv A i
def E (a : Addr) (D : Cell) (fV fC : Field) (A : Cell) (r : Option Value) (s u : State) : Prop := Got a D fV fC A 0 A.slots.size r s u
/-- new String(chars), not empty, no char above 255: a Latin-1 String of their low bytes -/
theorem law (l : Launch) (a : Addr) (D : Cell) (fV fC : Field) (b : Addr) (A : Cell) (z : Int32) : Law l yN 2 1 3 52 yB 2 none site (P a D fV fC b A z) (E a D fV fC A) [⟨a, fC.slot⟩, ⟨a, fV.slot⟩] 1 A.slots.size := by
  refine Law.of_walk (plainFor_of_name (by decide +kernel)) (by decide +kernel) (by decide +kernel) (by decide) (fun _ _ h => by rw [h.1]; rfl) (fun _ U U' hal hh h => ⟨h.1, h.2.1.mv hal hh, h.2.2.1.al hal, h.2.2.2.1.al hal, h.2.2.2.2.1.mv hal hh, h.2.2.2.2.2.1.there hal hh, h.2.2.2.2.2.2⟩) (fun r U U' V V' h1 hal h2 h => Got.mv r U U' V V' h1 hal h2 h) ?_
  intro p e s m args below meth c s₁ X0 hexec hbytes hml hret hlk hnm hown hh0 W hP
  obtain ⟨rfl, hB, f1, f2, hA, s1, hz, l0, l2, hp⟩ := hP
  have c1 : Steps p.tables e below (s₁.setTop (entryFrame m #[.ref a, .ref b] 2)) (s₁.setTop (mkF m 0 #[.val (.ref a), .val (.ref b)] [])) := entry rfl
  have c2 : Steps p.tables e below (s₁.setTop (entryFrame m #[.ref a, .ref b] 2)) (s₁.setTop (mkF m 6 #[.val (.ref a), .val (.ref b)] [.null, .int (Int32.ofNat A.slots.size), .int 0, .ref b, .ref a])) := c1.trans (by
    refine XS.aloadN X0.here hexec rfl (hb hbytes d0) rfl rfl ?_
    refine XS.aloadN X0.here hexec rfl (hb hbytes d1) rfl rfl ?_
    refine iconstV X0.here hexec rfl 0 (hb hbytes d2) (by decide) ?_
    refine XS.aloadN X0.here hexec rfl (hb hbytes d3) rfl rfl ?_
    refine X0.alen hexec (hA.1.mv X0.warmed.alike hh0) rfl rfl (hb hbytes d4) ?_
    refine XS.aconstNull X0.here hexec rfl (hb hbytes d5) ?_
    exact Steps.refl _)
  obtain ⟨v3, T3, X3, E3, g3⟩ := X0.callN hexec (New4.law l a D fV fC b A z 0 A.slots.size) rfl hown (wks W (initW "java/lang/String" 27 New4.yN)) (W New4.tab (by simp only [site, List.mem_cons, List.mem_append, true_or, or_true])) (W := 0) (Nat.le_of_ble_eq_true rfl) (Nat.le_of_ble_eq_true rfl) (Nat.le_refl _) (by show 0 + A.slots.size ≤ A.slots.size; omega) (g := (mkF m 6 #[.val (.ref a), .val (.ref b)] [.null, .int (Int32.ofNat A.slots.size), .int (Int32.ofNat 0), .ref b, .ref a])) rfl (by rw [hml]; rfl) c2 (argsL := [.ref b, .int (Int32.ofNat 0), .int (Int32.ofNat A.slots.size), .null]) (rest := []) rfl rfl (by show 2 * 0 + 0 ≤ _; decide) (hb hbytes d6) (⟨rfl, hB.mv X0.warmed.alike hh0, f1.al X0.warmed.alike, f2.al X0.warmed.alike, hA.mv X0.warmed.alike hh0, s1.there X0.warmed.alike hh0, hz, l0, by omega, l2, fun i hi => by rw [Nat.zero_add]; exact hp i hi⟩)
  have e0 := Got.mv _ s₁ s _ _ hh0.symm (Vm.Alike.refl _) rfl E3
  obtain rfl := e0.1
  have c4 : Steps p.tables e below (s₁.setTop (entryFrame m #[.ref a, .ref b] 2)) (T3.setTop (mkF m 9 #[.val (.ref a), .val (.ref b)] [])) := g3
  exact ⟨T3, none, _, _, _, X3, by simp, rfl, by omega, (fun _ => rfl), e0, fun fs hl => c4.trans (X3.returnOut hexec hret (hb hbytes d9) hl)⟩
theorem pays {l : Launch} {R : Room} {p : Program} {e : Env} {below : List Frame} {s : State} {sargs : Array Value} {len W : Nat} (a : Addr) (D : Cell) (fV fC : Field) (b : Addr) (A : Cell) (z : Int32) (htab : tab.before sargs s = true) (hfr : 4 ≤ R.frames) (hlo : W + 65 ≤ R.locals) :
    Back l R p e below s sargs yN len W (fun A₁ a₁ => A₁.cells + 1 ≤ R.cells ∧ A₁.slots + A.slots.size ≤ R.slots ∧ P a D fV fC b A z a₁ A₁.U) (fun A₁ _ v₁ B₁ => E a D fV fC A v₁ A₁.U B₁.U ∧ B₁.locs = A₁.locs ++ [⟨a, fC.slot⟩, ⟨a, fV.slot⟩] ∧ B₁.cells = A₁.cells + 1 ∧ B₁.slots = A₁.slots + A.slots.size) :=
  (law l a D fV fC b A z).pays htab hfr (by omega)
end New1
/-- the byte, read back as charAt reads it, is the char -/
theorem lo8_mask {x : Int32} (h0 : ¬ x < 0) (h1 : ¬ 255 < x) : lo8 x &&& 255 = x := by
  have t : ∀ k : Fin 256, lo8 (Int32.ofNat k.val) &&& 255 = Int32.ofNat k.val := by decide +kernel
  rw [Int32.lt_iff_toInt_lt] at h0 h1
  have e0 : (0 : Int32).toInt = 0 := rfl
  have e1 : (255 : Int32).toInt = 255 := rfl
  obtain ⟨k, hk⟩ : ∃ k : Nat, x.toInt = k := ⟨x.toInt.toNat, by omega⟩
  have hx : x = Int32.ofNat k := Int32.toInt_inj.mp (by rw [hk, Int32.toInt_ofNat_small (by omega)])
  rw [hx]
  exact t ⟨k, by omega⟩
end StrChars
namespace StrChars.Road
open Jvm Sem ClassFile Op Lib Jvm.Stand Jvm.Free Jvm.Free.XT
open Jvm.Lib.Cold (StaticIs)
abbrev ST : String := "java/lang/String"
/-- every table word that New1's law asks, flat -/
abbrev words : List Jvm.Cond := [.code New1.yN New1.yB 2 none, .initialized ST, .methodLink ST 27 New4.yN, .instanceMethod New4.yN,
  .code New4.yN New4.yB 6 none, .fieldLink ST 38 ST "COMPACT_STRINGS" "Z", .laysFinal ST ST "value" "[B", .fieldLink ST 9 ST "value" "[B", .laysFinal ST ST "coder" "B", .fieldLink ST 15 ST "coder" "B",
  .methodLink ST 1 Lib.objectInit, .instanceMethod Lib.objectInit, .code Lib.objectInit ⟨#[0xb1]⟩ 1 none, .methodLink ST 177 Cmp3.yN, .static Cmp3.yN, .methodLink ST 47 CodL.yN, .static CodL.yN,
  .code Cmp3.yN Cmp3.yB 6 (some (.array .byte)), .initialized U16, .arrayClass .byte, .methodLink U16 115 Cmp5.yN, .static Cmp5.yN, .code Cmp5.yN Cmp5.yB 7 (some .int), .code CodL.yN CodL.yB 2 (some .byte)]
theorem tab_of {a : Array Value} {s : State} (h : ∀ w ∈ words, w.before a s = true) : New1.tab.before a s = true := by
  have h5 : Cmp5.tab.before a s = true := unparts (wk h (.code Cmp5.yN Cmp5.yB 7 (some .int))) (wks h (.initialized Cmp5.yN.cls :: Cmp5.site))
  have hc : CodL.tab.before a s = true := unparts (wk h (.code CodL.yN CodL.yB 2 (some .byte))) (wks h (.initialized CodL.yN.cls :: CodL.site))
  have q5 : ∀ w ∈ Cmp5.tab :: words, w.before a s = true := fun w hw => (List.mem_cons.mp hw).elim (fun e => e ▸ h5) (h w)
  have h3 : Cmp3.tab.before a s = true := unparts (wk q5 (.code Cmp3.yN Cmp3.yB 6 (some (.array .byte)))) (wks q5 (.initialized Cmp3.yN.cls :: Cmp3.site))
  have q3 : ∀ w ∈ Cmp3.tab :: CodL.tab :: words, w.before a s = true := fun w hw => (List.mem_cons.mp hw).elim (fun e => e ▸ h3) fun hw => (List.mem_cons.mp hw).elim (fun e => e ▸ hc) (h w)
  have h4 : New4.tab.before a s = true := unparts (wk q3 (.code New4.yN New4.yB 6 none)) (wks q3 (.initialized New4.yN.cls :: New4.site))
  have q4 : ∀ w ∈ New4.tab :: words, w.before a s = true := fun w hw => (List.mem_cons.mp hw).elim (fun e => e ▸ h4) (h w)
  exact unparts (wk q4 (.code New1.yN New1.yB 2 none)) (wks q4 (.initialized New1.yN.cls :: New1.site))
/-- the words ride from the start Z to the walk's own state -/
theorem moved {Z s : State} {a0 args : Array Value} (hZ : Z.Warmed39 s.vm) (hw : ∀ d ∈ words, d.before a0 Z = true) : ∀ d ∈ words, d.before args s = true := fun d hd => by
  have q := hw d hd
  have t : ∀ d ∈ words, d = .arrayClass .byte ∨ (d.onTables && d.keepsFace) = true := by decide +kernel
  rcases t d hd with rfl | t
  · exact RoadKit.mvA hZ q
  · exact RoadKit.mv hZ q t
/-- WHAT COMES BACK, over the tables of the start Z: h the heap at the call, h' behind it -/
def Q (Z : State) (x : Addr) (A : Cell) (h : Heap) (v : Option Value) (h' : Heap) (L : List Loc) : Prop := v = none ∧ (∀ y ∈ L, y.base = x) ∧ RoadKit.Keep h h' [x] ∧ h'.size = h.size + 1 ∧ RoadKit.Exa Z h' x ST ∧ RoadKit.Fld Z h' x ST "value" "[B" (.ref h.size) ∧ RoadKit.Fld Z h' x ST "coder" "B" (.int 0) ∧
  (∃ V : Cell, RoadKit.Arr Z h' h.size V .byte ∧ V.vm = .none ∧ Z.vm.findClass "[B" = some V.cls ∧ V.slots.size = A.slots.size ∧ ∀ j, j < A.slots.size → V.slots[j]? = some (.int (lo8 (cv A j)))) ∧
  ∀ (O n d : String) (w : Value), RoadKit.Fld Z h x O n d w → RoadKit.slotOf Z O n d ≠ RoadKit.slotOf Z ST "value" "[B" → RoadKit.slotOf Z O n d ≠ RoadKit.slotOf Z ST "coder" "B" → RoadKit.Fld Z h' x O n d w
/-- **new String(chars) AT A CALL, IN THE ROAD'S FORM**: for specialBack behind newO: x the fresh String, b the char[] with the cell A -/
theorem back {p : Program} {l : Launch} {e : Env} {R : Room} {s : State} {args : Array Value} {below : List Frame} {len W : Nat} {Z : State} {a0 : Array Value} {h : Heap} (hZ : Z.Warmed39 s.vm) (hw : ∀ d ∈ words, d.before a0 Z = true) {kI : Nat} (wi : (Jvm.Cond.instantiable ST kI).before a0 Z = true)
    {x b : Addr} {A : Cell} {z : Int32} {v0 c0 : Value} (E : RoadKit.Exa Z h x ST) (V : RoadKit.Fld Z h x ST "value" "[B" v0) (C : RoadKit.Fld Z h x ST "coder" "B" c0) (K : RoadKit.Arr Z h b A .char) (hty : Typed .char A) (S : RoadKit.Sta Z h ST "COMPACT_STRINGS" "Z" (.int z)) (hz : ¬ z = 0)
    (l0 : 0 < A.slots.size) (l2 : A.slots.size ≤ 536870912) (hp : ∀ i, i < A.slots.size → ¬ 255 < cv A i) (hfr : 4 ≤ R.frames) (hlo : W + 65 ≤ R.locals) :
    Back l R p e below s args New1.yN len W (fun P a => a = #[.ref x, .ref b] ∧ P.U.heap = h ∧ P.cells + 1 ≤ R.cells ∧ P.slots + A.slots.size ≤ R.slots)
      (fun P _ v B => ∃ L, Q Z x A h v B.U.heap L ∧ B.locs = P.locs ++ L ∧ B.cells = P.cells + 1 ∧ B.slots = P.slots + A.slots.size) := by
  intro m meth c P g ig mk a X hg hsize hdg hW hn hp'
  obtain ⟨rfl, rfl, r1, r2⟩ := hp'
  have al : Z.vm.Alike P.U.vm := hZ.alike.trans X.warmed.alike
  obtain ⟨D, cfV, kV, iV, fV, hD, gV, stV, knV, obV, asV, slV⟩ := id V
  obtain ⟨D', cfC, kC, iC, fC, hD', gC, stC, -, -, asC, slC⟩ := id C
  cases hD.symm.trans hD'
  obtain ⟨D2, kD, e1, e2, e3, e4, e5⟩ := id E
  cases hD.symm.trans e1
  obtain ⟨c2, k2, i1, i2, i3, -⟩ := Cond.instantiable_spec wi
  cases e2.symm.trans i1
  cases e3.symm.trans i2
  obtain ⟨kU, u1, u2⟩ := al.2.2 _ _ e3
  have hB : Blank ST x D P.U := ⟨hD, ⟨knV, fun q hq => by rw [hq] at obV; cases obV⟩, by rw [al.findClass]; exact e2, kU, u1, by rw [u2]; exact i3, by rw [u2]; exact e5 i3⟩
  have F1 : Found ST "value" "[B" fV P.U := ⟨SBG.found_only al ⟨cfV, kV, iV, gV⟩, stV⟩
  have F2 : Found ST "coder" "B" fC P.U := ⟨SBG.found_only al ⟨cfC, kC, iC, gC⟩, stC⟩
  have hA : Ch b A P.U := ⟨⟨K.1, State.isArrayOf_alike al K.2.1, K.2.2, by omega⟩, hty⟩
  have hS : StaticIs P.U ST "COMPACT_STRINGS" "Z" (.int z) := by
    obtain ⟨cfS, iS, kS, fS, st, cS, t1, t2, t3, t4, t5, t6, t7⟩ := S
    exact StaticIs.there (s := { Z with heap := P.U.heap }) ⟨cfS, iS, kS, fS, st, cS, t1, t2, t3, t4, t5, (fun q => by rw [q] at t6; cases t6), t7⟩ al rfl
  obtain ⟨v, B, X', ⟨⟨hv, E', V', q1, q2, q3, q4, q5, q6, q7, q8, q9, q10, q11⟩, hl, hc, hs⟩, st⟩ := New1.pays x D fV fC b A z (tab_of (moved hZ hw)) hfr hlo m meth c P g ig mk _ X hg hsize hdg hW hn ⟨r1, r2, rfl, hB, F1, F2, hA, hS, hz, l0, l2, hp⟩
  have al' : Z.vm.Alike B.U.vm := hZ.alike.trans X'.warmed.alike
  have hsz : E'.slots.size = D.slots.size := by
    obtain ⟨-, -, -, kB, w1, w2, w3⟩ := q1
    obtain ⟨kB', y1, y2⟩ := al'.2.2 _ _ e3
    rw [q2.2.1] at w1
    cases w1.symm.trans y1
    rw [w3, e5 i3, y2]
  refine ⟨v, B, X', ⟨_, ⟨hv, ?_, ⟨by omega, fun y cy hy hn' => q10 y cy (by simpa using hn') hy, fun y cy hy => ?_⟩, q11, ⟨E', _, q1.1, by rw [q2.2.1]; exact e2, by rw [q2.2.1]; exact e3, by rw [q2.1]; exact obV, fun _ => by rw [hsz]; exact e5 i3⟩,
    ⟨E', cfV, kV, iV, fV, q1.1, gV, stV, by rw [q2.1]; exact knV, by rw [q2.1]; exact obV, by rw [q2.2.1]; exact asV, q3⟩, ⟨E', cfC, kC, iC, fC, q1.1, gC, stC, by rw [q2.1]; exact knV, by rw [q2.1]; exact obV, by rw [q2.2.1]; exact asC, q4⟩,
    ⟨V', ⟨q5.1, State.isArrayOf_alike al'.symm q5.2.1, q5.2.2.1⟩, q6, by rw [← al'.findClass]; exact q7, q8, fun j hj => by have := q9 j hj; rwa [Nat.zero_add] at this⟩, fun O n d w F n1 n2 => ?_⟩, hl, hc, hs⟩, st⟩
  · intro y hy
    simp only [List.mem_cons, List.not_mem_nil, or_false] at hy
    rcases hy with rfl | rfl <;> rfl
  · by_cases q : y = x
    · subst q
      cases hD.symm.trans hy
      exact ⟨E', q1.1, q2.2.1, q2.1, hsz⟩
    · exact ⟨cy, q10 y cy q hy, rfl, rfl, rfl⟩
  · obtain ⟨D3, cf, k, i, f, g1, g2, g3, g4, g5, g6, g7⟩ := F
    cases hD.symm.trans g1
    simp only [RoadKit.slotOf, g2, gV, gC, Option.map_some, Option.getD_some] at n1 n2
    exact ⟨E', cf, k, i, f, q1.1, g2, g3, by rw [q2.1]; exact g4, by rw [q2.1]; exact g5, by rw [q2.2.1]; exact g6, by rw [q2.2.2 f.slot (by simp [n1, n2])]; exact g7⟩
end StrChars.Road
namespace StrChars.Road
open Jvm Sem ClassFile Op Lib Jvm.Stand Jvm.Free Jvm.Free.XT
/-- WHAT COMES BACK, the byte[] as a list of values -/
def QA (Z : State) (x : Addr) (zn : Int32) (cs : List Int32) (h : Heap) (v : Option Value) (h' : Heap) (L : List Loc) : Prop := v = none ∧ (∀ y ∈ L, y.base = x) ∧ RoadKit.Keep h h' [x] ∧ h'.size = h.size + 1 ∧ RoadKit.Exa Z h' x ST ∧ RoadKit.Fld Z h' x ST "value" "[B" (.ref h.size) ∧ RoadKit.Fld Z h' x ST "coder" "B" (.int 0) ∧
  (∃ kb, Z.vm.findClass "[B" = some kb ∧ RoadKit.Arv Z h' h.size kb .byte zn (cs.map fun c => .int (lo8 c)) (.int 0)) ∧
  ∀ (O n d : String) (w : Value), RoadKit.Fld Z h x O n d w → RoadKit.slotOf Z O n d ≠ RoadKit.slotOf Z ST "value" "[B" → RoadKit.slotOf Z O n d ≠ RoadKit.slotOf Z ST "coder" "B" → RoadKit.Fld Z h' x O n d w
/-- **new String(chars) AT A CALL, THE ARRAYS AS LISTS**: the char[] at b holds cs, not empty, no char above 255 -/
theorem backArv {p : Program} {l : Launch} {e : Env} {R : Room} {s : State} {args : Array Value} {below : List Frame} {len W : Nat} {Z : State} {a0 : Array Value} {h : Heap} (hZ : Z.Warmed39 s.vm) (hw : ∀ d ∈ words, d.before a0 Z = true) {kI : Nat} (wi : (Jvm.Cond.instantiable ST kI).before a0 Z = true)
    {x b : Addr} {k : ClassId} {zn z : Int32} {cs : List Int32} {dv v0 c0 : Value} (E : RoadKit.Exa Z h x ST) (V : RoadKit.Fld Z h x ST "value" "[B" v0) (C : RoadKit.Fld Z h x ST "coder" "B" c0) (K : RoadKit.Arv Z h b k .char zn (cs.map Value.int) dv) (S : RoadKit.Sta Z h ST "COMPACT_STRINGS" "Z" (.int z)) (hz : ¬ z = 0)
    (hlen : zn.toNatClampNeg = cs.length) (h0 : 0 < cs.length) (hbig : cs.length ≤ 536870912) (hall : ∀ c ∈ cs, ¬ 255 < c) (hfr : 4 ≤ R.frames) (hlo : W + 65 ≤ R.locals) :
    Back l R p e below s args New1.yN len W (fun P a => a = #[.ref x, .ref b] ∧ P.U.heap = h ∧ P.cells + 1 ≤ R.cells ∧ P.slots + cs.length ≤ R.slots)
      (fun P _ v B => ∃ L, QA Z x zn cs h v B.U.heap L ∧ B.locs = P.locs ++ L ∧ B.cells = P.cells + 1 ∧ B.slots = P.slots + cs.length) := by
  obtain ⟨A, K1, K2, K3, K4, K5, K6⟩ := K
  have e : A.slots.size = cs.length := K3.trans hlen
  have hat : ∀ (i : Nat) (hi : i < cs.length), A.slots[i]? = some (.int cs[i]) := fun i hi => by rw [K5 i (by omega)]; simp [List.getD_eq_getElem?_getD, hi]
  have hcv : ∀ (i : Nat) (hi : i < cs.length), cv A i = cs[i] := fun i hi => by unfold cv; rw [hat i hi]
  have hty : Typed .char A := fun i v hv => by
    have hi : i < A.slots.size := (Array.getElem?_eq_some_iff.mp hv).1
    have q := K5 i hi
    rw [hv] at q
    rw [Option.some.inj q]
    exact K6 i hi
  refine Back.mono (back hZ hw wi E V C K1 hty S hz (by omega) (by omega) (fun i hi => by rw [hcv i (by omega)]; exact hall _ (List.getElem_mem _)) hfr hlo) (fun P a hp => ⟨hp.1, hp.2.1, hp.2.2.1, by rw [e]; exact hp.2.2.2⟩) (fun P a v B hp hq => ?_)
  obtain ⟨L, ⟨q1, q2, q3, q4, q5, q6, q7, ⟨V', v1, v2, v3, v4, v5⟩, q9⟩, hl, hc, hs⟩ := hq
  refine ⟨L, ⟨q1, q2, q3, q4, q5, q6, q7, ⟨V'.cls, v3, V', v1, rfl, by rw [v4, e, hlen], K4, fun i hi => ?_, fun i hi => ?_⟩, q9⟩, hl, hc, by rw [hs, e]⟩
  · have hi' : i < cs.length := by omega
    rw [v5 i (by omega), hcv i hi']; simp [List.getD_eq_getElem?_getD, hi']
  · have hi' : i < cs.length := by omega
    simp only [List.getD_eq_getElem?_getD, List.getElem?_map, List.getElem?_eq_getElem hi', Option.map_some, Option.getD_some]
    exact fits_lo8 _
end StrChars.Road
namespace StrChars.Road
open Jvm Sem ClassFile Op Lib Jvm.Stand Jvm.Free Jvm.Free.XT
/-- WHAT COMES BACK, in the writer's own shape -/
def QV (Z : State) (x : Addr) (N : Int32) (bs : List Int32) (h : Heap) (n0 : Nat) (v : Option Value) (h' : Heap) (L : List Loc) : Prop := v = none ∧ RoadKit.Fr n0 L ∧ RoadKit.Keep h h' [x] ∧ RoadKit.Exa Z h' x ST ∧ RoadKit.Fld Z h' x ST "coder" "B" (.int 0) ∧
  ∃ (t : Addr) (kb : ClassId), n0 ≤ t ∧ h.size ≤ t ∧ ¬ t = x ∧ RoadKit.Fld Z h' x ST "value" "[B" (.ref t) ∧ RoadKit.Arv Z h' t kb .byte N (bs.map Value.int) (.int 0)
/-- **new String(chars) AT A CALL, FOR THE WRITER**: a char[] of n known ints, each 0 to 255 -/
theorem backV {p : Program} {l : Launch} {e : Env} {R : Room} {s : State} {args : Array Value} {below : List Frame} {len W : Nat} {Z : State} {a0 : Array Value} {h : Heap} (hZ : Z.Warmed39 s.vm) (hw : ∀ d ∈ words, d.before a0 Z = true) {kI : Nat} (wi : (Jvm.Cond.instantiable ST kI).before a0 Z = true)
    {x b : Addr} {kC : ClassId} {cs bs : List Int32} {d v0 c0 : Value} {z N : Int32} {n n0 : Nat} (hx0 : n0 ≤ x) (hh0 : n0 ≤ h.size) (E : RoadKit.Exa Z h x ST) (V : RoadKit.Fld Z h x ST "value" "[B" v0) (C : RoadKit.Fld Z h x ST "coder" "B" c0) (K : RoadKit.Arv Z h b kC .char N (cs.map Value.int) d) (S : RoadKit.Sta Z h ST "COMPACT_STRINGS" "Z" (.int z)) (hz : ¬ z = 0)
    (hn : cs.length = n) (hN : N = Int32.ofNat n) (l0 : 0 < n) (l2 : n ≤ 4000) (hp : ∀ c ∈ cs, ¬ c < 0 ∧ ¬ (255 : Int32) < c) (hb : bs = cs.map (fun c => c.toInt8.toInt32)) (hfr : 4 ≤ R.frames) (hlo : W + 65 ≤ R.locals) :
    Back l R p e below s args (⟨"java/lang/String", "<init>", "([C)V"⟩ : MethodName) len W (fun P a => a = #[.ref x, .ref b] ∧ P.U.heap = h ∧ P.cells + 1 ≤ R.cells ∧ P.slots + n ≤ R.slots)
      (fun P _ v B => ∃ L, QV Z x N bs h n0 v B.U.heap L ∧ B.locs = P.locs ++ L ∧ B.cells = P.cells + 1 ∧ B.slots = P.slots + n) := by
  subst hn hN hb
  refine Back.mono (backArv hZ hw wi E V C K S hz (n32 (by omega)) l0 (by omega) (fun c hc => (hp c hc).2) hfr hlo) (fun P a hp => hp) (fun P a v B hp hq => ?_)
  obtain ⟨L, ⟨q1, q2, q3, q4, q5, q6, q7, ⟨kb, v1, v2⟩, q9⟩, hl, hc, hs⟩ := hq
  exact ⟨L, ⟨q1, fun y hy => by rw [q2 y hy]; exact hx0, q3, q5, q7, h.size, kb, hh0, Nat.le_refl _, Nat.ne_of_gt E.lt, q6, by rw [List.map_map]; exact v2⟩, hl, hc, hs⟩
end StrChars.Road
namespace StrChars
open Jvm Sem ClassFile Op Lib Jvm.Stand Jvm.Free.XT Jvm.Free.ALB Jvm.Free.JM Jvm.Free
open Jvm.Lib.Cold (StaticIs)
def hi8 (x : Int32) : Int32 := lo8 (x >>> ((8 : Int32) &&& 31))
/-- what StringUTF16.getChar makes of two bytes -/
def pairCh (u v : Int32) : Int32 := (((u &&& 255) <<< ((0 : Int32) &&& 31)) ||| ((v &&& 255) <<< ((8 : Int32) &&& 31))).toUInt32.toUInt16.toUInt32.toInt32
theorem lo8_and (x : Int32) : (lo8 x &&& 255).toBitVec.toNat = x.toBitVec.toNat % 256 := by
  have h : (lo8 x).toBitVec = (x.toBitVec.signExtend 8).signExtend 32 := by rw [lo8, Int8.toBitVec_toInt32, Int32.toBitVec_toInt8]
  rw [Int32.toBitVec_and, BitVec.toNat_and, h]
  have e : ((x.toBitVec.signExtend 8).signExtend 32).toNat % 256 = x.toBitVec.toNat % 256 := by
    rw [BitVec.toNat_signExtend]
    have hlt := x.toBitVec.isLt
    simp only [BitVec.toNat_setWidth, BitVec.toNat_signExtend]
    split <;> split <;> omega
  rw [← e]
  exact Nat.and_two_pow_sub_one_eq_mod _ 8
theorem pair_says {c : Int32} (h0 : ¬ c < 0) (h1 : ¬ 65535 < c) : pairCh (lo8 c) (hi8 c) = c := by
  rw [Int32.lt_iff_toInt_lt] at h0 h1
  have e0 : (0 : Int32).toInt = 0 := rfl
  have e1 : (65535 : Int32).toInt = 65535 := rfl
  have hc : c.toInt = c.toBitVec.toNat := by
    have := c.toBitVec.isLt
    have e : c.toInt = c.toBitVec.toInt := rfl
    rw [e] at h0 h1
    rw [e]
    rw [BitVec.toInt_eq_toNat_cond] at h0 h1 ⊢
    split at h0 <;> split <;> omega
  have hn : c.toBitVec.toNat < 65536 := by omega
  have a1 := lo8_and c
  have a2 : (hi8 c &&& 255).toBitVec.toNat = c.toBitVec.toNat / 256 := by
    rw [hi8, lo8_and]
    have e : ((8 : Int32) &&& 31) = 8 := by decide
    rw [e, Int32.toBitVec_shiftRight]
    have e2 : ((8 : Int32).toBitVec.smod 32) = 8#32 := by decide
    rw [e2, BitVec.sshiftRight_eq', BitVec.toNat_sshiftRight_of_msb_false (by rw [BitVec.msb_eq_false_iff_two_mul_lt]; omega)]
    show c.toBitVec.toNat >>> 8 % 256 = _
    rw [Nat.shiftRight_eq_div_pow]
    omega
  unfold pairCh
  apply Int32.toBitVec_inj.mp
  apply BitVec.eq_of_toNat_eq
  have f0 : ((0 : Int32) &&& 31) = 0 := by decide
  have f8 : ((8 : Int32) &&& 31) = 8 := by decide
  rw [f0, f8]
  have g : (((lo8 c &&& 255) <<< (0 : Int32)) ||| ((hi8 c &&& 255) <<< (8 : Int32))).toBitVec.toNat = c.toBitVec.toNat := by
    rw [Int32.toBitVec_or, Int32.toBitVec_shiftLeft, Int32.toBitVec_shiftLeft]
    have s0 : ((0 : Int32).toBitVec.smod 32) = 0#32 := by decide
    have s8 : ((8 : Int32).toBitVec.smod 32) = 8#32 := by decide
    rw [s0, s8, BitVec.toNat_or]
    simp only [BitVec.shiftLeft_eq', BitVec.toNat_shiftLeft, a1, a2]
    show (c.toBitVec.toNat % 256) <<< 0 % 2 ^ 32 ||| (c.toBitVec.toNat / 256) <<< 8 % 2 ^ 32 = _
    rw [Nat.shiftLeft_zero, Nat.mod_eq_of_lt (show c.toBitVec.toNat % 256 < 2 ^ 32 by omega), Nat.mod_eq_of_lt (show (c.toBitVec.toNat / 256) <<< 8 < 2 ^ 32 by rw [Nat.shiftLeft_eq]; omega), Nat.or_comm, ← Nat.shiftLeft_add_eq_or_of_lt (by omega), Nat.shiftLeft_eq]
    omega
  show BitVec.toNat (((((lo8 c &&& 255) <<< (0 : Int32)) ||| ((hi8 c &&& 255) <<< (8 : Int32))).toBitVec.setWidth 16).setWidth 32) = _
  rw [BitVec.toNat_setWidth, BitVec.toNat_setWidth, g]
  omega
end StrChars
namespace StrChars
open Jvm Sem ClassFile Op Lib Jvm.Stand Jvm.Free.XT Jvm.Free.ALB Jvm.Free.JM Jvm.Free
open Jvm.Lib.Cold (StaticIs)
/-- the array's cell V codes the n chars f 0 .. f (n - 1) by the coder cd, as the JDK does: coder 1 just where some char is above 255 -/
def Cod (cd : Int32) (n : Nat) (f : Nat → Int32) (V : Cell) : Prop := (cd = 0 ∧ V.slots.size = n ∧ ∀ j, j < n → V.slots[j]? = some (.int (lo8 (f j))) ∧ ¬ 255 < f j) ∨ (cd = 1 ∧ V.slots.size = 2 * n ∧ (∀ j, j < n → V.slots[2 * j]? = some (.int (lo8 (f j))) ∧ V.slots[2 * j + 1]? = some (.int (hi8 (f j)))) ∧ ∃ j, j < n ∧ 255 < f j)
/-- **x is a String of the n chars f 0 .. f (n - 1)**, Latin-1 or UTF-16; its array at t has the cell V -/
def Txt (x t : Addr) (V : Cell) (cd : Int32) (n : Nat) (f : Nat → Int32) (U : State) : Prop := Exact "java/lang/String" x U ∧ Has x "java/lang/String" "value" "[B" (.ref t) U ∧ Has x "java/lang/String" "coder" "B" (.int cd) U ∧ XT.Arr .byte t V U ∧ Cod cd n f V ∧ ∀ j, j < n → ¬ f j < 0 ∧ ¬ 65535 < f j
theorem Txt.mv {x t : Addr} {V : Cell} {cd : Int32} {n : Nat} {f : Nat → Int32} {U U' : State} (h : Txt x t V cd n f U) (hal : U.vm.Alike U'.vm) (hh : U'.heap = U.heap) : Txt x t V cd n f U' := ⟨h.1.mv hal hh, h.2.1.mv hal hh, h.2.2.1.mv hal hh, h.2.2.2.1.mv hal hh, h.2.2.2.2⟩
end StrChars
namespace StrChars.Road
open Jvm Sem ClassFile Op Lib Jvm.Stand Jvm.Free Jvm.Free.XT
open Jvm.Lib.Cold (StaticIs)
theorem consq {a : Array Value} {s : State} {c : Jvm.Cond} {L : List Jvm.Cond} (h0 : c.before a s = true) (h : ∀ w ∈ L, w.before a s = true) : ∀ w ∈ c :: L, w.before a s = true := fun w hw => (List.mem_cons.mp hw).elim (fun e => e ▸ h0) (h w)
/-- the bytes of the chars cs, low before high -/
def wideBytes : List Int32 → List Value
  | [] => []
  | c :: cs => .int (lo8 c) :: .int (hi8 c) :: wideBytes cs
theorem wide_lo (d : Value) : ∀ (cs : List Int32) (j : Nat), j < cs.length → (wideBytes cs).getD (2 * j) d = .int (lo8 (cs.getD j 0))
  | [], j, h => absurd h (Nat.not_lt_zero j)
  | c :: cs, 0, _ => rfl
  | c :: cs, j + 1, h => by
    have q := wide_lo d cs j (by simpa using h)
    rw [show 2 * (j + 1) = 2 * j + 1 + 1 from by omega]
    simpa [wideBytes] using q
theorem wide_hi (d : Value) : ∀ (cs : List Int32) (j : Nat), j < cs.length → (wideBytes cs).getD (2 * j + 1) d = .int (hi8 (cs.getD j 0))
  | [], j, h => absurd h (Nat.not_lt_zero j)
  | c :: cs, 0, _ => rfl
  | c :: cs, j + 1, h => by
    have q := wide_hi d cs j (by simpa using h)
    rw [show 2 * (j + 1) + 1 = 2 * j + 1 + 1 + 1 from by omega]
    simpa [wideBytes] using q
theorem low_at (d : Value) (cs : List Int32) (j : Nat) (h : j < cs.length) : (cs.map fun c => Value.int (lo8 c)).getD j d = .int (lo8 (cs.getD j 0)) := by
  simp [List.getD_eq_getElem?_getD, h]
/-- an array of N2 bytes vs codes the chars cs by the coder cd -/
def CodA (cs : List Int32) (cd N2 : Int32) (vs : List Value) : Prop := (cd = 0 ∧ N2 = Int32.ofNat cs.length ∧ vs = (cs.map fun c => Value.int (lo8 c)) ∧ ∀ c ∈ cs, ¬ 255 < c) ∨ (cd = 1 ∧ N2 = Int32.ofNat (2 * cs.length) ∧ vs = wideBytes cs ∧ ∃ c ∈ cs, 255 < c)
theorem CodA.cod {cs : List Int32} {cd N2 : Int32} {vs : List Value} {V : Cell} (h : CodA cs cd N2 vs) (hn : 2 * cs.length < 2 ^ 31) (hs : V.slots.size = N2.toNatClampNeg) (hv : RoadKit.Has V vs (.int 0)) : Cod cd cs.length (fun j => cs.getD j 0) V := by
  rcases h with ⟨rfl, rfl, rfl, h⟩ | ⟨rfl, rfl, rfl, c, hc, hw⟩
  · rw [n32 (by omega)] at hs
    exact Or.inl ⟨rfl, hs, fun j hj => ⟨by rw [hv j (by omega), low_at _ _ _ hj], by
      have e : cs.getD j 0 = cs[j] := by simp [List.getD_eq_getElem?_getD, hj]
      show ¬ 255 < cs.getD j 0
      rw [e]; exact h _ (List.getElem_mem _)⟩⟩
  · rw [n32 (by omega)] at hs
    obtain ⟨j, hj, rfl⟩ := List.getElem_of_mem hc
    exact Or.inr ⟨rfl, hs, fun j hj => ⟨by rw [hv _ (by omega), wide_lo _ _ _ hj], by rw [hv _ (by omega), wide_hi _ _ _ hj]⟩, j, hj, by
      have e : cs.getD j 0 = cs[j] := by simp [List.getD_eq_getElem?_getD, hj]
      show 255 < cs.getD j 0
      rw [e]; exact hw⟩
/-- an object of exactly java/lang/String, its two fields found: as the laws ask it -/
theorem strObj {Z U : State} {a0 : Array Value} {kI : Nat} (wi : (Jvm.Cond.instantiable ST kI).before a0 Z = true) (al : Z.vm.Alike U.vm) {x : Addr} {v0 c0 : Value} (E : RoadKit.Exa Z U.heap x ST) (V : RoadKit.Fld Z U.heap x ST "value" "[B" v0) (C : RoadKit.Fld Z U.heap x ST "coder" "B" c0) :
    ∃ (D : Cell) (fV fC : Field), Blank ST x D U ∧ Found ST "value" "[B" fV U ∧ Found ST "coder" "B" fC U ∧ D.slots[fV.slot]? = some v0 ∧ D.slots[fC.slot]? = some c0 ∧ RoadKit.slotOf Z ST "value" "[B" = fV.slot ∧ RoadKit.slotOf Z ST "coder" "B" = fC.slot := by
  obtain ⟨D, cfV, kV, iV, fV, hD, gV, stV, knV, obV, asV, slV⟩ := V
  obtain ⟨D', cfC, kC, iC, fC, hD', gC, stC, -, -, asC, slC⟩ := C
  cases hD.symm.trans hD'
  obtain ⟨D2, kD, e1, e2, e3, e4, e5⟩ := E
  cases hD.symm.trans e1
  obtain ⟨c2, k2, i1, i2, i3, -⟩ := Cond.instantiable_spec wi
  cases e2.symm.trans i1
  cases e3.symm.trans i2
  obtain ⟨kU, u1, u2⟩ := al.2.2 _ _ e3
  exact ⟨D, fV, fC, ⟨hD, ⟨knV, fun q hq => by rw [hq] at obV; cases obV⟩, by rw [al.findClass]; exact e2, kU, u1, by rw [u2]; exact i3, by rw [u2]; exact e5 i3⟩, ⟨SBG.found_only al ⟨cfV, kV, iV, gV⟩, stV⟩, ⟨SBG.found_only al ⟨cfC, kC, iC, gC⟩, stC⟩, slV, slC, by simp [RoadKit.slotOf, gV], by simp [RoadKit.slotOf, gC]⟩
theorem sta_is {Z U : State} (al : Z.vm.Alike U.vm) {C n d : String} {v : Value} (S : RoadKit.Sta Z U.heap C n d v) : StaticIs U C n d v := by
  obtain ⟨cfS, iS, kS, fS, st, cS, t1, t2, t3, t4, t5, t6, t7⟩ := S
  exact StaticIs.there (s := { Z with heap := U.heap }) ⟨cfS, iS, kS, fS, st, cS, t1, t2, t3, t4, t5, (fun q => by rw [q] at t6; cases t6), t7⟩ al rfl
end StrChars.Road
namespace StrChars
open Jvm Sem ClassFile Op Lib Jvm.Stand Jvm.Free.XT Jvm.Free.ALB Jvm.Free.JM Jvm.Free
open Jvm.Lib.Cold (StaticIs)
/-- what place i of a byte[]'s cell holds -/
def yv (A : Cell) (i : Nat) : Int32 := match A.slots[i]? with | some (.int x) => x | _ => 0
theorem yv_get {a : Addr} {A : Cell} {U : State} (h : XT.Arr .byte a A U) (ht : Typed .byte A) {i : Nat} (hi : i < A.slots.size) : A.slots[i]? = some (.int (yv A i)) := by
  have e := Array.getElem?_eq_getElem hi
  have f := ht i _ e
  unfold yv; rw [e]
  generalize A.slots[i] = v at f
  cases v <;> simp [fits] at f ⊢
/-- the two arrays are equal, place for place -/
def EqC (A B : Cell) : Prop := A.slots.size = B.slots.size ∧ ∀ i, i < A.slots.size → yv A i = yv B i
/-- a boolean that says whether p -/
def Says01 (q : Prop) (r : Option Value) (s u : State) : Prop := ∃ v : Int32, r = some (.int v) ∧ u.heap = s.heap ∧ ((v = 1 ∧ q) ∨ (v = 0 ∧ ¬ q))
theorem Says01.mv {q : Prop} : ∀ r (U U' V V' : State), U'.heap = U.heap → V.vm.Alike V'.vm → V'.heap = V.heap → Says01 q r U V → Says01 q r U' V' :=
  fun r U U' V V' h1 _ h2 ⟨v, a, b, c⟩ => ⟨v, a, by rw [h1, h2]; exact b, c⟩
namespace LEq
def yN : MethodName := ⟨"java/lang/StringLatin1", "equals", "([B[B)Z"⟩
abbrev yB : ByteArray := jdk_43_method_13_code
theorem d0 : decode yB 0 = .ok (.aload_n 0, 1) := by decide +kernel
theorem d1 : decode yB 1 = .ok (.arraylength, 1) := by decide +kernel
theorem d2 : decode yB 2 = .ok (.aload_n 1, 1) := by decide +kernel
theorem d3 : decode yB 3 = .ok (.arraylength, 1) := by decide +kernel
theorem d4 : decode yB 4 = .ok (.if_icmp (.ne) 30, 3) := by decide +kernel
theorem d7 : decode yB 7 = .ok (.iconst 0, 1) := by decide +kernel
theorem d8 : decode yB 8 = .ok (.istore_n 2, 1) := by decide +kernel
theorem d9 : decode yB 9 = .ok (.iload_n 2, 1) := by decide +kernel
theorem d10 : decode yB 10 = .ok (.aload_n 0, 1) := by decide +kernel
theorem d11 : decode yB 11 = .ok (.arraylength, 1) := by decide +kernel
theorem d12 : decode yB 12 = .ok (.if_icmp (.ge) 20, 3) := by decide +kernel
theorem d15 : decode yB 15 = .ok (.aload_n 0, 1) := by decide +kernel
theorem d16 : decode yB 16 = .ok (.iload_n 2, 1) := by decide +kernel
theorem d17 : decode yB 17 = .ok (.baload, 1) := by decide +kernel
theorem d18 : decode yB 18 = .ok (.aload_n 1, 1) := by decide +kernel
theorem d19 : decode yB 19 = .ok (.iload_n 2, 1) := by decide +kernel
theorem d20 : decode yB 20 = .ok (.baload, 1) := by decide +kernel
theorem d21 : decode yB 21 = .ok (.if_icmp (.eq) 5, 3) := by decide +kernel
theorem d24 : decode yB 24 = .ok (.iconst 0, 1) := by decide +kernel
theorem d25 : decode yB 25 = .ok (.ireturn, 1) := by decide +kernel
theorem d26 : decode yB 26 = .ok (.iinc 2 1, 3) := by decide +kernel
theorem d29 : decode yB 29 = .ok (.goto (-20), 3) := by decide +kernel
theorem d32 : decode yB 32 = .ok (.iconst 1, 1) := by decide +kernel
theorem d33 : decode yB 33 = .ok (.ireturn, 1) := by decide +kernel
theorem d34 : decode yB 34 = .ok (.iconst 0, 1) := by decide +kernel
theorem d35 : decode yB 35 = .ok (.ireturn, 1) := by decide +kernel
def site : List Cond := []
def tab : Cond := tabOf yN yB 3 (some .boolean) site
def P (a : Addr) (A : Cell) (b : Addr) (B : Cell) (args : Array Value) (s : State) : Prop := args = #[.ref a, .ref b] ∧ XT.Arr .byte a A s ∧ Typed .byte A ∧ XT.Arr .byte b B s ∧ Typed .byte B
/-- whether two byte[] are equal, place for place -/
theorem law (l : Launch) (a : Addr) (A : Cell) (b : Addr) (B : Cell) : Law l yN 2 2 0 0 yB 3 (some .boolean) site (P a A b B) (Says01 (EqC A B)) [] 0 0 := by
  refine Law.of_walk (plainFor_of_name (by decide +kernel)) (by decide +kernel) (by decide +kernel) (by decide) (fun _ _ h => by rw [h.1]; rfl) (fun _ U U' hal hh h => ⟨h.1, h.2.1.mv hal hh, h.2.2.1, h.2.2.2.1.mv hal hh, h.2.2.2.2⟩) (fun r U U' V V' h1 hal h2 h => Says01.mv r U U' V V' h1 hal h2 h) ?_
  intro p e s m args below meth c s₁ X0 hexec hbytes hml hret hlk hnm hown hh0 W hP
  obtain ⟨rfl, hA, tA, hB, tB⟩ := hP
  have a31 := hA.2.2.2
  have b31 := hB.2.2.2
  have hA0 := hA.mv X0.warmed.alike hh0
  have hB0 := hB.mv X0.warmed.alike hh0
  have c1 : Steps p.tables e below (s₁.setTop (entryFrame m #[.ref a, .ref b] 3)) (s₁.setTop (mkF m 0 #[.val (.ref a), .val (.ref b), .unset] [])) := entry rfl
  have c2 : Steps p.tables e below (s₁.setTop (entryFrame m #[.ref a, .ref b] 3)) (s₁.setTop (mkF m 4 #[.val (.ref a), .val (.ref b), .unset] [.int (Int32.ofNat B.slots.size), .int (Int32.ofNat A.slots.size)])) := c1.trans (by
    refine XS.aloadN X0.here hexec rfl (hb hbytes d0) rfl rfl ?_
    refine X0.alen hexec hA0 rfl rfl (hb hbytes d1) ?_
    refine XS.aloadN X0.here hexec rfl (hb hbytes d2) rfl rfl ?_
    refine X0.alen hexec hB0 rfl rfl (hb hbytes d3) ?_
    exact Steps.refl _)
  by_cases hs : A.slots.size = B.slots.size
  · have c3 : Steps p.tables e below (s₁.setTop (entryFrame m #[.ref a, .ref b] 3)) (s₁.setTop (mkF m 9 #[.val (.ref a), .val (.ref b), .val (.int 0)] [])) := c2.trans (by
      refine XS.icmpNo X0.here hexec rfl (hb hbytes d4) rfl (ii_ne_f (by rw [hs])) ?_
      refine iconstV X0.here hexec rfl 0 (hb hbytes d7) (by decide) ?_
      refine XS.istoreN X0.here hexec rfl (hb hbytes d8) rfl rfl ?_
      exact Steps.refl _)
    have loop : ∀ (r i : Nat), i + r = A.slots.size → (∀ j, j < i → yv A j = yv B j) → Steps p.tables e below (s₁.setTop (entryFrame m #[.ref a, .ref b] 3)) (s₁.setTop (mkF m 9 #[.val (.ref a), .val (.ref b), .val (.int (Int32.ofNat i))] [])) → ∃ (pc : Nat) (Ls : Array Slot) (v : Int32), (pc = 25 ∨ pc = 33) ∧ ((v = 1 ∧ EqC A B) ∨ (v = 0 ∧ ¬ EqC A B)) ∧ Steps p.tables e below (s₁.setTop (entryFrame m #[.ref a, .ref b] 3)) (s₁.setTop (mkF m pc Ls [.int v])) := by
      intro r
      induction r with
      | zero =>
        intro i hi he cl
        exact ⟨33, _, 1, Or.inr rfl, Or.inl ⟨rfl, hs, fun j hj => he j (by omega)⟩, cl.trans (by
          refine XS.iloadN X0.here hexec rfl (hb hbytes d9) rfl ?_
          refine XS.aloadN X0.here hexec rfl (hb hbytes d10) rfl rfl ?_
          refine X0.alen hexec hA0 rfl rfl (hb hbytes d11) ?_
          refine XS.icmpYes X0.here hexec rfl (pc0 := 12) rfl (hb hbytes d12) rfl (ii_ge_t (nlt32 (by omega) (by omega))) (by decide) rfl ?_
          refine iconstV X0.here hexec rfl 1 (hb hbytes d32) (by decide) ?_
          exact Steps.refl _)⟩
      | succ r ih =>
        intro i hi he cl
        have c4 : Steps p.tables e below (s₁.setTop (entryFrame m #[.ref a, .ref b] 3)) (s₁.setTop (mkF m 21 #[.val (.ref a), .val (.ref b), .val (.int (Int32.ofNat i))] [.int (yv B i), .int (yv A i)])) := cl.trans (by
          refine XS.iloadN X0.here hexec rfl (hb hbytes d9) rfl ?_
          refine XS.aloadN X0.here hexec rfl (hb hbytes d10) rfl rfl ?_
          refine X0.alen hexec hA0 rfl rfl (hb hbytes d11) ?_
          refine XS.icmpNo X0.here hexec rfl (hb hbytes d12) rfl (ii_ge_f (lt32 (by omega) (by omega))) ?_
          refine XS.aloadN X0.here hexec rfl (hb hbytes d15) rfl rfl ?_
          refine XS.iloadN X0.here hexec rfl (hb hbytes d16) rfl ?_
          refine X0.aget hexec hA0 rfl (yv_get hA tA (i := i) (by omega)) rfl rfl (hb hbytes d17) ?_
          refine XS.aloadN X0.here hexec rfl (hb hbytes d18) rfl rfl ?_
          refine XS.iloadN X0.here hexec rfl (hb hbytes d19) rfl ?_
          refine X0.aget hexec hB0 rfl (yv_get hB tB (i := i) (by omega)) rfl rfl (hb hbytes d20) ?_
          exact Steps.refl _)
        by_cases hv : yv A i = yv B i
        · have c5 : Steps p.tables e below (s₁.setTop (entryFrame m #[.ref a, .ref b] 3)) (s₁.setTop (mkF m 9 #[.val (.ref a), .val (.ref b), .val (.int (Int32.ofNat i + 1))] [])) := c4.trans (by
            refine XS.icmpYes X0.here hexec rfl (pc0 := 21) rfl (hb hbytes d21) rfl (ii_eq_t hv) (by decide) rfl ?_
            refine iincV X0.here hexec rfl 1 (hb hbytes d26) (by decide) rfl rfl ?_
            refine XS.goto X0.here hexec rfl (pc0 := 29) rfl (hb hbytes d29) (by decide) rfl ?_
            exact Steps.refl _)
          rw [succ32] at c5
          exact ih (i + 1) (by omega) (fun j hj => by
            by_cases e : j = i
            · rw [e]; exact hv
            · exact he j (by omega)) c5
        · exact ⟨25, _, 0, Or.inl rfl, Or.inr ⟨rfl, fun q => hv (q.2 i (by omega))⟩, c4.trans (by
            refine XS.icmpNo X0.here hexec rfl (hb hbytes d21) rfl (ii_eq_f hv) ?_
            refine iconstV X0.here hexec rfl 0 (hb hbytes d24) (by decide) ?_
            exact Steps.refl _)⟩
    obtain ⟨pc, Ls, v, hpc, hv, cz⟩ := loop A.slots.size 0 (by omega) (fun j hj => absurd hj (Nat.not_lt_zero j)) c3
    have nv : narrow .boolean (.int v) = .int v := by rcases hv with ⟨rfl, -⟩ | ⟨rfl, -⟩ <;> rfl
    rcases hpc with rfl | rfl
    · exact ⟨s₁, some (.int v), _, _, _, X0, rfl, rfl, rfl, (fun h => by cases h), ⟨v, rfl, hh0, hv⟩, fun fs hl => cz.trans (X0.ireturnOut hexec hret nv (Or.inr (Or.inl rfl)) (hb hbytes d25) hl)⟩
    · exact ⟨s₁, some (.int v), _, _, _, X0, rfl, rfl, rfl, (fun h => by cases h), ⟨v, rfl, hh0, hv⟩, fun fs hl => cz.trans (X0.ireturnOut hexec hret nv (Or.inr (Or.inl rfl)) (hb hbytes d33) hl)⟩
  · have c3 : Steps p.tables e below (s₁.setTop (entryFrame m #[.ref a, .ref b] 3)) (s₁.setTop (mkF m 35 #[.val (.ref a), .val (.ref b), .unset] [.int 0])) := c2.trans (by
      refine XS.icmpYes X0.here hexec rfl (pc0 := 4) rfl (hb hbytes d4) rfl (ii_ne_t (ne32 a31 b31 hs)) (by decide) rfl ?_
      refine iconstV X0.here hexec rfl 0 (hb hbytes d34) (by decide) ?_
      exact Steps.refl _)
    exact ⟨s₁, some (.int 0), _, _, _, X0, rfl, rfl, rfl, (fun h => by cases h), ⟨0, rfl, hh0, Or.inr ⟨rfl, fun q => hs q.1⟩⟩, fun fs hl => c3.trans (X0.ireturnOut hexec hret rfl (Or.inr (Or.inl rfl)) (hb hbytes d35) hl)⟩
end LEq
theorem Cod.ty {cd : Int32} {n : Nat} {f : Nat → Int32} {V : Cell} (h : Cod cd n f V) : Typed .byte V := fun i v hv => by
  have hi : i < V.slots.size := (Array.getElem?_eq_some_iff.mp hv).1
  rcases h with ⟨-, k1, k2⟩ | ⟨-, k1, k2, -⟩
  · rw [(k2 i (by omega)).1] at hv; cases hv; exact fits_lo8 _
  · rcases Nat.mod_two_eq_zero_or_one i with e | e
    · obtain ⟨j, rfl⟩ : ∃ j, i = 2 * j := ⟨i / 2, by omega⟩
      rw [(k2 j (by omega)).1] at hv; cases hv; exact fits_lo8 _
    · obtain ⟨j, rfl⟩ : ∃ j, i = 2 * j + 1 := ⟨i / 2, by omega⟩
      rw [(k2 j (by omega)).2] at hv; cases hv; exact fits_lo8 _
/-- the same text -/
def SameT (n : Nat) (f : Nat → Int32) (k : Nat) (g : Nat → Int32) : Prop := n = k ∧ ∀ j, j < n → f j = g j
theorem lo8_inj {x y : Int32} (h0 : ¬ x < 0) (h1 : ¬ 255 < x) (k0 : ¬ y < 0) (k1 : ¬ 255 < y) (h : lo8 x = lo8 y) : x = y := by
  rw [← lo8_mask h0 h1, ← lo8_mask k0 k1, h]
/-- arrays coded by one coder are equal just where the texts are -/
theorem Cod.eqv {cd : Int32} {n k : Nat} {f g : Nat → Int32} {V V' : Cell} (h : Cod cd n f V) (h' : Cod cd k g V') (hf : ∀ j, j < n → ¬ f j < 0 ∧ ¬ 65535 < f j) (hg : ∀ j, j < k → ¬ g j < 0 ∧ ¬ 65535 < g j) : EqC V V' ↔ SameT n f k g := by
  have yvv : ∀ {W : Cell} {i : Nat} {x : Int32}, W.slots[i]? = some (.int x) → yv W i = x := fun q => by unfold yv; rw [q]
  rcases h with ⟨rfl, k1, k2⟩ | ⟨rfl, k1, k2, -⟩
  · rcases h' with ⟨-, m1, m2⟩ | ⟨e, -⟩
    · constructor
      · rintro ⟨e1, e2⟩
        refine ⟨by omega, fun j hj => ?_⟩
        have q := e2 j (by omega)
        rw [yvv (k2 j hj).1, yvv (m2 j (by omega)).1] at q
        exact lo8_inj (hf j hj).1 (k2 j hj).2 (hg j (by omega)).1 (m2 j (by omega)).2 q
      · rintro ⟨rfl, e2⟩
        refine ⟨by omega, fun j hj => ?_⟩
        rw [yvv (k2 j (by omega)).1, yvv (m2 j (by omega)).1, e2 j (by omega)]
    · exact absurd e (by decide)
  · rcases h' with ⟨e, -⟩ | ⟨-, m1, m2, -⟩
    · exact absurd e (by decide)
    · constructor
      · rintro ⟨e1, e2⟩
        refine ⟨by omega, fun j hj => ?_⟩
        have q1 := e2 (2 * j) (by omega)
        have q2 := e2 (2 * j + 1) (by omega)
        rw [yvv (k2 j hj).1, yvv (m2 j (by omega)).1] at q1
        rw [yvv (k2 j hj).2, yvv (m2 j (by omega)).2] at q2
        rw [← pair_says (hf j hj).1 (hf j hj).2, ← pair_says (hg j (by omega)).1 (hg j (by omega)).2, q1, q2]
      · rintro ⟨rfl, e2⟩
        refine ⟨by omega, fun i hi => ?_⟩
        rcases Nat.mod_two_eq_zero_or_one i with e | e
        · obtain ⟨j, rfl⟩ : ∃ j, i = 2 * j := ⟨i / 2, by omega⟩
          rw [yvv (k2 j (by omega)).1, yvv (m2 j (by omega)).1, e2 j (by omega)]
        · obtain ⟨j, rfl⟩ : ∃ j, i = 2 * j + 1 := ⟨i / 2, by omega⟩
          rw [yvv (k2 j (by omega)).2, yvv (m2 j (by omega)).2, e2 j (by omega)]
/-- two codings differ: so do the texts -/
theorem Cod.dif {cd cd' : Int32} {n k : Nat} {f g : Nat → Int32} {V V' : Cell} (h : Cod cd n f V) (h' : Cod cd' k g V') (hne : ¬ cd = cd') : ¬ SameT n f k g := by
  rintro ⟨rfl, e⟩
  rcases h with ⟨rfl, -, k2⟩ | ⟨rfl, -, -, j, hj, hw⟩
  · rcases h' with ⟨rfl, -⟩ | ⟨-, -, -, j, hj, hw⟩
    · exact hne rfl
    · exact (k2 j hj).2 (by rw [e j hj]; exact hw)
  · rcases h' with ⟨-, -, m2⟩ | ⟨rfl, -⟩
    · exact (m2 j hj).2 (by rw [← e j hj]; exact hw)
    · exact hne rfl
/-- an object of exactly C is an instance of C -/
theorem cinst {p : Program} {l : Launch} {e : Env} {R : Room} {s : State} {m : MethodId} {args : Array Value} {below : List Frame} {meth : Method} {c : Code} {T : State} {locs : List Loc} {cells slots : Nat} (X : Stand p l e R s m args below meth c T locs cells slots) (hexec : p.tables.exec = Jvm.exec) {own C : String} {index : Nat} (hown : s.vm.findClass own = some m.cls) (hlink : (Cond.classLink own index C).before args s = true) {a : Addr} (hE : Exact C a T)
    {g : JFrame} (hg : g.method = m) {rest : List Value} (hstack : g.stack = .ref a :: rest) (hdg : decode c.code g.pc = .ok (.instanceof index, 3)) :
    ∃ T', Stand p l e R s m args below meth c T' locs cells slots ∧ T'.heap = T.heap ∧ ∀ target, Steps p.tables e below (T'.setTop { g with pc := g.pc + 3, stack := .int 1 :: rest }) target → Steps p.tables e below (T.setTop g) target := by
  obtain ⟨cB, h1, D, h2, h3, h4⟩ := hE
  have h1' : s.vm.findClass C = some cB := by rw [← X.warmed.alike.findClass]; exact h1
  obtain ⟨vm', X', st⟩ := X.instanceofYes hexec hown hlink h2 h4 h1' (by rw [h3]; exact Jvm.Free.SB.assignable_self _ _) hg hstack hdg
  exact ⟨_, X', rfl, st⟩
theorem cself {p : Program} {l : Launch} {e : Env} {R : Room} {s : State} {m : MethodId} {args : Array Value} {below : List Frame} {meth : Method} {c : Code} {T : State} {locs : List Loc} {cells slots : Nat} (X : Stand p l e R s m args below meth c T locs cells slots) (hexec : p.tables.exec = Jvm.exec) {own C : String} {index : Nat} (hown : s.vm.findClass own = some m.cls) (hlink : (Cond.classLink own index C).before args s = true) {a : Addr} (hE : Exact C a T)
    {g : JFrame} (hg : g.method = m) {rest : List Value} (hstack : g.stack = .ref a :: rest) (hdg : decode c.code g.pc = .ok (.checkcast index, 3)) :
    ∃ T', Stand p l e R s m args below meth c T' locs cells slots ∧ T'.heap = T.heap ∧ ∀ target, Steps p.tables e below (T'.setTop { g with pc := g.pc + 3, stack := .ref a :: rest }) target → Steps p.tables e below (T.setTop g) target := by
  obtain ⟨cB, h1, D, h2, h3, h4⟩ := hE
  have h1' : s.vm.findClass C = some cB := by rw [← X.warmed.alike.findClass]; exact h1
  obtain ⟨vm', X', st⟩ := X.checkcastYes hexec hown hlink h2 h4 h1' (by rw [h3]; exact Jvm.Free.SB.assignable_self _ _) hg hstack hdg
  exact ⟨_, X', rfl, fun t h => st t (by rw [← hstack] at h; exact h)⟩
namespace SEq
def yN : MethodName := ⟨"java/lang/String", "equals", "(Ljava/lang/Object;)Z"⟩
abbrev yB : ByteArray := jdk_42_method_66_code
theorem d0 : decode yB 0 = .ok (.aload_n 0, 1) := by decide +kernel
theorem d1 : decode yB 1 = .ok (.aload_n 1, 1) := by decide +kernel
theorem d2 : decode yB 2 = .ok (.if_acmp (.ne) 5, 3) := by decide +kernel
theorem d5 : decode yB 5 = .ok (.iconst 1, 1) := by decide +kernel
theorem d6 : decode yB 6 = .ok (.ireturn, 1) := by decide +kernel
theorem d7 : decode yB 7 = .ok (.aload_n 1, 1) := by decide +kernel
theorem d8 : decode yB 8 = .ok (.instanceof 10, 3) := by decide +kernel
theorem d11 : decode yB 11 = .ok (.ifCond (.eq) 43, 3) := by decide +kernel
theorem d14 : decode yB 14 = .ok (.aload_n 1, 1) := by decide +kernel
theorem d15 : decode yB 15 = .ok (.checkcast 10, 3) := by decide +kernel
theorem d18 : decode yB 18 = .ok (.astore_n 2, 1) := by decide +kernel
theorem d19 : decode yB 19 = .ok (.getstatic 38, 3) := by decide +kernel
theorem d22 : decode yB 22 = .ok (.ifCond (.eq) 14, 3) := by decide +kernel
theorem d25 : decode yB 25 = .ok (.aload_n 0, 1) := by decide +kernel
theorem d26 : decode yB 26 = .ok (.getfield 15, 3) := by decide +kernel
theorem d29 : decode yB 29 = .ok (.aload_n 2, 1) := by decide +kernel
theorem d30 : decode yB 30 = .ok (.getfield 15, 3) := by decide +kernel
theorem d33 : decode yB 33 = .ok (.if_icmp (.ne) 21, 3) := by decide +kernel
theorem d36 : decode yB 36 = .ok (.aload_n 0, 1) := by decide +kernel
theorem d37 : decode yB 37 = .ok (.getfield 9, 3) := by decide +kernel
theorem d40 : decode yB 40 = .ok (.aload_n 2, 1) := by decide +kernel
theorem d41 : decode yB 41 = .ok (.getfield 9, 3) := by decide +kernel
theorem d44 : decode yB 44 = .ok (.invokestatic 541, 3) := by decide +kernel
theorem d47 : decode yB 47 = .ok (.ifCond (.eq) 7, 3) := by decide +kernel
theorem d50 : decode yB 50 = .ok (.iconst 1, 1) := by decide +kernel
theorem d51 : decode yB 51 = .ok (.goto 4, 3) := by decide +kernel
theorem d54 : decode yB 54 = .ok (.iconst 0, 1) := by decide +kernel
theorem d55 : decode yB 55 = .ok (.ireturn, 1) := by decide +kernel
def site : List Cond := [.classLink "java/lang/String" 10 "java/lang/String", .fieldLink "java/lang/String" 38 "java/lang/String" "COMPACT_STRINGS" "Z", .fieldLink "java/lang/String" 15 "java/lang/String" "coder" "B", .fieldLink "java/lang/String" 9 "java/lang/String" "value" "[B", LEq.tab] ++ staticW "java/lang/String" 541 LEq.yN
def tab : Cond := tabOf yN yB 3 (some .boolean) site
def P (x t : Addr) (V : Cell) (cd : Int32) (n : Nat) (f : Nat → Int32) (y t' : Addr) (V' : Cell) (cd' : Int32) (k : Nat) (g : Nat → Int32) (z : Int32) (args : Array Value) (s : State) : Prop := args = #[.ref x, .ref y] ∧ Txt x t V cd n f s ∧ Txt y t' V' cd' k g s ∧ StaticIs s "java/lang/String" "COMPACT_STRINGS" "Z" (.int z) ∧ ¬ z = 0
/-- equals(Object) of two Strings: whether the texts are the same -/
theorem law (l : Launch) (x t : Addr) (V : Cell) (cd : Int32) (n : Nat) (f : Nat → Int32) (y t' : Addr) (V' : Cell) (cd' : Int32) (k : Nat) (g : Nat → Int32) (z : Int32) : Law l yN 2 1 1 14 yB 3 (some .boolean) site (P x t V cd n f y t' V' cd' k g z) (Says01 (SameT n f k g)) [] 0 0 := by
  refine Law.of_walk (plainFor_of_name (by decide +kernel)) (by decide +kernel) (by decide +kernel) (by decide) (fun _ _ h => by rw [h.1]; rfl) (fun _ U U' hal hh h => ⟨h.1, h.2.1.mv hal hh, h.2.2.1.mv hal hh, h.2.2.2.1.there hal hh, h.2.2.2.2⟩) (fun r U U' V V' h1 hal h2 h => Says01.mv r U U' V V' h1 hal h2 h) ?_
  intro p e s m args below meth c s₁ X0 hexec hbytes hml hret hlk hnm hown hh0 W hP
  obtain ⟨rfl, hx, hy, s1, hz⟩ := hP
  have c1 : Steps p.tables e below (s₁.setTop (entryFrame m #[.ref x, .ref y] 3)) (s₁.setTop (mkF m 2 #[.val (.ref x), .val (.ref y), .unset] [.ref y, .ref x])) := Steps.trans (entry rfl) (by
    show Steps p.tables e below (s₁.setTop (mkF m 0 #[.val (.ref x), .val (.ref y), .unset] [])) _
    refine XS.aloadN X0.here hexec rfl (hb hbytes d0) rfl rfl ?_
    refine XS.aloadN X0.here hexec rfl (hb hbytes d1) rfl rfl ?_
    exact Steps.refl _)
  by_cases hxy : x = y
  · have c2 : Steps p.tables e below (s₁.setTop (entryFrame m #[.ref x, .ref y] 3)) (s₁.setTop (mkF m 6 #[.val (.ref x), .val (.ref y), .unset] [.int 1])) := c1.trans (by
      refine acmpNo X0.here hexec rfl (hb hbytes d2) rfl rfl rfl (by simp [acmp, hxy]) ?_
      refine iconstV X0.here hexec rfl 1 (hb hbytes d5) (by decide) ?_
      exact Steps.refl _)
    subst hxy
    have ec : cd = cd' := by
      obtain ⟨D, fd, a1, a2, a3⟩ := hx.2.2.1
      obtain ⟨D', fd', b1, b2, b3⟩ := hy.2.2.1
      cases a1.symm.trans b1
      obtain ⟨q1, q2, q3, q4⟩ := a2.1
      obtain ⟨r1, r2, r3, r4⟩ := b2.1
      cases q4.symm.trans r4
      cases a3.symm.trans b3; rfl
    have et : t = t' := by
      obtain ⟨D, fd, a1, a2, a3⟩ := hx.2.1
      obtain ⟨D', fd', b1, b2, b3⟩ := hy.2.1
      cases a1.symm.trans b1
      obtain ⟨q1, q2, q3, q4⟩ := a2.1
      obtain ⟨r1, r2, r3, r4⟩ := b2.1
      cases q4.symm.trans r4
      cases a3.symm.trans b3; rfl
    subst ec et
    have ev : V = V' := by cases hx.2.2.2.1.1.symm.trans hy.2.2.2.1.1; rfl
    subst ev
    have hs : SameT n f k g := (Cod.eqv hx.2.2.2.2.1 hy.2.2.2.2.1 hx.2.2.2.2.2 hy.2.2.2.2.2).mp ⟨rfl, fun _ _ => rfl⟩
    exact ⟨s₁, some (.int 1), _, _, _, X0, rfl, rfl, rfl, (fun h => by cases h), ⟨1, rfl, hh0, Or.inl ⟨rfl, hs⟩⟩, fun fs hl => c2.trans (X0.ireturnOut hexec hret rfl (Or.inr (Or.inl rfl)) (hb hbytes d6) hl)⟩
  · have c2 : Steps p.tables e below (s₁.setTop (entryFrame m #[.ref x, .ref y] 3)) (s₁.setTop (mkF m 8 #[.val (.ref x), .val (.ref y), .unset] [.ref y])) := c1.trans (by
      refine acmpYes X0.here hexec rfl (pc0 := 2) rfl (hb hbytes d2) rfl rfl rfl (by simp [acmp, hxy]) (by decide) rfl ?_
      refine XS.aloadN X0.here hexec rfl (hb hbytes d7) rfl rfl ?_
      exact Steps.refl _)
    obtain ⟨T3, X3, q3, st3⟩ := cinst X0 hexec hown (wk W (.classLink "java/lang/String" 10 "java/lang/String")) (hy.mv X0.warmed.alike hh0).1 (g := (mkF m 8 #[.val (.ref x), .val (.ref y), .unset] [.ref y])) rfl (rest := []) rfl (hb hbytes d8)
    have hh3 := q3.trans hh0
    have c4 : Steps p.tables e below (s₁.setTop (entryFrame m #[.ref x, .ref y] 3)) (T3.setTop (mkF m 15 #[.val (.ref x), .val (.ref y), .unset] [.ref y])) := (c2.trans (st3 _ (Steps.refl _))).trans (by
      refine XS.ifNo X3.here hexec rfl (hb hbytes d11) rfl (i0_eq_f (by decide)) ?_
      refine XS.aloadN X3.here hexec rfl (hb hbytes d14) rfl rfl ?_
      exact Steps.refl _)
    obtain ⟨T5, X5, q5, st5⟩ := cself X3 hexec hown (wk W (.classLink "java/lang/String" 10 "java/lang/String")) (hy.mv X3.warmed.alike hh3).1 (g := (mkF m 15 #[.val (.ref x), .val (.ref y), .unset] [.ref y])) rfl (rest := []) rfl (hb hbytes d15)
    have hh5 := q5.trans hh3
    have c6 : Steps p.tables e below (s₁.setTop (entryFrame m #[.ref x, .ref y] 3)) (T5.setTop (mkF m 19 #[.val (.ref x), .val (.ref y), .val (.ref y)] [])) := (c4.trans (st5 _ (Steps.refl _))).trans (by
      refine XS.astoreN X5.here hexec rfl (hb hbytes d18) rfl rfl rfl ?_
      exact Steps.refl _)
    obtain ⟨T7, X7, q7, st7⟩ := X5.sget hexec hown (wk W (.fieldLink "java/lang/String" 38 "java/lang/String" "COMPACT_STRINGS" "Z")) s1 (fun _ _ h => by rw [hh5]; exact h) (g := (mkF m 19 #[.val (.ref x), .val (.ref y), .val (.ref y)] [])) rfl (hb hbytes d19)
    have hh7 := q7.trans hh5
    have c8 : Steps p.tables e below (s₁.setTop (entryFrame m #[.ref x, .ref y] 3)) (T7.setTop (mkF m 26 #[.val (.ref x), .val (.ref y), .val (.ref y)] [.ref x])) := (c6.trans (st7 _ (Steps.refl _))).trans (by
      refine XS.ifNo X7.here hexec rfl (hb hbytes d22) rfl (i0_eq_f hz) ?_
      refine XS.aloadN X7.here hexec rfl (hb hbytes d25) rfl rfl ?_
      exact Steps.refl _)
    obtain ⟨T9, X9, q9, st9⟩ := X7.hget hexec hown (wk W (.fieldLink "java/lang/String" 15 "java/lang/String" "coder" "B")) (hx.mv X7.warmed.alike hh7).2.2.1 (g := (mkF m 26 #[.val (.ref x), .val (.ref y), .val (.ref y)] [.ref x])) rfl (rest := []) rfl (hb hbytes d26)
    have hh9 := q9.trans hh7
    have c10 : Steps p.tables e below (s₁.setTop (entryFrame m #[.ref x, .ref y] 3)) (T9.setTop (mkF m 30 #[.val (.ref x), .val (.ref y), .val (.ref y)] [.ref y, .int cd])) := (c8.trans (st9 _ (Steps.refl _))).trans (by
      refine XS.aloadN X9.here hexec rfl (hb hbytes d29) rfl rfl ?_
      exact Steps.refl _)
    obtain ⟨T11, X11, q11, st11⟩ := X9.hget hexec hown (wk W (.fieldLink "java/lang/String" 15 "java/lang/String" "coder" "B")) (hy.mv X9.warmed.alike hh9).2.2.1 (g := (mkF m 30 #[.val (.ref x), .val (.ref y), .val (.ref y)] [.ref y, .int cd])) rfl (rest := [.int cd]) rfl (hb hbytes d30)
    have hh11 := q11.trans hh9
    have c12 : Steps p.tables e below (s₁.setTop (entryFrame m #[.ref x, .ref y] 3)) (T11.setTop (mkF m 33 #[.val (.ref x), .val (.ref y), .val (.ref y)] [.int cd', .int cd])) := c10.trans (st11 _ (Steps.refl _))
    by_cases hcd : cd = cd'
    · subst hcd
      have c13 : Steps p.tables e below (s₁.setTop (entryFrame m #[.ref x, .ref y] 3)) (T11.setTop (mkF m 37 #[.val (.ref x), .val (.ref y), .val (.ref y)] [.ref x])) := c12.trans (by
        refine XS.icmpNo X11.here hexec rfl (hb hbytes d33) rfl (ii_ne_f rfl) ?_
        refine XS.aloadN X11.here hexec rfl (hb hbytes d36) rfl rfl ?_
        exact Steps.refl _)
      obtain ⟨T14, X14, q14, st14⟩ := X11.hget hexec hown (wk W (.fieldLink "java/lang/String" 9 "java/lang/String" "value" "[B")) (hx.mv X11.warmed.alike hh11).2.1 (g := (mkF m 37 #[.val (.ref x), .val (.ref y), .val (.ref y)] [.ref x])) rfl (rest := []) rfl (hb hbytes d37)
      have hh14 := q14.trans hh11
      have c15 : Steps p.tables e below (s₁.setTop (entryFrame m #[.ref x, .ref y] 3)) (T14.setTop (mkF m 41 #[.val (.ref x), .val (.ref y), .val (.ref y)] [.ref y, .ref t])) := (c13.trans (st14 _ (Steps.refl _))).trans (by
        refine XS.aloadN X14.here hexec rfl (hb hbytes d40) rfl rfl ?_
        exact Steps.refl _)
      obtain ⟨T16, X16, q16, st16⟩ := X14.hget hexec hown (wk W (.fieldLink "java/lang/String" 9 "java/lang/String" "value" "[B")) (hy.mv X14.warmed.alike hh14).2.1 (g := (mkF m 41 #[.val (.ref x), .val (.ref y), .val (.ref y)] [.ref y, .ref t])) rfl (rest := [.ref t]) rfl (hb hbytes d41)
      have hh16 := q16.trans hh14
      have c17 : Steps p.tables e below (s₁.setTop (entryFrame m #[.ref x, .ref y] 3)) (T16.setTop (mkF m 44 #[.val (.ref x), .val (.ref y), .val (.ref y)] [.ref t', .ref t])) := c15.trans (st16 _ (Steps.refl _))
      obtain ⟨v18, T18, X18, E18, g18⟩ := X16.callS hexec (LEq.law l t V t' V') hown (wks W (staticW "java/lang/String" 541 LEq.yN)) (wk W LEq.tab) (W := 0) (Nat.le_of_ble_eq_true rfl) (Nat.le_of_ble_eq_true rfl) (Nat.le_refl _) (Nat.le_refl _) (g := (mkF m 44 #[.val (.ref x), .val (.ref y), .val (.ref y)] [.ref t', .ref t])) rfl (by rw [hml]; rfl) c17 (argsL := [.ref t, .ref t']) (rest := []) rfl rfl (by show 2 * 0 + 0 ≤ _; decide) (hb hbytes d44) (⟨rfl, hx.2.2.2.1.mv X16.warmed.alike hh16, hx.2.2.2.2.1.ty, hy.2.2.2.1.mv X16.warmed.alike hh16, hy.2.2.2.2.1.ty⟩)
      obtain ⟨v, rfl, q18, hv⟩ := E18
      have iff := Cod.eqv hx.2.2.2.2.1 hy.2.2.2.2.1 hx.2.2.2.2.2 hy.2.2.2.2.2
      rcases hv with ⟨rfl, he⟩ | ⟨rfl, he⟩
      · have c19 : Steps p.tables e below (s₁.setTop (entryFrame m #[.ref x, .ref y] 3)) (T18.setTop (mkF m 55 #[.val (.ref x), .val (.ref y), .val (.ref y)] [.int 1])) := Steps.trans g18 (by
          refine XS.ifNo X18.here hexec rfl (hb hbytes d47) rfl (i0_eq_f (by decide)) ?_
          refine iconstV X18.here hexec rfl 1 (hb hbytes d50) (by decide) ?_
          refine XS.goto X18.here hexec rfl (pc0 := 51) rfl (hb hbytes d51) (by decide) rfl ?_
          exact Steps.refl _)
        exact ⟨T18, some (.int 1), _, _, _, X18, rfl, rfl, rfl, (fun h => by cases h), ⟨1, rfl, q18.trans hh16, Or.inl ⟨rfl, iff.mp he⟩⟩, fun fs hl => c19.trans (X18.ireturnOut hexec hret rfl (Or.inr (Or.inl rfl)) (hb hbytes d55) hl)⟩
      · have c19 : Steps p.tables e below (s₁.setTop (entryFrame m #[.ref x, .ref y] 3)) (T18.setTop (mkF m 55 #[.val (.ref x), .val (.ref y), .val (.ref y)] [.int 0])) := Steps.trans g18 (by
          refine XS.ifYes X18.here hexec rfl (pc0 := 47) rfl (hb hbytes d47) rfl (i0_eq_t rfl) (by decide) rfl ?_
          refine iconstV X18.here hexec rfl 0 (hb hbytes d54) (by decide) ?_
          exact Steps.refl _)
        exact ⟨T18, some (.int 0), _, _, _, X18, rfl, rfl, rfl, (fun h => by cases h), ⟨0, rfl, q18.trans hh16, Or.inr ⟨rfl, fun q => he (iff.mpr q)⟩⟩, fun fs hl => c19.trans (X18.ireturnOut hexec hret rfl (Or.inr (Or.inl rfl)) (hb hbytes d55) hl)⟩
    · have c13 : Steps p.tables e below (s₁.setTop (entryFrame m #[.ref x, .ref y] 3)) (T11.setTop (mkF m 55 #[.val (.ref x), .val (.ref y), .val (.ref y)] [.int 0])) := c12.trans (by
        refine XS.icmpYes X11.here hexec rfl (pc0 := 33) rfl (hb hbytes d33) rfl (ii_ne_t hcd) (by decide) rfl ?_
        refine iconstV X11.here hexec rfl 0 (hb hbytes d54) (by decide) ?_
        exact Steps.refl _)
      exact ⟨T11, some (.int 0), _, _, _, X11, rfl, rfl, rfl, (fun h => by cases h), ⟨0, rfl, hh11, Or.inr ⟨rfl, Cod.dif hx.2.2.2.2.1 hy.2.2.2.2.1 hcd⟩⟩, fun fs hl => c13.trans (X11.ireturnOut hexec hret rfl (Or.inr (Or.inl rfl)) (hb hbytes d55) hl)⟩
theorem pays {l : Launch} {R : Room} {p : Program} {e : Env} {below : List Frame} {s : State} {sargs : Array Value} {len W : Nat} (x t : Addr) (V : Cell) (cd : Int32) (n : Nat) (f : Nat → Int32) (y t' : Addr) (V' : Cell) (cd' : Int32) (k : Nat) (g : Nat → Int32) (z : Int32) (htab : tab.before sargs s = true) (hfr : 2 ≤ R.frames) (hlo : W + 28 ≤ R.locals) :
    Back l R p e below s sargs yN len W (fun A₁ a₁ => A₁.cells + 0 ≤ R.cells ∧ A₁.slots + 0 ≤ R.slots ∧ P x t V cd n f y t' V' cd' k g z a₁ A₁.U) (fun A₁ _ v₁ B₁ => Says01 (SameT n f k g) v₁ A₁.U B₁.U ∧ B₁.locs = A₁.locs ++ [] ∧ B₁.cells = A₁.cells + 0 ∧ B₁.slots = A₁.slots + 0) :=
  (law l x t V cd n f y t' V' cd' k g z).pays htab hfr (by omega)
end SEq
end StrChars
namespace StrChars.Road
open Jvm Sem ClassFile Op Lib Jvm.Stand Jvm.Free Jvm.Free.XT
open Jvm.Lib.Cold (StaticIs)
/-- the words of String.equals(Object) -/
abbrev wordsEq : List Jvm.Cond := [.code SEq.yN SEq.yB 3 (some .boolean), .initialized ST, .classLink ST 10 ST, .fieldLink ST 38 ST "COMPACT_STRINGS" "Z", .fieldLink ST 15 ST "coder" "B", .fieldLink ST 9 ST "value" "[B", .methodLink ST 541 LEq.yN, .static LEq.yN, .code LEq.yN LEq.yB 3 (some .boolean), .initialized "java/lang/StringLatin1"]
theorem tabEq_of {a : Array Value} {s : State} (h : ∀ w ∈ wordsEq, w.before a s = true) : SEq.tab.before a s = true := by
  have hl : LEq.tab.before a s = true := unparts (wk h (.code LEq.yN LEq.yB 3 (some .boolean))) (wks h (.initialized LEq.yN.cls :: LEq.site))
  have q := consq hl h
  exact unparts (wk q (.code SEq.yN SEq.yB 3 (some .boolean))) (wks q (.initialized SEq.yN.cls :: SEq.site))
theorem movedEq {Z s : State} {a0 args : Array Value} (hZ : Z.Warmed39 s.vm) (hw : ∀ d ∈ wordsEq, d.before a0 Z = true) : ∀ d ∈ wordsEq, d.before args s = true := fun d hd => by
  have t : ∀ d ∈ wordsEq, (d.onTables && d.keepsFace) = true := by decide +kernel
  exact RoadKit.mv hZ (hw d hd) (t d hd)
/-- the road's facts of a String, as the laws ask it -/
theorem txt_of {Z U : State} {a0 : Array Value} {kI : Nat} (wi : (Jvm.Cond.instantiable ST kI).before a0 Z = true) (al : Z.vm.Alike U.vm) {x t : Addr} {kb : ClassId} {cs : List Int32} {cd N2 : Int32} {vs : List Value} (E : RoadKit.Exa Z U.heap x ST) (V : RoadKit.Fld Z U.heap x ST "value" "[B" (.ref t)) (C : RoadKit.Fld Z U.heap x ST "coder" "B" (.int cd)) (K : RoadKit.Arv Z U.heap t kb .byte N2 vs (.int 0)) (hc : CodA cs cd N2 vs) (hb : ∀ c ∈ cs, ¬ c < 0 ∧ ¬ (65535 : Int32) < c) (l2 : cs.length ≤ 4000) :
    ∃ A, Txt x t A cd cs.length (fun j => cs.getD j 0) U := by
  obtain ⟨A, K1, K2, K3, K4, K5, K6⟩ := K
  have hcod := hc.cod (by omega) K3 K5
  obtain ⟨D, fV, fC, hB, F1, F2, g1, g2, -, -⟩ := strObj wi al E V C
  exact ⟨A, ⟨_, hB.2.2.1, D, hB.1, rfl, by cases q : D.vm <;> first | rfl | exact absurd q (hB.2.1.2 _)⟩, Has.of hB F1 g1, Has.of hB F2 g2, ⟨K1.1, State.isArrayOf_alike al K1.2.1, K1.2.2, by rcases hcod with ⟨-, q, -⟩ | ⟨-, q, -⟩ <;> omega⟩, hcod, fun j hj => by
    have e : cs.getD j 0 = cs[j] := by simp [List.getD_eq_getElem?_getD, hj]
    show ¬ cs.getD j 0 < 0 ∧ ¬ 65535 < cs.getD j 0
    rw [e]; exact hb _ (List.getElem_mem _)⟩
theorem same_list (cs ds : List Int32) : SameT cs.length (fun j => cs.getD j 0) ds.length (fun j => ds.getD j 0) ↔ cs = ds := by
  constructor
  · rintro ⟨e, q⟩
    refine List.ext_getElem e fun j h1 h2 => ?_
    have := q j h1
    simpa [List.getD_eq_getElem?_getD, h1, h2] using this
  · rintro rfl
    exact ⟨rfl, fun _ _ => rfl⟩
/-- **equals(Object) OF TWO SUCH STRINGS**: 1 just where the chars are the same -/
theorem eqW {p : Program} {l : Launch} {e : Env} {R : Room} {s : State} {args : Array Value} {below : List Frame} {len W : Nat} {Z : State} {a0 : Array Value} {h : Heap} (hZ : Z.Warmed39 s.vm) (hw : ∀ d ∈ wordsEq, d.before a0 Z = true) {kI : Nat} (wi : (Jvm.Cond.instantiable ST kI).before a0 Z = true)
    {x t : Addr} {kb : ClassId} {cs : List Int32} {cd N2 : Int32} {vs : List Value} (E : RoadKit.Exa Z h x ST) (V : RoadKit.Fld Z h x ST "value" "[B" (.ref t)) (C : RoadKit.Fld Z h x ST "coder" "B" (.int cd)) (K : RoadKit.Arv Z h t kb .byte N2 vs (.int 0)) (hc : CodA cs cd N2 vs) (hb : ∀ c ∈ cs, ¬ c < 0 ∧ ¬ (65535 : Int32) < c) (l2 : cs.length ≤ 4000)
    {y t' : Addr} {kb' : ClassId} {ds : List Int32} {cd' N2' : Int32} {vs' : List Value} (E' : RoadKit.Exa Z h y ST) (V' : RoadKit.Fld Z h y ST "value" "[B" (.ref t')) (C' : RoadKit.Fld Z h y ST "coder" "B" (.int cd')) (K' : RoadKit.Arv Z h t' kb' .byte N2' vs' (.int 0)) (hc' : CodA ds cd' N2' vs') (hb' : ∀ c ∈ ds, ¬ c < 0 ∧ ¬ (65535 : Int32) < c) (l2' : ds.length ≤ 4000)
    {z : Int32} (S : RoadKit.Sta Z h ST "COMPACT_STRINGS" "Z" (.int z)) (hz : ¬ z = 0) (hfr : 2 ≤ R.frames) (hlo : W + 28 ≤ R.locals) :
    Back l R p e below s args (⟨"java/lang/String", "equals", "(Ljava/lang/Object;)Z"⟩ : MethodName) len W (fun P a => a = #[.ref x, .ref y] ∧ P.U.heap = h ∧ P.cells + 0 ≤ R.cells ∧ P.slots + 0 ≤ R.slots)
      (fun P _ v B => ∃ L, (((v = some (.int 1) ∧ cs = ds) ∨ (v = some (.int 0) ∧ ¬ cs = ds)) ∧ L = [] ∧ B.U.heap = h) ∧ B.locs = P.locs ++ L ∧ B.cells = P.cells + 0 ∧ B.slots = P.slots + 0) := by
  intro m meth c P g ig mk a X hg hsize hdg hW hn hp'
  obtain ⟨rfl, rfl, r1, r2⟩ := hp'
  have al : Z.vm.Alike P.U.vm := hZ.alike.trans X.warmed.alike
  obtain ⟨A, hx⟩ := txt_of wi al E V C K hc hb l2
  obtain ⟨A', hy⟩ := txt_of wi al E' V' C' K' hc' hb' l2'
  obtain ⟨v, B, X', ⟨⟨w, hv, hh, hq⟩, hl, hk, hs⟩, st⟩ := SEq.pays x t A cd cs.length (fun j => cs.getD j 0) y t' A' cd' ds.length (fun j => ds.getD j 0) z (tabEq_of (movedEq hZ hw)) hfr hlo m meth c P g ig mk _ X hg hsize hdg hW hn ⟨r1, r2, rfl, hx, hy, sta_is al S, hz⟩
  refine ⟨v, B, X', ⟨[], ⟨?_, rfl, hh⟩, hl, hk, hs⟩, st⟩
  rcases hq with ⟨rfl, q⟩ | ⟨rfl, q⟩
  · exact Or.inl ⟨hv, (same_list cs ds).mp q⟩
  · exact Or.inr ⟨hv, fun e => q ((same_list cs ds).mpr e)⟩
end StrChars.Road
namespace StrChars.Road
open Jvm Sem ClassFile Op Lib Jvm.Stand Jvm.Free Jvm.Free.XT
open Jvm.Lib.Cold (StaticIs)
/-- what backV says of its String, as the contracts of this text ask it: cs's low bytes, coder 0 -/
theorem codOf {cs : List Int32} {n : Nat} (hn : cs.length = n) (hb : ∀ c ∈ cs, ¬ 255 < c) : CodA cs 0 (Int32.ofNat n) ((cs.map lo8).map Value.int) := Or.inl ⟨rfl, by rw [hn], by simp [List.map_map, Function.comp_def], hb⟩
end StrChars.Road
end Jvm.Pilot.@@N@@

namespace Jvm.Pilot.@@N@@
open Jvm Jvm.ClassFile Sem Op Lib Jvm.Free Jvm.Stand Jvm.LawKit Jvm.RoadKit Bundle Jvm.Pilot.@@N@@.Jvm.D


theorem own_putC {p : Program} {l : Launch} {e : Env} {R : Room} {s : State} {m : MethodId} {args : Array Value} {below : List Frame} {meth : Method} {c : Code} {T : State} {locs : List Loc} {cells slots : Nat} {Z : State} {h : Heap} (X : Stand p l e R s m args below meth c T locs cells slots) (hx : p.tables.exec = Jvm.exec) (hZ : Z.Warmed39 s.vm) (eT : T.heap = h) {a : Addr} {k : ClassId} {z : Int32} {vs : List Value} (F : Arv Z h a k .char z vs (.int (0 : Int32))) {x : Int32} {j : Int32} (hj : j.toNatClampNeg = vs.length) (h0 : ¬ j < 0) (hl : vs.length < z.toNatClampNeg) {g : JFrame} (hg : g.method = m) {rest : List Value} (hs : g.stack = .int x :: .int j :: .ref a :: rest) (hd : decode c.code g.pc = .ok (.castore, 1)) :
    ∃ T' h', Stand p l e R s m args below meth c T' (locs ++ [⟨a, j.toNatClampNeg⟩]) cells slots ∧ T'.heap = h' ∧ Wr h h' a j.toNatClampNeg (.int (nar .char x)) ∧ Arv Z h' a k .char z (vs ++ [(.int (nar .char x))]) (.int (0 : Int32)) ∧ ∀ target, Steps p.tables e below (T'.setTop { g with pc := g.pc + 1, stack := rest }) target → Steps p.tables e below (T.setTop g) target := by
  have V' : Arv Z h a k .char z (vs ++ [(.int (0 : Int32))]) (.int (0 : Int32)) := F.pad (pad_rep vs (.int (0 : Int32)) 1)
  obtain ⟨cl, Ar, q, S, M, H, U⟩ := V'
  have hin : ¬ (j < 0 ∨ cl.slots.size ≤ j.toNatClampNeg) := by
    rw [S, hj]; exact fun q => q.elim h0 (fun q => absurd hl (Nat.not_lt.mpr q))
  obtain ⟨T', h', X', e', W, st⟩ := stC X hx hZ eT Ar hin hg hs hd
  have V3 := Arv.set Ar q S M H U (v := (.int (nar .char x))) (fits_nar_char _) W vs.length hj (by simp)
  rw [show (vs ++ [(Value.int (0 : Int32))]).set vs.length (Value.int (nar .char x)) = vs ++ [(Value.int (nar .char x))] by simp] at V3
  exact ⟨T', h', X', e', W, V3, st⟩

theorem ww {Z : State} {a0 : Array Value} (hw : ∀ d ∈ tables_1, d.before a0 Z = true) {d : Jvm.Cond} (i : Nat) (h : tables_1[i]? = some d) : d.before a0 Z = true := hw _ (List.mem_of_getElem? h)

theorem own_castV {p : Program} {l : Launch} {e : Env} {R : Room} {s : State} {m : MethodId} {args : Array Value} {below : List Frame} {meth : Method} {c : Code} {T : State} {locs : List Loc} {cells slots : Nat} {Z : State} {a0 : Array Value} {h : Heap} (X : Stand p l e R s m args below meth c T locs cells slots) (hx : p.tables.exec = Jvm.exec) (hZ : Z.Warmed39 s.vm) {own K : String} {index : Nat} (hown : s.vm.findClass own = some m.cls) (w : (Cond.classLink own index K).before a0 Z = true) (eT : T.heap = h) {v : Value} (F : v = .null ∨ ∃ a, v = .ref a ∧ Ins Z h a K true)
    {g : JFrame} (hg : g.method = m) {rest : List Value} (hs : g.stack = v :: rest) (hd : decode c.code g.pc = .ok (.checkcast index, 3)) : ∃ T', Stand p l e R s m args below meth c T' locs cells slots ∧ T'.heap = h ∧ ∀ target, Steps p.tables e below (T'.setTop { g with pc := g.pc + 3 }) target → Steps p.tables e below (T.setTop g) target := by
  rcases F with rfl | ⟨a, rfl, F⟩
  · exact ⟨T, X, eT, X.checkcastNull hx hg hs hd⟩
  · exact castY X hx hZ hown w eT F hg hs hd
theorem own_bk {l : Launch} {R : Room} {p : Program} {e : Env} {below : List Frame} {s : State} {args : Array Value} {y : MethodName} {len W : Nat} {h : Heap} {n0 : Nat} {Pre : Pt → Array Value → Prop} {A A' : Option Value → Prop} (hA : ∀ v, A v → A' v)
    (hB : Back l R p e below s args y len W Pre (fun P _ v B => ∃ L, (A v ∧ L = [] ∧ B.U.heap = h) ∧ B.locs = P.locs ++ L ∧ B.cells = P.cells + 0 ∧ B.slots = P.slots + 0)) :
    Back l R p e below s args y len W Pre (fun P _ v B => ∃ L, (A' v ∧ Fr n0 L ∧ B.U.heap = h) ∧ B.locs = P.locs ++ L ∧ B.cells = P.cells + 0 ∧ B.slots = P.slots + 0) :=
  Back.mono hB (fun _ _ q => q) (fun _ _ _ _ _ ⟨L, ⟨q1, q2, q3⟩, q4⟩ => ⟨L, ⟨hA _ q1, by subst q2; exact Fr.nil n0, q3⟩, q4⟩)
theorem own_eqv {cs ds : List Int32} (v : Option Value) (h : (v = some (.int 1) ∧ cs = ds) ∨ (v = some (.int 0) ∧ ¬ cs = ds)) : v = some (.int (if cs = ds then (1 : Int32) else 0)) := by
  rcases h with ⟨rfl, q⟩ | ⟨rfl, q⟩
  · rw [if_pos q]
  · rw [if_neg q]
theorem own_t {P : Prop} [Decidable P] (h : ¬ (if P then (1 : Int32) else 0) = 0) : P := by
  by_cases q : P
  · exact q
  · exact absurd (if_neg q) h
theorem own_f {P : Prop} [Decidable P] (h : (if P then (1 : Int32) else 0) = 0) : ¬ P := fun q => by
  rw [if_pos q] at h; exact absurd h (by decide)
theorem own_wide {l : Launch} {R : Room} {p : Program} {e : Env} {below : List Frame} {s : State} {args : Array Value} {y : MethodName} {len W n N : Nat} {as' : Array Value} {h : Heap} {Q : Option Value → Heap → List Loc → Prop} (hn : n ≤ N)
    (hB : Back l R p e below s args y len W (fun P a => a = as' ∧ P.U.heap = h ∧ P.cells + 1 ≤ R.cells ∧ P.slots + n ≤ R.slots) (fun P _ v B => ∃ L, Q v B.U.heap L ∧ B.locs = P.locs ++ L ∧ B.cells = P.cells + 1 ∧ B.slots = P.slots + n)) :
    Back l R p e below s args y len W (fun P a => a = as' ∧ P.U.heap = h ∧ P.cells + 1 ≤ R.cells ∧ P.slots + N ≤ R.slots) (fun P _ v B => ∃ L, Q v B.U.heap L ∧ B.locs = P.locs ++ L ∧ B.cells = P.cells + 1 ∧ B.slots = P.slots + N) := by
  intro m meth c A g ig mk a X hg hs hd hW hnm hp
  obtain ⟨v, B, X', ⟨L, q1, q2, q3, q4⟩, st⟩ := hB m meth c A g ig mk a X hg hs hd hW hnm ⟨hp.1, hp.2.1, hp.2.2.1, by have := hp.2.2.2; omega⟩
  exact ⟨v, ⟨B.U, B.locs, B.cells, A.slots + N⟩, X'.mono (Nat.le_refl _) (show B.slots ≤ A.slots + N by rw [q4]; omega), ⟨L, q1, q2, q3, rfl⟩, st⟩

theorem own_atoms {Z : State} {a0 : Array Value} (hw : ∀ d ∈ tables_1, d.before a0 Z = true) : ∀ a ∈ Bundle.stringAtoms, a.before a0 Z = true := fun d hd => by
  simp only [Bundle.stringAtoms, List.mem_cons, List.not_mem_nil, or_false] at hd
  rcases hd with rfl | rfl | rfl | rfl | rfl | rfl | rfl
  · exact hw _ (List.mem_of_getElem? (i := 7) rfl)
  · exact hw _ (List.mem_of_getElem? (i := 6) rfl)
  · exact hw _ (List.mem_of_getElem? (i := 23) rfl)
  · exact hw _ (List.mem_of_getElem? (i := 33) rfl)
  · exact hw _ (List.mem_of_getElem? (i := 31) rfl)
  · exact hw _ (List.mem_of_getElem? (i := 38) rfl)
  · exact hw _ (List.mem_of_getElem? (i := 39) rfl)
theorem own_EW {Z : State} {a0 : Array Value} (hw : ∀ d ∈ tables_1, d.before a0 Z = true) : EW Z a0 consts_1 := (EW.cons (text := "LENDER") (ww hw 37 rfl) (by decide +kernel) (EW.cons (text := "BORROWER") (ww hw 105 rfl) (by decide +kernel) (EW.cons (text := "PICKUP") (ww hw 106 rfl) (by decide +kernel) (EW.cons (text := "BORROWING-PICKUP") (ww hw 107 rfl) (by decide +kernel) (EW.cons (text := "") (ww hw 104 rfl) (by decide +kernel) EW.nil)))))
theorem own_and255 (x : Int32) : ¬ nar .char ((x &&& (255 : Int32)).toUInt32.toUInt16.toUInt32.toInt32) < 0 ∧ ¬ (255 : Int32) < nar .char ((x &&& (255 : Int32)).toUInt32.toUInt16.toUInt32.toInt32) := by
  have t : ∀ k : Fin 256, ¬ nar .char ((Int32.ofNat k.val).toUInt32.toUInt16.toUInt32.toInt32) < 0 ∧ ¬ (255 : Int32) < nar .char ((Int32.ofNat k.val).toUInt32.toUInt16.toUInt32.toInt32) := by decide +kernel
  have h : (x &&& 255).toBitVec.toNat < 256 := by
    simp only [Int32.toBitVec_and, BitVec.toNat_and]
    exact Nat.lt_succ_of_le Nat.and_le_right
  have e : (x &&& 255) = Int32.ofNat (x &&& 255).toBitVec.toNat := by
    apply Int32.toBitVec_inj.mp
    show _ = BitVec.ofNat 32 _
    rw [BitVec.ofNat_toNat]; simp
  rw [e]
  exact t ⟨_, h⟩
theorem own_up (cs : List Int32) (h : ∀ c ∈ cs, ¬ c < 0 ∧ ¬ (255 : Int32) < c) : ∀ c ∈ cs, ¬ c < 0 ∧ ¬ (65535 : Int32) < c := fun c hc => ⟨(h c hc).1, fun q => (h c hc).2 (by rw [Int32.lt_iff_toInt_lt] at q ⊢; have e1 : (65535 : Int32).toInt = 65535 := rfl; have e2 : (255 : Int32).toInt = 255 := rfl; omega)⟩

abbrev own_d0 : List Int32 := ([76, 69, 78, 68, 69, 82] : List Int32)
abbrev own_d1 : List Int32 := ([66, 79, 82, 82, 79, 87, 69, 82] : List Int32)
abbrev own_d2 : List Int32 := ([80, 73, 67, 75, 85, 80] : List Int32)
abbrev own_d3 : List Int32 := ([66, 79, 82, 82, 79, 87, 73, 78, 71, 45, 80, 73, 67, 75, 85, 80] : List Int32)
theorem own_wB {Z : State} {a0 : Array Value} (hw : ∀ d ∈ tables_1, d.before a0 Z = true) : ∀ d ∈ StrChars.Road.words, d.before a0 Z = true := fun d hd => hw d ((by decide +kernel : ∀ d ∈ StrChars.Road.words, d ∈ tables_1) d hd)
theorem own_wQ {Z : State} {a0 : Array Value} (hw : ∀ d ∈ tables_1, d.before a0 Z = true) : ∀ d ∈ StrChars.Road.wordsEq, d.before a0 Z = true := fun d hd => hw d ((by decide +kernel : ∀ d ∈ StrChars.Road.wordsEq, d ∈ tables_1) d hd)
def own_good (cs : List Int32) : Prop := cs.length ≤ 17 ∧ ∀ c ∈ cs, ¬ c < 0 ∧ ¬ (255 : Int32) < c
theorem own_hb {cs : List Int32} (h : own_good cs) : ∀ c ∈ cs, ¬ c < 0 ∧ ¬ (65535 : Int32) < c := own_up cs h.2
theorem own_cd {cs : List Int32} (h : own_good cs) : StrChars.Road.CodA cs 0 (Int32.ofNat cs.length) ((cs.map StrChars.lo8).map Value.int) := StrChars.Road.codOf rfl (fun c hc => (h.2 c hc).2)
theorem own_gd0 : own_good own_d0 := ⟨by decide, by decide⟩
theorem own_gd1 : own_good own_d1 := ⟨by decide, by decide⟩
theorem own_gd2 : own_good own_d2 := ⟨by decide, by decide⟩
theorem own_gd3 : own_good own_d3 := ⟨by decide, by decide⟩
def own_role (cs : List Int32) (w0 w1 w2 w3 : Addr) : Value := if cs = own_d0 then .ref w0 else if cs = own_d1 then .ref w1 else if cs = own_d2 then .ref w2 else if cs = own_d3 then .ref w3 else .null
theorem d8_0 : decode method_3_code 0 = .ok (.aload_n 0, 1) := by decide +kernel
theorem d8_1 : decode method_3_code 1 = .ok (.ldc 39, 2) := by decide +kernel
theorem d8_3 : decode method_3_code 3 = .ok (.invokevirtual 41, 3) := by decide +kernel
theorem own_pd0 : parseMethodDescriptor "(Ljava/lang/Object;)Z" = some ⟨[(.object "java/lang/Object")], some .boolean⟩ := by decide +kernel
theorem d8_6 : decode method_3_code 6 = .ok (.ifCond .eq 7, 3) := by decide +kernel
theorem d8_9 : decode method_3_code 9 = .ok (.getstatic 45, 3) := by decide +kernel
theorem d8_12 : decode method_3_code 12 = .ok (.areturn, 1) := by decide +kernel
theorem ef_8 (m : MethodId) (x0 : Addr) : entryFrame m #[(.ref x0)] 1 = mkF m 0 #[.val (.ref x0)] [] := by first | (simp [entryFrame, mkF, argsToLocals, Value.category]; done) | rfl
theorem pn_8 : plainName "com/example/lendloop/lendloop/core/TransactionRoleFromWireNamePinLaw" = true := by first | (simp [plainName, overriddenIn]; done) | decide +kernel
def Qd0 (Z : State) (xs tt w0 w1 w2 w3 : Addr) (kb : ClassId) (cs : List Int32) (z : Int32) (h0 : Heap) (n0 : Nat) (v : Option Value) (h : Heap) (L : List Loc) : Prop := v = some (own_role cs w0 w1 w2 w3) ∧ Fr n0 L ∧ Keep h0 h []
set_option maxRecDepth 65536 in
set_option maxHeartbeats 40000000 in
theorem rmF0 (l : Launch) (Z : State) (a0 : Array Value) (hw : ∀ d ∈ tables_1, d.before a0 Z = true) (ws : List Jvm.Cond) (xs tt w0 w1 w2 w3 : Addr) (kb : ClassId) (cs : List Int32) (z : Int32) (h0 : Heap) (n0 : Nat) (O0 : Old Z n0 h0) (Ex : Exa Z h0 xs "java/lang/String") (Vx : Fld Z h0 xs "java/lang/String" "value" "[B" (.ref tt)) (Cx : Fld Z h0 xs "java/lang/String" "coder" "B" (.int 0)) (Kx : Arv Z h0 tt kb .byte (Int32.ofNat (cs).length) (((cs).map StrChars.lo8).map Value.int) (.int 0)) (SC : Sta Z Z.heap "java/lang/String" "COMPACT_STRINGS" "Z" (.int z)) (hz : ¬ z = 0) (SR0 : Sta Z Z.heap "com/example/lendloop/lendloop/core/TransactionRole" "LENDER" "Lcom/example/lendloop/lendloop/core/TransactionRole;" (.ref w0)) (SR1 : Sta Z Z.heap "com/example/lendloop/lendloop/core/TransactionRole" "BORROWER" "Lcom/example/lendloop/lendloop/core/TransactionRole;" (.ref w1)) (SR2 : Sta Z Z.heap "com/example/lendloop/lendloop/core/TransactionRole" "PICKUP" "Lcom/example/lendloop/lendloop/core/TransactionRole;" (.ref w2)) (SR3 : Sta Z Z.heap "com/example/lendloop/lendloop/core/TransactionRole" "BORROWING_PICKUP" "Lcom/example/lendloop/lendloop/core/TransactionRole;" (.ref w3)) (hg : own_good cs) (hc6 : ¬ ((if cs = own_d0 then (1 : Int32) else 0) = (0 : Int32))) :
    MetFree l (⟨"com/example/lendloop/lendloop/core/TransactionRoleFromWireNamePinLaw", "reference", "(Ljava/lang/String;)Lcom/example/lendloop/lendloop/core/TransactionRole;"⟩ : MethodName) (head1 (Jvm.Cond.code (⟨"com/example/lendloop/lendloop/core/TransactionRoleFromWireNamePinLaw", "reference", "(Ljava/lang/String;)Lcom/example/lendloop/lendloop/core/TransactionRole;"⟩ : MethodName) method_3_code 1 (some (.object "com/example/lendloop/lendloop/core/TransactionRole")) :: ws) ({ frames := 2, cells := 8, slots := 160, locals := 40 } : Room)) (fun qq U => qq = #[(.ref xs)] ∧ Z.Warmed39 U.vm ∧ U.heap = h0 ∧ CHv Z consts_1 U.vm h0) (fun _ _ _ _ _ => True) (fun _ UU oo UU' => ∃ vv LL, oo = .returned vv ∧ Qd0 Z xs tt w0 w1 w2 w3 kb cs z h0 n0 vv UU'.heap LL ∧ CHr Z consts_1 UU.vm UU.heap UU'.vm UU'.heap ∧ ReturnedEndW UU oo UU' LL ({ frames := 2, cells := 8, slots := 160, locals := 40 } : Room).cells ({ frames := 2, cells := 8, slots := 160, locals := 40 } : Room).slots) := by
  refine MetFree.of_bodySF (plainFor_of_name pn_8) hisR ?_
  intro p e s m args below meth c s₁ Bd hml0 hP hK
  obtain ⟨rfl, hZ, hh, hC0⟩ := hP
  have hZ : Z.Warmed39 (s.setVm s.vm).vm := hZ
  have CR0 := CHr.refl hC0
  have hx := Bd.exec
  have hby := Bd.bytes
  have hml : c.maxLocals = 1 := hml0
  have hown : (s.setVm s.vm).vm.findClass "com/example/lendloop/lendloop/core/TransactionRoleFromWireNamePinLaw" = some m.cls := findClass_of_methodNamed Bd.named
  have hnm := (name_of_methodNamed Bd.named Bd.method).1
  have X0 : Stand p l e ({ frames := 2, cells := 8, slots := 160, locals := 40 } : Room) (s.setVm s.vm) m #[(.ref xs)] below meth c s₁ [] 0 0 := Stand.of_body Bd
  have e0 : s₁.heap = h0 := by rw [← hh, Bd.state]; rfl
  have N0 := Fr.nil n0
  have pre0 : ∀ tgt, Steps p.tables e below (s₁.setTop (mkF m 0 #[.val (.ref xs)] [])) tgt → Steps p.tables e below (s₁.setTop (entryFrame m #[(.ref xs)] 1)) tgt := fun tt kk => castTop (ef_8 m xs) kk
  obtain ⟨a1, T1, h1, k1, b1, kc1, X1, e1, E1, S1, sw1, hZ1, hown1, Le1, Lc1, Lv1, La1, -, -, CC1, -, -, st1⟩ := ldcCH (s := s) (vm0 := s.vm) X0 hx hZ hown (ww hw 37 rfl) (own_atoms hw) e0 (State.WarmedH.since (State.WarmedH.refl s) 0) (Nat.zero_le _) (own_EW hw) (EL := consts_1) (List.mem_of_getElem? (i := 0) rfl) CR0.1 (vs := ((([76, 69, 78, 68, 69, 82] : List Int32).map StrChars.lo8).map Value.int)) (z := Int32.ofNat (([76, 69, 78, 68, 69, 82] : List Int32)).length) ⟨by decide +kernel, by decide +kernel⟩ (by decide +kernel) (by decide +kernel) (g := (mkF m 1 #[.val (.ref xs)] [(.ref xs)])) rfl (hb hby d8_1) (n := 24) (by decide +kernel) (by decide) (by decide) (by decide)
  have SC1 := CC1
  have CR1 := CHr.trans CR0 SC1
  have O1 := Old.ext O0 E1
  have K1 := Keep.ext (Keep.refl h0 []) E1
  obtain ⟨cq2, kq2, q2a, q2b, q2c⟩ := isOf hZ1 e1 (Exa.ext E1 Ex)
  obtain ⟨_, _, ⟨T2, L2, k2, n2⟩, -, X2, ⟨Lc2, hQ2, l2, y2, z2⟩, st2⟩ := X1.virtualBack hx (y := (⟨"java/lang/String", "equals", "(Ljava/lang/Object;)Z"⟩ : MethodName)) (z := (⟨"java/lang/String", "equals", "(Ljava/lang/Object;)Z"⟩ : MethodName)) hown1 (mvT hZ1 (ww hw 40 rfl)) (mvT hZ1 (ww hw 41 rfl)) (notFace_of_selects (args := #[]) (mvT hZ1 (ww hw 43 rfl))) (mvT hZ1 (ww hw 43 rfl)) (mvT hZ1 (ww hw 42 rfl)) (by decide) (own_bk (n0 := n0) own_eqv (StrChars.Road.eqW (W := 0) hZ1 (own_wQ hw) (kI := 4) (ww hw 6 rfl) (Exa.ext E1 Ex) (Fld.ext E1 Vx) (Fld.ext E1 Cx) (Kx.ext E1) (own_cd hg) (own_hb hg) (Nat.le_trans hg.1 (by decide)) Le1 Lv1 Lc1 La1 (own_cd own_gd0) (own_hb own_gd0) (Nat.le_trans own_gd0.1 (by decide)) (Sta.ext O1.2 SC) hz (by decide) (by decide))) q2a q2c (g := (mkF m 3 #[.val (.ref xs)] [(.ref a1), (.ref xs)])) rfl (by rw [hml]; rfl) (Steps.refl _) (argsL := [(.ref a1)]) (rest := []) (lenOf own_pd0 rfl) rfl (by show 2 * 0 + _ ≤ _; exact Nat.le_of_eq rfl) (hb hby d8_3) (fun _ _ => ⟨rfl, e1, (by decide : 2 + 0 ≤ _), (by decide : 28 + 0 ≤ _)⟩)
  dsimp only [Pt.U, Pt.locs, Pt.cells, Pt.slots] at X2 l2 y2 z2 st2 hQ2
  subst l2 y2 z2
  obtain ⟨rfl, N2q, e2⟩ := hQ2
  have N2 := Fr.app N0 N2q
  obtain ⟨T3, X3, e3, st3⟩ := getS2 X2 hx hZ1 hown1 (host := "") (Or.inl (ww hw 50 rfl)) Via.refl e2 (SR0.ext O1.2) (g := (mkF m 9 #[.val (.ref xs)] [])) rfl (hb hby d8_9)
  obtain ⟨fs, hr, hrun, hended, hE⟩ := X3.leaveW (s := s) (vm₁ := T1.vm) S1 (by rw [e3]; exact sw1) (v := some (.ref w0)) (fun h => by rw [Bd.returns] at h; cases h)
  have CE : CHr Z consts_1 s.vm s.heap T3.vm T3.heap := by
    rw [hh, e3]
    exact CHr.trans CR1 (CHv.at X3 hZ1 (own_EW hw) CR1.1)
  refine ⟨_, _, pre0 _ ?_, hrun, hended, _, _, rfl, ?_, CE, hE.1, hE.2.1, hE.2.2.1, hE.2.2.2.mono (by decide) (by decide)⟩
  · show Steps p.tables e below (s₁.setTop (mkF m 0 #[.val (.ref xs)] [])) _
    refine XS.aloadN X0.here hx rfl (hb hby d8_0) rfl rfl ?_
    show Steps p.tables e below (s₁.setTop (mkF m 1 #[.val (.ref xs)] [(.ref xs)])) _
    refine st1 _ ?_
    show Steps p.tables e below (T1.setTop (mkF m 3 #[.val (.ref xs)] [(.ref a1), (.ref xs)])) _
    refine st2.trans ?_
    show Steps p.tables e below (T2.setTop (mkF m 6 #[.val (.ref xs)] [(.int (if cs = own_d0 then (1 : Int32) else 0))])) _
    refine XS.ifNo X2.here hx rfl (hb hby d8_6) rfl ((if0 _ _).trans (feq hc6).1) ?_
    show Steps p.tables e below (T2.setTop (mkF m 9 #[.val (.ref xs)] [])) _
    refine st3 _ ?_
    show Steps p.tables e below (T3.setTop (mkF m 12 #[.val (.ref xs)] [(.ref w0)])) _
    exact retOut X3 hx Bd.returns rfl (Or.inr (Or.inr (Or.inr (Or.inr ⟨rfl, rfl, rfl⟩)))) (hb hby d8_12) hr
  · show Qd0 Z xs tt w0 w1 w2 w3 kb cs z h0 n0 _ T3.heap _
    rw [e3]
    exact ⟨by rw [own_role, if_pos (own_t hc6)], N2, K1⟩
theorem d8_13 : decode method_3_code 13 = .ok (.aload_n 0, 1) := by decide +kernel
theorem d8_14 : decode method_3_code 14 = .ok (.ldc 48, 2) := by decide +kernel
theorem d8_16 : decode method_3_code 16 = .ok (.invokevirtual 41, 3) := by decide +kernel
theorem d8_19 : decode method_3_code 19 = .ok (.ifCond .eq 7, 3) := by decide +kernel
theorem d8_22 : decode method_3_code 22 = .ok (.getstatic 50, 3) := by decide +kernel
theorem d8_25 : decode method_3_code 25 = .ok (.areturn, 1) := by decide +kernel
set_option maxRecDepth 65536 in
set_option maxHeartbeats 40000000 in
theorem rmF1 (l : Launch) (Z : State) (a0 : Array Value) (hw : ∀ d ∈ tables_1, d.before a0 Z = true) (ws : List Jvm.Cond) (xs tt w0 w1 w2 w3 : Addr) (kb : ClassId) (cs : List Int32) (z : Int32) (h0 : Heap) (n0 : Nat) (O0 : Old Z n0 h0) (Ex : Exa Z h0 xs "java/lang/String") (Vx : Fld Z h0 xs "java/lang/String" "value" "[B" (.ref tt)) (Cx : Fld Z h0 xs "java/lang/String" "coder" "B" (.int 0)) (Kx : Arv Z h0 tt kb .byte (Int32.ofNat (cs).length) (((cs).map StrChars.lo8).map Value.int) (.int 0)) (SC : Sta Z Z.heap "java/lang/String" "COMPACT_STRINGS" "Z" (.int z)) (hz : ¬ z = 0) (SR0 : Sta Z Z.heap "com/example/lendloop/lendloop/core/TransactionRole" "LENDER" "Lcom/example/lendloop/lendloop/core/TransactionRole;" (.ref w0)) (SR1 : Sta Z Z.heap "com/example/lendloop/lendloop/core/TransactionRole" "BORROWER" "Lcom/example/lendloop/lendloop/core/TransactionRole;" (.ref w1)) (SR2 : Sta Z Z.heap "com/example/lendloop/lendloop/core/TransactionRole" "PICKUP" "Lcom/example/lendloop/lendloop/core/TransactionRole;" (.ref w2)) (SR3 : Sta Z Z.heap "com/example/lendloop/lendloop/core/TransactionRole" "BORROWING_PICKUP" "Lcom/example/lendloop/lendloop/core/TransactionRole;" (.ref w3)) (hg : own_good cs) (hc6 : (if cs = own_d0 then (1 : Int32) else 0) = (0 : Int32)) (hc19 : ¬ ((if cs = own_d1 then (1 : Int32) else 0) = (0 : Int32))) :
    MetFree l (⟨"com/example/lendloop/lendloop/core/TransactionRoleFromWireNamePinLaw", "reference", "(Ljava/lang/String;)Lcom/example/lendloop/lendloop/core/TransactionRole;"⟩ : MethodName) (head1 (Jvm.Cond.code (⟨"com/example/lendloop/lendloop/core/TransactionRoleFromWireNamePinLaw", "reference", "(Ljava/lang/String;)Lcom/example/lendloop/lendloop/core/TransactionRole;"⟩ : MethodName) method_3_code 1 (some (.object "com/example/lendloop/lendloop/core/TransactionRole")) :: ws) ({ frames := 2, cells := 8, slots := 160, locals := 40 } : Room)) (fun qq U => qq = #[(.ref xs)] ∧ Z.Warmed39 U.vm ∧ U.heap = h0 ∧ CHv Z consts_1 U.vm h0) (fun _ _ _ _ _ => True) (fun _ UU oo UU' => ∃ vv LL, oo = .returned vv ∧ Qd0 Z xs tt w0 w1 w2 w3 kb cs z h0 n0 vv UU'.heap LL ∧ CHr Z consts_1 UU.vm UU.heap UU'.vm UU'.heap ∧ ReturnedEndW UU oo UU' LL ({ frames := 2, cells := 8, slots := 160, locals := 40 } : Room).cells ({ frames := 2, cells := 8, slots := 160, locals := 40 } : Room).slots) := by
  refine MetFree.of_bodySF (plainFor_of_name pn_8) hisR ?_
  intro p e s m args below meth c s₁ Bd hml0 hP hK
  obtain ⟨rfl, hZ, hh, hC0⟩ := hP
  have hZ : Z.Warmed39 (s.setVm s.vm).vm := hZ
  have CR0 := CHr.refl hC0
  have hx := Bd.exec
  have hby := Bd.bytes
  have hml : c.maxLocals = 1 := hml0
  have hown : (s.setVm s.vm).vm.findClass "com/example/lendloop/lendloop/core/TransactionRoleFromWireNamePinLaw" = some m.cls := findClass_of_methodNamed Bd.named
  have hnm := (name_of_methodNamed Bd.named Bd.method).1
  have X0 : Stand p l e ({ frames := 2, cells := 8, slots := 160, locals := 40 } : Room) (s.setVm s.vm) m #[(.ref xs)] below meth c s₁ [] 0 0 := Stand.of_body Bd
  have e0 : s₁.heap = h0 := by rw [← hh, Bd.state]; rfl
  have N0 := Fr.nil n0
  have pre0 : ∀ tgt, Steps p.tables e below (s₁.setTop (mkF m 0 #[.val (.ref xs)] [])) tgt → Steps p.tables e below (s₁.setTop (entryFrame m #[(.ref xs)] 1)) tgt := fun tt kk => castTop (ef_8 m xs) kk
  obtain ⟨a1, T1, h1, k1, b1, kc1, X1, e1, E1, S1, sw1, hZ1, hown1, Le1, Lc1, Lv1, La1, -, -, CC1, -, -, st1⟩ := ldcCH (s := s) (vm0 := s.vm) X0 hx hZ hown (ww hw 37 rfl) (own_atoms hw) e0 (State.WarmedH.since (State.WarmedH.refl s) 0) (Nat.zero_le _) (own_EW hw) (EL := consts_1) (List.mem_of_getElem? (i := 0) rfl) CR0.1 (vs := ((([76, 69, 78, 68, 69, 82] : List Int32).map StrChars.lo8).map Value.int)) (z := Int32.ofNat (([76, 69, 78, 68, 69, 82] : List Int32)).length) ⟨by decide +kernel, by decide +kernel⟩ (by decide +kernel) (by decide +kernel) (g := (mkF m 1 #[.val (.ref xs)] [(.ref xs)])) rfl (hb hby d8_1) (n := 24) (by decide +kernel) (by decide) (by decide) (by decide)
  have SC1 := CC1
  have CR1 := CHr.trans CR0 SC1
  have O1 := Old.ext O0 E1
  have K1 := Keep.ext (Keep.refl h0 []) E1
  obtain ⟨cq2, kq2, q2a, q2b, q2c⟩ := isOf hZ1 e1 (Exa.ext E1 Ex)
  obtain ⟨_, _, ⟨T2, L2, k2, n2⟩, -, X2, ⟨Lc2, hQ2, l2, y2, z2⟩, st2⟩ := X1.virtualBack hx (y := (⟨"java/lang/String", "equals", "(Ljava/lang/Object;)Z"⟩ : MethodName)) (z := (⟨"java/lang/String", "equals", "(Ljava/lang/Object;)Z"⟩ : MethodName)) hown1 (mvT hZ1 (ww hw 40 rfl)) (mvT hZ1 (ww hw 41 rfl)) (notFace_of_selects (args := #[]) (mvT hZ1 (ww hw 43 rfl))) (mvT hZ1 (ww hw 43 rfl)) (mvT hZ1 (ww hw 42 rfl)) (by decide) (own_bk (n0 := n0) own_eqv (StrChars.Road.eqW (W := 0) hZ1 (own_wQ hw) (kI := 4) (ww hw 6 rfl) (Exa.ext E1 Ex) (Fld.ext E1 Vx) (Fld.ext E1 Cx) (Kx.ext E1) (own_cd hg) (own_hb hg) (Nat.le_trans hg.1 (by decide)) Le1 Lv1 Lc1 La1 (own_cd own_gd0) (own_hb own_gd0) (Nat.le_trans own_gd0.1 (by decide)) (Sta.ext O1.2 SC) hz (by decide) (by decide))) q2a q2c (g := (mkF m 3 #[.val (.ref xs)] [(.ref a1), (.ref xs)])) rfl (by rw [hml]; rfl) (Steps.refl _) (argsL := [(.ref a1)]) (rest := []) (lenOf own_pd0 rfl) rfl (by show 2 * 0 + _ ≤ _; exact Nat.le_of_eq rfl) (hb hby d8_3) (fun _ _ => ⟨rfl, e1, (by decide : 2 + 0 ≤ _), (by decide : 28 + 0 ≤ _)⟩)
  dsimp only [Pt.U, Pt.locs, Pt.cells, Pt.slots] at X2 l2 y2 z2 st2 hQ2
  subst l2 y2 z2
  obtain ⟨rfl, N2q, e2⟩ := hQ2
  have N2 := Fr.app N0 N2q
  obtain ⟨a3, T3, h3, k3, b3, kc3, X3, e3, E3, S3, sw3, hZ3, hown3, Le3, Lc3, Lv3, La3, -, -, CC3, -, -, st3⟩ := ldcCH (s := s) (vm0 := T1.vm) X2 hx hZ1 hown1 (ww hw 105 rfl) (own_atoms hw) e2 S1 sw1 (own_EW hw) (EL := consts_1) (List.mem_of_getElem? (i := 1) rfl) CR1.1 (vs := ((([66, 79, 82, 82, 79, 87, 69, 82] : List Int32).map StrChars.lo8).map Value.int)) (z := Int32.ofNat (([66, 79, 82, 82, 79, 87, 69, 82] : List Int32)).length) ⟨by decide +kernel, by decide +kernel⟩ (by decide +kernel) (by decide +kernel) (g := (mkF m 14 #[.val (.ref xs)] [(.ref xs)])) rfl (hb hby d8_14) (n := 32) (by decide +kernel) (by decide) (by decide) (by decide)
  have SC3 := CC3
  have CR3 := CHr.trans CR1 SC3
  have O3 := Old.ext O1 E3
  have K3 := Keep.ext K1 E3
  obtain ⟨cq4, kq4, q4a, q4b, q4c⟩ := isOf hZ3 e3 (Exa.ext E3 (Exa.ext E1 Ex))
  obtain ⟨_, _, ⟨T4, L4, k4, n4⟩, -, X4, ⟨Lc4, hQ4, l4, y4, z4⟩, st4⟩ := X3.virtualBack hx (y := (⟨"java/lang/String", "equals", "(Ljava/lang/Object;)Z"⟩ : MethodName)) (z := (⟨"java/lang/String", "equals", "(Ljava/lang/Object;)Z"⟩ : MethodName)) hown3 (mvT hZ3 (ww hw 40 rfl)) (mvT hZ3 (ww hw 41 rfl)) (notFace_of_selects (args := #[]) (mvT hZ3 (ww hw 43 rfl))) (mvT hZ3 (ww hw 43 rfl)) (mvT hZ3 (ww hw 42 rfl)) (by decide) (own_bk (n0 := n0) own_eqv (StrChars.Road.eqW (W := 0) hZ3 (own_wQ hw) (kI := 4) (ww hw 6 rfl) (Exa.ext E3 (Exa.ext E1 Ex)) (Fld.ext E3 (Fld.ext E1 Vx)) (Fld.ext E3 (Fld.ext E1 Cx)) ((Kx.ext E1).ext E3) (own_cd hg) (own_hb hg) (Nat.le_trans hg.1 (by decide)) Le3 Lv3 Lc3 La3 (own_cd own_gd1) (own_hb own_gd1) (Nat.le_trans own_gd1.1 (by decide)) (Sta.ext O3.2 SC) hz (by decide) (by decide))) q4a q4c (g := (mkF m 16 #[.val (.ref xs)] [(.ref a3), (.ref xs)])) rfl (by rw [hml]; rfl) (Steps.refl _) (argsL := [(.ref a3)]) (rest := []) (lenOf own_pd0 rfl) rfl (by show 2 * 0 + _ ≤ _; exact Nat.le_of_eq rfl) (hb hby d8_16) (fun _ _ => ⟨rfl, e3, (by decide : 4 + 0 ≤ _), (by decide : 64 + 0 ≤ _)⟩)
  dsimp only [Pt.U, Pt.locs, Pt.cells, Pt.slots] at X4 l4 y4 z4 st4 hQ4
  subst l4 y4 z4
  obtain ⟨rfl, N4q, e4⟩ := hQ4
  have N4 := Fr.app N2 N4q
  obtain ⟨T5, X5, e5, st5⟩ := getS2 X4 hx hZ3 hown3 (host := "") (Or.inl (ww hw 112 rfl)) Via.refl e4 (SR1.ext O3.2) (g := (mkF m 22 #[.val (.ref xs)] [])) rfl (hb hby d8_22)
  obtain ⟨fs, hr, hrun, hended, hE⟩ := X5.leaveW (s := s) (vm₁ := T3.vm) S3 (by rw [e5]; exact sw3) (v := some (.ref w1)) (fun h => by rw [Bd.returns] at h; cases h)
  have CE : CHr Z consts_1 s.vm s.heap T5.vm T5.heap := by
    rw [hh, e5]
    exact CHr.trans CR3 (CHv.at X5 hZ3 (own_EW hw) CR3.1)
  refine ⟨_, _, pre0 _ ?_, hrun, hended, _, _, rfl, ?_, CE, hE.1, hE.2.1, hE.2.2.1, hE.2.2.2.mono (by decide) (by decide)⟩
  · show Steps p.tables e below (s₁.setTop (mkF m 0 #[.val (.ref xs)] [])) _
    refine XS.aloadN X0.here hx rfl (hb hby d8_0) rfl rfl ?_
    show Steps p.tables e below (s₁.setTop (mkF m 1 #[.val (.ref xs)] [(.ref xs)])) _
    refine st1 _ ?_
    show Steps p.tables e below (T1.setTop (mkF m 3 #[.val (.ref xs)] [(.ref a1), (.ref xs)])) _
    refine st2.trans ?_
    show Steps p.tables e below (T2.setTop (mkF m 6 #[.val (.ref xs)] [(.int (if cs = own_d0 then (1 : Int32) else 0))])) _
    refine XS.ifYes X2.here hx rfl (pc0 := 6) (pc' := 13) rfl (hb hby d8_6) rfl ((if0 _ _).trans (teq hc6).1) (by decide) (by decide) ?_
    show Steps p.tables e below (T2.setTop (mkF m 13 #[.val (.ref xs)] [])) _
    refine XS.aloadN X2.here hx rfl (hb hby d8_13) rfl rfl ?_
    show Steps p.tables e below (T2.setTop (mkF m 14 #[.val (.ref xs)] [(.ref xs)])) _
    refine st3 _ ?_
    show Steps p.tables e below (T3.setTop (mkF m 16 #[.val (.ref xs)] [(.ref a3), (.ref xs)])) _
    refine st4.trans ?_
    show Steps p.tables e below (T4.setTop (mkF m 19 #[.val (.ref xs)] [(.int (if cs = own_d1 then (1 : Int32) else 0))])) _
    refine XS.ifNo X4.here hx rfl (hb hby d8_19) rfl ((if0 _ _).trans (feq hc19).1) ?_
    show Steps p.tables e below (T4.setTop (mkF m 22 #[.val (.ref xs)] [])) _
    refine st5 _ ?_
    show Steps p.tables e below (T5.setTop (mkF m 25 #[.val (.ref xs)] [(.ref w1)])) _
    exact retOut X5 hx Bd.returns rfl (Or.inr (Or.inr (Or.inr (Or.inr ⟨rfl, rfl, rfl⟩)))) (hb hby d8_25) hr
  · show Qd0 Z xs tt w0 w1 w2 w3 kb cs z h0 n0 _ T5.heap _
    rw [e5]
    exact ⟨by rw [own_role, if_neg (own_f hc6), if_pos (own_t hc19)], N4, K3⟩
theorem d8_26 : decode method_3_code 26 = .ok (.aload_n 0, 1) := by decide +kernel
theorem d8_27 : decode method_3_code 27 = .ok (.ldc 52, 2) := by decide +kernel
theorem d8_29 : decode method_3_code 29 = .ok (.invokevirtual 41, 3) := by decide +kernel
theorem d8_32 : decode method_3_code 32 = .ok (.ifCond .eq 7, 3) := by decide +kernel
theorem d8_35 : decode method_3_code 35 = .ok (.getstatic 54, 3) := by decide +kernel
theorem d8_38 : decode method_3_code 38 = .ok (.areturn, 1) := by decide +kernel
set_option maxRecDepth 65536 in
set_option maxHeartbeats 40000000 in
theorem rmF2 (l : Launch) (Z : State) (a0 : Array Value) (hw : ∀ d ∈ tables_1, d.before a0 Z = true) (ws : List Jvm.Cond) (xs tt w0 w1 w2 w3 : Addr) (kb : ClassId) (cs : List Int32) (z : Int32) (h0 : Heap) (n0 : Nat) (O0 : Old Z n0 h0) (Ex : Exa Z h0 xs "java/lang/String") (Vx : Fld Z h0 xs "java/lang/String" "value" "[B" (.ref tt)) (Cx : Fld Z h0 xs "java/lang/String" "coder" "B" (.int 0)) (Kx : Arv Z h0 tt kb .byte (Int32.ofNat (cs).length) (((cs).map StrChars.lo8).map Value.int) (.int 0)) (SC : Sta Z Z.heap "java/lang/String" "COMPACT_STRINGS" "Z" (.int z)) (hz : ¬ z = 0) (SR0 : Sta Z Z.heap "com/example/lendloop/lendloop/core/TransactionRole" "LENDER" "Lcom/example/lendloop/lendloop/core/TransactionRole;" (.ref w0)) (SR1 : Sta Z Z.heap "com/example/lendloop/lendloop/core/TransactionRole" "BORROWER" "Lcom/example/lendloop/lendloop/core/TransactionRole;" (.ref w1)) (SR2 : Sta Z Z.heap "com/example/lendloop/lendloop/core/TransactionRole" "PICKUP" "Lcom/example/lendloop/lendloop/core/TransactionRole;" (.ref w2)) (SR3 : Sta Z Z.heap "com/example/lendloop/lendloop/core/TransactionRole" "BORROWING_PICKUP" "Lcom/example/lendloop/lendloop/core/TransactionRole;" (.ref w3)) (hg : own_good cs) (hc6 : (if cs = own_d0 then (1 : Int32) else 0) = (0 : Int32)) (hc19 : (if cs = own_d1 then (1 : Int32) else 0) = (0 : Int32)) (hc32 : ¬ ((if cs = own_d2 then (1 : Int32) else 0) = (0 : Int32))) :
    MetFree l (⟨"com/example/lendloop/lendloop/core/TransactionRoleFromWireNamePinLaw", "reference", "(Ljava/lang/String;)Lcom/example/lendloop/lendloop/core/TransactionRole;"⟩ : MethodName) (head1 (Jvm.Cond.code (⟨"com/example/lendloop/lendloop/core/TransactionRoleFromWireNamePinLaw", "reference", "(Ljava/lang/String;)Lcom/example/lendloop/lendloop/core/TransactionRole;"⟩ : MethodName) method_3_code 1 (some (.object "com/example/lendloop/lendloop/core/TransactionRole")) :: ws) ({ frames := 2, cells := 8, slots := 160, locals := 40 } : Room)) (fun qq U => qq = #[(.ref xs)] ∧ Z.Warmed39 U.vm ∧ U.heap = h0 ∧ CHv Z consts_1 U.vm h0) (fun _ _ _ _ _ => True) (fun _ UU oo UU' => ∃ vv LL, oo = .returned vv ∧ Qd0 Z xs tt w0 w1 w2 w3 kb cs z h0 n0 vv UU'.heap LL ∧ CHr Z consts_1 UU.vm UU.heap UU'.vm UU'.heap ∧ ReturnedEndW UU oo UU' LL ({ frames := 2, cells := 8, slots := 160, locals := 40 } : Room).cells ({ frames := 2, cells := 8, slots := 160, locals := 40 } : Room).slots) := by
  refine MetFree.of_bodySF (plainFor_of_name pn_8) hisR ?_
  intro p e s m args below meth c s₁ Bd hml0 hP hK
  obtain ⟨rfl, hZ, hh, hC0⟩ := hP
  have hZ : Z.Warmed39 (s.setVm s.vm).vm := hZ
  have CR0 := CHr.refl hC0
  have hx := Bd.exec
  have hby := Bd.bytes
  have hml : c.maxLocals = 1 := hml0
  have hown : (s.setVm s.vm).vm.findClass "com/example/lendloop/lendloop/core/TransactionRoleFromWireNamePinLaw" = some m.cls := findClass_of_methodNamed Bd.named
  have hnm := (name_of_methodNamed Bd.named Bd.method).1
  have X0 : Stand p l e ({ frames := 2, cells := 8, slots := 160, locals := 40 } : Room) (s.setVm s.vm) m #[(.ref xs)] below meth c s₁ [] 0 0 := Stand.of_body Bd
  have e0 : s₁.heap = h0 := by rw [← hh, Bd.state]; rfl
  have N0 := Fr.nil n0
  have pre0 : ∀ tgt, Steps p.tables e below (s₁.setTop (mkF m 0 #[.val (.ref xs)] [])) tgt → Steps p.tables e below (s₁.setTop (entryFrame m #[(.ref xs)] 1)) tgt := fun tt kk => castTop (ef_8 m xs) kk
  obtain ⟨a1, T1, h1, k1, b1, kc1, X1, e1, E1, S1, sw1, hZ1, hown1, Le1, Lc1, Lv1, La1, -, -, CC1, -, -, st1⟩ := ldcCH (s := s) (vm0 := s.vm) X0 hx hZ hown (ww hw 37 rfl) (own_atoms hw) e0 (State.WarmedH.since (State.WarmedH.refl s) 0) (Nat.zero_le _) (own_EW hw) (EL := consts_1) (List.mem_of_getElem? (i := 0) rfl) CR0.1 (vs := ((([76, 69, 78, 68, 69, 82] : List Int32).map StrChars.lo8).map Value.int)) (z := Int32.ofNat (([76, 69, 78, 68, 69, 82] : List Int32)).length) ⟨by decide +kernel, by decide +kernel⟩ (by decide +kernel) (by decide +kernel) (g := (mkF m 1 #[.val (.ref xs)] [(.ref xs)])) rfl (hb hby d8_1) (n := 24) (by decide +kernel) (by decide) (by decide) (by decide)
  have SC1 := CC1
  have CR1 := CHr.trans CR0 SC1
  have O1 := Old.ext O0 E1
  have K1 := Keep.ext (Keep.refl h0 []) E1
  obtain ⟨cq2, kq2, q2a, q2b, q2c⟩ := isOf hZ1 e1 (Exa.ext E1 Ex)
  obtain ⟨_, _, ⟨T2, L2, k2, n2⟩, -, X2, ⟨Lc2, hQ2, l2, y2, z2⟩, st2⟩ := X1.virtualBack hx (y := (⟨"java/lang/String", "equals", "(Ljava/lang/Object;)Z"⟩ : MethodName)) (z := (⟨"java/lang/String", "equals", "(Ljava/lang/Object;)Z"⟩ : MethodName)) hown1 (mvT hZ1 (ww hw 40 rfl)) (mvT hZ1 (ww hw 41 rfl)) (notFace_of_selects (args := #[]) (mvT hZ1 (ww hw 43 rfl))) (mvT hZ1 (ww hw 43 rfl)) (mvT hZ1 (ww hw 42 rfl)) (by decide) (own_bk (n0 := n0) own_eqv (StrChars.Road.eqW (W := 0) hZ1 (own_wQ hw) (kI := 4) (ww hw 6 rfl) (Exa.ext E1 Ex) (Fld.ext E1 Vx) (Fld.ext E1 Cx) (Kx.ext E1) (own_cd hg) (own_hb hg) (Nat.le_trans hg.1 (by decide)) Le1 Lv1 Lc1 La1 (own_cd own_gd0) (own_hb own_gd0) (Nat.le_trans own_gd0.1 (by decide)) (Sta.ext O1.2 SC) hz (by decide) (by decide))) q2a q2c (g := (mkF m 3 #[.val (.ref xs)] [(.ref a1), (.ref xs)])) rfl (by rw [hml]; rfl) (Steps.refl _) (argsL := [(.ref a1)]) (rest := []) (lenOf own_pd0 rfl) rfl (by show 2 * 0 + _ ≤ _; exact Nat.le_of_eq rfl) (hb hby d8_3) (fun _ _ => ⟨rfl, e1, (by decide : 2 + 0 ≤ _), (by decide : 28 + 0 ≤ _)⟩)
  dsimp only [Pt.U, Pt.locs, Pt.cells, Pt.slots] at X2 l2 y2 z2 st2 hQ2
  subst l2 y2 z2
  obtain ⟨rfl, N2q, e2⟩ := hQ2
  have N2 := Fr.app N0 N2q
  obtain ⟨a3, T3, h3, k3, b3, kc3, X3, e3, E3, S3, sw3, hZ3, hown3, Le3, Lc3, Lv3, La3, -, -, CC3, -, -, st3⟩ := ldcCH (s := s) (vm0 := T1.vm) X2 hx hZ1 hown1 (ww hw 105 rfl) (own_atoms hw) e2 S1 sw1 (own_EW hw) (EL := consts_1) (List.mem_of_getElem? (i := 1) rfl) CR1.1 (vs := ((([66, 79, 82, 82, 79, 87, 69, 82] : List Int32).map StrChars.lo8).map Value.int)) (z := Int32.ofNat (([66, 79, 82, 82, 79, 87, 69, 82] : List Int32)).length) ⟨by decide +kernel, by decide +kernel⟩ (by decide +kernel) (by decide +kernel) (g := (mkF m 14 #[.val (.ref xs)] [(.ref xs)])) rfl (hb hby d8_14) (n := 32) (by decide +kernel) (by decide) (by decide) (by decide)
  have SC3 := CC3
  have CR3 := CHr.trans CR1 SC3
  have O3 := Old.ext O1 E3
  have K3 := Keep.ext K1 E3
  obtain ⟨cq4, kq4, q4a, q4b, q4c⟩ := isOf hZ3 e3 (Exa.ext E3 (Exa.ext E1 Ex))
  obtain ⟨_, _, ⟨T4, L4, k4, n4⟩, -, X4, ⟨Lc4, hQ4, l4, y4, z4⟩, st4⟩ := X3.virtualBack hx (y := (⟨"java/lang/String", "equals", "(Ljava/lang/Object;)Z"⟩ : MethodName)) (z := (⟨"java/lang/String", "equals", "(Ljava/lang/Object;)Z"⟩ : MethodName)) hown3 (mvT hZ3 (ww hw 40 rfl)) (mvT hZ3 (ww hw 41 rfl)) (notFace_of_selects (args := #[]) (mvT hZ3 (ww hw 43 rfl))) (mvT hZ3 (ww hw 43 rfl)) (mvT hZ3 (ww hw 42 rfl)) (by decide) (own_bk (n0 := n0) own_eqv (StrChars.Road.eqW (W := 0) hZ3 (own_wQ hw) (kI := 4) (ww hw 6 rfl) (Exa.ext E3 (Exa.ext E1 Ex)) (Fld.ext E3 (Fld.ext E1 Vx)) (Fld.ext E3 (Fld.ext E1 Cx)) ((Kx.ext E1).ext E3) (own_cd hg) (own_hb hg) (Nat.le_trans hg.1 (by decide)) Le3 Lv3 Lc3 La3 (own_cd own_gd1) (own_hb own_gd1) (Nat.le_trans own_gd1.1 (by decide)) (Sta.ext O3.2 SC) hz (by decide) (by decide))) q4a q4c (g := (mkF m 16 #[.val (.ref xs)] [(.ref a3), (.ref xs)])) rfl (by rw [hml]; rfl) (Steps.refl _) (argsL := [(.ref a3)]) (rest := []) (lenOf own_pd0 rfl) rfl (by show 2 * 0 + _ ≤ _; exact Nat.le_of_eq rfl) (hb hby d8_16) (fun _ _ => ⟨rfl, e3, (by decide : 4 + 0 ≤ _), (by decide : 64 + 0 ≤ _)⟩)
  dsimp only [Pt.U, Pt.locs, Pt.cells, Pt.slots] at X4 l4 y4 z4 st4 hQ4
  subst l4 y4 z4
  obtain ⟨rfl, N4q, e4⟩ := hQ4
  have N4 := Fr.app N2 N4q
  obtain ⟨a5, T5, h5, k5, b5, kc5, X5, e5, E5, S5, sw5, hZ5, hown5, Le5, Lc5, Lv5, La5, -, -, CC5, -, -, st5⟩ := ldcCH (s := s) (vm0 := T3.vm) X4 hx hZ3 hown3 (ww hw 106 rfl) (own_atoms hw) e4 S3 sw3 (own_EW hw) (EL := consts_1) (List.mem_of_getElem? (i := 2) rfl) CR3.1 (vs := ((([80, 73, 67, 75, 85, 80] : List Int32).map StrChars.lo8).map Value.int)) (z := Int32.ofNat (([80, 73, 67, 75, 85, 80] : List Int32)).length) ⟨by decide +kernel, by decide +kernel⟩ (by decide +kernel) (by decide +kernel) (g := (mkF m 27 #[.val (.ref xs)] [(.ref xs)])) rfl (hb hby d8_27) (n := 24) (by decide +kernel) (by decide) (by decide) (by decide)
  have SC5 := CC5
  have CR5 := CHr.trans CR3 SC5
  have O5 := Old.ext O3 E5
  have K5 := Keep.ext K3 E5
  obtain ⟨cq6, kq6, q6a, q6b, q6c⟩ := isOf hZ5 e5 (Exa.ext E5 (Exa.ext E3 (Exa.ext E1 Ex)))
  obtain ⟨_, _, ⟨T6, L6, k6, n6⟩, -, X6, ⟨Lc6, hQ6, l6, y6, z6⟩, st6⟩ := X5.virtualBack hx (y := (⟨"java/lang/String", "equals", "(Ljava/lang/Object;)Z"⟩ : MethodName)) (z := (⟨"java/lang/String", "equals", "(Ljava/lang/Object;)Z"⟩ : MethodName)) hown5 (mvT hZ5 (ww hw 40 rfl)) (mvT hZ5 (ww hw 41 rfl)) (notFace_of_selects (args := #[]) (mvT hZ5 (ww hw 43 rfl))) (mvT hZ5 (ww hw 43 rfl)) (mvT hZ5 (ww hw 42 rfl)) (by decide) (own_bk (n0 := n0) own_eqv (StrChars.Road.eqW (W := 0) hZ5 (own_wQ hw) (kI := 4) (ww hw 6 rfl) (Exa.ext E5 (Exa.ext E3 (Exa.ext E1 Ex))) (Fld.ext E5 (Fld.ext E3 (Fld.ext E1 Vx))) (Fld.ext E5 (Fld.ext E3 (Fld.ext E1 Cx))) (((Kx.ext E1).ext E3).ext E5) (own_cd hg) (own_hb hg) (Nat.le_trans hg.1 (by decide)) Le5 Lv5 Lc5 La5 (own_cd own_gd2) (own_hb own_gd2) (Nat.le_trans own_gd2.1 (by decide)) (Sta.ext O5.2 SC) hz (by decide) (by decide))) q6a q6c (g := (mkF m 29 #[.val (.ref xs)] [(.ref a5), (.ref xs)])) rfl (by rw [hml]; rfl) (Steps.refl _) (argsL := [(.ref a5)]) (rest := []) (lenOf own_pd0 rfl) rfl (by show 2 * 0 + _ ≤ _; exact Nat.le_of_eq rfl) (hb hby d8_29) (fun _ _ => ⟨rfl, e5, (by decide : 6 + 0 ≤ _), (by decide : 92 + 0 ≤ _)⟩)
  dsimp only [Pt.U, Pt.locs, Pt.cells, Pt.slots] at X6 l6 y6 z6 st6 hQ6
  subst l6 y6 z6
  obtain ⟨rfl, N6q, e6⟩ := hQ6
  have N6 := Fr.app N4 N6q
  obtain ⟨T7, X7, e7, st7⟩ := getS2 X6 hx hZ5 hown5 (host := "") (Or.inl (ww hw 115 rfl)) Via.refl e6 (SR2.ext O5.2) (g := (mkF m 35 #[.val (.ref xs)] [])) rfl (hb hby d8_35)
  obtain ⟨fs, hr, hrun, hended, hE⟩ := X7.leaveW (s := s) (vm₁ := T5.vm) S5 (by rw [e7]; exact sw5) (v := some (.ref w2)) (fun h => by rw [Bd.returns] at h; cases h)
  have CE : CHr Z consts_1 s.vm s.heap T7.vm T7.heap := by
    rw [hh, e7]
    exact CHr.trans CR5 (CHv.at X7 hZ5 (own_EW hw) CR5.1)
  refine ⟨_, _, pre0 _ ?_, hrun, hended, _, _, rfl, ?_, CE, hE.1, hE.2.1, hE.2.2.1, hE.2.2.2.mono (by decide) (by decide)⟩
  · show Steps p.tables e below (s₁.setTop (mkF m 0 #[.val (.ref xs)] [])) _
    refine XS.aloadN X0.here hx rfl (hb hby d8_0) rfl rfl ?_
    show Steps p.tables e below (s₁.setTop (mkF m 1 #[.val (.ref xs)] [(.ref xs)])) _
    refine st1 _ ?_
    show Steps p.tables e below (T1.setTop (mkF m 3 #[.val (.ref xs)] [(.ref a1), (.ref xs)])) _
    refine st2.trans ?_
    show Steps p.tables e below (T2.setTop (mkF m 6 #[.val (.ref xs)] [(.int (if cs = own_d0 then (1 : Int32) else 0))])) _
    refine XS.ifYes X2.here hx rfl (pc0 := 6) (pc' := 13) rfl (hb hby d8_6) rfl ((if0 _ _).trans (teq hc6).1) (by decide) (by decide) ?_
    show Steps p.tables e below (T2.setTop (mkF m 13 #[.val (.ref xs)] [])) _
    refine XS.aloadN X2.here hx rfl (hb hby d8_13) rfl rfl ?_
    show Steps p.tables e below (T2.setTop (mkF m 14 #[.val (.ref xs)] [(.ref xs)])) _
    refine st3 _ ?_
    show Steps p.tables e below (T3.setTop (mkF m 16 #[.val (.ref xs)] [(.ref a3), (.ref xs)])) _
    refine st4.trans ?_
    show Steps p.tables e below (T4.setTop (mkF m 19 #[.val (.ref xs)] [(.int (if cs = own_d1 then (1 : Int32) else 0))])) _
    refine XS.ifYes X4.here hx rfl (pc0 := 19) (pc' := 26) rfl (hb hby d8_19) rfl ((if0 _ _).trans (teq hc19).1) (by decide) (by decide) ?_
    show Steps p.tables e below (T4.setTop (mkF m 26 #[.val (.ref xs)] [])) _
    refine XS.aloadN X4.here hx rfl (hb hby d8_26) rfl rfl ?_
    show Steps p.tables e below (T4.setTop (mkF m 27 #[.val (.ref xs)] [(.ref xs)])) _
    refine st5 _ ?_
    show Steps p.tables e below (T5.setTop (mkF m 29 #[.val (.ref xs)] [(.ref a5), (.ref xs)])) _
    refine st6.trans ?_
    show Steps p.tables e below (T6.setTop (mkF m 32 #[.val (.ref xs)] [(.int (if cs = own_d2 then (1 : Int32) else 0))])) _
    refine XS.ifNo X6.here hx rfl (hb hby d8_32) rfl ((if0 _ _).trans (feq hc32).1) ?_
    show Steps p.tables e below (T6.setTop (mkF m 35 #[.val (.ref xs)] [])) _
    refine st7 _ ?_
    show Steps p.tables e below (T7.setTop (mkF m 38 #[.val (.ref xs)] [(.ref w2)])) _
    exact retOut X7 hx Bd.returns rfl (Or.inr (Or.inr (Or.inr (Or.inr ⟨rfl, rfl, rfl⟩)))) (hb hby d8_38) hr
  · show Qd0 Z xs tt w0 w1 w2 w3 kb cs z h0 n0 _ T7.heap _
    rw [e7]
    exact ⟨by rw [own_role, if_neg (own_f hc6), if_neg (own_f hc19), if_pos (own_t hc32)], N6, K5⟩
theorem d8_39 : decode method_3_code 39 = .ok (.aload_n 0, 1) := by decide +kernel
theorem d8_40 : decode method_3_code 40 = .ok (.ldc 56, 2) := by decide +kernel
theorem d8_42 : decode method_3_code 42 = .ok (.invokevirtual 41, 3) := by decide +kernel
theorem d8_45 : decode method_3_code 45 = .ok (.ifCond .eq 7, 3) := by decide +kernel
theorem d8_48 : decode method_3_code 48 = .ok (.getstatic 58, 3) := by decide +kernel
theorem d8_51 : decode method_3_code 51 = .ok (.areturn, 1) := by decide +kernel
set_option maxRecDepth 65536 in
set_option maxHeartbeats 40000000 in
theorem rmF3 (l : Launch) (Z : State) (a0 : Array Value) (hw : ∀ d ∈ tables_1, d.before a0 Z = true) (ws : List Jvm.Cond) (xs tt w0 w1 w2 w3 : Addr) (kb : ClassId) (cs : List Int32) (z : Int32) (h0 : Heap) (n0 : Nat) (O0 : Old Z n0 h0) (Ex : Exa Z h0 xs "java/lang/String") (Vx : Fld Z h0 xs "java/lang/String" "value" "[B" (.ref tt)) (Cx : Fld Z h0 xs "java/lang/String" "coder" "B" (.int 0)) (Kx : Arv Z h0 tt kb .byte (Int32.ofNat (cs).length) (((cs).map StrChars.lo8).map Value.int) (.int 0)) (SC : Sta Z Z.heap "java/lang/String" "COMPACT_STRINGS" "Z" (.int z)) (hz : ¬ z = 0) (SR0 : Sta Z Z.heap "com/example/lendloop/lendloop/core/TransactionRole" "LENDER" "Lcom/example/lendloop/lendloop/core/TransactionRole;" (.ref w0)) (SR1 : Sta Z Z.heap "com/example/lendloop/lendloop/core/TransactionRole" "BORROWER" "Lcom/example/lendloop/lendloop/core/TransactionRole;" (.ref w1)) (SR2 : Sta Z Z.heap "com/example/lendloop/lendloop/core/TransactionRole" "PICKUP" "Lcom/example/lendloop/lendloop/core/TransactionRole;" (.ref w2)) (SR3 : Sta Z Z.heap "com/example/lendloop/lendloop/core/TransactionRole" "BORROWING_PICKUP" "Lcom/example/lendloop/lendloop/core/TransactionRole;" (.ref w3)) (hg : own_good cs) (hc6 : (if cs = own_d0 then (1 : Int32) else 0) = (0 : Int32)) (hc19 : (if cs = own_d1 then (1 : Int32) else 0) = (0 : Int32)) (hc32 : (if cs = own_d2 then (1 : Int32) else 0) = (0 : Int32)) (hc45 : ¬ ((if cs = own_d3 then (1 : Int32) else 0) = (0 : Int32))) :
    MetFree l (⟨"com/example/lendloop/lendloop/core/TransactionRoleFromWireNamePinLaw", "reference", "(Ljava/lang/String;)Lcom/example/lendloop/lendloop/core/TransactionRole;"⟩ : MethodName) (head1 (Jvm.Cond.code (⟨"com/example/lendloop/lendloop/core/TransactionRoleFromWireNamePinLaw", "reference", "(Ljava/lang/String;)Lcom/example/lendloop/lendloop/core/TransactionRole;"⟩ : MethodName) method_3_code 1 (some (.object "com/example/lendloop/lendloop/core/TransactionRole")) :: ws) ({ frames := 2, cells := 8, slots := 160, locals := 40 } : Room)) (fun qq U => qq = #[(.ref xs)] ∧ Z.Warmed39 U.vm ∧ U.heap = h0 ∧ CHv Z consts_1 U.vm h0) (fun _ _ _ _ _ => True) (fun _ UU oo UU' => ∃ vv LL, oo = .returned vv ∧ Qd0 Z xs tt w0 w1 w2 w3 kb cs z h0 n0 vv UU'.heap LL ∧ CHr Z consts_1 UU.vm UU.heap UU'.vm UU'.heap ∧ ReturnedEndW UU oo UU' LL ({ frames := 2, cells := 8, slots := 160, locals := 40 } : Room).cells ({ frames := 2, cells := 8, slots := 160, locals := 40 } : Room).slots) := by
  refine MetFree.of_bodySF (plainFor_of_name pn_8) hisR ?_
  intro p e s m args below meth c s₁ Bd hml0 hP hK
  obtain ⟨rfl, hZ, hh, hC0⟩ := hP
  have hZ : Z.Warmed39 (s.setVm s.vm).vm := hZ
  have CR0 := CHr.refl hC0
  have hx := Bd.exec
  have hby := Bd.bytes
  have hml : c.maxLocals = 1 := hml0
  have hown : (s.setVm s.vm).vm.findClass "com/example/lendloop/lendloop/core/TransactionRoleFromWireNamePinLaw" = some m.cls := findClass_of_methodNamed Bd.named
  have hnm := (name_of_methodNamed Bd.named Bd.method).1
  have X0 : Stand p l e ({ frames := 2, cells := 8, slots := 160, locals := 40 } : Room) (s.setVm s.vm) m #[(.ref xs)] below meth c s₁ [] 0 0 := Stand.of_body Bd
  have e0 : s₁.heap = h0 := by rw [← hh, Bd.state]; rfl
  have N0 := Fr.nil n0
  have pre0 : ∀ tgt, Steps p.tables e below (s₁.setTop (mkF m 0 #[.val (.ref xs)] [])) tgt → Steps p.tables e below (s₁.setTop (entryFrame m #[(.ref xs)] 1)) tgt := fun tt kk => castTop (ef_8 m xs) kk
  obtain ⟨a1, T1, h1, k1, b1, kc1, X1, e1, E1, S1, sw1, hZ1, hown1, Le1, Lc1, Lv1, La1, -, -, CC1, -, -, st1⟩ := ldcCH (s := s) (vm0 := s.vm) X0 hx hZ hown (ww hw 37 rfl) (own_atoms hw) e0 (State.WarmedH.since (State.WarmedH.refl s) 0) (Nat.zero_le _) (own_EW hw) (EL := consts_1) (List.mem_of_getElem? (i := 0) rfl) CR0.1 (vs := ((([76, 69, 78, 68, 69, 82] : List Int32).map StrChars.lo8).map Value.int)) (z := Int32.ofNat (([76, 69, 78, 68, 69, 82] : List Int32)).length) ⟨by decide +kernel, by decide +kernel⟩ (by decide +kernel) (by decide +kernel) (g := (mkF m 1 #[.val (.ref xs)] [(.ref xs)])) rfl (hb hby d8_1) (n := 24) (by decide +kernel) (by decide) (by decide) (by decide)
  have SC1 := CC1
  have CR1 := CHr.trans CR0 SC1
  have O1 := Old.ext O0 E1
  have K1 := Keep.ext (Keep.refl h0 []) E1
  obtain ⟨cq2, kq2, q2a, q2b, q2c⟩ := isOf hZ1 e1 (Exa.ext E1 Ex)
  obtain ⟨_, _, ⟨T2, L2, k2, n2⟩, -, X2, ⟨Lc2, hQ2, l2, y2, z2⟩, st2⟩ := X1.virtualBack hx (y := (⟨"java/lang/String", "equals", "(Ljava/lang/Object;)Z"⟩ : MethodName)) (z := (⟨"java/lang/String", "equals", "(Ljava/lang/Object;)Z"⟩ : MethodName)) hown1 (mvT hZ1 (ww hw 40 rfl)) (mvT hZ1 (ww hw 41 rfl)) (notFace_of_selects (args := #[]) (mvT hZ1 (ww hw 43 rfl))) (mvT hZ1 (ww hw 43 rfl)) (mvT hZ1 (ww hw 42 rfl)) (by decide) (own_bk (n0 := n0) own_eqv (StrChars.Road.eqW (W := 0) hZ1 (own_wQ hw) (kI := 4) (ww hw 6 rfl) (Exa.ext E1 Ex) (Fld.ext E1 Vx) (Fld.ext E1 Cx) (Kx.ext E1) (own_cd hg) (own_hb hg) (Nat.le_trans hg.1 (by decide)) Le1 Lv1 Lc1 La1 (own_cd own_gd0) (own_hb own_gd0) (Nat.le_trans own_gd0.1 (by decide)) (Sta.ext O1.2 SC) hz (by decide) (by decide))) q2a q2c (g := (mkF m 3 #[.val (.ref xs)] [(.ref a1), (.ref xs)])) rfl (by rw [hml]; rfl) (Steps.refl _) (argsL := [(.ref a1)]) (rest := []) (lenOf own_pd0 rfl) rfl (by show 2 * 0 + _ ≤ _; exact Nat.le_of_eq rfl) (hb hby d8_3) (fun _ _ => ⟨rfl, e1, (by decide : 2 + 0 ≤ _), (by decide : 28 + 0 ≤ _)⟩)
  dsimp only [Pt.U, Pt.locs, Pt.cells, Pt.slots] at X2 l2 y2 z2 st2 hQ2
  subst l2 y2 z2
  obtain ⟨rfl, N2q, e2⟩ := hQ2
  have N2 := Fr.app N0 N2q
  obtain ⟨a3, T3, h3, k3, b3, kc3, X3, e3, E3, S3, sw3, hZ3, hown3, Le3, Lc3, Lv3, La3, -, -, CC3, -, -, st3⟩ := ldcCH (s := s) (vm0 := T1.vm) X2 hx hZ1 hown1 (ww hw 105 rfl) (own_atoms hw) e2 S1 sw1 (own_EW hw) (EL := consts_1) (List.mem_of_getElem? (i := 1) rfl) CR1.1 (vs := ((([66, 79, 82, 82, 79, 87, 69, 82] : List Int32).map StrChars.lo8).map Value.int)) (z := Int32.ofNat (([66, 79, 82, 82, 79, 87, 69, 82] : List Int32)).length) ⟨by decide +kernel, by decide +kernel⟩ (by decide +kernel) (by decide +kernel) (g := (mkF m 14 #[.val (.ref xs)] [(.ref xs)])) rfl (hb hby d8_14) (n := 32) (by decide +kernel) (by decide) (by decide) (by decide)
  have SC3 := CC3
  have CR3 := CHr.trans CR1 SC3
  have O3 := Old.ext O1 E3
  have K3 := Keep.ext K1 E3
  obtain ⟨cq4, kq4, q4a, q4b, q4c⟩ := isOf hZ3 e3 (Exa.ext E3 (Exa.ext E1 Ex))
  obtain ⟨_, _, ⟨T4, L4, k4, n4⟩, -, X4, ⟨Lc4, hQ4, l4, y4, z4⟩, st4⟩ := X3.virtualBack hx (y := (⟨"java/lang/String", "equals", "(Ljava/lang/Object;)Z"⟩ : MethodName)) (z := (⟨"java/lang/String", "equals", "(Ljava/lang/Object;)Z"⟩ : MethodName)) hown3 (mvT hZ3 (ww hw 40 rfl)) (mvT hZ3 (ww hw 41 rfl)) (notFace_of_selects (args := #[]) (mvT hZ3 (ww hw 43 rfl))) (mvT hZ3 (ww hw 43 rfl)) (mvT hZ3 (ww hw 42 rfl)) (by decide) (own_bk (n0 := n0) own_eqv (StrChars.Road.eqW (W := 0) hZ3 (own_wQ hw) (kI := 4) (ww hw 6 rfl) (Exa.ext E3 (Exa.ext E1 Ex)) (Fld.ext E3 (Fld.ext E1 Vx)) (Fld.ext E3 (Fld.ext E1 Cx)) ((Kx.ext E1).ext E3) (own_cd hg) (own_hb hg) (Nat.le_trans hg.1 (by decide)) Le3 Lv3 Lc3 La3 (own_cd own_gd1) (own_hb own_gd1) (Nat.le_trans own_gd1.1 (by decide)) (Sta.ext O3.2 SC) hz (by decide) (by decide))) q4a q4c (g := (mkF m 16 #[.val (.ref xs)] [(.ref a3), (.ref xs)])) rfl (by rw [hml]; rfl) (Steps.refl _) (argsL := [(.ref a3)]) (rest := []) (lenOf own_pd0 rfl) rfl (by show 2 * 0 + _ ≤ _; exact Nat.le_of_eq rfl) (hb hby d8_16) (fun _ _ => ⟨rfl, e3, (by decide : 4 + 0 ≤ _), (by decide : 64 + 0 ≤ _)⟩)
  dsimp only [Pt.U, Pt.locs, Pt.cells, Pt.slots] at X4 l4 y4 z4 st4 hQ4
  subst l4 y4 z4
  obtain ⟨rfl, N4q, e4⟩ := hQ4
  have N4 := Fr.app N2 N4q
  obtain ⟨a5, T5, h5, k5, b5, kc5, X5, e5, E5, S5, sw5, hZ5, hown5, Le5, Lc5, Lv5, La5, -, -, CC5, -, -, st5⟩ := ldcCH (s := s) (vm0 := T3.vm) X4 hx hZ3 hown3 (ww hw 106 rfl) (own_atoms hw) e4 S3 sw3 (own_EW hw) (EL := consts_1) (List.mem_of_getElem? (i := 2) rfl) CR3.1 (vs := ((([80, 73, 67, 75, 85, 80] : List Int32).map StrChars.lo8).map Value.int)) (z := Int32.ofNat (([80, 73, 67, 75, 85, 80] : List Int32)).length) ⟨by decide +kernel, by decide +kernel⟩ (by decide +kernel) (by decide +kernel) (g := (mkF m 27 #[.val (.ref xs)] [(.ref xs)])) rfl (hb hby d8_27) (n := 24) (by decide +kernel) (by decide) (by decide) (by decide)
  have SC5 := CC5
  have CR5 := CHr.trans CR3 SC5
  have O5 := Old.ext O3 E5
  have K5 := Keep.ext K3 E5
  obtain ⟨cq6, kq6, q6a, q6b, q6c⟩ := isOf hZ5 e5 (Exa.ext E5 (Exa.ext E3 (Exa.ext E1 Ex)))
  obtain ⟨_, _, ⟨T6, L6, k6, n6⟩, -, X6, ⟨Lc6, hQ6, l6, y6, z6⟩, st6⟩ := X5.virtualBack hx (y := (⟨"java/lang/String", "equals", "(Ljava/lang/Object;)Z"⟩ : MethodName)) (z := (⟨"java/lang/String", "equals", "(Ljava/lang/Object;)Z"⟩ : MethodName)) hown5 (mvT hZ5 (ww hw 40 rfl)) (mvT hZ5 (ww hw 41 rfl)) (notFace_of_selects (args := #[]) (mvT hZ5 (ww hw 43 rfl))) (mvT hZ5 (ww hw 43 rfl)) (mvT hZ5 (ww hw 42 rfl)) (by decide) (own_bk (n0 := n0) own_eqv (StrChars.Road.eqW (W := 0) hZ5 (own_wQ hw) (kI := 4) (ww hw 6 rfl) (Exa.ext E5 (Exa.ext E3 (Exa.ext E1 Ex))) (Fld.ext E5 (Fld.ext E3 (Fld.ext E1 Vx))) (Fld.ext E5 (Fld.ext E3 (Fld.ext E1 Cx))) (((Kx.ext E1).ext E3).ext E5) (own_cd hg) (own_hb hg) (Nat.le_trans hg.1 (by decide)) Le5 Lv5 Lc5 La5 (own_cd own_gd2) (own_hb own_gd2) (Nat.le_trans own_gd2.1 (by decide)) (Sta.ext O5.2 SC) hz (by decide) (by decide))) q6a q6c (g := (mkF m 29 #[.val (.ref xs)] [(.ref a5), (.ref xs)])) rfl (by rw [hml]; rfl) (Steps.refl _) (argsL := [(.ref a5)]) (rest := []) (lenOf own_pd0 rfl) rfl (by show 2 * 0 + _ ≤ _; exact Nat.le_of_eq rfl) (hb hby d8_29) (fun _ _ => ⟨rfl, e5, (by decide : 6 + 0 ≤ _), (by decide : 92 + 0 ≤ _)⟩)
  dsimp only [Pt.U, Pt.locs, Pt.cells, Pt.slots] at X6 l6 y6 z6 st6 hQ6
  subst l6 y6 z6
  obtain ⟨rfl, N6q, e6⟩ := hQ6
  have N6 := Fr.app N4 N6q
  obtain ⟨a7, T7, h7, k7, b7, kc7, X7, e7, E7, S7, sw7, hZ7, hown7, Le7, Lc7, Lv7, La7, -, -, CC7, -, -, st7⟩ := ldcCH (s := s) (vm0 := T5.vm) X6 hx hZ5 hown5 (ww hw 107 rfl) (own_atoms hw) e6 S5 sw5 (own_EW hw) (EL := consts_1) (List.mem_of_getElem? (i := 3) rfl) CR5.1 (vs := ((([66, 79, 82, 82, 79, 87, 73, 78, 71, 45, 80, 73, 67, 75, 85, 80] : List Int32).map StrChars.lo8).map Value.int)) (z := Int32.ofNat (([66, 79, 82, 82, 79, 87, 73, 78, 71, 45, 80, 73, 67, 75, 85, 80] : List Int32)).length) ⟨by decide +kernel, by decide +kernel⟩ (by decide +kernel) (by decide +kernel) (g := (mkF m 40 #[.val (.ref xs)] [(.ref xs)])) rfl (hb hby d8_40) (n := 64) (by decide +kernel) (by decide) (by decide) (by decide)
  have SC7 := CC7
  have CR7 := CHr.trans CR5 SC7
  have O7 := Old.ext O5 E7
  have K7 := Keep.ext K5 E7
  obtain ⟨cq8, kq8, q8a, q8b, q8c⟩ := isOf hZ7 e7 (Exa.ext E7 (Exa.ext E5 (Exa.ext E3 (Exa.ext E1 Ex))))
  obtain ⟨_, _, ⟨T8, L8, k8, n8⟩, -, X8, ⟨Lc8, hQ8, l8, y8, z8⟩, st8⟩ := X7.virtualBack hx (y := (⟨"java/lang/String", "equals", "(Ljava/lang/Object;)Z"⟩ : MethodName)) (z := (⟨"java/lang/String", "equals", "(Ljava/lang/Object;)Z"⟩ : MethodName)) hown7 (mvT hZ7 (ww hw 40 rfl)) (mvT hZ7 (ww hw 41 rfl)) (notFace_of_selects (args := #[]) (mvT hZ7 (ww hw 43 rfl))) (mvT hZ7 (ww hw 43 rfl)) (mvT hZ7 (ww hw 42 rfl)) (by decide) (own_bk (n0 := n0) own_eqv (StrChars.Road.eqW (W := 0) hZ7 (own_wQ hw) (kI := 4) (ww hw 6 rfl) (Exa.ext E7 (Exa.ext E5 (Exa.ext E3 (Exa.ext E1 Ex)))) (Fld.ext E7 (Fld.ext E5 (Fld.ext E3 (Fld.ext E1 Vx)))) (Fld.ext E7 (Fld.ext E5 (Fld.ext E3 (Fld.ext E1 Cx)))) ((((Kx.ext E1).ext E3).ext E5).ext E7) (own_cd hg) (own_hb hg) (Nat.le_trans hg.1 (by decide)) Le7 Lv7 Lc7 La7 (own_cd own_gd3) (own_hb own_gd3) (Nat.le_trans own_gd3.1 (by decide)) (Sta.ext O7.2 SC) hz (by decide) (by decide))) q8a q8c (g := (mkF m 42 #[.val (.ref xs)] [(.ref a7), (.ref xs)])) rfl (by rw [hml]; rfl) (Steps.refl _) (argsL := [(.ref a7)]) (rest := []) (lenOf own_pd0 rfl) rfl (by show 2 * 0 + _ ≤ _; exact Nat.le_of_eq rfl) (hb hby d8_42) (fun _ _ => ⟨rfl, e7, (by decide : 8 + 0 ≤ _), (by decide : 160 + 0 ≤ _)⟩)
  dsimp only [Pt.U, Pt.locs, Pt.cells, Pt.slots] at X8 l8 y8 z8 st8 hQ8
  subst l8 y8 z8
  obtain ⟨rfl, N8q, e8⟩ := hQ8
  have N8 := Fr.app N6 N8q
  obtain ⟨T9, X9, e9, st9⟩ := getS2 X8 hx hZ7 hown7 (host := "") (Or.inl (ww hw 113 rfl)) Via.refl e8 (SR3.ext O7.2) (g := (mkF m 48 #[.val (.ref xs)] [])) rfl (hb hby d8_48)
  obtain ⟨fs, hr, hrun, hended, hE⟩ := X9.leaveW (s := s) (vm₁ := T7.vm) S7 (by rw [e9]; exact sw7) (v := some (.ref w3)) (fun h => by rw [Bd.returns] at h; cases h)
  have CE : CHr Z consts_1 s.vm s.heap T9.vm T9.heap := by
    rw [hh, e9]
    exact CHr.trans CR7 (CHv.at X9 hZ7 (own_EW hw) CR7.1)
  refine ⟨_, _, pre0 _ ?_, hrun, hended, _, _, rfl, ?_, CE, hE.1, hE.2.1, hE.2.2.1, hE.2.2.2.mono (by decide) (by decide)⟩
  · show Steps p.tables e below (s₁.setTop (mkF m 0 #[.val (.ref xs)] [])) _
    refine XS.aloadN X0.here hx rfl (hb hby d8_0) rfl rfl ?_
    show Steps p.tables e below (s₁.setTop (mkF m 1 #[.val (.ref xs)] [(.ref xs)])) _
    refine st1 _ ?_
    show Steps p.tables e below (T1.setTop (mkF m 3 #[.val (.ref xs)] [(.ref a1), (.ref xs)])) _
    refine st2.trans ?_
    show Steps p.tables e below (T2.setTop (mkF m 6 #[.val (.ref xs)] [(.int (if cs = own_d0 then (1 : Int32) else 0))])) _
    refine XS.ifYes X2.here hx rfl (pc0 := 6) (pc' := 13) rfl (hb hby d8_6) rfl ((if0 _ _).trans (teq hc6).1) (by decide) (by decide) ?_
    show Steps p.tables e below (T2.setTop (mkF m 13 #[.val (.ref xs)] [])) _
    refine XS.aloadN X2.here hx rfl (hb hby d8_13) rfl rfl ?_
    show Steps p.tables e below (T2.setTop (mkF m 14 #[.val (.ref xs)] [(.ref xs)])) _
    refine st3 _ ?_
    show Steps p.tables e below (T3.setTop (mkF m 16 #[.val (.ref xs)] [(.ref a3), (.ref xs)])) _
    refine st4.trans ?_
    show Steps p.tables e below (T4.setTop (mkF m 19 #[.val (.ref xs)] [(.int (if cs = own_d1 then (1 : Int32) else 0))])) _
    refine XS.ifYes X4.here hx rfl (pc0 := 19) (pc' := 26) rfl (hb hby d8_19) rfl ((if0 _ _).trans (teq hc19).1) (by decide) (by decide) ?_
    show Steps p.tables e below (T4.setTop (mkF m 26 #[.val (.ref xs)] [])) _
    refine XS.aloadN X4.here hx rfl (hb hby d8_26) rfl rfl ?_
    show Steps p.tables e below (T4.setTop (mkF m 27 #[.val (.ref xs)] [(.ref xs)])) _
    refine st5 _ ?_
    show Steps p.tables e below (T5.setTop (mkF m 29 #[.val (.ref xs)] [(.ref a5), (.ref xs)])) _
    refine st6.trans ?_
    show Steps p.tables e below (T6.setTop (mkF m 32 #[.val (.ref xs)] [(.int (if cs = own_d2 then (1 : Int32) else 0))])) _
    refine XS.ifYes X6.here hx rfl (pc0 := 32) (pc' := 39) rfl (hb hby d8_32) rfl ((if0 _ _).trans (teq hc32).1) (by decide) (by decide) ?_
    show Steps p.tables e below (T6.setTop (mkF m 39 #[.val (.ref xs)] [])) _
    refine XS.aloadN X6.here hx rfl (hb hby d8_39) rfl rfl ?_
    show Steps p.tables e below (T6.setTop (mkF m 40 #[.val (.ref xs)] [(.ref xs)])) _
    refine st7 _ ?_
    show Steps p.tables e below (T7.setTop (mkF m 42 #[.val (.ref xs)] [(.ref a7), (.ref xs)])) _
    refine st8.trans ?_
    show Steps p.tables e below (T8.setTop (mkF m 45 #[.val (.ref xs)] [(.int (if cs = own_d3 then (1 : Int32) else 0))])) _
    refine XS.ifNo X8.here hx rfl (hb hby d8_45) rfl ((if0 _ _).trans (feq hc45).1) ?_
    show Steps p.tables e below (T8.setTop (mkF m 48 #[.val (.ref xs)] [])) _
    refine st9 _ ?_
    show Steps p.tables e below (T9.setTop (mkF m 51 #[.val (.ref xs)] [(.ref w3)])) _
    exact retOut X9 hx Bd.returns rfl (Or.inr (Or.inr (Or.inr (Or.inr ⟨rfl, rfl, rfl⟩)))) (hb hby d8_51) hr
  · show Qd0 Z xs tt w0 w1 w2 w3 kb cs z h0 n0 _ T9.heap _
    rw [e9]
    exact ⟨by rw [own_role, if_neg (own_f hc6), if_neg (own_f hc19), if_neg (own_f hc32), if_pos (own_t hc45)], N8, K7⟩
theorem d8_52 : decode method_3_code 52 = .ok (.aconst_null, 1) := by decide +kernel
theorem d8_53 : decode method_3_code 53 = .ok (.areturn, 1) := by decide +kernel
set_option maxRecDepth 65536 in
set_option maxHeartbeats 40000000 in
theorem rmF4 (l : Launch) (Z : State) (a0 : Array Value) (hw : ∀ d ∈ tables_1, d.before a0 Z = true) (ws : List Jvm.Cond) (xs tt w0 w1 w2 w3 : Addr) (kb : ClassId) (cs : List Int32) (z : Int32) (h0 : Heap) (n0 : Nat) (O0 : Old Z n0 h0) (Ex : Exa Z h0 xs "java/lang/String") (Vx : Fld Z h0 xs "java/lang/String" "value" "[B" (.ref tt)) (Cx : Fld Z h0 xs "java/lang/String" "coder" "B" (.int 0)) (Kx : Arv Z h0 tt kb .byte (Int32.ofNat (cs).length) (((cs).map StrChars.lo8).map Value.int) (.int 0)) (SC : Sta Z Z.heap "java/lang/String" "COMPACT_STRINGS" "Z" (.int z)) (hz : ¬ z = 0) (SR0 : Sta Z Z.heap "com/example/lendloop/lendloop/core/TransactionRole" "LENDER" "Lcom/example/lendloop/lendloop/core/TransactionRole;" (.ref w0)) (SR1 : Sta Z Z.heap "com/example/lendloop/lendloop/core/TransactionRole" "BORROWER" "Lcom/example/lendloop/lendloop/core/TransactionRole;" (.ref w1)) (SR2 : Sta Z Z.heap "com/example/lendloop/lendloop/core/TransactionRole" "PICKUP" "Lcom/example/lendloop/lendloop/core/TransactionRole;" (.ref w2)) (SR3 : Sta Z Z.heap "com/example/lendloop/lendloop/core/TransactionRole" "BORROWING_PICKUP" "Lcom/example/lendloop/lendloop/core/TransactionRole;" (.ref w3)) (hg : own_good cs) (hc6 : (if cs = own_d0 then (1 : Int32) else 0) = (0 : Int32)) (hc19 : (if cs = own_d1 then (1 : Int32) else 0) = (0 : Int32)) (hc32 : (if cs = own_d2 then (1 : Int32) else 0) = (0 : Int32)) (hc45 : (if cs = own_d3 then (1 : Int32) else 0) = (0 : Int32)) :
    MetFree l (⟨"com/example/lendloop/lendloop/core/TransactionRoleFromWireNamePinLaw", "reference", "(Ljava/lang/String;)Lcom/example/lendloop/lendloop/core/TransactionRole;"⟩ : MethodName) (head1 (Jvm.Cond.code (⟨"com/example/lendloop/lendloop/core/TransactionRoleFromWireNamePinLaw", "reference", "(Ljava/lang/String;)Lcom/example/lendloop/lendloop/core/TransactionRole;"⟩ : MethodName) method_3_code 1 (some (.object "com/example/lendloop/lendloop/core/TransactionRole")) :: ws) ({ frames := 2, cells := 8, slots := 160, locals := 40 } : Room)) (fun qq U => qq = #[(.ref xs)] ∧ Z.Warmed39 U.vm ∧ U.heap = h0 ∧ CHv Z consts_1 U.vm h0) (fun _ _ _ _ _ => True) (fun _ UU oo UU' => ∃ vv LL, oo = .returned vv ∧ Qd0 Z xs tt w0 w1 w2 w3 kb cs z h0 n0 vv UU'.heap LL ∧ CHr Z consts_1 UU.vm UU.heap UU'.vm UU'.heap ∧ ReturnedEndW UU oo UU' LL ({ frames := 2, cells := 8, slots := 160, locals := 40 } : Room).cells ({ frames := 2, cells := 8, slots := 160, locals := 40 } : Room).slots) := by
  refine MetFree.of_bodySF (plainFor_of_name pn_8) hisR ?_
  intro p e s m args below meth c s₁ Bd hml0 hP hK
  obtain ⟨rfl, hZ, hh, hC0⟩ := hP
  have hZ : Z.Warmed39 (s.setVm s.vm).vm := hZ
  have CR0 := CHr.refl hC0
  have hx := Bd.exec
  have hby := Bd.bytes
  have hml : c.maxLocals = 1 := hml0
  have hown : (s.setVm s.vm).vm.findClass "com/example/lendloop/lendloop/core/TransactionRoleFromWireNamePinLaw" = some m.cls := findClass_of_methodNamed Bd.named
  have hnm := (name_of_methodNamed Bd.named Bd.method).1
  have X0 : Stand p l e ({ frames := 2, cells := 8, slots := 160, locals := 40 } : Room) (s.setVm s.vm) m #[(.ref xs)] below meth c s₁ [] 0 0 := Stand.of_body Bd
  have e0 : s₁.heap = h0 := by rw [← hh, Bd.state]; rfl
  have N0 := Fr.nil n0
  have pre0 : ∀ tgt, Steps p.tables e below (s₁.setTop (mkF m 0 #[.val (.ref xs)] [])) tgt → Steps p.tables e below (s₁.setTop (entryFrame m #[(.ref xs)] 1)) tgt := fun tt kk => castTop (ef_8 m xs) kk
  obtain ⟨a1, T1, h1, k1, b1, kc1, X1, e1, E1, S1, sw1, hZ1, hown1, Le1, Lc1, Lv1, La1, -, -, CC1, -, -, st1⟩ := ldcCH (s := s) (vm0 := s.vm) X0 hx hZ hown (ww hw 37 rfl) (own_atoms hw) e0 (State.WarmedH.since (State.WarmedH.refl s) 0) (Nat.zero_le _) (own_EW hw) (EL := consts_1) (List.mem_of_getElem? (i := 0) rfl) CR0.1 (vs := ((([76, 69, 78, 68, 69, 82] : List Int32).map StrChars.lo8).map Value.int)) (z := Int32.ofNat (([76, 69, 78, 68, 69, 82] : List Int32)).length) ⟨by decide +kernel, by decide +kernel⟩ (by decide +kernel) (by decide +kernel) (g := (mkF m 1 #[.val (.ref xs)] [(.ref xs)])) rfl (hb hby d8_1) (n := 24) (by decide +kernel) (by decide) (by decide) (by decide)
  have SC1 := CC1
  have CR1 := CHr.trans CR0 SC1
  have O1 := Old.ext O0 E1
  have K1 := Keep.ext (Keep.refl h0 []) E1
  obtain ⟨cq2, kq2, q2a, q2b, q2c⟩ := isOf hZ1 e1 (Exa.ext E1 Ex)
  obtain ⟨_, _, ⟨T2, L2, k2, n2⟩, -, X2, ⟨Lc2, hQ2, l2, y2, z2⟩, st2⟩ := X1.virtualBack hx (y := (⟨"java/lang/String", "equals", "(Ljava/lang/Object;)Z"⟩ : MethodName)) (z := (⟨"java/lang/String", "equals", "(Ljava/lang/Object;)Z"⟩ : MethodName)) hown1 (mvT hZ1 (ww hw 40 rfl)) (mvT hZ1 (ww hw 41 rfl)) (notFace_of_selects (args := #[]) (mvT hZ1 (ww hw 43 rfl))) (mvT hZ1 (ww hw 43 rfl)) (mvT hZ1 (ww hw 42 rfl)) (by decide) (own_bk (n0 := n0) own_eqv (StrChars.Road.eqW (W := 0) hZ1 (own_wQ hw) (kI := 4) (ww hw 6 rfl) (Exa.ext E1 Ex) (Fld.ext E1 Vx) (Fld.ext E1 Cx) (Kx.ext E1) (own_cd hg) (own_hb hg) (Nat.le_trans hg.1 (by decide)) Le1 Lv1 Lc1 La1 (own_cd own_gd0) (own_hb own_gd0) (Nat.le_trans own_gd0.1 (by decide)) (Sta.ext O1.2 SC) hz (by decide) (by decide))) q2a q2c (g := (mkF m 3 #[.val (.ref xs)] [(.ref a1), (.ref xs)])) rfl (by rw [hml]; rfl) (Steps.refl _) (argsL := [(.ref a1)]) (rest := []) (lenOf own_pd0 rfl) rfl (by show 2 * 0 + _ ≤ _; exact Nat.le_of_eq rfl) (hb hby d8_3) (fun _ _ => ⟨rfl, e1, (by decide : 2 + 0 ≤ _), (by decide : 28 + 0 ≤ _)⟩)
  dsimp only [Pt.U, Pt.locs, Pt.cells, Pt.slots] at X2 l2 y2 z2 st2 hQ2
  subst l2 y2 z2
  obtain ⟨rfl, N2q, e2⟩ := hQ2
  have N2 := Fr.app N0 N2q
  obtain ⟨a3, T3, h3, k3, b3, kc3, X3, e3, E3, S3, sw3, hZ3, hown3, Le3, Lc3, Lv3, La3, -, -, CC3, -, -, st3⟩ := ldcCH (s := s) (vm0 := T1.vm) X2 hx hZ1 hown1 (ww hw 105 rfl) (own_atoms hw) e2 S1 sw1 (own_EW hw) (EL := consts_1) (List.mem_of_getElem? (i := 1) rfl) CR1.1 (vs := ((([66, 79, 82, 82, 79, 87, 69, 82] : List Int32).map StrChars.lo8).map Value.int)) (z := Int32.ofNat (([66, 79, 82, 82, 79, 87, 69, 82] : List Int32)).length) ⟨by decide +kernel, by decide +kernel⟩ (by decide +kernel) (by decide +kernel) (g := (mkF m 14 #[.val (.ref xs)] [(.ref xs)])) rfl (hb hby d8_14) (n := 32) (by decide +kernel) (by decide) (by decide) (by decide)
  have SC3 := CC3
  have CR3 := CHr.trans CR1 SC3
  have O3 := Old.ext O1 E3
  have K3 := Keep.ext K1 E3
  obtain ⟨cq4, kq4, q4a, q4b, q4c⟩ := isOf hZ3 e3 (Exa.ext E3 (Exa.ext E1 Ex))
  obtain ⟨_, _, ⟨T4, L4, k4, n4⟩, -, X4, ⟨Lc4, hQ4, l4, y4, z4⟩, st4⟩ := X3.virtualBack hx (y := (⟨"java/lang/String", "equals", "(Ljava/lang/Object;)Z"⟩ : MethodName)) (z := (⟨"java/lang/String", "equals", "(Ljava/lang/Object;)Z"⟩ : MethodName)) hown3 (mvT hZ3 (ww hw 40 rfl)) (mvT hZ3 (ww hw 41 rfl)) (notFace_of_selects (args := #[]) (mvT hZ3 (ww hw 43 rfl))) (mvT hZ3 (ww hw 43 rfl)) (mvT hZ3 (ww hw 42 rfl)) (by decide) (own_bk (n0 := n0) own_eqv (StrChars.Road.eqW (W := 0) hZ3 (own_wQ hw) (kI := 4) (ww hw 6 rfl) (Exa.ext E3 (Exa.ext E1 Ex)) (Fld.ext E3 (Fld.ext E1 Vx)) (Fld.ext E3 (Fld.ext E1 Cx)) ((Kx.ext E1).ext E3) (own_cd hg) (own_hb hg) (Nat.le_trans hg.1 (by decide)) Le3 Lv3 Lc3 La3 (own_cd own_gd1) (own_hb own_gd1) (Nat.le_trans own_gd1.1 (by decide)) (Sta.ext O3.2 SC) hz (by decide) (by decide))) q4a q4c (g := (mkF m 16 #[.val (.ref xs)] [(.ref a3), (.ref xs)])) rfl (by rw [hml]; rfl) (Steps.refl _) (argsL := [(.ref a3)]) (rest := []) (lenOf own_pd0 rfl) rfl (by show 2 * 0 + _ ≤ _; exact Nat.le_of_eq rfl) (hb hby d8_16) (fun _ _ => ⟨rfl, e3, (by decide : 4 + 0 ≤ _), (by decide : 64 + 0 ≤ _)⟩)
  dsimp only [Pt.U, Pt.locs, Pt.cells, Pt.slots] at X4 l4 y4 z4 st4 hQ4
  subst l4 y4 z4
  obtain ⟨rfl, N4q, e4⟩ := hQ4
  have N4 := Fr.app N2 N4q
  obtain ⟨a5, T5, h5, k5, b5, kc5, X5, e5, E5, S5, sw5, hZ5, hown5, Le5, Lc5, Lv5, La5, -, -, CC5, -, -, st5⟩ := ldcCH (s := s) (vm0 := T3.vm) X4 hx hZ3 hown3 (ww hw 106 rfl) (own_atoms hw) e4 S3 sw3 (own_EW hw) (EL := consts_1) (List.mem_of_getElem? (i := 2) rfl) CR3.1 (vs := ((([80, 73, 67, 75, 85, 80] : List Int32).map StrChars.lo8).map Value.int)) (z := Int32.ofNat (([80, 73, 67, 75, 85, 80] : List Int32)).length) ⟨by decide +kernel, by decide +kernel⟩ (by decide +kernel) (by decide +kernel) (g := (mkF m 27 #[.val (.ref xs)] [(.ref xs)])) rfl (hb hby d8_27) (n := 24) (by decide +kernel) (by decide) (by decide) (by decide)
  have SC5 := CC5
  have CR5 := CHr.trans CR3 SC5
  have O5 := Old.ext O3 E5
  have K5 := Keep.ext K3 E5
  obtain ⟨cq6, kq6, q6a, q6b, q6c⟩ := isOf hZ5 e5 (Exa.ext E5 (Exa.ext E3 (Exa.ext E1 Ex)))
  obtain ⟨_, _, ⟨T6, L6, k6, n6⟩, -, X6, ⟨Lc6, hQ6, l6, y6, z6⟩, st6⟩ := X5.virtualBack hx (y := (⟨"java/lang/String", "equals", "(Ljava/lang/Object;)Z"⟩ : MethodName)) (z := (⟨"java/lang/String", "equals", "(Ljava/lang/Object;)Z"⟩ : MethodName)) hown5 (mvT hZ5 (ww hw 40 rfl)) (mvT hZ5 (ww hw 41 rfl)) (notFace_of_selects (args := #[]) (mvT hZ5 (ww hw 43 rfl))) (mvT hZ5 (ww hw 43 rfl)) (mvT hZ5 (ww hw 42 rfl)) (by decide) (own_bk (n0 := n0) own_eqv (StrChars.Road.eqW (W := 0) hZ5 (own_wQ hw) (kI := 4) (ww hw 6 rfl) (Exa.ext E5 (Exa.ext E3 (Exa.ext E1 Ex))) (Fld.ext E5 (Fld.ext E3 (Fld.ext E1 Vx))) (Fld.ext E5 (Fld.ext E3 (Fld.ext E1 Cx))) (((Kx.ext E1).ext E3).ext E5) (own_cd hg) (own_hb hg) (Nat.le_trans hg.1 (by decide)) Le5 Lv5 Lc5 La5 (own_cd own_gd2) (own_hb own_gd2) (Nat.le_trans own_gd2.1 (by decide)) (Sta.ext O5.2 SC) hz (by decide) (by decide))) q6a q6c (g := (mkF m 29 #[.val (.ref xs)] [(.ref a5), (.ref xs)])) rfl (by rw [hml]; rfl) (Steps.refl _) (argsL := [(.ref a5)]) (rest := []) (lenOf own_pd0 rfl) rfl (by show 2 * 0 + _ ≤ _; exact Nat.le_of_eq rfl) (hb hby d8_29) (fun _ _ => ⟨rfl, e5, (by decide : 6 + 0 ≤ _), (by decide : 92 + 0 ≤ _)⟩)
  dsimp only [Pt.U, Pt.locs, Pt.cells, Pt.slots] at X6 l6 y6 z6 st6 hQ6
  subst l6 y6 z6
  obtain ⟨rfl, N6q, e6⟩ := hQ6
  have N6 := Fr.app N4 N6q
  obtain ⟨a7, T7, h7, k7, b7, kc7, X7, e7, E7, S7, sw7, hZ7, hown7, Le7, Lc7, Lv7, La7, -, -, CC7, -, -, st7⟩ := ldcCH (s := s) (vm0 := T5.vm) X6 hx hZ5 hown5 (ww hw 107 rfl) (own_atoms hw) e6 S5 sw5 (own_EW hw) (EL := consts_1) (List.mem_of_getElem? (i := 3) rfl) CR5.1 (vs := ((([66, 79, 82, 82, 79, 87, 73, 78, 71, 45, 80, 73, 67, 75, 85, 80] : List Int32).map StrChars.lo8).map Value.int)) (z := Int32.ofNat (([66, 79, 82, 82, 79, 87, 73, 78, 71, 45, 80, 73, 67, 75, 85, 80] : List Int32)).length) ⟨by decide +kernel, by decide +kernel⟩ (by decide +kernel) (by decide +kernel) (g := (mkF m 40 #[.val (.ref xs)] [(.ref xs)])) rfl (hb hby d8_40) (n := 64) (by decide +kernel) (by decide) (by decide) (by decide)
  have SC7 := CC7
  have CR7 := CHr.trans CR5 SC7
  have O7 := Old.ext O5 E7
  have K7 := Keep.ext K5 E7
  obtain ⟨cq8, kq8, q8a, q8b, q8c⟩ := isOf hZ7 e7 (Exa.ext E7 (Exa.ext E5 (Exa.ext E3 (Exa.ext E1 Ex))))
  obtain ⟨_, _, ⟨T8, L8, k8, n8⟩, -, X8, ⟨Lc8, hQ8, l8, y8, z8⟩, st8⟩ := X7.virtualBack hx (y := (⟨"java/lang/String", "equals", "(Ljava/lang/Object;)Z"⟩ : MethodName)) (z := (⟨"java/lang/String", "equals", "(Ljava/lang/Object;)Z"⟩ : MethodName)) hown7 (mvT hZ7 (ww hw 40 rfl)) (mvT hZ7 (ww hw 41 rfl)) (notFace_of_selects (args := #[]) (mvT hZ7 (ww hw 43 rfl))) (mvT hZ7 (ww hw 43 rfl)) (mvT hZ7 (ww hw 42 rfl)) (by decide) (own_bk (n0 := n0) own_eqv (StrChars.Road.eqW (W := 0) hZ7 (own_wQ hw) (kI := 4) (ww hw 6 rfl) (Exa.ext E7 (Exa.ext E5 (Exa.ext E3 (Exa.ext E1 Ex)))) (Fld.ext E7 (Fld.ext E5 (Fld.ext E3 (Fld.ext E1 Vx)))) (Fld.ext E7 (Fld.ext E5 (Fld.ext E3 (Fld.ext E1 Cx)))) ((((Kx.ext E1).ext E3).ext E5).ext E7) (own_cd hg) (own_hb hg) (Nat.le_trans hg.1 (by decide)) Le7 Lv7 Lc7 La7 (own_cd own_gd3) (own_hb own_gd3) (Nat.le_trans own_gd3.1 (by decide)) (Sta.ext O7.2 SC) hz (by decide) (by decide))) q8a q8c (g := (mkF m 42 #[.val (.ref xs)] [(.ref a7), (.ref xs)])) rfl (by rw [hml]; rfl) (Steps.refl _) (argsL := [(.ref a7)]) (rest := []) (lenOf own_pd0 rfl) rfl (by show 2 * 0 + _ ≤ _; exact Nat.le_of_eq rfl) (hb hby d8_42) (fun _ _ => ⟨rfl, e7, (by decide : 8 + 0 ≤ _), (by decide : 160 + 0 ≤ _)⟩)
  dsimp only [Pt.U, Pt.locs, Pt.cells, Pt.slots] at X8 l8 y8 z8 st8 hQ8
  subst l8 y8 z8
  obtain ⟨rfl, N8q, e8⟩ := hQ8
  have N8 := Fr.app N6 N8q
  obtain ⟨fs, hr, hrun, hended, hE⟩ := X8.leaveW (s := s) (vm₁ := T7.vm) S7 (by rw [e8]; exact sw7) (v := some .null) (fun h => by rw [Bd.returns] at h; cases h)
  have CE : CHr Z consts_1 s.vm s.heap T8.vm T8.heap := by
    rw [hh, e8]
    exact CHr.trans CR7 (CHv.at X8 hZ7 (own_EW hw) CR7.1)
  refine ⟨_, _, pre0 _ ?_, hrun, hended, _, _, rfl, ?_, CE, hE.1, hE.2.1, hE.2.2.1, hE.2.2.2.mono (by decide) (by decide)⟩
  · show Steps p.tables e below (s₁.setTop (mkF m 0 #[.val (.ref xs)] [])) _
    refine XS.aloadN X0.here hx rfl (hb hby d8_0) rfl rfl ?_
    show Steps p.tables e below (s₁.setTop (mkF m 1 #[.val (.ref xs)] [(.ref xs)])) _
    refine st1 _ ?_
    show Steps p.tables e below (T1.setTop (mkF m 3 #[.val (.ref xs)] [(.ref a1), (.ref xs)])) _
    refine st2.trans ?_
    show Steps p.tables e below (T2.setTop (mkF m 6 #[.val (.ref xs)] [(.int (if cs = own_d0 then (1 : Int32) else 0))])) _
    refine XS.ifYes X2.here hx rfl (pc0 := 6) (pc' := 13) rfl (hb hby d8_6) rfl ((if0 _ _).trans (teq hc6).1) (by decide) (by decide) ?_
    show Steps p.tables e below (T2.setTop (mkF m 13 #[.val (.ref xs)] [])) _
    refine XS.aloadN X2.here hx rfl (hb hby d8_13) rfl rfl ?_
    show Steps p.tables e below (T2.setTop (mkF m 14 #[.val (.ref xs)] [(.ref xs)])) _
    refine st3 _ ?_
    show Steps p.tables e below (T3.setTop (mkF m 16 #[.val (.ref xs)] [(.ref a3), (.ref xs)])) _
    refine st4.trans ?_
    show Steps p.tables e below (T4.setTop (mkF m 19 #[.val (.ref xs)] [(.int (if cs = own_d1 then (1 : Int32) else 0))])) _
    refine XS.ifYes X4.here hx rfl (pc0 := 19) (pc' := 26) rfl (hb hby d8_19) rfl ((if0 _ _).trans (teq hc19).1) (by decide) (by decide) ?_
    show Steps p.tables e below (T4.setTop (mkF m 26 #[.val (.ref xs)] [])) _
    refine XS.aloadN X4.here hx rfl (hb hby d8_26) rfl rfl ?_
    show Steps p.tables e below (T4.setTop (mkF m 27 #[.val (.ref xs)] [(.ref xs)])) _
    refine st5 _ ?_
    show Steps p.tables e below (T5.setTop (mkF m 29 #[.val (.ref xs)] [(.ref a5), (.ref xs)])) _
    refine st6.trans ?_
    show Steps p.tables e below (T6.setTop (mkF m 32 #[.val (.ref xs)] [(.int (if cs = own_d2 then (1 : Int32) else 0))])) _
    refine XS.ifYes X6.here hx rfl (pc0 := 32) (pc' := 39) rfl (hb hby d8_32) rfl ((if0 _ _).trans (teq hc32).1) (by decide) (by decide) ?_
    show Steps p.tables e below (T6.setTop (mkF m 39 #[.val (.ref xs)] [])) _
    refine XS.aloadN X6.here hx rfl (hb hby d8_39) rfl rfl ?_
    show Steps p.tables e below (T6.setTop (mkF m 40 #[.val (.ref xs)] [(.ref xs)])) _
    refine st7 _ ?_
    show Steps p.tables e below (T7.setTop (mkF m 42 #[.val (.ref xs)] [(.ref a7), (.ref xs)])) _
    refine st8.trans ?_
    show Steps p.tables e below (T8.setTop (mkF m 45 #[.val (.ref xs)] [(.int (if cs = own_d3 then (1 : Int32) else 0))])) _
    refine XS.ifYes X8.here hx rfl (pc0 := 45) (pc' := 52) rfl (hb hby d8_45) rfl ((if0 _ _).trans (teq hc45).1) (by decide) (by decide) ?_
    show Steps p.tables e below (T8.setTop (mkF m 52 #[.val (.ref xs)] [])) _
    refine XS.aconstNull X8.here hx rfl (hb hby d8_52) ?_
    show Steps p.tables e below (T8.setTop (mkF m 53 #[.val (.ref xs)] [.null])) _
    exact retOut X8 hx Bd.returns rfl (Or.inr (Or.inr (Or.inr (Or.inr ⟨rfl, rfl, rfl⟩)))) (hb hby d8_53) hr
  · show Qd0 Z xs tt w0 w1 w2 w3 kb cs z h0 n0 _ T8.heap _
    rw [e8]
    exact ⟨by rw [own_role, if_neg (own_f hc6), if_neg (own_f hc19), if_neg (own_f hc32), if_neg (own_f hc45)], N8, K7⟩
theorem rmF (l : Launch) (Z : State) (a0 : Array Value) (hw : ∀ d ∈ tables_1, d.before a0 Z = true) (ws : List Jvm.Cond) (xs tt w0 w1 w2 w3 : Addr) (kb : ClassId) (cs : List Int32) (z : Int32) (h0 : Heap) (n0 : Nat) (O0 : Old Z n0 h0) (Ex : Exa Z h0 xs "java/lang/String") (Vx : Fld Z h0 xs "java/lang/String" "value" "[B" (.ref tt)) (Cx : Fld Z h0 xs "java/lang/String" "coder" "B" (.int 0)) (Kx : Arv Z h0 tt kb .byte (Int32.ofNat (cs).length) (((cs).map StrChars.lo8).map Value.int) (.int 0)) (SC : Sta Z Z.heap "java/lang/String" "COMPACT_STRINGS" "Z" (.int z)) (hz : ¬ z = 0) (SR0 : Sta Z Z.heap "com/example/lendloop/lendloop/core/TransactionRole" "LENDER" "Lcom/example/lendloop/lendloop/core/TransactionRole;" (.ref w0)) (SR1 : Sta Z Z.heap "com/example/lendloop/lendloop/core/TransactionRole" "BORROWER" "Lcom/example/lendloop/lendloop/core/TransactionRole;" (.ref w1)) (SR2 : Sta Z Z.heap "com/example/lendloop/lendloop/core/TransactionRole" "PICKUP" "Lcom/example/lendloop/lendloop/core/TransactionRole;" (.ref w2)) (SR3 : Sta Z Z.heap "com/example/lendloop/lendloop/core/TransactionRole" "BORROWING_PICKUP" "Lcom/example/lendloop/lendloop/core/TransactionRole;" (.ref w3)) (hg : own_good cs) :
    MetFree l (⟨"com/example/lendloop/lendloop/core/TransactionRoleFromWireNamePinLaw", "reference", "(Ljava/lang/String;)Lcom/example/lendloop/lendloop/core/TransactionRole;"⟩ : MethodName) (head1 (Jvm.Cond.code (⟨"com/example/lendloop/lendloop/core/TransactionRoleFromWireNamePinLaw", "reference", "(Ljava/lang/String;)Lcom/example/lendloop/lendloop/core/TransactionRole;"⟩ : MethodName) method_3_code 1 (some (.object "com/example/lendloop/lendloop/core/TransactionRole")) :: ws) ({ frames := 2, cells := 8, slots := 160, locals := 40 } : Room)) (fun qq U => qq = #[(.ref xs)] ∧ Z.Warmed39 U.vm ∧ U.heap = h0 ∧ CHv Z consts_1 U.vm h0) (fun _ _ _ _ _ => True) (fun _ UU oo UU' => ∃ vv LL, oo = .returned vv ∧ Qd0 Z xs tt w0 w1 w2 w3 kb cs z h0 n0 vv UU'.heap LL ∧ CHr Z consts_1 UU.vm UU.heap UU'.vm UU'.heap ∧ ReturnedEndW UU oo UU' LL ({ frames := 2, cells := 8, slots := 160, locals := 40 } : Room).cells ({ frames := 2, cells := 8, slots := 160, locals := 40 } : Room).slots) := by
  by_cases q0 : (if cs = own_d0 then (1 : Int32) else 0) = 0
  rotate_left
  · exact rmF0 l Z a0 hw ws xs tt w0 w1 w2 w3 kb cs z h0 n0 O0 Ex Vx Cx Kx SC hz SR0 SR1 SR2 SR3 hg q0
  by_cases q1 : (if cs = own_d1 then (1 : Int32) else 0) = 0
  rotate_left
  · exact rmF1 l Z a0 hw ws xs tt w0 w1 w2 w3 kb cs z h0 n0 O0 Ex Vx Cx Kx SC hz SR0 SR1 SR2 SR3 hg q0 q1
  by_cases q2 : (if cs = own_d2 then (1 : Int32) else 0) = 0
  rotate_left
  · exact rmF2 l Z a0 hw ws xs tt w0 w1 w2 w3 kb cs z h0 n0 O0 Ex Vx Cx Kx SC hz SR0 SR1 SR2 SR3 hg q0 q1 q2
  by_cases q3 : (if cs = own_d3 then (1 : Int32) else 0) = 0
  rotate_left
  · exact rmF3 l Z a0 hw ws xs tt w0 w1 w2 w3 kb cs z h0 n0 O0 Ex Vx Cx Kx SC hz SR0 SR1 SR2 SR3 hg q0 q1 q2 q3
  exact rmF4 l Z a0 hw ws xs tt w0 w1 w2 w3 kb cs z h0 n0 O0 Ex Vx Cx Kx SC hz SR0 SR1 SR2 SR3 hg q0 q1 q2 q3
theorem d12_0 : decode prog_38_method_1_code 0 = .ok (.getstatic 16, 3) := by decide +kernel
theorem d12_3 : decode prog_38_method_1_code 3 = .ok (.invokevirtual 20, 3) := by decide +kernel
theorem d12_6 : decode prog_38_method_1_code 6 = .ok (.checkcast 21, 3) := by decide +kernel
theorem d12_9 : decode prog_38_method_1_code 9 = .ok (.areturn, 1) := by decide +kernel
theorem ef_12 (m : MethodId)  : entryFrame m #[] 0 = mkF m 0 #[] [] := by first | (simp [entryFrame, mkF, argsToLocals, Value.category]; done) | rfl
theorem pn_12 : plainName "com/example/lendloop/lendloop/core/TransactionRole" = true := by first | (simp [plainName, overriddenIn]; done) | decide +kernel
def Qd1 (Z : State) (vA w0 w1 w2 w3 : Addr) (kA : ClassId) (h0 : Heap) (n0 : Nat) (v : Option Value) (h : Heap) (L : List Loc) : Prop := ∃ b, v = some (.ref b) ∧ Fr n0 L ∧ Keep h0 h [] ∧ n0 ≤ b ∧ Arv Z h b kA (.object "com/example/lendloop/lendloop/core/TransactionRole") (4 : Int32) [.ref w0, .ref w1, .ref w2, .ref w3] .null
set_option maxRecDepth 65536 in
set_option maxHeartbeats 40000000 in
theorem rmV (l : Launch) (Z : State) (a0 : Array Value) (hw : ∀ d ∈ tables_1, d.before a0 Z = true) (ws : List Jvm.Cond) (vA w0 w1 w2 w3 : Addr) (kA : ClassId) (h0 : Heap) (n0 : Nat) (O0 : Old Z n0 h0) (SV : Sta Z Z.heap "com/example/lendloop/lendloop/core/TransactionRole" "$VALUES" "[Lcom/example/lendloop/lendloop/core/TransactionRole;" (.ref vA)) (VV : Arv Z Z.heap vA kA (.object "com/example/lendloop/lendloop/core/TransactionRole") (4 : Int32) [.ref w0, .ref w1, .ref w2, .ref w3] .null) (EV : Exa Z Z.heap vA "[Lcom/example/lendloop/lendloop/core/TransactionRole;") :
    MetFree l (⟨"com/example/lendloop/lendloop/core/TransactionRole", "values", "()[Lcom/example/lendloop/lendloop/core/TransactionRole;"⟩ : MethodName) (head1 (Jvm.Cond.code (⟨"com/example/lendloop/lendloop/core/TransactionRole", "values", "()[Lcom/example/lendloop/lendloop/core/TransactionRole;"⟩ : MethodName) prog_38_method_1_code 0 (some (.array (.object "com/example/lendloop/lendloop/core/TransactionRole"))) :: ws) ({ frames := 1, cells := 1, slots := 4, locals := 14 } : Room)) (fun qq U => qq = #[] ∧ Z.Warmed39 U.vm ∧ U.heap = h0) (fun _ _ _ _ _ => True) (fun _ UU oo UU' => ∃ vv LL, oo = .returned vv ∧ Qd1 Z vA w0 w1 w2 w3 kA h0 n0 vv UU'.heap LL ∧ FrameEnd UU oo UU' LL ({ frames := 1, cells := 1, slots := 4, locals := 14 } : Room).cells ({ frames := 1, cells := 1, slots := 4, locals := 14 } : Room).slots) := by
  refine MetFree.of_bodySF (plainFor_of_name pn_12) hisR ?_
  intro p e s m args below meth c s₁ Bd hml0 hP hK
  obtain ⟨rfl, hZ, hh⟩ := hP
  have hx := Bd.exec
  have hby := Bd.bytes
  have hml : c.maxLocals = 0 := hml0
  have hown : s.vm.findClass "com/example/lendloop/lendloop/core/TransactionRole" = some m.cls := findClass_of_methodNamed Bd.named
  have hnm := (name_of_methodNamed Bd.named Bd.method).1
  have X0 : Stand p l e ({ frames := 1, cells := 1, slots := 4, locals := 14 } : Room) s m #[] below meth c s₁ [] 0 0 := Stand.of_body Bd
  have e0 : s₁.heap = h0 := by rw [← hh, Bd.state]; rfl
  have N0 := Fr.nil n0
  have pre0 : ∀ tgt, Steps p.tables e below (s₁.setTop (mkF m 0 #[] [])) tgt → Steps p.tables e below (s₁.setTop (entryFrame m #[] 0)) tgt := fun tt kk => castTop (ef_12 m ) kk
  obtain ⟨T1, X1, e1, st1⟩ := getS2 X0 hx hZ hown (host := "") (Or.inl (ww hw 59 rfl)) Via.refl e0 (SV.ext O0.2) (g := (mkF m 0 #[] [])) rfl (hb hby d12_0)
  obtain ⟨T2, h2, X2, e2, E2, V2, A2, st2⟩ := cloneH X1 hx hZ hown (ww hw 61 rfl) (ww hw 62 rfl) (ww hw 66 rfl) (ww hw 64 rfl) (ww hw 65 rfl) (ww hw 67 rfl) e1 (Arv.arh (VV.ext O0.2)) (EV.ext O0.2) (g := (mkF m 3 #[] [(.ref vA)])) rfl (by rw [hml]; rfl) rfl (hb hby d12_3) (by decide) (W := 0) (by show 2 * 0 + _ ≤ _; exact Nat.le_of_eq rfl) (by decide) (cap := 4) (by decide) (by decide) (by decide)
  obtain ⟨b2, q2⟩ : ∃ z, z = h0.size := ⟨_, rfl⟩
  rw [← q2] at V2 A2 st2
  have g_b2 : n0 ≤ b2 := by rw [q2]; exact (O0).1 ▸ (O0).2.1
  have sz_b2 : h0.size ≤ b2 := by rw [q2]; exact ((Keep.refl h0 [])).1
  have O2 := Old.ext O0 E2
  have K2 := Keep.ext (Keep.refl h0 []) E2
  obtain ⟨T3, X3, e3, st3⟩ := castY X2 hx hZ hown (ww hw 72 rfl) e2 (Ins.self A2) (g := (mkF m 6 #[] [(.ref b2)])) rfl rfl (hb hby d12_6)
  obtain ⟨fs, hr, hrun, hended, hW, hsame⟩ := X3.leave (v := some (.ref b2)) (fun h => by rw [Bd.returns] at h; cases h)
  refine ⟨_, _, pre0 _ ?_, hrun, hended, _, _, rfl, ?_, ⟨_, rfl⟩, hW, hsame.mono (by decide) (by decide)⟩
  · show Steps p.tables e below (s₁.setTop (mkF m 0 #[] [])) _
    refine st1 _ ?_
    show Steps p.tables e below (T1.setTop (mkF m 3 #[] [(.ref vA)])) _
    refine st2 _ ?_
    show Steps p.tables e below (T2.setTop (mkF m 6 #[] [(.ref b2)])) _
    refine st3 _ ?_
    show Steps p.tables e below (T3.setTop (mkF m 9 #[] [(.ref b2)])) _
    exact retOut X3 hx Bd.returns rfl (Or.inr (Or.inr (Or.inr (Or.inr ⟨rfl, rfl, rfl⟩)))) (hb hby d12_9) hr
  · show Qd1 Z vA w0 w1 w2 w3 kA h0 n0 _ T3.heap _
    rw [e3]
    exact ⟨b2, rfl, N0, K2, g_b2, V2⟩
theorem d14_0 : decode jdk_31_method_10_code 0 = .ok (.aload_n 0, 1) := by decide +kernel
theorem d14_1 : decode jdk_31_method_10_code 1 = .ok (.ifnonnull 11, 3) := by decide +kernel
theorem d14_12 : decode jdk_31_method_10_code 12 = .ok (.aload_n 0, 1) := by decide +kernel
theorem d14_13 : decode jdk_31_method_10_code 13 = .ok (.areturn, 1) := by decide +kernel
theorem ef_14 (m : MethodId) (x0 : Addr) : entryFrame m #[(.ref x0)] 1 = mkF m 0 #[.val (.ref x0)] [] := by first | (simp [entryFrame, mkF, argsToLocals, Value.category]; done) | rfl
theorem pn_14 : plainName "java/util/Objects" = true := by first | (simp [plainName, overriddenIn]; done) | decide +kernel
def Qd2 (Z : State) (qa : Addr) (h0 : Heap) (n0 : Nat) (v : Option Value) (h : Heap) (L : List Loc) : Prop := v = some (.ref qa) ∧ Fr n0 L ∧ h = h0
set_option maxRecDepth 65536 in
set_option maxHeartbeats 40000000 in
theorem rmR (l : Launch) (Z : State) (a0 : Array Value) (hw : ∀ d ∈ tables_1, d.before a0 Z = true) (ws : List Jvm.Cond) (qa : Addr) (h0 : Heap) (n0 : Nat) :
    MetFree l (⟨"java/util/Objects", "requireNonNull", "(Ljava/lang/Object;)Ljava/lang/Object;"⟩ : MethodName) (head1 (Jvm.Cond.code (⟨"java/util/Objects", "requireNonNull", "(Ljava/lang/Object;)Ljava/lang/Object;"⟩ : MethodName) jdk_31_method_10_code 1 (some (.object "java/lang/Object")) :: ws) ({ frames := 0, cells := 0, slots := 0, locals := 0 } : Room)) (fun qq U => qq = #[(.ref qa)] ∧ Z.Warmed39 U.vm ∧ U.heap = h0) (fun _ _ _ _ _ => True) (fun _ UU oo UU' => ∃ vv LL, oo = .returned vv ∧ Qd2 Z qa h0 n0 vv UU'.heap LL ∧ FrameEnd UU oo UU' LL ({ frames := 0, cells := 0, slots := 0, locals := 0 } : Room).cells ({ frames := 0, cells := 0, slots := 0, locals := 0 } : Room).slots) := by
  refine MetFree.of_bodySF (plainFor_of_name pn_14) hisR ?_
  intro p e s m args below meth c s₁ Bd hml0 hP hK
  obtain ⟨rfl, hZ, hh⟩ := hP
  have hx := Bd.exec
  have hby := Bd.bytes
  have hml : c.maxLocals = 1 := hml0
  have hown : s.vm.findClass "java/util/Objects" = some m.cls := findClass_of_methodNamed Bd.named
  have hnm := (name_of_methodNamed Bd.named Bd.method).1
  have X0 : Stand p l e ({ frames := 0, cells := 0, slots := 0, locals := 0 } : Room) s m #[(.ref qa)] below meth c s₁ [] 0 0 := Stand.of_body Bd
  have e0 : s₁.heap = h0 := by rw [← hh, Bd.state]; rfl
  have N0 := Fr.nil n0
  have pre0 : ∀ tgt, Steps p.tables e below (s₁.setTop (mkF m 0 #[.val (.ref qa)] [])) tgt → Steps p.tables e below (s₁.setTop (entryFrame m #[(.ref qa)] 1)) tgt := fun tt kk => castTop (ef_14 m qa) kk
  obtain ⟨fs, hr, hrun, hended, hW, hsame⟩ := X0.leave (v := some (.ref qa)) (fun h => by rw [Bd.returns] at h; cases h)
  refine ⟨_, _, pre0 _ ?_, hrun, hended, _, _, rfl, ?_, ⟨_, rfl⟩, hW, hsame.mono (by decide) (by decide)⟩
  · show Steps p.tables e below (s₁.setTop (mkF m 0 #[.val (.ref qa)] [])) _
    refine XS.aloadN X0.here hx rfl (hb hby d14_0) rfl rfl ?_
    show Steps p.tables e below (s₁.setTop (mkF m 1 #[.val (.ref qa)] [(.ref qa)])) _
    refine XS.ifnonnullYes X0.here hx rfl (pc0 := 1) (pc' := 12) rfl (hb hby d14_1) rfl (by decide) (by decide) ?_
    show Steps p.tables e below (s₁.setTop (mkF m 12 #[.val (.ref qa)] [])) _
    refine XS.aloadN X0.here hx rfl (hb hby d14_12) rfl rfl ?_
    show Steps p.tables e below (s₁.setTop (mkF m 13 #[.val (.ref qa)] [(.ref qa)])) _
    exact retOut X0 hx Bd.returns rfl (Or.inr (Or.inr (Or.inr (Or.inr ⟨rfl, rfl, rfl⟩)))) (hb hby d14_13) hr
  · show Qd2 Z qa h0 n0 _ s₁.heap _
    rw [e0]
    exact ⟨rfl, N0, rfl⟩
theorem d15_0 : decode jdk_32_method_2_code 0 = .ok (.aload_n 0, 1) := by decide +kernel
theorem d15_1 : decode jdk_32_method_2_code 1 = .ok (.invokespecial 7, 3) := by decide +kernel
theorem d15_4 : decode jdk_32_method_2_code 4 = .ok (.aload_n 0, 1) := by decide +kernel
theorem d15_5 : decode jdk_32_method_2_code 5 = .ok (.aload_n 1, 1) := by decide +kernel
theorem d15_6 : decode jdk_32_method_2_code 6 = .ok (.putfield 13, 3) := by decide +kernel
theorem d15_9 : decode jdk_32_method_2_code 9 = .ok (.return_, 1) := by decide +kernel
theorem ef_15 (m : MethodId) (x0 : Addr) (x1 : Addr) : entryFrame m #[(.ref x0), (.ref x1)] 2 = mkF m 0 #[.val (.ref x0), .val (.ref x1)] [] := by first | (simp [entryFrame, mkF, argsToLocals, Value.category]; done) | rfl
theorem pn_15 : plainName "java/util/Optional" = true := by first | (simp [plainName, overriddenIn]; done) | decide +kernel
def Qd3 (Z : State) (oa qa : Addr) (h0 : Heap) (n0 : Nat) (v : Option Value) (h : Heap) (L : List Loc) : Prop := v = none ∧ Fr n0 L ∧ Keep h0 h [oa] ∧ Fld Z h oa "java/util/Optional" "value" "Ljava/lang/Object;" (.ref qa)
set_option maxRecDepth 65536 in
set_option maxHeartbeats 40000000 in
theorem rmOI (l : Launch) (Z : State) (a0 : Array Value) (hw : ∀ d ∈ tables_1, d.before a0 Z = true) (ws : List Jvm.Cond) (oa qa : Addr) (h0 : Heap) (n0 : Nat) (O0 : Old Z n0 h0) (go : n0 ≤ oa) (EO : Exa Z h0 oa "java/util/Optional") (FO : Fld Z h0 oa "java/util/Optional" "value" "Ljava/lang/Object;" .null) :
    MetFree l (⟨"java/util/Optional", "<init>", "(Ljava/lang/Object;)V"⟩ : MethodName) (head1 (Jvm.Cond.code (⟨"java/util/Optional", "<init>", "(Ljava/lang/Object;)V"⟩ : MethodName) jdk_32_method_2_code 2 none :: ws) ({ frames := 1, cells := 0, slots := 0, locals := 12 } : Room)) (fun qq U => qq = #[(.ref oa), (.ref qa)] ∧ Z.Warmed39 U.vm ∧ U.heap = h0) (fun _ _ _ _ _ => True) (fun _ UU oo UU' => ∃ vv LL, oo = .returned vv ∧ Qd3 Z oa qa h0 n0 vv UU'.heap LL ∧ FrameEnd UU oo UU' LL ({ frames := 1, cells := 0, slots := 0, locals := 12 } : Room).cells ({ frames := 1, cells := 0, slots := 0, locals := 12 } : Room).slots) := by
  refine MetFree.of_bodySF (plainFor_of_name pn_15) hisR ?_
  intro p e s m args below meth c s₁ Bd hml0 hP hK
  obtain ⟨rfl, hZ, hh⟩ := hP
  have hx := Bd.exec
  have hby := Bd.bytes
  have hml : c.maxLocals = 2 := hml0
  have hown : s.vm.findClass "java/util/Optional" = some m.cls := findClass_of_methodNamed Bd.named
  have hnm := (name_of_methodNamed Bd.named Bd.method).1
  have X0 : Stand p l e ({ frames := 1, cells := 0, slots := 0, locals := 12 } : Room) s m #[(.ref oa), (.ref qa)] below meth c s₁ [] 0 0 := Stand.of_body Bd
  have e0 : s₁.heap = h0 := by rw [← hh, Bd.state]; rfl
  have N0 := Fr.nil n0
  have pre0 : ∀ tgt, Steps p.tables e below (s₁.setTop (mkF m 0 #[.val (.ref oa), .val (.ref qa)] [])) tgt → Steps p.tables e below (s₁.setTop (entryFrame m #[(.ref oa), (.ref qa)] 2)) tgt := fun tt kk => castTop (ef_15 m oa qa) kk
  obtain ⟨T1, X1, e1, st1⟩ := initO X0 hx hZ hown (ww hw 91 rfl) (ww hw 16 rfl) (ww hw 17 rfl) e0 (g := (mkF m 1 #[.val (.ref oa), .val (.ref qa)] [(.ref oa)])) rfl (by rw [hml]; rfl) rfl (hb hby d15_1) (by decide) (W := 0) (by show 2 * 0 + _ ≤ _; exact Nat.le_of_eq rfl) (by decide)
  obtain ⟨T2, h2, X2, e2, W2, st2⟩ := putF X1 hx hZ hown (host := "") (Or.inl (ww hw 92 rfl)) Via.refl e1 FO EO (Or.inr ⟨(ww hw 93 rfl), rfl, hnm⟩) (ww hw 82 rfl) (ty := (.object "java/lang/Object")) (by decide) rfl rfl (g := (mkF m 6 #[.val (.ref oa), .val (.ref qa)] [(.ref qa), (.ref oa)])) rfl rfl (hb hby d15_6)
  have Fw2 := Fld.same W2 FO
  have N2 := Fr.snoc X2 N0 go
  have O2 := Old.wr O0 W2 go
  have K2 := Keep.wr (Keep.refl h0 [oa]) W2 (Or.inl (List.mem_of_getElem? (i := 0) rfl))
  obtain ⟨fs, hr, hrun, hended, hW, hsame⟩ := X2.leave (v := none) (fun _ => rfl)
  refine ⟨_, _, pre0 _ ?_, hrun, hended, _, _, rfl, ?_, ⟨_, rfl⟩, hW, hsame.mono (by decide) (by decide)⟩
  · show Steps p.tables e below (s₁.setTop (mkF m 0 #[.val (.ref oa), .val (.ref qa)] [])) _
    refine XS.aloadN X0.here hx rfl (hb hby d15_0) rfl rfl ?_
    show Steps p.tables e below (s₁.setTop (mkF m 1 #[.val (.ref oa), .val (.ref qa)] [(.ref oa)])) _
    refine st1 _ ?_
    show Steps p.tables e below (T1.setTop (mkF m 4 #[.val (.ref oa), .val (.ref qa)] [])) _
    refine XS.aloadN X1.here hx rfl (hb hby d15_4) rfl rfl ?_
    show Steps p.tables e below (T1.setTop (mkF m 5 #[.val (.ref oa), .val (.ref qa)] [(.ref oa)])) _
    refine XS.aloadN X1.here hx rfl (hb hby d15_5) rfl rfl ?_
    show Steps p.tables e below (T1.setTop (mkF m 6 #[.val (.ref oa), .val (.ref qa)] [(.ref qa), (.ref oa)])) _
    refine st2 _ ?_
    show Steps p.tables e below (T2.setTop (mkF m 9 #[.val (.ref oa), .val (.ref qa)] [])) _
    exact X2.returnOut hx Bd.returns (hb hby d15_9) hr
  · show Qd3 Z oa qa h0 n0 _ T2.heap _
    rw [e2]
    exact ⟨rfl, N2, K2, Fw2⟩
theorem d13_0 : decode jdk_32_method_3_code 0 = .ok (.new 2, 3) := by decide +kernel
theorem d13_3 : decode jdk_32_method_3_code 3 = .ok (.dup, 1) := by decide +kernel
theorem d13_4 : decode jdk_32_method_3_code 4 = .ok (.aload_n 0, 1) := by decide +kernel
theorem d13_5 : decode jdk_32_method_3_code 5 = .ok (.invokestatic 17, 3) := by decide +kernel
theorem own_pd1 : parseMethodDescriptor "(Ljava/lang/Object;)Ljava/lang/Object;" = some ⟨[(.object "java/lang/Object")], some (.object "java/lang/Object")⟩ := by decide +kernel
theorem d13_8 : decode jdk_32_method_3_code 8 = .ok (.invokespecial 23, 3) := by decide +kernel
theorem own_pd2 : parseMethodDescriptor "(Ljava/lang/Object;)V" = some ⟨[(.object "java/lang/Object")], none⟩ := by decide +kernel
theorem d13_11 : decode jdk_32_method_3_code 11 = .ok (.areturn, 1) := by decide +kernel
theorem ef_13 (m : MethodId) (x0 : Addr) : entryFrame m #[(.ref x0)] 1 = mkF m 0 #[.val (.ref x0)] [] := by first | (simp [entryFrame, mkF, argsToLocals, Value.category]; done) | rfl
theorem pn_13 : plainName "java/util/Optional" = true := by first | (simp [plainName, overriddenIn]; done) | decide +kernel
def Qd4 (Z : State) (qa : Addr) (h0 : Heap) (n0 : Nat) (v : Option Value) (h : Heap) (L : List Loc) : Prop := ∃ oo, v = some (.ref oo) ∧ Fr n0 L ∧ Keep h0 h [] ∧ Exa Z h oo "java/util/Optional" ∧ Fld Z h oo "java/util/Optional" "value" "Ljava/lang/Object;" (.ref qa)
set_option maxRecDepth 65536 in
set_option maxHeartbeats 40000000 in
theorem rmOO (l : Launch) (Z : State) (a0 : Array Value) (hw : ∀ d ∈ tables_1, d.before a0 Z = true) (ws : List Jvm.Cond) (qa : Addr) (h0 : Heap) (n0 : Nat) (O0 : Old Z n0 h0) :
    MetFree l (⟨"java/util/Optional", "of", "(Ljava/lang/Object;)Ljava/util/Optional;"⟩ : MethodName) (head1 (Jvm.Cond.code (⟨"java/util/Optional", "of", "(Ljava/lang/Object;)Ljava/util/Optional;"⟩ : MethodName) jdk_32_method_3_code 1 (some (.object "java/util/Optional")) :: ws) ({ frames := 2, cells := 1, slots := 1, locals := 26 } : Room)) (fun qq U => qq = #[(.ref qa)] ∧ Z.Warmed39 U.vm ∧ U.heap = h0) (fun _ _ _ _ _ => True) (fun _ UU oo UU' => ∃ vv LL, oo = .returned vv ∧ Qd4 Z qa h0 n0 vv UU'.heap LL ∧ FrameEnd UU oo UU' LL ({ frames := 2, cells := 1, slots := 1, locals := 26 } : Room).cells ({ frames := 2, cells := 1, slots := 1, locals := 26 } : Room).slots) := by
  refine MetFree.of_bodySF (plainFor_of_name pn_13) hisR ?_
  intro p e s m args below meth c s₁ Bd hml0 hP hK
  obtain ⟨rfl, hZ, hh⟩ := hP
  have hx := Bd.exec
  have hby := Bd.bytes
  have hml : c.maxLocals = 1 := hml0
  have hown : s.vm.findClass "java/util/Optional" = some m.cls := findClass_of_methodNamed Bd.named
  have hnm := (name_of_methodNamed Bd.named Bd.method).1
  have X0 : Stand p l e ({ frames := 2, cells := 1, slots := 1, locals := 26 } : Room) s m #[(.ref qa)] below meth c s₁ [] 0 0 := Stand.of_body Bd
  have e0 : s₁.heap = h0 := by rw [← hh, Bd.state]; rfl
  have N0 := Fr.nil n0
  have pre0 : ∀ tgt, Steps p.tables e below (s₁.setTop (mkF m 0 #[.val (.ref qa)] [])) tgt → Steps p.tables e below (s₁.setTop (entryFrame m #[(.ref qa)] 1)) tgt := fun tt kk => castTop (ef_13 m qa) kk
  obtain ⟨T1, h1, X1, e1, E1, A1, D1, -, st1⟩ := newO X0 hx hZ hown (ww hw 81 rfl) (ww hw 82 rfl) (ww hw 79 rfl) e0 (g := (mkF m 0 #[.val (.ref qa)] [])) rfl (hb hby d13_0) (by decide) (by decide)
  obtain ⟨b1, q1⟩ : ∃ z, z = h0.size := ⟨_, rfl⟩
  rw [← q1] at A1 D1 st1
  have g_b1 : n0 ≤ b1 := by rw [q1]; exact (O0).1 ▸ (O0).2.1
  have sz_b1 : h0.size ≤ b1 := by rw [q1]; exact ((Keep.refl h0 [])).1
  have O1 := Old.ext O0 E1
  have K1 := Keep.ext (Keep.refl h0 []) E1
  have F1_value : Fld Z h1 b1 "java/util/Optional" "value" "Ljava/lang/Object;" .null := D1 (Or.inr (ww hw 93 rfl)) (ty := (.object "java/lang/Object")) (by decide)
  obtain ⟨_, _, ⟨T2, L2, k2, n2⟩, -, X2, ⟨Lc2, hQ2, l2, y2, z2⟩, st2⟩ := Jvm.LawKit.callS X1 hx (y := (⟨"java/util/Objects", "requireNonNull", "(Ljava/lang/Object;)Ljava/lang/Object;"⟩ : MethodName)) hown (mvT hZ (ww hw 83 rfl)) (mvT hZ (ww hw 84 rfl)) (mvT hZ (ww hw 85 rfl)) (mvT hZ (ww hw 86 rfl)) (by decide) (backOf (W := 2) (rmR l Z a0 hw [] qa h1 n0) hZ (ww hw 86 rfl) (ww hw 85 rfl) (by decide) (by decide)) (g := (mkF m 5 #[.val (.ref qa)] [(.ref qa), (.ref b1), (.ref b1)])) rfl (by rw [hml]; rfl) (argsL := [(.ref qa)]) (rest := [(.ref b1), (.ref b1)]) (lenOf own_pd1 rfl) rfl (by show 2 * 0 + _ ≤ _; exact Nat.le_of_eq rfl) (hb hby d13_5) (fun _ _ => ⟨rfl, e1, (by decide : 1 + 0 ≤ _), (by decide : 1 + 0 ≤ _)⟩)
  dsimp only [Pt.U, Pt.locs, Pt.cells, Pt.slots] at X2 l2 y2 z2 st2 hQ2
  subst l2 y2 z2
  obtain ⟨rfl, N2q, e2⟩ := hQ2
  have N2 := Fr.app N0 N2q
  obtain ⟨_, _, ⟨T3, L3, k3, n3⟩, -, X3, ⟨Lc3, hQ3, l3, y3, z3⟩, st3⟩ := X2.specialBack hx (y := (⟨"java/util/Optional", "<init>", "(Ljava/lang/Object;)V"⟩ : MethodName)) rfl hown (mvT hZ (ww hw 87 rfl)) (mvT hZ (ww hw 88 rfl)) (mvT hZ (ww hw 90 rfl)) (by decide) (backOf (W := 1) (rmOI l Z a0 hw [] b1 qa h1 n0 O1 g_b1 A1 F1_value) hZ (ww hw 90 rfl) (ww hw 79 rfl) (by decide) (by decide)) (g := (mkF m 8 #[.val (.ref qa)] [(.ref qa), (.ref b1), (.ref b1)])) rfl (by rw [hml]; rfl) (Steps.refl _) (a := b1) (argsL := [(.ref qa)]) (rest := [(.ref b1)]) (lenOf own_pd2 rfl) rfl (by show 2 * 0 + _ ≤ _; exact Nat.le_of_eq rfl) (hb hby d13_8) (fun _ _ => ⟨rfl, e2, (by decide : 1 + 0 ≤ _), (by decide : 1 + 0 ≤ _)⟩)
  dsimp only [Pt.U, Pt.locs, Pt.cells, Pt.slots] at X3 l3 y3 z3 st3 hQ3
  subst l3 y3 z3
  obtain ⟨rfl, N3q, KK3, f3_0⟩ := hQ3
  have N3 := Fr.app N2 N3q
  have O3 := Old.keep O1 KK3 (allS g_b1 all0)
  have K3 := Keep.trans K1 KK3 (allS (Or.inr sz_b1) all0)
  obtain ⟨fs, hr, hrun, hended, hW, hsame⟩ := X3.leave (v := some (.ref b1)) (fun h => by rw [Bd.returns] at h; cases h)
  refine ⟨_, _, pre0 _ ?_, hrun, hended, _, _, rfl, ?_, ⟨_, rfl⟩, hW, hsame.mono (by decide) (by decide)⟩
  · show Steps p.tables e below (s₁.setTop (mkF m 0 #[.val (.ref qa)] [])) _
    refine st1 _ ?_
    show Steps p.tables e below (T1.setTop (mkF m 3 #[.val (.ref qa)] [(.ref b1)])) _
    refine XS.dup X1.here hx rfl (hb hby d13_3) rfl rfl ?_
    show Steps p.tables e below (T1.setTop (mkF m 4 #[.val (.ref qa)] [(.ref b1), (.ref b1)])) _
    refine XS.aloadN X1.here hx rfl (hb hby d13_4) rfl rfl ?_
    show Steps p.tables e below (T1.setTop (mkF m 5 #[.val (.ref qa)] [(.ref qa), (.ref b1), (.ref b1)])) _
    refine st2 _ ?_
    show Steps p.tables e below (T2.setTop (mkF m 8 #[.val (.ref qa)] [(.ref qa), (.ref b1), (.ref b1)])) _
    refine st3.trans ?_
    show Steps p.tables e below (T3.setTop (mkF m 11 #[.val (.ref qa)] [(.ref b1)])) _
    exact retOut X3 hx Bd.returns rfl (Or.inr (Or.inr (Or.inr (Or.inr ⟨rfl, rfl, rfl⟩)))) (hb hby d13_11) hr
  · show Qd4 Z qa h0 n0 _ T3.heap _
    exact ⟨b1, rfl, N3, K3, (A1.keep KK3), f3_0⟩
theorem d18_0 : decode jdk_32_method_1_code 0 = .ok (.getstatic 1, 3) := by decide +kernel
theorem d18_3 : decode jdk_32_method_1_code 3 = .ok (.astore_n 0, 1) := by decide +kernel
theorem d18_4 : decode jdk_32_method_1_code 4 = .ok (.aload_n 0, 1) := by decide +kernel
theorem d18_5 : decode jdk_32_method_1_code 5 = .ok (.areturn, 1) := by decide +kernel
theorem ef_18 (m : MethodId)  : entryFrame m #[] 1 = mkF m 0 #[.unset] [] := by first | (simp [entryFrame, mkF, argsToLocals, Value.category]; done) | rfl
theorem pn_18 : plainName "java/util/Optional" = true := by first | (simp [plainName, overriddenIn]; done) | decide +kernel
def Qd5 (Z : State) (em : Addr) (h0 : Heap) (n0 : Nat) (v : Option Value) (h : Heap) (L : List Loc) : Prop := v = some (.ref em) ∧ Fr n0 L ∧ h = h0
set_option maxRecDepth 65536 in
set_option maxHeartbeats 40000000 in
theorem rmOE (l : Launch) (Z : State) (a0 : Array Value) (hw : ∀ d ∈ tables_1, d.before a0 Z = true) (ws : List Jvm.Cond) (em : Addr) (h0 : Heap) (n0 : Nat) (O0 : Old Z n0 h0) (SM : Sta Z Z.heap "java/util/Optional" "EMPTY" "Ljava/util/Optional;" (.ref em)) (EE : Exa Z Z.heap em "java/util/Optional") (FE : Fld Z Z.heap em "java/util/Optional" "value" "Ljava/lang/Object;" .null) :
    MetFree l (⟨"java/util/Optional", "empty", "()Ljava/util/Optional;"⟩ : MethodName) (head1 (Jvm.Cond.code (⟨"java/util/Optional", "empty", "()Ljava/util/Optional;"⟩ : MethodName) jdk_32_method_1_code 1 (some (.object "java/util/Optional")) :: ws) ({ frames := 0, cells := 0, slots := 0, locals := 0 } : Room)) (fun qq U => qq = #[] ∧ Z.Warmed39 U.vm ∧ U.heap = h0) (fun _ _ _ _ _ => True) (fun _ UU oo UU' => ∃ vv LL, oo = .returned vv ∧ Qd5 Z em h0 n0 vv UU'.heap LL ∧ FrameEnd UU oo UU' LL ({ frames := 0, cells := 0, slots := 0, locals := 0 } : Room).cells ({ frames := 0, cells := 0, slots := 0, locals := 0 } : Room).slots) := by
  refine MetFree.of_bodySF (plainFor_of_name pn_18) hisR ?_
  intro p e s m args below meth c s₁ Bd hml0 hP hK
  obtain ⟨rfl, hZ, hh⟩ := hP
  have hx := Bd.exec
  have hby := Bd.bytes
  have hml : c.maxLocals = 1 := hml0
  have hown : s.vm.findClass "java/util/Optional" = some m.cls := findClass_of_methodNamed Bd.named
  have hnm := (name_of_methodNamed Bd.named Bd.method).1
  have X0 : Stand p l e ({ frames := 0, cells := 0, slots := 0, locals := 0 } : Room) s m #[] below meth c s₁ [] 0 0 := Stand.of_body Bd
  have e0 : s₁.heap = h0 := by rw [← hh, Bd.state]; rfl
  have N0 := Fr.nil n0
  have pre0 : ∀ tgt, Steps p.tables e below (s₁.setTop (mkF m 0 #[.unset] [])) tgt → Steps p.tables e below (s₁.setTop (entryFrame m #[] 1)) tgt := fun tt kk => castTop (ef_18 m ) kk
  obtain ⟨T1, X1, e1, st1⟩ := getS2 X0 hx hZ hown (host := "") (Or.inl (ww hw 111 rfl)) Via.refl e0 (SM.ext O0.2) (g := (mkF m 0 #[.unset] [])) rfl (hb hby d18_0)
  obtain ⟨fs, hr, hrun, hended, hW, hsame⟩ := X1.leave (v := some (.ref em)) (fun h => by rw [Bd.returns] at h; cases h)
  refine ⟨_, _, pre0 _ ?_, hrun, hended, _, _, rfl, ?_, ⟨_, rfl⟩, hW, hsame.mono (by decide) (by decide)⟩
  · show Steps p.tables e below (s₁.setTop (mkF m 0 #[.unset] [])) _
    refine st1 _ ?_
    show Steps p.tables e below (T1.setTop (mkF m 3 #[.unset] [(.ref em)])) _
    refine XS.astoreN X1.here hx rfl (hb hby d18_3) rfl rfl (l' := #[.val (.ref em)]) rfl ?_
    show Steps p.tables e below (T1.setTop (mkF m 4 #[.val (.ref em)] [])) _
    refine XS.aloadN X1.here hx rfl (hb hby d18_4) rfl rfl ?_
    show Steps p.tables e below (T1.setTop (mkF m 5 #[.val (.ref em)] [(.ref em)])) _
    exact retOut X1 hx Bd.returns rfl (Or.inr (Or.inr (Or.inr (Or.inr ⟨rfl, rfl, rfl⟩)))) (hb hby d18_5) hr
  · show Qd5 Z em h0 n0 _ T1.heap _
    rw [e1]
    exact ⟨rfl, N0, rfl⟩
theorem d16_0 : decode jdk_32_method_15_code 0 = .ok (.aload_n 0, 1) := by decide +kernel
theorem d16_1 : decode jdk_32_method_15_code 1 = .ok (.getfield 13, 3) := by decide +kernel
theorem d16_4 : decode jdk_32_method_15_code 4 = .ok (.ifnull 10, 3) := by decide +kernel
theorem d16_14 : decode jdk_32_method_15_code 14 = .ok (.aload_n 1, 1) := by decide +kernel
theorem d16_15 : decode jdk_32_method_15_code 15 = .ok (.areturn, 1) := by decide +kernel
theorem ef_16n (m : MethodId) (x0 : Addr) : entryFrame m #[(.ref x0), .null] 2 = mkF m 0 #[.val (.ref x0), .val .null] [] := by first | (simp [entryFrame, mkF, argsToLocals, Value.category]; done) | rfl
theorem pn_16 : plainName "java/util/Optional" = true := by first | (simp [plainName, overriddenIn]; done) | decide +kernel
def Qd6 (Z : State) (oa : Addr) (h0 : Heap) (n0 : Nat) (v : Option Value) (h : Heap) (L : List Loc) : Prop := v = some .null ∧ Fr n0 L ∧ h = h0
set_option maxRecDepth 65536 in
set_option maxHeartbeats 40000000 in
theorem rmLn (l : Launch) (Z : State) (a0 : Array Value) (hw : ∀ d ∈ tables_1, d.before a0 Z = true) (ws : List Jvm.Cond) (oa : Addr) (h0 : Heap) (n0 : Nat) (FO : Fld Z h0 oa "java/util/Optional" "value" "Ljava/lang/Object;" .null) :
    MetFree l (⟨"java/util/Optional", "orElse", "(Ljava/lang/Object;)Ljava/lang/Object;"⟩ : MethodName) (head1 (Jvm.Cond.code (⟨"java/util/Optional", "orElse", "(Ljava/lang/Object;)Ljava/lang/Object;"⟩ : MethodName) jdk_32_method_15_code 2 (some (.object "java/lang/Object")) :: ws) ({ frames := 0, cells := 0, slots := 0, locals := 0 } : Room)) (fun qq U => qq = #[(.ref oa), .null] ∧ Z.Warmed39 U.vm ∧ U.heap = h0) (fun _ _ _ _ _ => True) (fun _ UU oo UU' => ∃ vv LL, oo = .returned vv ∧ Qd6 Z oa h0 n0 vv UU'.heap LL ∧ FrameEnd UU oo UU' LL ({ frames := 0, cells := 0, slots := 0, locals := 0 } : Room).cells ({ frames := 0, cells := 0, slots := 0, locals := 0 } : Room).slots) := by
  refine MetFree.of_bodySF (plainFor_of_name pn_16) hisR ?_
  intro p e s m args below meth c s₁ Bd hml0 hP hK
  obtain ⟨rfl, hZ, hh⟩ := hP
  have hx := Bd.exec
  have hby := Bd.bytes
  have hml : c.maxLocals = 2 := hml0
  have hown : s.vm.findClass "java/util/Optional" = some m.cls := findClass_of_methodNamed Bd.named
  have hnm := (name_of_methodNamed Bd.named Bd.method).1
  have X0 : Stand p l e ({ frames := 0, cells := 0, slots := 0, locals := 0 } : Room) s m #[(.ref oa), .null] below meth c s₁ [] 0 0 := Stand.of_body Bd
  have e0 : s₁.heap = h0 := by rw [← hh, Bd.state]; rfl
  have N0 := Fr.nil n0
  have pre0 : ∀ tgt, Steps p.tables e below (s₁.setTop (mkF m 0 #[.val (.ref oa), .val .null] [])) tgt → Steps p.tables e below (s₁.setTop (entryFrame m #[(.ref oa), .null] 2)) tgt := fun tt kk => castTop (ef_16n m oa) kk
  obtain ⟨T1, X1, e1, st1⟩ := getF X0 hx hZ hown (host := "") (Or.inl (ww hw 92 rfl)) Via.refl e0 FO (g := (mkF m 1 #[.val (.ref oa), .val .null] [(.ref oa)])) rfl rfl (hb hby d16_1)
  obtain ⟨fs, hr, hrun, hended, hW, hsame⟩ := X1.leave (v := some .null) (fun h => by rw [Bd.returns] at h; cases h)
  refine ⟨_, _, pre0 _ ?_, hrun, hended, _, _, rfl, ?_, ⟨_, rfl⟩, hW, hsame.mono (by decide) (by decide)⟩
  · show Steps p.tables e below (s₁.setTop (mkF m 0 #[.val (.ref oa), .val .null] [])) _
    refine XS.aloadN X0.here hx rfl (hb hby d16_0) rfl rfl ?_
    show Steps p.tables e below (s₁.setTop (mkF m 1 #[.val (.ref oa), .val .null] [(.ref oa)])) _
    refine st1 _ ?_
    show Steps p.tables e below (T1.setTop (mkF m 4 #[.val (.ref oa), .val .null] [.null])) _
    refine XS.ifnullYes X1.here hx rfl (pc0 := 4) (pc' := 14) rfl (hb hby d16_4) rfl (by decide) (by decide) ?_
    show Steps p.tables e below (T1.setTop (mkF m 14 #[.val (.ref oa), .val .null] [])) _
    refine XS.aloadN X1.here hx rfl (hb hby d16_14) rfl rfl ?_
    show Steps p.tables e below (T1.setTop (mkF m 15 #[.val (.ref oa), .val .null] [.null])) _
    exact retOut X1 hx Bd.returns rfl (Or.inr (Or.inr (Or.inr (Or.inr ⟨rfl, rfl, rfl⟩)))) (hb hby d16_15) hr
  · show Qd6 Z oa h0 n0 _ T1.heap _
    rw [e1]
    exact ⟨rfl, N0, rfl⟩
theorem d16_7 : decode jdk_32_method_15_code 7 = .ok (.aload_n 0, 1) := by decide +kernel
theorem d16_8 : decode jdk_32_method_15_code 8 = .ok (.getfield 13, 3) := by decide +kernel
theorem d16_11 : decode jdk_32_method_15_code 11 = .ok (.goto 4, 3) := by decide +kernel
def Qd7 (Z : State) (oa u : Addr) (h0 : Heap) (n0 : Nat) (v : Option Value) (h : Heap) (L : List Loc) : Prop := v = some (.ref u) ∧ Fr n0 L ∧ h = h0
set_option maxRecDepth 65536 in
set_option maxHeartbeats 40000000 in
theorem rmLr (l : Launch) (Z : State) (a0 : Array Value) (hw : ∀ d ∈ tables_1, d.before a0 Z = true) (ws : List Jvm.Cond) (oa u : Addr) (h0 : Heap) (n0 : Nat) (FO : Fld Z h0 oa "java/util/Optional" "value" "Ljava/lang/Object;" (.ref u)) :
    MetFree l (⟨"java/util/Optional", "orElse", "(Ljava/lang/Object;)Ljava/lang/Object;"⟩ : MethodName) (head1 (Jvm.Cond.code (⟨"java/util/Optional", "orElse", "(Ljava/lang/Object;)Ljava/lang/Object;"⟩ : MethodName) jdk_32_method_15_code 2 (some (.object "java/lang/Object")) :: ws) ({ frames := 0, cells := 0, slots := 0, locals := 0 } : Room)) (fun qq U => qq = #[(.ref oa), .null] ∧ Z.Warmed39 U.vm ∧ U.heap = h0) (fun _ _ _ _ _ => True) (fun _ UU oo UU' => ∃ vv LL, oo = .returned vv ∧ Qd7 Z oa u h0 n0 vv UU'.heap LL ∧ FrameEnd UU oo UU' LL ({ frames := 0, cells := 0, slots := 0, locals := 0 } : Room).cells ({ frames := 0, cells := 0, slots := 0, locals := 0 } : Room).slots) := by
  refine MetFree.of_bodySF (plainFor_of_name pn_16) hisR ?_
  intro p e s m args below meth c s₁ Bd hml0 hP hK
  obtain ⟨rfl, hZ, hh⟩ := hP
  have hx := Bd.exec
  have hby := Bd.bytes
  have hml : c.maxLocals = 2 := hml0
  have hown : s.vm.findClass "java/util/Optional" = some m.cls := findClass_of_methodNamed Bd.named
  have hnm := (name_of_methodNamed Bd.named Bd.method).1
  have X0 : Stand p l e ({ frames := 0, cells := 0, slots := 0, locals := 0 } : Room) s m #[(.ref oa), .null] below meth c s₁ [] 0 0 := Stand.of_body Bd
  have e0 : s₁.heap = h0 := by rw [← hh, Bd.state]; rfl
  have N0 := Fr.nil n0
  have pre0 : ∀ tgt, Steps p.tables e below (s₁.setTop (mkF m 0 #[.val (.ref oa), .val .null] [])) tgt → Steps p.tables e below (s₁.setTop (entryFrame m #[(.ref oa), .null] 2)) tgt := fun tt kk => castTop (ef_16n m oa) kk
  obtain ⟨T1, X1, e1, st1⟩ := getF X0 hx hZ hown (host := "") (Or.inl (ww hw 92 rfl)) Via.refl e0 FO (g := (mkF m 1 #[.val (.ref oa), .val .null] [(.ref oa)])) rfl rfl (hb hby d16_1)
  obtain ⟨T2, X2, e2, st2⟩ := getF X1 hx hZ hown (host := "") (Or.inl (ww hw 92 rfl)) Via.refl e1 FO (g := (mkF m 8 #[.val (.ref oa), .val .null] [(.ref oa)])) rfl rfl (hb hby d16_8)
  obtain ⟨fs, hr, hrun, hended, hW, hsame⟩ := X2.leave (v := some (.ref u)) (fun h => by rw [Bd.returns] at h; cases h)
  refine ⟨_, _, pre0 _ ?_, hrun, hended, _, _, rfl, ?_, ⟨_, rfl⟩, hW, hsame.mono (by decide) (by decide)⟩
  · show Steps p.tables e below (s₁.setTop (mkF m 0 #[.val (.ref oa), .val .null] [])) _
    refine XS.aloadN X0.here hx rfl (hb hby d16_0) rfl rfl ?_
    show Steps p.tables e below (s₁.setTop (mkF m 1 #[.val (.ref oa), .val .null] [(.ref oa)])) _
    refine st1 _ ?_
    show Steps p.tables e below (T1.setTop (mkF m 4 #[.val (.ref oa), .val .null] [(.ref u)])) _
    refine XS.ifnullNo X1.here hx rfl (hb hby d16_4) rfl ?_
    show Steps p.tables e below (T1.setTop (mkF m 7 #[.val (.ref oa), .val .null] [])) _
    refine XS.aloadN X1.here hx rfl (hb hby d16_7) rfl rfl ?_
    show Steps p.tables e below (T1.setTop (mkF m 8 #[.val (.ref oa), .val .null] [(.ref oa)])) _
    refine st2 _ ?_
    show Steps p.tables e below (T2.setTop (mkF m 11 #[.val (.ref oa), .val .null] [(.ref u)])) _
    refine XS.goto X2.here hx rfl (pc0 := 11) (pc' := 15) rfl (hb hby d16_11) (by decide) (by decide) ?_
    show Steps p.tables e below (T2.setTop (mkF m 15 #[.val (.ref oa), .val .null] [(.ref u)])) _
    exact retOut X2 hx Bd.returns rfl (Or.inr (Or.inr (Or.inr (Or.inr ⟨rfl, rfl, rfl⟩)))) (hb hby d16_15) hr
  · show Qd7 Z oa u h0 n0 _ T2.heap _
    rw [e2]
    exact ⟨rfl, N0, rfl⟩
def Qd8 (Z : State) (oa : Addr) (rv : Value) (h0 : Heap) (n0 : Nat) (v : Option Value) (h : Heap) (L : List Loc) : Prop := v = some rv ∧ Fr n0 L ∧ h = h0
theorem rmL (l : Launch) (Z : State) (a0 : Array Value) (hw : ∀ d ∈ tables_1, d.before a0 Z = true) (ws : List Jvm.Cond) (oa : Addr) (rv : Value) (h0 : Heap) (n0 : Nat) (hrv : rv.isRef = true) (FO : Fld Z h0 oa "java/util/Optional" "value" "Ljava/lang/Object;" rv) :
    MetFree l (⟨"java/util/Optional", "orElse", "(Ljava/lang/Object;)Ljava/lang/Object;"⟩ : MethodName) (head1 (Jvm.Cond.code (⟨"java/util/Optional", "orElse", "(Ljava/lang/Object;)Ljava/lang/Object;"⟩ : MethodName) jdk_32_method_15_code 2 (some (.object "java/lang/Object")) :: ws) ({ frames := 0, cells := 0, slots := 0, locals := 0 } : Room)) (fun qq U => qq = #[(.ref oa), .null] ∧ Z.Warmed39 U.vm ∧ U.heap = h0) (fun _ _ _ _ _ => True) (fun _ UU oo UU' => ∃ vv LL, oo = .returned vv ∧ Qd8 Z oa rv h0 n0 vv UU'.heap LL ∧ FrameEnd UU oo UU' LL ({ frames := 0, cells := 0, slots := 0, locals := 0 } : Room).cells ({ frames := 0, cells := 0, slots := 0, locals := 0 } : Room).slots) := by
  rcases ref_cases hrv with rfl | ⟨u, rfl⟩
  · exact rmLn l Z a0 hw ws oa h0 n0 FO
  · exact rmLr l Z a0 hw ws oa u h0 n0 FO
theorem d11_0 : decode prog_38_method_5_code 0 = .ok (.invokestatic 39, 3) := by decide +kernel
theorem own_pd3 : parseMethodDescriptor "()[Lcom/example/lendloop/lendloop/core/TransactionRole;" = some ⟨[], some (.array (.object "com/example/lendloop/lendloop/core/TransactionRole"))⟩ := by decide +kernel
theorem d11_3 : decode prog_38_method_5_code 3 = .ok (.astore_n 1, 1) := by decide +kernel
theorem d11_4 : decode prog_38_method_5_code 4 = .ok (.aload_n 1, 1) := by decide +kernel
theorem d11_5 : decode prog_38_method_5_code 5 = .ok (.arraylength, 1) := by decide +kernel
theorem d11_6 : decode prog_38_method_5_code 6 = .ok (.istore_n 2, 1) := by decide +kernel
theorem d11_7 : decode prog_38_method_5_code 7 = .ok (.iconst 0, 1) := by decide +kernel
theorem d11_8 : decode prog_38_method_5_code 8 = .ok (.istore_n 3, 1) := by decide +kernel
theorem d11_9 : decode prog_38_method_5_code 9 = .ok (.iload_n 3, 1) := by decide +kernel
theorem d11_10 : decode prog_38_method_5_code 10 = .ok (.iload_n 2, 1) := by decide +kernel
theorem d11_11 : decode prog_38_method_5_code 11 = .ok (.if_icmp .ge 32, 3) := by decide +kernel
theorem d11_14 : decode prog_38_method_5_code 14 = .ok (.aload_n 1, 1) := by decide +kernel
theorem d11_15 : decode prog_38_method_5_code 15 = .ok (.iload_n 3, 1) := by decide +kernel
theorem d11_16 : decode prog_38_method_5_code 16 = .ok (.aaload, 1) := by decide +kernel
theorem d11_17 : decode prog_38_method_5_code 17 = .ok (.astore 4, 2) := by decide +kernel
theorem d11_19 : decode prog_38_method_5_code 19 = .ok (.aload 4, 2) := by decide +kernel
theorem d11_21 : decode prog_38_method_5_code 21 = .ok (.getfield 35, 3) := by decide +kernel
theorem d11_24 : decode prog_38_method_5_code 24 = .ok (.aload_n 0, 1) := by decide +kernel
theorem d11_25 : decode prog_38_method_5_code 25 = .ok (.invokevirtual 43, 3) := by decide +kernel
theorem d11_28 : decode prog_38_method_5_code 28 = .ok (.ifCond .eq 9, 3) := by decide +kernel
theorem d11_31 : decode prog_38_method_5_code 31 = .ok (.aload 4, 2) := by decide +kernel
theorem d11_33 : decode prog_38_method_5_code 33 = .ok (.invokestatic 49, 3) := by decide +kernel
theorem own_pd4 : parseMethodDescriptor "(Ljava/lang/Object;)Ljava/util/Optional;" = some ⟨[(.object "java/lang/Object")], some (.object "java/util/Optional")⟩ := by decide +kernel
theorem d11_36 : decode prog_38_method_5_code 36 = .ok (.areturn, 1) := by decide +kernel
theorem ef_11 (m : MethodId) (x0 : Addr) : entryFrame m #[(.ref x0)] 5 = mkF m 0 #[.val (.ref x0), .unset, .unset, .unset, .unset] [] := by first | (simp [entryFrame, mkF, argsToLocals, Value.category]; done) | rfl
theorem pn_11 : plainName "com/example/lendloop/lendloop/core/TransactionRole" = true := by first | (simp [plainName, overriddenIn]; done) | decide +kernel
def Qd9 (Z : State) (xs tt em vA w0 w1 w2 w3 s0 s1 s2 s3 t0 t1 t2 t3 : Addr) (kb kA kb0 kb1 kb2 kb3 : ClassId) (cs : List Int32) (z : Int32) (h0 : Heap) (n0 : Nat) (v : Option Value) (h : Heap) (L : List Loc) : Prop := ∃ oo, v = some (.ref oo) ∧ Fr n0 L ∧ Keep h0 h [] ∧ Exa Z h oo "java/util/Optional" ∧ Fld Z h oo "java/util/Optional" "value" "Ljava/lang/Object;" (own_role cs w0 w1 w2 w3)
set_option maxRecDepth 65536 in
set_option maxHeartbeats 40000000 in
theorem rmW0 (l : Launch) (Z : State) (a0 : Array Value) (hw : ∀ d ∈ tables_1, d.before a0 Z = true) (ws : List Jvm.Cond) (xs tt em vA w0 w1 w2 w3 s0 s1 s2 s3 t0 t1 t2 t3 : Addr) (kb kA kb0 kb1 kb2 kb3 : ClassId) (cs : List Int32) (z : Int32) (h0 : Heap) (n0 : Nat) (O0 : Old Z n0 h0) (Ex : Exa Z h0 xs "java/lang/String") (Vx : Fld Z h0 xs "java/lang/String" "value" "[B" (.ref tt)) (Cx : Fld Z h0 xs "java/lang/String" "coder" "B" (.int 0)) (Kx : Arv Z h0 tt kb .byte (Int32.ofNat (cs).length) (((cs).map StrChars.lo8).map Value.int) (.int 0)) (SC : Sta Z Z.heap "java/lang/String" "COMPACT_STRINGS" "Z" (.int z)) (hz : ¬ z = 0) (SV : Sta Z Z.heap "com/example/lendloop/lendloop/core/TransactionRole" "$VALUES" "[Lcom/example/lendloop/lendloop/core/TransactionRole;" (.ref vA)) (VV : Arv Z Z.heap vA kA (.object "com/example/lendloop/lendloop/core/TransactionRole") (4 : Int32) [.ref w0, .ref w1, .ref w2, .ref w3] .null) (EV : Exa Z Z.heap vA "[Lcom/example/lendloop/lendloop/core/TransactionRole;") (SM : Sta Z Z.heap "java/util/Optional" "EMPTY" "Ljava/util/Optional;" (.ref em)) (EE : Exa Z Z.heap em "java/util/Optional") (FE : Fld Z Z.heap em "java/util/Optional" "value" "Ljava/lang/Object;" .null) (E0 : Exa Z Z.heap w0 "com/example/lendloop/lendloop/core/TransactionRole") (G0 : Fld Z Z.heap w0 "com/example/lendloop/lendloop/core/TransactionRole" "wireName" "Ljava/lang/String;" (.ref s0)) (Ex0 : Exa Z Z.heap s0 "java/lang/String") (Vx0 : Fld Z Z.heap s0 "java/lang/String" "value" "[B" (.ref t0)) (Cx0 : Fld Z Z.heap s0 "java/lang/String" "coder" "B" (.int 0)) (Kx0 : Arv Z Z.heap t0 kb0 .byte (Int32.ofNat (own_d0).length) (((own_d0).map StrChars.lo8).map Value.int) (.int 0)) (E1 : Exa Z Z.heap w1 "com/example/lendloop/lendloop/core/TransactionRole") (G1 : Fld Z Z.heap w1 "com/example/lendloop/lendloop/core/TransactionRole" "wireName" "Ljava/lang/String;" (.ref s1)) (Ex1 : Exa Z Z.heap s1 "java/lang/String") (Vx1 : Fld Z Z.heap s1 "java/lang/String" "value" "[B" (.ref t1)) (Cx1 : Fld Z Z.heap s1 "java/lang/String" "coder" "B" (.int 0)) (Kx1 : Arv Z Z.heap t1 kb1 .byte (Int32.ofNat (own_d1).length) (((own_d1).map StrChars.lo8).map Value.int) (.int 0)) (E2 : Exa Z Z.heap w2 "com/example/lendloop/lendloop/core/TransactionRole") (G2 : Fld Z Z.heap w2 "com/example/lendloop/lendloop/core/TransactionRole" "wireName" "Ljava/lang/String;" (.ref s2)) (Ex2 : Exa Z Z.heap s2 "java/lang/String") (Vx2 : Fld Z Z.heap s2 "java/lang/String" "value" "[B" (.ref t2)) (Cx2 : Fld Z Z.heap s2 "java/lang/String" "coder" "B" (.int 0)) (Kx2 : Arv Z Z.heap t2 kb2 .byte (Int32.ofNat (own_d2).length) (((own_d2).map StrChars.lo8).map Value.int) (.int 0)) (E3 : Exa Z Z.heap w3 "com/example/lendloop/lendloop/core/TransactionRole") (G3 : Fld Z Z.heap w3 "com/example/lendloop/lendloop/core/TransactionRole" "wireName" "Ljava/lang/String;" (.ref s3)) (Ex3 : Exa Z Z.heap s3 "java/lang/String") (Vx3 : Fld Z Z.heap s3 "java/lang/String" "value" "[B" (.ref t3)) (Cx3 : Fld Z Z.heap s3 "java/lang/String" "coder" "B" (.int 0)) (Kx3 : Arv Z Z.heap t3 kb3 .byte (Int32.ofNat (own_d3).length) (((own_d3).map StrChars.lo8).map Value.int) (.int 0)) (hg : own_good cs) (hc28 : ¬ ((if own_d0 = cs then (1 : Int32) else 0) = (0 : Int32))) :
    MetFree l (⟨"com/example/lendloop/lendloop/core/TransactionRole", "fromWireName", "(Ljava/lang/String;)Ljava/util/Optional;"⟩ : MethodName) (head1 (Jvm.Cond.code (⟨"com/example/lendloop/lendloop/core/TransactionRole", "fromWireName", "(Ljava/lang/String;)Ljava/util/Optional;"⟩ : MethodName) prog_38_method_5_code 5 (some (.object "java/util/Optional")) :: ws) ({ frames := 3, cells := 2, slots := 5, locals := 70 } : Room)) (fun qq U => qq = #[(.ref xs)] ∧ Z.Warmed39 U.vm ∧ U.heap = h0) (fun _ _ _ _ _ => True) (fun _ UU oo UU' => ∃ vv LL, oo = .returned vv ∧ Qd9 Z xs tt em vA w0 w1 w2 w3 s0 s1 s2 s3 t0 t1 t2 t3 kb kA kb0 kb1 kb2 kb3 cs z h0 n0 vv UU'.heap LL ∧ FrameEnd UU oo UU' LL ({ frames := 3, cells := 2, slots := 5, locals := 70 } : Room).cells ({ frames := 3, cells := 2, slots := 5, locals := 70 } : Room).slots) := by
  refine MetFree.of_bodySF (plainFor_of_name pn_11) hisR ?_
  intro p e s m args below meth c s₁ Bd hml0 hP hK
  obtain ⟨rfl, hZ, hh⟩ := hP
  have hx := Bd.exec
  have hby := Bd.bytes
  have hml : c.maxLocals = 5 := hml0
  have hown : s.vm.findClass "com/example/lendloop/lendloop/core/TransactionRole" = some m.cls := findClass_of_methodNamed Bd.named
  have hnm := (name_of_methodNamed Bd.named Bd.method).1
  have X0 : Stand p l e ({ frames := 3, cells := 2, slots := 5, locals := 70 } : Room) s m #[(.ref xs)] below meth c s₁ [] 0 0 := Stand.of_body Bd
  have e0 : s₁.heap = h0 := by rw [← hh, Bd.state]; rfl
  have N0 := Fr.nil n0
  have pre0 : ∀ tgt, Steps p.tables e below (s₁.setTop (mkF m 0 #[.val (.ref xs), .unset, .unset, .unset, .unset] [])) tgt → Steps p.tables e below (s₁.setTop (entryFrame m #[(.ref xs)] 5)) tgt := fun tt kk => castTop (ef_11 m xs) kk
  obtain ⟨_, _, ⟨T1, L1, k1, n1⟩, -, X1, ⟨Lc1, hQ1, l1, y1, z1⟩, st1⟩ := Jvm.LawKit.callS X0 hx (y := (⟨"com/example/lendloop/lendloop/core/TransactionRole", "values", "()[Lcom/example/lendloop/lendloop/core/TransactionRole;"⟩ : MethodName)) hown (mvT hZ (ww hw 56 rfl)) (mvT hZ (ww hw 57 rfl)) (mvT hZ (ww hw 51 rfl)) (mvT hZ (ww hw 58 rfl)) (by decide) (backOf (W := 0) (rmV l Z a0 hw [] vA w0 w1 w2 w3 kA h0 n0 O0 SV VV EV) hZ (ww hw 58 rfl) (ww hw 51 rfl) (by decide) (by decide)) (g := (mkF m 0 #[.val (.ref xs), .unset, .unset, .unset, .unset] [])) rfl (by rw [hml]; rfl) (argsL := []) (rest := []) (lenOf own_pd3 rfl) rfl (by show 2 * 0 + _ ≤ _; exact Nat.le_of_eq rfl) (hb hby d11_0) (fun _ _ => ⟨rfl, e0, (by decide : 0 + 1 ≤ _), (by decide : 0 + 4 ≤ _)⟩)
  dsimp only [Pt.U, Pt.locs, Pt.cells, Pt.slots] at X1 l1 y1 z1 st1 hQ1
  subst l1 y1 z1
  obtain ⟨vb, rfl, N1q, KK1, g_b, VB⟩ := hQ1
  have N1 := Fr.app N0 N1q
  have O1 := Old.keep O0 KK1 all0
  have K1 := Keep.trans (Keep.refl h0 []) KK1 all0
  obtain ⟨cl, Ar, qk, Sz, Mz, Hz, Uz⟩ := VB
  have hin0 : ¬ ((0 : Int32) < 0 ∨ cl.slots.size ≤ ((0 : Int32)).toNatClampNeg) := by rw [Sz]; decide
  have hat0 : cl.slots[((0 : Int32)).toNatClampNeg]? = some (.ref w0) := Hz 0 (by rw [Sz]; decide)
  obtain ⟨T2, X2, e2, st2⟩ := getF X1 hx hZ hown (host := "") (Or.inl (ww hw 74 rfl)) Via.refl rfl (G0.ext O1.2) (g := (mkF m 21 #[.val (.ref xs), .val (.ref vb), .val (.int (4 : Int32)), .val (.int (0 : Int32)), .val (.ref w0)] [(.ref w0)])) rfl rfl (hb hby d11_21)
  obtain ⟨cq3, kq3, q3a, q3b, q3c⟩ := isOf hZ e2 (Ex0.ext O1.2)
  obtain ⟨_, _, ⟨T3, L3, k3, n3⟩, -, X3, ⟨Lc3, hQ3, l3, y3, z3⟩, st3⟩ := X2.virtualBack hx (y := (⟨"java/lang/String", "equals", "(Ljava/lang/Object;)Z"⟩ : MethodName)) (z := (⟨"java/lang/String", "equals", "(Ljava/lang/Object;)Z"⟩ : MethodName)) hown (mvT hZ (ww hw 76 rfl)) (mvT hZ (ww hw 41 rfl)) (notFace_of_selects (args := #[]) (mvT hZ (ww hw 43 rfl))) (mvT hZ (ww hw 43 rfl)) (mvT hZ (ww hw 42 rfl)) (by decide) (own_bk (n0 := n0) own_eqv (StrChars.Road.eqW (W := 0) hZ (own_wQ hw) (kI := 4) (ww hw 6 rfl) (Ex0.ext O1.2) (Vx0.ext O1.2) (Cx0.ext O1.2) (Kx0.ext O1.2) (own_cd own_gd0) (own_hb own_gd0) (Nat.le_trans own_gd0.1 (by decide)) (Ex.keep KK1) (Vx.keep KK1 nin0) (Cx.keep KK1 nin0) (Kx.keep KK1 nin0) (own_cd hg) (own_hb hg) (Nat.le_trans hg.1 (by decide)) (Sta.ext O1.2 SC) hz (by decide) (by decide))) q3a q3c (g := (mkF m 25 #[.val (.ref xs), .val (.ref vb), .val (.int (4 : Int32)), .val (.int (0 : Int32)), .val (.ref w0)] [(.ref xs), (.ref s0)])) rfl (by rw [hml]; rfl) (Steps.refl _) (argsL := [(.ref xs)]) (rest := []) (lenOf own_pd0 rfl) rfl (by show 2 * 0 + _ ≤ _; exact Nat.le_of_eq rfl) (hb hby d11_25) (fun _ _ => ⟨rfl, e2, (by decide : 1 + 0 ≤ _), (by decide : 4 + 0 ≤ _)⟩)
  dsimp only [Pt.U, Pt.locs, Pt.cells, Pt.slots] at X3 l3 y3 z3 st3 hQ3
  subst l3 y3 z3
  obtain ⟨rfl, N3q, e3⟩ := hQ3
  have N3 := Fr.app N1 N3q
  obtain ⟨_, _, ⟨T4, L4, k4, n4⟩, -, X4, ⟨Lc4, hQ4, l4, y4, z4⟩, st4⟩ := Jvm.LawKit.callS X3 hx (y := (⟨"java/util/Optional", "of", "(Ljava/lang/Object;)Ljava/util/Optional;"⟩ : MethodName)) hown (mvT hZ (ww hw 77 rfl)) (mvT hZ (ww hw 78 rfl)) (mvT hZ (ww hw 79 rfl)) (mvT hZ (ww hw 80 rfl)) (by decide) (backOf (W := 0) (rmOO l Z a0 hw [] w0 T1.heap n0 O1) hZ (ww hw 80 rfl) (ww hw 79 rfl) (by decide) (by decide)) (g := (mkF m 33 #[.val (.ref xs), .val (.ref vb), .val (.int (4 : Int32)), .val (.int (0 : Int32)), .val (.ref w0)] [(.ref w0)])) rfl (by rw [hml]; rfl) (argsL := [(.ref w0)]) (rest := []) (lenOf own_pd4 rfl) rfl (by show 2 * 0 + _ ≤ _; exact Nat.le_of_eq rfl) (hb hby d11_33) (fun _ _ => ⟨rfl, e3, (by decide : 1 + 1 ≤ _), (by decide : 4 + 1 ≤ _)⟩)
  dsimp only [Pt.U, Pt.locs, Pt.cells, Pt.slots] at X4 l4 y4 z4 st4 hQ4
  subst l4 y4 z4
  obtain ⟨oo, rfl, N4q, KK4, f4_0, f4_1⟩ := hQ4
  have N4 := Fr.app N3 N4q
  have O4 := Old.keep O1 KK4 all0
  have K4 := Keep.trans K1 KK4 all0
  have hrole : own_role cs w0 w1 w2 w3 = .ref w0 := by rw [own_role, if_pos (own_t hc28).symm]
  obtain ⟨fs, hr, hrun, hended, hW, hsame⟩ := X4.leave (v := some (.ref oo)) (fun h => by rw [Bd.returns] at h; cases h)
  refine ⟨_, _, pre0 _ ?_, hrun, hended, _, _, rfl, ?_, ⟨_, rfl⟩, hW, hsame.mono (by decide) (by decide)⟩
  · show Steps p.tables e below (s₁.setTop (mkF m 0 #[.val (.ref xs), .unset, .unset, .unset, .unset] [])) _
    refine st1 _ ?_
    show Steps p.tables e below (T1.setTop (mkF m 3 #[.val (.ref xs), .unset, .unset, .unset, .unset] [(.ref vb)])) _
    refine XS.astoreN X1.here hx rfl (hb hby d11_3) rfl rfl (l' := #[.val (.ref xs), .val (.ref vb), .unset, .unset, .unset]) rfl ?_
    show Steps p.tables e below (T1.setTop (mkF m 4 #[.val (.ref xs), .val (.ref vb), .unset, .unset, .unset] [])) _
    refine XS.aloadN X1.here hx rfl (hb hby d11_4) rfl rfl ?_
    show Steps p.tables e below (T1.setTop (mkF m 5 #[.val (.ref xs), .val (.ref vb), .unset, .unset, .unset] [(.ref vb)])) _
    refine X1.arraylength hx Ar.1 (State.isArrayOf_alike hZ.alike Ar.2.1) (g := (mkF m 5 #[.val (.ref xs), .val (.ref vb), .unset, .unset, .unset] [(.ref vb)])) rfl rfl (hb hby d11_5) _ ?_
    rw [len_of Sz Mz]
    show Steps p.tables e below (T1.setTop (mkF m 6 #[.val (.ref xs), .val (.ref vb), .unset, .unset, .unset] [(.int (4 : Int32))])) _
    refine XS.istoreN X1.here hx rfl (hb hby d11_6) rfl (l' := #[.val (.ref xs), .val (.ref vb), .val (.int (4 : Int32)), .unset, .unset]) rfl ?_
    show Steps p.tables e below (T1.setTop (mkF m 7 #[.val (.ref xs), .val (.ref vb), .val (.int (4 : Int32)), .unset, .unset] [])) _
    refine XS.iconst X1.here hx rfl (hb hby d11_7) ?_
    show Steps p.tables e below (T1.setTop (mkF m 8 #[.val (.ref xs), .val (.ref vb), .val (.int (4 : Int32)), .unset, .unset] [(.int (0 : Int32))])) _
    refine XS.istoreN X1.here hx rfl (hb hby d11_8) rfl (l' := #[.val (.ref xs), .val (.ref vb), .val (.int (4 : Int32)), .val (.int (0 : Int32)), .unset]) rfl ?_
    show Steps p.tables e below (T1.setTop (mkF m 9 #[.val (.ref xs), .val (.ref vb), .val (.int (4 : Int32)), .val (.int (0 : Int32)), .unset] [])) _
    refine XS.iloadN X1.here hx rfl (hb hby d11_9) rfl ?_
    show Steps p.tables e below (T1.setTop (mkF m 10 #[.val (.ref xs), .val (.ref vb), .val (.int (4 : Int32)), .val (.int (0 : Int32)), .unset] [(.int (0 : Int32))])) _
    refine XS.iloadN X1.here hx rfl (hb hby d11_10) rfl ?_
    show Steps p.tables e below (T1.setTop (mkF m 11 #[.val (.ref xs), .val (.ref vb), .val (.int (4 : Int32)), .val (.int (0 : Int32)), .unset] [(.int (4 : Int32)), (.int (0 : Int32))])) _
    refine XS.icmpNo X1.here hx rfl (hb hby d11_11) rfl (tlt (by decide : (0 : Int32) < (4 : Int32))).2.1 ?_
    show Steps p.tables e below (T1.setTop (mkF m 14 #[.val (.ref xs), .val (.ref vb), .val (.int (4 : Int32)), .val (.int (0 : Int32)), .unset] [])) _
    refine XS.aloadN X1.here hx rfl (hb hby d11_14) rfl rfl ?_
    show Steps p.tables e below (T1.setTop (mkF m 15 #[.val (.ref xs), .val (.ref vb), .val (.int (4 : Int32)), .val (.int (0 : Int32)), .unset] [(.ref vb)])) _
    refine XS.iloadN X1.here hx rfl (hb hby d11_15) rfl ?_
    show Steps p.tables e below (T1.setTop (mkF m 16 #[.val (.ref xs), .val (.ref vb), .val (.int (4 : Int32)), .val (.int (0 : Int32)), .unset] [(.int (0 : Int32)), (.ref vb)])) _
    refine X1.aaload hx (j := (0 : Int32)) (v := (.ref w0)) Ar.1 (State.isArrayOf_alike hZ.alike Ar.2.1) rfl Ar.2.2 hin0 hat0 (g := (mkF m 16 #[.val (.ref xs), .val (.ref vb), .val (.int (4 : Int32)), .val (.int (0 : Int32)), .unset] [(.int (0 : Int32)), (.ref vb)])) rfl rfl (hb hby d11_16) _ ?_
    show Steps p.tables e below (T1.setTop (mkF m 17 #[.val (.ref xs), .val (.ref vb), .val (.int (4 : Int32)), .val (.int (0 : Int32)), .unset] [(.ref w0)])) _
    refine XS.astore X1.here hx rfl (hb hby d11_17) rfl rfl (l' := #[.val (.ref xs), .val (.ref vb), .val (.int (4 : Int32)), .val (.int (0 : Int32)), .val (.ref w0)]) rfl ?_
    show Steps p.tables e below (T1.setTop (mkF m 19 #[.val (.ref xs), .val (.ref vb), .val (.int (4 : Int32)), .val (.int (0 : Int32)), .val (.ref w0)] [])) _
    refine XS.aload X1.here hx rfl (hb hby d11_19) rfl rfl ?_
    show Steps p.tables e below (T1.setTop (mkF m 21 #[.val (.ref xs), .val (.ref vb), .val (.int (4 : Int32)), .val (.int (0 : Int32)), .val (.ref w0)] [(.ref w0)])) _
    refine st2 _ ?_
    show Steps p.tables e below (T2.setTop (mkF m 24 #[.val (.ref xs), .val (.ref vb), .val (.int (4 : Int32)), .val (.int (0 : Int32)), .val (.ref w0)] [(.ref s0)])) _
    refine XS.aloadN X2.here hx rfl (hb hby d11_24) rfl rfl ?_
    show Steps p.tables e below (T2.setTop (mkF m 25 #[.val (.ref xs), .val (.ref vb), .val (.int (4 : Int32)), .val (.int (0 : Int32)), .val (.ref w0)] [(.ref xs), (.ref s0)])) _
    refine st3.trans ?_
    show Steps p.tables e below (T3.setTop (mkF m 28 #[.val (.ref xs), .val (.ref vb), .val (.int (4 : Int32)), .val (.int (0 : Int32)), .val (.ref w0)] [(.int (if own_d0 = cs then (1 : Int32) else 0))])) _
    refine XS.ifNo X3.here hx rfl (hb hby d11_28) rfl ((if0 _ _).trans (feq hc28).1) ?_
    show Steps p.tables e below (T3.setTop (mkF m 31 #[.val (.ref xs), .val (.ref vb), .val (.int (4 : Int32)), .val (.int (0 : Int32)), .val (.ref w0)] [])) _
    refine XS.aload X3.here hx rfl (hb hby d11_31) rfl rfl ?_
    show Steps p.tables e below (T3.setTop (mkF m 33 #[.val (.ref xs), .val (.ref vb), .val (.int (4 : Int32)), .val (.int (0 : Int32)), .val (.ref w0)] [(.ref w0)])) _
    refine st4 _ ?_
    show Steps p.tables e below (T4.setTop (mkF m 36 #[.val (.ref xs), .val (.ref vb), .val (.int (4 : Int32)), .val (.int (0 : Int32)), .val (.ref w0)] [(.ref oo)])) _
    exact retOut X4 hx Bd.returns rfl (Or.inr (Or.inr (Or.inr (Or.inr ⟨rfl, rfl, rfl⟩)))) (hb hby d11_36) hr
  · show Qd9 Z xs tt em vA w0 w1 w2 w3 s0 s1 s2 s3 t0 t1 t2 t3 kb kA kb0 kb1 kb2 kb3 cs z h0 n0 _ T4.heap _
    exact ⟨oo, rfl, N4, K4, f4_0, by rw [hrole]; exact f4_1⟩
theorem d11_37 : decode prog_38_method_5_code 37 = .ok (.iinc 3 1, 3) := by decide +kernel
theorem d11_40 : decode prog_38_method_5_code 40 = .ok (.goto (-31), 3) := by decide +kernel
set_option maxRecDepth 65536 in
set_option maxHeartbeats 40000000 in
theorem rmW1 (l : Launch) (Z : State) (a0 : Array Value) (hw : ∀ d ∈ tables_1, d.before a0 Z = true) (ws : List Jvm.Cond) (xs tt em vA w0 w1 w2 w3 s0 s1 s2 s3 t0 t1 t2 t3 : Addr) (kb kA kb0 kb1 kb2 kb3 : ClassId) (cs : List Int32) (z : Int32) (h0 : Heap) (n0 : Nat) (O0 : Old Z n0 h0) (Ex : Exa Z h0 xs "java/lang/String") (Vx : Fld Z h0 xs "java/lang/String" "value" "[B" (.ref tt)) (Cx : Fld Z h0 xs "java/lang/String" "coder" "B" (.int 0)) (Kx : Arv Z h0 tt kb .byte (Int32.ofNat (cs).length) (((cs).map StrChars.lo8).map Value.int) (.int 0)) (SC : Sta Z Z.heap "java/lang/String" "COMPACT_STRINGS" "Z" (.int z)) (hz : ¬ z = 0) (SV : Sta Z Z.heap "com/example/lendloop/lendloop/core/TransactionRole" "$VALUES" "[Lcom/example/lendloop/lendloop/core/TransactionRole;" (.ref vA)) (VV : Arv Z Z.heap vA kA (.object "com/example/lendloop/lendloop/core/TransactionRole") (4 : Int32) [.ref w0, .ref w1, .ref w2, .ref w3] .null) (EV : Exa Z Z.heap vA "[Lcom/example/lendloop/lendloop/core/TransactionRole;") (SM : Sta Z Z.heap "java/util/Optional" "EMPTY" "Ljava/util/Optional;" (.ref em)) (EE : Exa Z Z.heap em "java/util/Optional") (FE : Fld Z Z.heap em "java/util/Optional" "value" "Ljava/lang/Object;" .null) (E0 : Exa Z Z.heap w0 "com/example/lendloop/lendloop/core/TransactionRole") (G0 : Fld Z Z.heap w0 "com/example/lendloop/lendloop/core/TransactionRole" "wireName" "Ljava/lang/String;" (.ref s0)) (Ex0 : Exa Z Z.heap s0 "java/lang/String") (Vx0 : Fld Z Z.heap s0 "java/lang/String" "value" "[B" (.ref t0)) (Cx0 : Fld Z Z.heap s0 "java/lang/String" "coder" "B" (.int 0)) (Kx0 : Arv Z Z.heap t0 kb0 .byte (Int32.ofNat (own_d0).length) (((own_d0).map StrChars.lo8).map Value.int) (.int 0)) (E1 : Exa Z Z.heap w1 "com/example/lendloop/lendloop/core/TransactionRole") (G1 : Fld Z Z.heap w1 "com/example/lendloop/lendloop/core/TransactionRole" "wireName" "Ljava/lang/String;" (.ref s1)) (Ex1 : Exa Z Z.heap s1 "java/lang/String") (Vx1 : Fld Z Z.heap s1 "java/lang/String" "value" "[B" (.ref t1)) (Cx1 : Fld Z Z.heap s1 "java/lang/String" "coder" "B" (.int 0)) (Kx1 : Arv Z Z.heap t1 kb1 .byte (Int32.ofNat (own_d1).length) (((own_d1).map StrChars.lo8).map Value.int) (.int 0)) (E2 : Exa Z Z.heap w2 "com/example/lendloop/lendloop/core/TransactionRole") (G2 : Fld Z Z.heap w2 "com/example/lendloop/lendloop/core/TransactionRole" "wireName" "Ljava/lang/String;" (.ref s2)) (Ex2 : Exa Z Z.heap s2 "java/lang/String") (Vx2 : Fld Z Z.heap s2 "java/lang/String" "value" "[B" (.ref t2)) (Cx2 : Fld Z Z.heap s2 "java/lang/String" "coder" "B" (.int 0)) (Kx2 : Arv Z Z.heap t2 kb2 .byte (Int32.ofNat (own_d2).length) (((own_d2).map StrChars.lo8).map Value.int) (.int 0)) (E3 : Exa Z Z.heap w3 "com/example/lendloop/lendloop/core/TransactionRole") (G3 : Fld Z Z.heap w3 "com/example/lendloop/lendloop/core/TransactionRole" "wireName" "Ljava/lang/String;" (.ref s3)) (Ex3 : Exa Z Z.heap s3 "java/lang/String") (Vx3 : Fld Z Z.heap s3 "java/lang/String" "value" "[B" (.ref t3)) (Cx3 : Fld Z Z.heap s3 "java/lang/String" "coder" "B" (.int 0)) (Kx3 : Arv Z Z.heap t3 kb3 .byte (Int32.ofNat (own_d3).length) (((own_d3).map StrChars.lo8).map Value.int) (.int 0)) (hg : own_good cs) (hc28 : (if own_d0 = cs then (1 : Int32) else 0) = (0 : Int32)) (hc28_2 : ¬ ((if own_d1 = cs then (1 : Int32) else 0) = (0 : Int32))) :
    MetFree l (⟨"com/example/lendloop/lendloop/core/TransactionRole", "fromWireName", "(Ljava/lang/String;)Ljava/util/Optional;"⟩ : MethodName) (head1 (Jvm.Cond.code (⟨"com/example/lendloop/lendloop/core/TransactionRole", "fromWireName", "(Ljava/lang/String;)Ljava/util/Optional;"⟩ : MethodName) prog_38_method_5_code 5 (some (.object "java/util/Optional")) :: ws) ({ frames := 3, cells := 2, slots := 5, locals := 70 } : Room)) (fun qq U => qq = #[(.ref xs)] ∧ Z.Warmed39 U.vm ∧ U.heap = h0) (fun _ _ _ _ _ => True) (fun _ UU oo UU' => ∃ vv LL, oo = .returned vv ∧ Qd9 Z xs tt em vA w0 w1 w2 w3 s0 s1 s2 s3 t0 t1 t2 t3 kb kA kb0 kb1 kb2 kb3 cs z h0 n0 vv UU'.heap LL ∧ FrameEnd UU oo UU' LL ({ frames := 3, cells := 2, slots := 5, locals := 70 } : Room).cells ({ frames := 3, cells := 2, slots := 5, locals := 70 } : Room).slots) := by
  refine MetFree.of_bodySF (plainFor_of_name pn_11) hisR ?_
  intro p e s m args below meth c s₁ Bd hml0 hP hK
  obtain ⟨rfl, hZ, hh⟩ := hP
  have hx := Bd.exec
  have hby := Bd.bytes
  have hml : c.maxLocals = 5 := hml0
  have hown : s.vm.findClass "com/example/lendloop/lendloop/core/TransactionRole" = some m.cls := findClass_of_methodNamed Bd.named
  have hnm := (name_of_methodNamed Bd.named Bd.method).1
  have X0 : Stand p l e ({ frames := 3, cells := 2, slots := 5, locals := 70 } : Room) s m #[(.ref xs)] below meth c s₁ [] 0 0 := Stand.of_body Bd
  have e0 : s₁.heap = h0 := by rw [← hh, Bd.state]; rfl
  have N0 := Fr.nil n0
  have pre0 : ∀ tgt, Steps p.tables e below (s₁.setTop (mkF m 0 #[.val (.ref xs), .unset, .unset, .unset, .unset] [])) tgt → Steps p.tables e below (s₁.setTop (entryFrame m #[(.ref xs)] 5)) tgt := fun tt kk => castTop (ef_11 m xs) kk
  obtain ⟨_, _, ⟨T1, L1, k1, n1⟩, -, X1, ⟨Lc1, hQ1, l1, y1, z1⟩, st1⟩ := Jvm.LawKit.callS X0 hx (y := (⟨"com/example/lendloop/lendloop/core/TransactionRole", "values", "()[Lcom/example/lendloop/lendloop/core/TransactionRole;"⟩ : MethodName)) hown (mvT hZ (ww hw 56 rfl)) (mvT hZ (ww hw 57 rfl)) (mvT hZ (ww hw 51 rfl)) (mvT hZ (ww hw 58 rfl)) (by decide) (backOf (W := 0) (rmV l Z a0 hw [] vA w0 w1 w2 w3 kA h0 n0 O0 SV VV EV) hZ (ww hw 58 rfl) (ww hw 51 rfl) (by decide) (by decide)) (g := (mkF m 0 #[.val (.ref xs), .unset, .unset, .unset, .unset] [])) rfl (by rw [hml]; rfl) (argsL := []) (rest := []) (lenOf own_pd3 rfl) rfl (by show 2 * 0 + _ ≤ _; exact Nat.le_of_eq rfl) (hb hby d11_0) (fun _ _ => ⟨rfl, e0, (by decide : 0 + 1 ≤ _), (by decide : 0 + 4 ≤ _)⟩)
  dsimp only [Pt.U, Pt.locs, Pt.cells, Pt.slots] at X1 l1 y1 z1 st1 hQ1
  subst l1 y1 z1
  obtain ⟨vb, rfl, N1q, KK1, g_b, VB⟩ := hQ1
  have N1 := Fr.app N0 N1q
  have O1 := Old.keep O0 KK1 all0
  have K1 := Keep.trans (Keep.refl h0 []) KK1 all0
  obtain ⟨cl, Ar, qk, Sz, Mz, Hz, Uz⟩ := VB
  have hin0 : ¬ ((0 : Int32) < 0 ∨ cl.slots.size ≤ ((0 : Int32)).toNatClampNeg) := by rw [Sz]; decide
  have hat0 : cl.slots[((0 : Int32)).toNatClampNeg]? = some (.ref w0) := Hz 0 (by rw [Sz]; decide)
  obtain ⟨T2, X2, e2, st2⟩ := getF X1 hx hZ hown (host := "") (Or.inl (ww hw 74 rfl)) Via.refl rfl (G0.ext O1.2) (g := (mkF m 21 #[.val (.ref xs), .val (.ref vb), .val (.int (4 : Int32)), .val (.int (0 : Int32)), .val (.ref w0)] [(.ref w0)])) rfl rfl (hb hby d11_21)
  obtain ⟨cq3, kq3, q3a, q3b, q3c⟩ := isOf hZ e2 (Ex0.ext O1.2)
  obtain ⟨_, _, ⟨T3, L3, k3, n3⟩, -, X3, ⟨Lc3, hQ3, l3, y3, z3⟩, st3⟩ := X2.virtualBack hx (y := (⟨"java/lang/String", "equals", "(Ljava/lang/Object;)Z"⟩ : MethodName)) (z := (⟨"java/lang/String", "equals", "(Ljava/lang/Object;)Z"⟩ : MethodName)) hown (mvT hZ (ww hw 76 rfl)) (mvT hZ (ww hw 41 rfl)) (notFace_of_selects (args := #[]) (mvT hZ (ww hw 43 rfl))) (mvT hZ (ww hw 43 rfl)) (mvT hZ (ww hw 42 rfl)) (by decide) (own_bk (n0 := n0) own_eqv (StrChars.Road.eqW (W := 0) hZ (own_wQ hw) (kI := 4) (ww hw 6 rfl) (Ex0.ext O1.2) (Vx0.ext O1.2) (Cx0.ext O1.2) (Kx0.ext O1.2) (own_cd own_gd0) (own_hb own_gd0) (Nat.le_trans own_gd0.1 (by decide)) (Ex.keep KK1) (Vx.keep KK1 nin0) (Cx.keep KK1 nin0) (Kx.keep KK1 nin0) (own_cd hg) (own_hb hg) (Nat.le_trans hg.1 (by decide)) (Sta.ext O1.2 SC) hz (by decide) (by decide))) q3a q3c (g := (mkF m 25 #[.val (.ref xs), .val (.ref vb), .val (.int (4 : Int32)), .val (.int (0 : Int32)), .val (.ref w0)] [(.ref xs), (.ref s0)])) rfl (by rw [hml]; rfl) (Steps.refl _) (argsL := [(.ref xs)]) (rest := []) (lenOf own_pd0 rfl) rfl (by show 2 * 0 + _ ≤ _; exact Nat.le_of_eq rfl) (hb hby d11_25) (fun _ _ => ⟨rfl, e2, (by decide : 1 + 0 ≤ _), (by decide : 4 + 0 ≤ _)⟩)
  dsimp only [Pt.U, Pt.locs, Pt.cells, Pt.slots] at X3 l3 y3 z3 st3 hQ3
  subst l3 y3 z3
  obtain ⟨rfl, N3q, e3⟩ := hQ3
  have N3 := Fr.app N1 N3q
  have hin1 : ¬ (((0 : Int32) + (1 : Int32)) < 0 ∨ cl.slots.size ≤ (((0 : Int32) + (1 : Int32))).toNatClampNeg) := by rw [Sz]; decide
  have hat1 : cl.slots[(((0 : Int32) + (1 : Int32))).toNatClampNeg]? = some (.ref w1) := Hz 1 (by rw [Sz]; decide)
  obtain ⟨T4, X4, e4, st4⟩ := getF X3 hx hZ hown (host := "") (Or.inl (ww hw 74 rfl)) Via.refl e3 (G1.ext O1.2) (g := (mkF m 21 #[.val (.ref xs), .val (.ref vb), .val (.int (4 : Int32)), .val (.int ((0 : Int32) + (1 : Int32))), .val (.ref w1)] [(.ref w1)])) rfl rfl (hb hby d11_21)
  obtain ⟨cq5, kq5, q5a, q5b, q5c⟩ := isOf hZ e4 (Ex1.ext O1.2)
  obtain ⟨_, _, ⟨T5, L5, k5, n5⟩, -, X5, ⟨Lc5, hQ5, l5, y5, z5⟩, st5⟩ := X4.virtualBack hx (y := (⟨"java/lang/String", "equals", "(Ljava/lang/Object;)Z"⟩ : MethodName)) (z := (⟨"java/lang/String", "equals", "(Ljava/lang/Object;)Z"⟩ : MethodName)) hown (mvT hZ (ww hw 76 rfl)) (mvT hZ (ww hw 41 rfl)) (notFace_of_selects (args := #[]) (mvT hZ (ww hw 43 rfl))) (mvT hZ (ww hw 43 rfl)) (mvT hZ (ww hw 42 rfl)) (by decide) (own_bk (n0 := n0) own_eqv (StrChars.Road.eqW (W := 0) hZ (own_wQ hw) (kI := 4) (ww hw 6 rfl) (Ex1.ext O1.2) (Vx1.ext O1.2) (Cx1.ext O1.2) (Kx1.ext O1.2) (own_cd own_gd1) (own_hb own_gd1) (Nat.le_trans own_gd1.1 (by decide)) (Ex.keep KK1) (Vx.keep KK1 nin0) (Cx.keep KK1 nin0) (Kx.keep KK1 nin0) (own_cd hg) (own_hb hg) (Nat.le_trans hg.1 (by decide)) (Sta.ext O1.2 SC) hz (by decide) (by decide))) q5a q5c (g := (mkF m 25 #[.val (.ref xs), .val (.ref vb), .val (.int (4 : Int32)), .val (.int ((0 : Int32) + (1 : Int32))), .val (.ref w1)] [(.ref xs), (.ref s1)])) rfl (by rw [hml]; rfl) (Steps.refl _) (argsL := [(.ref xs)]) (rest := []) (lenOf own_pd0 rfl) rfl (by show 2 * 0 + _ ≤ _; exact Nat.le_of_eq rfl) (hb hby d11_25) (fun _ _ => ⟨rfl, e4, (by decide : 1 + 0 ≤ _), (by decide : 4 + 0 ≤ _)⟩)
  dsimp only [Pt.U, Pt.locs, Pt.cells, Pt.slots] at X5 l5 y5 z5 st5 hQ5
  subst l5 y5 z5
  obtain ⟨rfl, N5q, e5⟩ := hQ5
  have N5 := Fr.app N3 N5q
  obtain ⟨_, _, ⟨T6, L6, k6, n6⟩, -, X6, ⟨Lc6, hQ6, l6, y6, z6⟩, st6⟩ := Jvm.LawKit.callS X5 hx (y := (⟨"java/util/Optional", "of", "(Ljava/lang/Object;)Ljava/util/Optional;"⟩ : MethodName)) hown (mvT hZ (ww hw 77 rfl)) (mvT hZ (ww hw 78 rfl)) (mvT hZ (ww hw 79 rfl)) (mvT hZ (ww hw 80 rfl)) (by decide) (backOf (W := 0) (rmOO l Z a0 hw [] w1 T1.heap n0 O1) hZ (ww hw 80 rfl) (ww hw 79 rfl) (by decide) (by decide)) (g := (mkF m 33 #[.val (.ref xs), .val (.ref vb), .val (.int (4 : Int32)), .val (.int ((0 : Int32) + (1 : Int32))), .val (.ref w1)] [(.ref w1)])) rfl (by rw [hml]; rfl) (argsL := [(.ref w1)]) (rest := []) (lenOf own_pd4 rfl) rfl (by show 2 * 0 + _ ≤ _; exact Nat.le_of_eq rfl) (hb hby d11_33) (fun _ _ => ⟨rfl, e5, (by decide : 1 + 1 ≤ _), (by decide : 4 + 1 ≤ _)⟩)
  dsimp only [Pt.U, Pt.locs, Pt.cells, Pt.slots] at X6 l6 y6 z6 st6 hQ6
  subst l6 y6 z6
  obtain ⟨oo, rfl, N6q, KK6, f6_0, f6_1⟩ := hQ6
  have N6 := Fr.app N5 N6q
  have O6 := Old.keep O1 KK6 all0
  have K6 := Keep.trans K1 KK6 all0
  have hrole : own_role cs w0 w1 w2 w3 = .ref w1 := by rw [own_role, if_neg (fun q => own_f hc28 q.symm), if_pos (own_t hc28_2).symm]
  obtain ⟨fs, hr, hrun, hended, hW, hsame⟩ := X6.leave (v := some (.ref oo)) (fun h => by rw [Bd.returns] at h; cases h)
  refine ⟨_, _, pre0 _ ?_, hrun, hended, _, _, rfl, ?_, ⟨_, rfl⟩, hW, hsame.mono (by decide) (by decide)⟩
  · show Steps p.tables e below (s₁.setTop (mkF m 0 #[.val (.ref xs), .unset, .unset, .unset, .unset] [])) _
    refine st1 _ ?_
    show Steps p.tables e below (T1.setTop (mkF m 3 #[.val (.ref xs), .unset, .unset, .unset, .unset] [(.ref vb)])) _
    refine XS.astoreN X1.here hx rfl (hb hby d11_3) rfl rfl (l' := #[.val (.ref xs), .val (.ref vb), .unset, .unset, .unset]) rfl ?_
    show Steps p.tables e below (T1.setTop (mkF m 4 #[.val (.ref xs), .val (.ref vb), .unset, .unset, .unset] [])) _
    refine XS.aloadN X1.here hx rfl (hb hby d11_4) rfl rfl ?_
    show Steps p.tables e below (T1.setTop (mkF m 5 #[.val (.ref xs), .val (.ref vb), .unset, .unset, .unset] [(.ref vb)])) _
    refine X1.arraylength hx Ar.1 (State.isArrayOf_alike hZ.alike Ar.2.1) (g := (mkF m 5 #[.val (.ref xs), .val (.ref vb), .unset, .unset, .unset] [(.ref vb)])) rfl rfl (hb hby d11_5) _ ?_
    rw [len_of Sz Mz]
    show Steps p.tables e below (T1.setTop (mkF m 6 #[.val (.ref xs), .val (.ref vb), .unset, .unset, .unset] [(.int (4 : Int32))])) _
    refine XS.istoreN X1.here hx rfl (hb hby d11_6) rfl (l' := #[.val (.ref xs), .val (.ref vb), .val (.int (4 : Int32)), .unset, .unset]) rfl ?_
    show Steps p.tables e below (T1.setTop (mkF m 7 #[.val (.ref xs), .val (.ref vb), .val (.int (4 : Int32)), .unset, .unset] [])) _
    refine XS.iconst X1.here hx rfl (hb hby d11_7) ?_
    show Steps p.tables e below (T1.setTop (mkF m 8 #[.val (.ref xs), .val (.ref vb), .val (.int (4 : Int32)), .unset, .unset] [(.int (0 : Int32))])) _
    refine XS.istoreN X1.here hx rfl (hb hby d11_8) rfl (l' := #[.val (.ref xs), .val (.ref vb), .val (.int (4 : Int32)), .val (.int (0 : Int32)), .unset]) rfl ?_
    show Steps p.tables e below (T1.setTop (mkF m 9 #[.val (.ref xs), .val (.ref vb), .val (.int (4 : Int32)), .val (.int (0 : Int32)), .unset] [])) _
    refine XS.iloadN X1.here hx rfl (hb hby d11_9) rfl ?_
    show Steps p.tables e below (T1.setTop (mkF m 10 #[.val (.ref xs), .val (.ref vb), .val (.int (4 : Int32)), .val (.int (0 : Int32)), .unset] [(.int (0 : Int32))])) _
    refine XS.iloadN X1.here hx rfl (hb hby d11_10) rfl ?_
    show Steps p.tables e below (T1.setTop (mkF m 11 #[.val (.ref xs), .val (.ref vb), .val (.int (4 : Int32)), .val (.int (0 : Int32)), .unset] [(.int (4 : Int32)), (.int (0 : Int32))])) _
    refine XS.icmpNo X1.here hx rfl (hb hby d11_11) rfl (tlt (by decide : (0 : Int32) < (4 : Int32))).2.1 ?_
    show Steps p.tables e below (T1.setTop (mkF m 14 #[.val (.ref xs), .val (.ref vb), .val (.int (4 : Int32)), .val (.int (0 : Int32)), .unset] [])) _
    refine XS.aloadN X1.here hx rfl (hb hby d11_14) rfl rfl ?_
    show Steps p.tables e below (T1.setTop (mkF m 15 #[.val (.ref xs), .val (.ref vb), .val (.int (4 : Int32)), .val (.int (0 : Int32)), .unset] [(.ref vb)])) _
    refine XS.iloadN X1.here hx rfl (hb hby d11_15) rfl ?_
    show Steps p.tables e below (T1.setTop (mkF m 16 #[.val (.ref xs), .val (.ref vb), .val (.int (4 : Int32)), .val (.int (0 : Int32)), .unset] [(.int (0 : Int32)), (.ref vb)])) _
    refine X1.aaload hx (j := (0 : Int32)) (v := (.ref w0)) Ar.1 (State.isArrayOf_alike hZ.alike Ar.2.1) rfl Ar.2.2 hin0 hat0 (g := (mkF m 16 #[.val (.ref xs), .val (.ref vb), .val (.int (4 : Int32)), .val (.int (0 : Int32)), .unset] [(.int (0 : Int32)), (.ref vb)])) rfl rfl (hb hby d11_16) _ ?_
    show Steps p.tables e below (T1.setTop (mkF m 17 #[.val (.ref xs), .val (.ref vb), .val (.int (4 : Int32)), .val (.int (0 : Int32)), .unset] [(.ref w0)])) _
    refine XS.astore X1.here hx rfl (hb hby d11_17) rfl rfl (l' := #[.val (.ref xs), .val (.ref vb), .val (.int (4 : Int32)), .val (.int (0 : Int32)), .val (.ref w0)]) rfl ?_
    show Steps p.tables e below (T1.setTop (mkF m 19 #[.val (.ref xs), .val (.ref vb), .val (.int (4 : Int32)), .val (.int (0 : Int32)), .val (.ref w0)] [])) _
    refine XS.aload X1.here hx rfl (hb hby d11_19) rfl rfl ?_
    show Steps p.tables e below (T1.setTop (mkF m 21 #[.val (.ref xs), .val (.ref vb), .val (.int (4 : Int32)), .val (.int (0 : Int32)), .val (.ref w0)] [(.ref w0)])) _
    refine st2 _ ?_
    show Steps p.tables e below (T2.setTop (mkF m 24 #[.val (.ref xs), .val (.ref vb), .val (.int (4 : Int32)), .val (.int (0 : Int32)), .val (.ref w0)] [(.ref s0)])) _
    refine XS.aloadN X2.here hx rfl (hb hby d11_24) rfl rfl ?_
    show Steps p.tables e below (T2.setTop (mkF m 25 #[.val (.ref xs), .val (.ref vb), .val (.int (4 : Int32)), .val (.int (0 : Int32)), .val (.ref w0)] [(.ref xs), (.ref s0)])) _
    refine st3.trans ?_
    show Steps p.tables e below (T3.setTop (mkF m 28 #[.val (.ref xs), .val (.ref vb), .val (.int (4 : Int32)), .val (.int (0 : Int32)), .val (.ref w0)] [(.int (if own_d0 = cs then (1 : Int32) else 0))])) _
    refine XS.ifYes X3.here hx rfl (pc0 := 28) (pc' := 37) rfl (hb hby d11_28) rfl ((if0 _ _).trans (teq hc28).1) (by decide) (by decide) ?_
    show Steps p.tables e below (T3.setTop (mkF m 37 #[.val (.ref xs), .val (.ref vb), .val (.int (4 : Int32)), .val (.int (0 : Int32)), .val (.ref w0)] [])) _
    refine XS.iinc X3.here hx rfl (hb hby d11_37) rfl (l' := #[.val (.ref xs), .val (.ref vb), .val (.int (4 : Int32)), .val (.int ((0 : Int32) + (1 : Int32))), .val (.ref w0)]) rfl ?_
    show Steps p.tables e below (T3.setTop (mkF m 40 #[.val (.ref xs), .val (.ref vb), .val (.int (4 : Int32)), .val (.int ((0 : Int32) + (1 : Int32))), .val (.ref w0)] [])) _
    refine XS.goto X3.here hx rfl (pc0 := 40) (pc' := 9) rfl (hb hby d11_40) (by decide) (by decide) ?_
    show Steps p.tables e below (T3.setTop (mkF m 9 #[.val (.ref xs), .val (.ref vb), .val (.int (4 : Int32)), .val (.int ((0 : Int32) + (1 : Int32))), .val (.ref w0)] [])) _
    refine XS.iloadN X3.here hx rfl (hb hby d11_9) rfl ?_
    show Steps p.tables e below (T3.setTop (mkF m 10 #[.val (.ref xs), .val (.ref vb), .val (.int (4 : Int32)), .val (.int ((0 : Int32) + (1 : Int32))), .val (.ref w0)] [(.int ((0 : Int32) + (1 : Int32)))])) _
    refine XS.iloadN X3.here hx rfl (hb hby d11_10) rfl ?_
    show Steps p.tables e below (T3.setTop (mkF m 11 #[.val (.ref xs), .val (.ref vb), .val (.int (4 : Int32)), .val (.int ((0 : Int32) + (1 : Int32))), .val (.ref w0)] [(.int (4 : Int32)), (.int ((0 : Int32) + (1 : Int32)))])) _
    refine XS.icmpNo X3.here hx rfl (hb hby d11_11) rfl (tlt (by decide : ((0 : Int32) + (1 : Int32)) < (4 : Int32))).2.1 ?_
    show Steps p.tables e below (T3.setTop (mkF m 14 #[.val (.ref xs), .val (.ref vb), .val (.int (4 : Int32)), .val (.int ((0 : Int32) + (1 : Int32))), .val (.ref w0)] [])) _
    refine XS.aloadN X3.here hx rfl (hb hby d11_14) rfl rfl ?_
    show Steps p.tables e below (T3.setTop (mkF m 15 #[.val (.ref xs), .val (.ref vb), .val (.int (4 : Int32)), .val (.int ((0 : Int32) + (1 : Int32))), .val (.ref w0)] [(.ref vb)])) _
    refine XS.iloadN X3.here hx rfl (hb hby d11_15) rfl ?_
    show Steps p.tables e below (T3.setTop (mkF m 16 #[.val (.ref xs), .val (.ref vb), .val (.int (4 : Int32)), .val (.int ((0 : Int32) + (1 : Int32))), .val (.ref w0)] [(.int ((0 : Int32) + (1 : Int32))), (.ref vb)])) _
    refine X3.aaload hx (j := ((0 : Int32) + (1 : Int32))) (v := (.ref w1)) (by rw [e3]; exact Ar.1) (State.isArrayOf_alike hZ.alike Ar.2.1) rfl Ar.2.2 hin1 hat1 (g := (mkF m 16 #[.val (.ref xs), .val (.ref vb), .val (.int (4 : Int32)), .val (.int ((0 : Int32) + (1 : Int32))), .val (.ref w0)] [(.int ((0 : Int32) + (1 : Int32))), (.ref vb)])) rfl rfl (hb hby d11_16) _ ?_
    show Steps p.tables e below (T3.setTop (mkF m 17 #[.val (.ref xs), .val (.ref vb), .val (.int (4 : Int32)), .val (.int ((0 : Int32) + (1 : Int32))), .val (.ref w0)] [(.ref w1)])) _
    refine XS.astore X3.here hx rfl (hb hby d11_17) rfl rfl (l' := #[.val (.ref xs), .val (.ref vb), .val (.int (4 : Int32)), .val (.int ((0 : Int32) + (1 : Int32))), .val (.ref w1)]) rfl ?_
    show Steps p.tables e below (T3.setTop (mkF m 19 #[.val (.ref xs), .val (.ref vb), .val (.int (4 : Int32)), .val (.int ((0 : Int32) + (1 : Int32))), .val (.ref w1)] [])) _
    refine XS.aload X3.here hx rfl (hb hby d11_19) rfl rfl ?_
    show Steps p.tables e below (T3.setTop (mkF m 21 #[.val (.ref xs), .val (.ref vb), .val (.int (4 : Int32)), .val (.int ((0 : Int32) + (1 : Int32))), .val (.ref w1)] [(.ref w1)])) _
    refine st4 _ ?_
    show Steps p.tables e below (T4.setTop (mkF m 24 #[.val (.ref xs), .val (.ref vb), .val (.int (4 : Int32)), .val (.int ((0 : Int32) + (1 : Int32))), .val (.ref w1)] [(.ref s1)])) _
    refine XS.aloadN X4.here hx rfl (hb hby d11_24) rfl rfl ?_
    show Steps p.tables e below (T4.setTop (mkF m 25 #[.val (.ref xs), .val (.ref vb), .val (.int (4 : Int32)), .val (.int ((0 : Int32) + (1 : Int32))), .val (.ref w1)] [(.ref xs), (.ref s1)])) _
    refine st5.trans ?_
    show Steps p.tables e below (T5.setTop (mkF m 28 #[.val (.ref xs), .val (.ref vb), .val (.int (4 : Int32)), .val (.int ((0 : Int32) + (1 : Int32))), .val (.ref w1)] [(.int (if own_d1 = cs then (1 : Int32) else 0))])) _
    refine XS.ifNo X5.here hx rfl (hb hby d11_28) rfl ((if0 _ _).trans (feq hc28_2).1) ?_
    show Steps p.tables e below (T5.setTop (mkF m 31 #[.val (.ref xs), .val (.ref vb), .val (.int (4 : Int32)), .val (.int ((0 : Int32) + (1 : Int32))), .val (.ref w1)] [])) _
    refine XS.aload X5.here hx rfl (hb hby d11_31) rfl rfl ?_
    show Steps p.tables e below (T5.setTop (mkF m 33 #[.val (.ref xs), .val (.ref vb), .val (.int (4 : Int32)), .val (.int ((0 : Int32) + (1 : Int32))), .val (.ref w1)] [(.ref w1)])) _
    refine st6 _ ?_
    show Steps p.tables e below (T6.setTop (mkF m 36 #[.val (.ref xs), .val (.ref vb), .val (.int (4 : Int32)), .val (.int ((0 : Int32) + (1 : Int32))), .val (.ref w1)] [(.ref oo)])) _
    exact retOut X6 hx Bd.returns rfl (Or.inr (Or.inr (Or.inr (Or.inr ⟨rfl, rfl, rfl⟩)))) (hb hby d11_36) hr
  · show Qd9 Z xs tt em vA w0 w1 w2 w3 s0 s1 s2 s3 t0 t1 t2 t3 kb kA kb0 kb1 kb2 kb3 cs z h0 n0 _ T6.heap _
    exact ⟨oo, rfl, N6, K6, f6_0, by rw [hrole]; exact f6_1⟩
set_option maxRecDepth 65536 in
set_option maxHeartbeats 40000000 in
theorem rmW2 (l : Launch) (Z : State) (a0 : Array Value) (hw : ∀ d ∈ tables_1, d.before a0 Z = true) (ws : List Jvm.Cond) (xs tt em vA w0 w1 w2 w3 s0 s1 s2 s3 t0 t1 t2 t3 : Addr) (kb kA kb0 kb1 kb2 kb3 : ClassId) (cs : List Int32) (z : Int32) (h0 : Heap) (n0 : Nat) (O0 : Old Z n0 h0) (Ex : Exa Z h0 xs "java/lang/String") (Vx : Fld Z h0 xs "java/lang/String" "value" "[B" (.ref tt)) (Cx : Fld Z h0 xs "java/lang/String" "coder" "B" (.int 0)) (Kx : Arv Z h0 tt kb .byte (Int32.ofNat (cs).length) (((cs).map StrChars.lo8).map Value.int) (.int 0)) (SC : Sta Z Z.heap "java/lang/String" "COMPACT_STRINGS" "Z" (.int z)) (hz : ¬ z = 0) (SV : Sta Z Z.heap "com/example/lendloop/lendloop/core/TransactionRole" "$VALUES" "[Lcom/example/lendloop/lendloop/core/TransactionRole;" (.ref vA)) (VV : Arv Z Z.heap vA kA (.object "com/example/lendloop/lendloop/core/TransactionRole") (4 : Int32) [.ref w0, .ref w1, .ref w2, .ref w3] .null) (EV : Exa Z Z.heap vA "[Lcom/example/lendloop/lendloop/core/TransactionRole;") (SM : Sta Z Z.heap "java/util/Optional" "EMPTY" "Ljava/util/Optional;" (.ref em)) (EE : Exa Z Z.heap em "java/util/Optional") (FE : Fld Z Z.heap em "java/util/Optional" "value" "Ljava/lang/Object;" .null) (E0 : Exa Z Z.heap w0 "com/example/lendloop/lendloop/core/TransactionRole") (G0 : Fld Z Z.heap w0 "com/example/lendloop/lendloop/core/TransactionRole" "wireName" "Ljava/lang/String;" (.ref s0)) (Ex0 : Exa Z Z.heap s0 "java/lang/String") (Vx0 : Fld Z Z.heap s0 "java/lang/String" "value" "[B" (.ref t0)) (Cx0 : Fld Z Z.heap s0 "java/lang/String" "coder" "B" (.int 0)) (Kx0 : Arv Z Z.heap t0 kb0 .byte (Int32.ofNat (own_d0).length) (((own_d0).map StrChars.lo8).map Value.int) (.int 0)) (E1 : Exa Z Z.heap w1 "com/example/lendloop/lendloop/core/TransactionRole") (G1 : Fld Z Z.heap w1 "com/example/lendloop/lendloop/core/TransactionRole" "wireName" "Ljava/lang/String;" (.ref s1)) (Ex1 : Exa Z Z.heap s1 "java/lang/String") (Vx1 : Fld Z Z.heap s1 "java/lang/String" "value" "[B" (.ref t1)) (Cx1 : Fld Z Z.heap s1 "java/lang/String" "coder" "B" (.int 0)) (Kx1 : Arv Z Z.heap t1 kb1 .byte (Int32.ofNat (own_d1).length) (((own_d1).map StrChars.lo8).map Value.int) (.int 0)) (E2 : Exa Z Z.heap w2 "com/example/lendloop/lendloop/core/TransactionRole") (G2 : Fld Z Z.heap w2 "com/example/lendloop/lendloop/core/TransactionRole" "wireName" "Ljava/lang/String;" (.ref s2)) (Ex2 : Exa Z Z.heap s2 "java/lang/String") (Vx2 : Fld Z Z.heap s2 "java/lang/String" "value" "[B" (.ref t2)) (Cx2 : Fld Z Z.heap s2 "java/lang/String" "coder" "B" (.int 0)) (Kx2 : Arv Z Z.heap t2 kb2 .byte (Int32.ofNat (own_d2).length) (((own_d2).map StrChars.lo8).map Value.int) (.int 0)) (E3 : Exa Z Z.heap w3 "com/example/lendloop/lendloop/core/TransactionRole") (G3 : Fld Z Z.heap w3 "com/example/lendloop/lendloop/core/TransactionRole" "wireName" "Ljava/lang/String;" (.ref s3)) (Ex3 : Exa Z Z.heap s3 "java/lang/String") (Vx3 : Fld Z Z.heap s3 "java/lang/String" "value" "[B" (.ref t3)) (Cx3 : Fld Z Z.heap s3 "java/lang/String" "coder" "B" (.int 0)) (Kx3 : Arv Z Z.heap t3 kb3 .byte (Int32.ofNat (own_d3).length) (((own_d3).map StrChars.lo8).map Value.int) (.int 0)) (hg : own_good cs) (hc28 : (if own_d0 = cs then (1 : Int32) else 0) = (0 : Int32)) (hc28_2 : (if own_d1 = cs then (1 : Int32) else 0) = (0 : Int32)) (hc28_3 : ¬ ((if own_d2 = cs then (1 : Int32) else 0) = (0 : Int32))) :
    MetFree l (⟨"com/example/lendloop/lendloop/core/TransactionRole", "fromWireName", "(Ljava/lang/String;)Ljava/util/Optional;"⟩ : MethodName) (head1 (Jvm.Cond.code (⟨"com/example/lendloop/lendloop/core/TransactionRole", "fromWireName", "(Ljava/lang/String;)Ljava/util/Optional;"⟩ : MethodName) prog_38_method_5_code 5 (some (.object "java/util/Optional")) :: ws) ({ frames := 3, cells := 2, slots := 5, locals := 70 } : Room)) (fun qq U => qq = #[(.ref xs)] ∧ Z.Warmed39 U.vm ∧ U.heap = h0) (fun _ _ _ _ _ => True) (fun _ UU oo UU' => ∃ vv LL, oo = .returned vv ∧ Qd9 Z xs tt em vA w0 w1 w2 w3 s0 s1 s2 s3 t0 t1 t2 t3 kb kA kb0 kb1 kb2 kb3 cs z h0 n0 vv UU'.heap LL ∧ FrameEnd UU oo UU' LL ({ frames := 3, cells := 2, slots := 5, locals := 70 } : Room).cells ({ frames := 3, cells := 2, slots := 5, locals := 70 } : Room).slots) := by
  refine MetFree.of_bodySF (plainFor_of_name pn_11) hisR ?_
  intro p e s m args below meth c s₁ Bd hml0 hP hK
  obtain ⟨rfl, hZ, hh⟩ := hP
  have hx := Bd.exec
  have hby := Bd.bytes
  have hml : c.maxLocals = 5 := hml0
  have hown : s.vm.findClass "com/example/lendloop/lendloop/core/TransactionRole" = some m.cls := findClass_of_methodNamed Bd.named
  have hnm := (name_of_methodNamed Bd.named Bd.method).1
  have X0 : Stand p l e ({ frames := 3, cells := 2, slots := 5, locals := 70 } : Room) s m #[(.ref xs)] below meth c s₁ [] 0 0 := Stand.of_body Bd
  have e0 : s₁.heap = h0 := by rw [← hh, Bd.state]; rfl
  have N0 := Fr.nil n0
  have pre0 : ∀ tgt, Steps p.tables e below (s₁.setTop (mkF m 0 #[.val (.ref xs), .unset, .unset, .unset, .unset] [])) tgt → Steps p.tables e below (s₁.setTop (entryFrame m #[(.ref xs)] 5)) tgt := fun tt kk => castTop (ef_11 m xs) kk
  obtain ⟨_, _, ⟨T1, L1, k1, n1⟩, -, X1, ⟨Lc1, hQ1, l1, y1, z1⟩, st1⟩ := Jvm.LawKit.callS X0 hx (y := (⟨"com/example/lendloop/lendloop/core/TransactionRole", "values", "()[Lcom/example/lendloop/lendloop/core/TransactionRole;"⟩ : MethodName)) hown (mvT hZ (ww hw 56 rfl)) (mvT hZ (ww hw 57 rfl)) (mvT hZ (ww hw 51 rfl)) (mvT hZ (ww hw 58 rfl)) (by decide) (backOf (W := 0) (rmV l Z a0 hw [] vA w0 w1 w2 w3 kA h0 n0 O0 SV VV EV) hZ (ww hw 58 rfl) (ww hw 51 rfl) (by decide) (by decide)) (g := (mkF m 0 #[.val (.ref xs), .unset, .unset, .unset, .unset] [])) rfl (by rw [hml]; rfl) (argsL := []) (rest := []) (lenOf own_pd3 rfl) rfl (by show 2 * 0 + _ ≤ _; exact Nat.le_of_eq rfl) (hb hby d11_0) (fun _ _ => ⟨rfl, e0, (by decide : 0 + 1 ≤ _), (by decide : 0 + 4 ≤ _)⟩)
  dsimp only [Pt.U, Pt.locs, Pt.cells, Pt.slots] at X1 l1 y1 z1 st1 hQ1
  subst l1 y1 z1
  obtain ⟨vb, rfl, N1q, KK1, g_b, VB⟩ := hQ1
  have N1 := Fr.app N0 N1q
  have O1 := Old.keep O0 KK1 all0
  have K1 := Keep.trans (Keep.refl h0 []) KK1 all0
  obtain ⟨cl, Ar, qk, Sz, Mz, Hz, Uz⟩ := VB
  have hin0 : ¬ ((0 : Int32) < 0 ∨ cl.slots.size ≤ ((0 : Int32)).toNatClampNeg) := by rw [Sz]; decide
  have hat0 : cl.slots[((0 : Int32)).toNatClampNeg]? = some (.ref w0) := Hz 0 (by rw [Sz]; decide)
  obtain ⟨T2, X2, e2, st2⟩ := getF X1 hx hZ hown (host := "") (Or.inl (ww hw 74 rfl)) Via.refl rfl (G0.ext O1.2) (g := (mkF m 21 #[.val (.ref xs), .val (.ref vb), .val (.int (4 : Int32)), .val (.int (0 : Int32)), .val (.ref w0)] [(.ref w0)])) rfl rfl (hb hby d11_21)
  obtain ⟨cq3, kq3, q3a, q3b, q3c⟩ := isOf hZ e2 (Ex0.ext O1.2)
  obtain ⟨_, _, ⟨T3, L3, k3, n3⟩, -, X3, ⟨Lc3, hQ3, l3, y3, z3⟩, st3⟩ := X2.virtualBack hx (y := (⟨"java/lang/String", "equals", "(Ljava/lang/Object;)Z"⟩ : MethodName)) (z := (⟨"java/lang/String", "equals", "(Ljava/lang/Object;)Z"⟩ : MethodName)) hown (mvT hZ (ww hw 76 rfl)) (mvT hZ (ww hw 41 rfl)) (notFace_of_selects (args := #[]) (mvT hZ (ww hw 43 rfl))) (mvT hZ (ww hw 43 rfl)) (mvT hZ (ww hw 42 rfl)) (by decide) (own_bk (n0 := n0) own_eqv (StrChars.Road.eqW (W := 0) hZ (own_wQ hw) (kI := 4) (ww hw 6 rfl) (Ex0.ext O1.2) (Vx0.ext O1.2) (Cx0.ext O1.2) (Kx0.ext O1.2) (own_cd own_gd0) (own_hb own_gd0) (Nat.le_trans own_gd0.1 (by decide)) (Ex.keep KK1) (Vx.keep KK1 nin0) (Cx.keep KK1 nin0) (Kx.keep KK1 nin0) (own_cd hg) (own_hb hg) (Nat.le_trans hg.1 (by decide)) (Sta.ext O1.2 SC) hz (by decide) (by decide))) q3a q3c (g := (mkF m 25 #[.val (.ref xs), .val (.ref vb), .val (.int (4 : Int32)), .val (.int (0 : Int32)), .val (.ref w0)] [(.ref xs), (.ref s0)])) rfl (by rw [hml]; rfl) (Steps.refl _) (argsL := [(.ref xs)]) (rest := []) (lenOf own_pd0 rfl) rfl (by show 2 * 0 + _ ≤ _; exact Nat.le_of_eq rfl) (hb hby d11_25) (fun _ _ => ⟨rfl, e2, (by decide : 1 + 0 ≤ _), (by decide : 4 + 0 ≤ _)⟩)
  dsimp only [Pt.U, Pt.locs, Pt.cells, Pt.slots] at X3 l3 y3 z3 st3 hQ3
  subst l3 y3 z3
  obtain ⟨rfl, N3q, e3⟩ := hQ3
  have N3 := Fr.app N1 N3q
  have hin1 : ¬ (((0 : Int32) + (1 : Int32)) < 0 ∨ cl.slots.size ≤ (((0 : Int32) + (1 : Int32))).toNatClampNeg) := by rw [Sz]; decide
  have hat1 : cl.slots[(((0 : Int32) + (1 : Int32))).toNatClampNeg]? = some (.ref w1) := Hz 1 (by rw [Sz]; decide)
  obtain ⟨T4, X4, e4, st4⟩ := getF X3 hx hZ hown (host := "") (Or.inl (ww hw 74 rfl)) Via.refl e3 (G1.ext O1.2) (g := (mkF m 21 #[.val (.ref xs), .val (.ref vb), .val (.int (4 : Int32)), .val (.int ((0 : Int32) + (1 : Int32))), .val (.ref w1)] [(.ref w1)])) rfl rfl (hb hby d11_21)
  obtain ⟨cq5, kq5, q5a, q5b, q5c⟩ := isOf hZ e4 (Ex1.ext O1.2)
  obtain ⟨_, _, ⟨T5, L5, k5, n5⟩, -, X5, ⟨Lc5, hQ5, l5, y5, z5⟩, st5⟩ := X4.virtualBack hx (y := (⟨"java/lang/String", "equals", "(Ljava/lang/Object;)Z"⟩ : MethodName)) (z := (⟨"java/lang/String", "equals", "(Ljava/lang/Object;)Z"⟩ : MethodName)) hown (mvT hZ (ww hw 76 rfl)) (mvT hZ (ww hw 41 rfl)) (notFace_of_selects (args := #[]) (mvT hZ (ww hw 43 rfl))) (mvT hZ (ww hw 43 rfl)) (mvT hZ (ww hw 42 rfl)) (by decide) (own_bk (n0 := n0) own_eqv (StrChars.Road.eqW (W := 0) hZ (own_wQ hw) (kI := 4) (ww hw 6 rfl) (Ex1.ext O1.2) (Vx1.ext O1.2) (Cx1.ext O1.2) (Kx1.ext O1.2) (own_cd own_gd1) (own_hb own_gd1) (Nat.le_trans own_gd1.1 (by decide)) (Ex.keep KK1) (Vx.keep KK1 nin0) (Cx.keep KK1 nin0) (Kx.keep KK1 nin0) (own_cd hg) (own_hb hg) (Nat.le_trans hg.1 (by decide)) (Sta.ext O1.2 SC) hz (by decide) (by decide))) q5a q5c (g := (mkF m 25 #[.val (.ref xs), .val (.ref vb), .val (.int (4 : Int32)), .val (.int ((0 : Int32) + (1 : Int32))), .val (.ref w1)] [(.ref xs), (.ref s1)])) rfl (by rw [hml]; rfl) (Steps.refl _) (argsL := [(.ref xs)]) (rest := []) (lenOf own_pd0 rfl) rfl (by show 2 * 0 + _ ≤ _; exact Nat.le_of_eq rfl) (hb hby d11_25) (fun _ _ => ⟨rfl, e4, (by decide : 1 + 0 ≤ _), (by decide : 4 + 0 ≤ _)⟩)
  dsimp only [Pt.U, Pt.locs, Pt.cells, Pt.slots] at X5 l5 y5 z5 st5 hQ5
  subst l5 y5 z5
  obtain ⟨rfl, N5q, e5⟩ := hQ5
  have N5 := Fr.app N3 N5q
  have hin2 : ¬ ((((0 : Int32) + (1 : Int32)) + (1 : Int32)) < 0 ∨ cl.slots.size ≤ ((((0 : Int32) + (1 : Int32)) + (1 : Int32))).toNatClampNeg) := by rw [Sz]; decide
  have hat2 : cl.slots[((((0 : Int32) + (1 : Int32)) + (1 : Int32))).toNatClampNeg]? = some (.ref w2) := Hz 2 (by rw [Sz]; decide)
  obtain ⟨T6, X6, e6, st6⟩ := getF X5 hx hZ hown (host := "") (Or.inl (ww hw 74 rfl)) Via.refl e5 (G2.ext O1.2) (g := (mkF m 21 #[.val (.ref xs), .val (.ref vb), .val (.int (4 : Int32)), .val (.int (((0 : Int32) + (1 : Int32)) + (1 : Int32))), .val (.ref w2)] [(.ref w2)])) rfl rfl (hb hby d11_21)
  obtain ⟨cq7, kq7, q7a, q7b, q7c⟩ := isOf hZ e6 (Ex2.ext O1.2)
  obtain ⟨_, _, ⟨T7, L7, k7, n7⟩, -, X7, ⟨Lc7, hQ7, l7, y7, z7⟩, st7⟩ := X6.virtualBack hx (y := (⟨"java/lang/String", "equals", "(Ljava/lang/Object;)Z"⟩ : MethodName)) (z := (⟨"java/lang/String", "equals", "(Ljava/lang/Object;)Z"⟩ : MethodName)) hown (mvT hZ (ww hw 76 rfl)) (mvT hZ (ww hw 41 rfl)) (notFace_of_selects (args := #[]) (mvT hZ (ww hw 43 rfl))) (mvT hZ (ww hw 43 rfl)) (mvT hZ (ww hw 42 rfl)) (by decide) (own_bk (n0 := n0) own_eqv (StrChars.Road.eqW (W := 0) hZ (own_wQ hw) (kI := 4) (ww hw 6 rfl) (Ex2.ext O1.2) (Vx2.ext O1.2) (Cx2.ext O1.2) (Kx2.ext O1.2) (own_cd own_gd2) (own_hb own_gd2) (Nat.le_trans own_gd2.1 (by decide)) (Ex.keep KK1) (Vx.keep KK1 nin0) (Cx.keep KK1 nin0) (Kx.keep KK1 nin0) (own_cd hg) (own_hb hg) (Nat.le_trans hg.1 (by decide)) (Sta.ext O1.2 SC) hz (by decide) (by decide))) q7a q7c (g := (mkF m 25 #[.val (.ref xs), .val (.ref vb), .val (.int (4 : Int32)), .val (.int (((0 : Int32) + (1 : Int32)) + (1 : Int32))), .val (.ref w2)] [(.ref xs), (.ref s2)])) rfl (by rw [hml]; rfl) (Steps.refl _) (argsL := [(.ref xs)]) (rest := []) (lenOf own_pd0 rfl) rfl (by show 2 * 0 + _ ≤ _; exact Nat.le_of_eq rfl) (hb hby d11_25) (fun _ _ => ⟨rfl, e6, (by decide : 1 + 0 ≤ _), (by decide : 4 + 0 ≤ _)⟩)
  dsimp only [Pt.U, Pt.locs, Pt.cells, Pt.slots] at X7 l7 y7 z7 st7 hQ7
  subst l7 y7 z7
  obtain ⟨rfl, N7q, e7⟩ := hQ7
  have N7 := Fr.app N5 N7q
  obtain ⟨_, _, ⟨T8, L8, k8, n8⟩, -, X8, ⟨Lc8, hQ8, l8, y8, z8⟩, st8⟩ := Jvm.LawKit.callS X7 hx (y := (⟨"java/util/Optional", "of", "(Ljava/lang/Object;)Ljava/util/Optional;"⟩ : MethodName)) hown (mvT hZ (ww hw 77 rfl)) (mvT hZ (ww hw 78 rfl)) (mvT hZ (ww hw 79 rfl)) (mvT hZ (ww hw 80 rfl)) (by decide) (backOf (W := 0) (rmOO l Z a0 hw [] w2 T1.heap n0 O1) hZ (ww hw 80 rfl) (ww hw 79 rfl) (by decide) (by decide)) (g := (mkF m 33 #[.val (.ref xs), .val (.ref vb), .val (.int (4 : Int32)), .val (.int (((0 : Int32) + (1 : Int32)) + (1 : Int32))), .val (.ref w2)] [(.ref w2)])) rfl (by rw [hml]; rfl) (argsL := [(.ref w2)]) (rest := []) (lenOf own_pd4 rfl) rfl (by show 2 * 0 + _ ≤ _; exact Nat.le_of_eq rfl) (hb hby d11_33) (fun _ _ => ⟨rfl, e7, (by decide : 1 + 1 ≤ _), (by decide : 4 + 1 ≤ _)⟩)
  dsimp only [Pt.U, Pt.locs, Pt.cells, Pt.slots] at X8 l8 y8 z8 st8 hQ8
  subst l8 y8 z8
  obtain ⟨oo, rfl, N8q, KK8, f8_0, f8_1⟩ := hQ8
  have N8 := Fr.app N7 N8q
  have O8 := Old.keep O1 KK8 all0
  have K8 := Keep.trans K1 KK8 all0
  have hrole : own_role cs w0 w1 w2 w3 = .ref w2 := by rw [own_role, if_neg (fun q => own_f hc28 q.symm), if_neg (fun q => own_f hc28_2 q.symm), if_pos (own_t hc28_3).symm]
  obtain ⟨fs, hr, hrun, hended, hW, hsame⟩ := X8.leave (v := some (.ref oo)) (fun h => by rw [Bd.returns] at h; cases h)
  refine ⟨_, _, pre0 _ ?_, hrun, hended, _, _, rfl, ?_, ⟨_, rfl⟩, hW, hsame.mono (by decide) (by decide)⟩
  · show Steps p.tables e below (s₁.setTop (mkF m 0 #[.val (.ref xs), .unset, .unset, .unset, .unset] [])) _
    refine st1 _ ?_
    show Steps p.tables e below (T1.setTop (mkF m 3 #[.val (.ref xs), .unset, .unset, .unset, .unset] [(.ref vb)])) _
    refine XS.astoreN X1.here hx rfl (hb hby d11_3) rfl rfl (l' := #[.val (.ref xs), .val (.ref vb), .unset, .unset, .unset]) rfl ?_
    show Steps p.tables e below (T1.setTop (mkF m 4 #[.val (.ref xs), .val (.ref vb), .unset, .unset, .unset] [])) _
    refine XS.aloadN X1.here hx rfl (hb hby d11_4) rfl rfl ?_
    show Steps p.tables e below (T1.setTop (mkF m 5 #[.val (.ref xs), .val (.ref vb), .unset, .unset, .unset] [(.ref vb)])) _
    refine X1.arraylength hx Ar.1 (State.isArrayOf_alike hZ.alike Ar.2.1) (g := (mkF m 5 #[.val (.ref xs), .val (.ref vb), .unset, .unset, .unset] [(.ref vb)])) rfl rfl (hb hby d11_5) _ ?_
    rw [len_of Sz Mz]
    show Steps p.tables e below (T1.setTop (mkF m 6 #[.val (.ref xs), .val (.ref vb), .unset, .unset, .unset] [(.int (4 : Int32))])) _
    refine XS.istoreN X1.here hx rfl (hb hby d11_6) rfl (l' := #[.val (.ref xs), .val (.ref vb), .val (.int (4 : Int32)), .unset, .unset]) rfl ?_
    show Steps p.tables e below (T1.setTop (mkF m 7 #[.val (.ref xs), .val (.ref vb), .val (.int (4 : Int32)), .unset, .unset] [])) _
    refine XS.iconst X1.here hx rfl (hb hby d11_7) ?_
    show Steps p.tables e below (T1.setTop (mkF m 8 #[.val (.ref xs), .val (.ref vb), .val (.int (4 : Int32)), .unset, .unset] [(.int (0 : Int32))])) _
    refine XS.istoreN X1.here hx rfl (hb hby d11_8) rfl (l' := #[.val (.ref xs), .val (.ref vb), .val (.int (4 : Int32)), .val (.int (0 : Int32)), .unset]) rfl ?_
    show Steps p.tables e below (T1.setTop (mkF m 9 #[.val (.ref xs), .val (.ref vb), .val (.int (4 : Int32)), .val (.int (0 : Int32)), .unset] [])) _
    refine XS.iloadN X1.here hx rfl (hb hby d11_9) rfl ?_
    show Steps p.tables e below (T1.setTop (mkF m 10 #[.val (.ref xs), .val (.ref vb), .val (.int (4 : Int32)), .val (.int (0 : Int32)), .unset] [(.int (0 : Int32))])) _
    refine XS.iloadN X1.here hx rfl (hb hby d11_10) rfl ?_
    show Steps p.tables e below (T1.setTop (mkF m 11 #[.val (.ref xs), .val (.ref vb), .val (.int (4 : Int32)), .val (.int (0 : Int32)), .unset] [(.int (4 : Int32)), (.int (0 : Int32))])) _
    refine XS.icmpNo X1.here hx rfl (hb hby d11_11) rfl (tlt (by decide : (0 : Int32) < (4 : Int32))).2.1 ?_
    show Steps p.tables e below (T1.setTop (mkF m 14 #[.val (.ref xs), .val (.ref vb), .val (.int (4 : Int32)), .val (.int (0 : Int32)), .unset] [])) _
    refine XS.aloadN X1.here hx rfl (hb hby d11_14) rfl rfl ?_
    show Steps p.tables e below (T1.setTop (mkF m 15 #[.val (.ref xs), .val (.ref vb), .val (.int (4 : Int32)), .val (.int (0 : Int32)), .unset] [(.ref vb)])) _
    refine XS.iloadN X1.here hx rfl (hb hby d11_15) rfl ?_
    show Steps p.tables e below (T1.setTop (mkF m 16 #[.val (.ref xs), .val (.ref vb), .val (.int (4 : Int32)), .val (.int (0 : Int32)), .unset] [(.int (0 : Int32)), (.ref vb)])) _
    refine X1.aaload hx (j := (0 : Int32)) (v := (.ref w0)) Ar.1 (State.isArrayOf_alike hZ.alike Ar.2.1) rfl Ar.2.2 hin0 hat0 (g := (mkF m 16 #[.val (.ref xs), .val (.ref vb), .val (.int (4 : Int32)), .val (.int (0 : Int32)), .unset] [(.int (0 : Int32)), (.ref vb)])) rfl rfl (hb hby d11_16) _ ?_
    show Steps p.tables e below (T1.setTop (mkF m 17 #[.val (.ref xs), .val (.ref vb), .val (.int (4 : Int32)), .val (.int (0 : Int32)), .unset] [(.ref w0)])) _
    refine XS.astore X1.here hx rfl (hb hby d11_17) rfl rfl (l' := #[.val (.ref xs), .val (.ref vb), .val (.int (4 : Int32)), .val (.int (0 : Int32)), .val (.ref w0)]) rfl ?_
    show Steps p.tables e below (T1.setTop (mkF m 19 #[.val (.ref xs), .val (.ref vb), .val (.int (4 : Int32)), .val (.int (0 : Int32)), .val (.ref w0)] [])) _
    refine XS.aload X1.here hx rfl (hb hby d11_19) rfl rfl ?_
    show Steps p.tables e below (T1.setTop (mkF m 21 #[.val (.ref xs), .val (.ref vb), .val (.int (4 : Int32)), .val (.int (0 : Int32)), .val (.ref w0)] [(.ref w0)])) _
    refine st2 _ ?_
    show Steps p.tables e below (T2.setTop (mkF m 24 #[.val (.ref xs), .val (.ref vb), .val (.int (4 : Int32)), .val (.int (0 : Int32)), .val (.ref w0)] [(.ref s0)])) _
    refine XS.aloadN X2.here hx rfl (hb hby d11_24) rfl rfl ?_
    show Steps p.tables e below (T2.setTop (mkF m 25 #[.val (.ref xs), .val (.ref vb), .val (.int (4 : Int32)), .val (.int (0 : Int32)), .val (.ref w0)] [(.ref xs), (.ref s0)])) _
    refine st3.trans ?_
    show Steps p.tables e below (T3.setTop (mkF m 28 #[.val (.ref xs), .val (.ref vb), .val (.int (4 : Int32)), .val (.int (0 : Int32)), .val (.ref w0)] [(.int (if own_d0 = cs then (1 : Int32) else 0))])) _
    refine XS.ifYes X3.here hx rfl (pc0 := 28) (pc' := 37) rfl (hb hby d11_28) rfl ((if0 _ _).trans (teq hc28).1) (by decide) (by decide) ?_
    show Steps p.tables e below (T3.setTop (mkF m 37 #[.val (.ref xs), .val (.ref vb), .val (.int (4 : Int32)), .val (.int (0 : Int32)), .val (.ref w0)] [])) _
    refine XS.iinc X3.here hx rfl (hb hby d11_37) rfl (l' := #[.val (.ref xs), .val (.ref vb), .val (.int (4 : Int32)), .val (.int ((0 : Int32) + (1 : Int32))), .val (.ref w0)]) rfl ?_
    show Steps p.tables e below (T3.setTop (mkF m 40 #[.val (.ref xs), .val (.ref vb), .val (.int (4 : Int32)), .val (.int ((0 : Int32) + (1 : Int32))), .val (.ref w0)] [])) _
    refine XS.goto X3.here hx rfl (pc0 := 40) (pc' := 9) rfl (hb hby d11_40) (by decide) (by decide) ?_
    show Steps p.tables e below (T3.setTop (mkF m 9 #[.val (.ref xs), .val (.ref vb), .val (.int (4 : Int32)), .val (.int ((0 : Int32) + (1 : Int32))), .val (.ref w0)] [])) _
    refine XS.iloadN X3.here hx rfl (hb hby d11_9) rfl ?_
    show Steps p.tables e below (T3.setTop (mkF m 10 #[.val (.ref xs), .val (.ref vb), .val (.int (4 : Int32)), .val (.int ((0 : Int32) + (1 : Int32))), .val (.ref w0)] [(.int ((0 : Int32) + (1 : Int32)))])) _
    refine XS.iloadN X3.here hx rfl (hb hby d11_10) rfl ?_
    show Steps p.tables e below (T3.setTop (mkF m 11 #[.val (.ref xs), .val (.ref vb), .val (.int (4 : Int32)), .val (.int ((0 : Int32) + (1 : Int32))), .val (.ref w0)] [(.int (4 : Int32)), (.int ((0 : Int32) + (1 : Int32)))])) _
    refine XS.icmpNo X3.here hx rfl (hb hby d11_11) rfl (tlt (by decide : ((0 : Int32) + (1 : Int32)) < (4 : Int32))).2.1 ?_
    show Steps p.tables e below (T3.setTop (mkF m 14 #[.val (.ref xs), .val (.ref vb), .val (.int (4 : Int32)), .val (.int ((0 : Int32) + (1 : Int32))), .val (.ref w0)] [])) _
    refine XS.aloadN X3.here hx rfl (hb hby d11_14) rfl rfl ?_
    show Steps p.tables e below (T3.setTop (mkF m 15 #[.val (.ref xs), .val (.ref vb), .val (.int (4 : Int32)), .val (.int ((0 : Int32) + (1 : Int32))), .val (.ref w0)] [(.ref vb)])) _
    refine XS.iloadN X3.here hx rfl (hb hby d11_15) rfl ?_
    show Steps p.tables e below (T3.setTop (mkF m 16 #[.val (.ref xs), .val (.ref vb), .val (.int (4 : Int32)), .val (.int ((0 : Int32) + (1 : Int32))), .val (.ref w0)] [(.int ((0 : Int32) + (1 : Int32))), (.ref vb)])) _
    refine X3.aaload hx (j := ((0 : Int32) + (1 : Int32))) (v := (.ref w1)) (by rw [e3]; exact Ar.1) (State.isArrayOf_alike hZ.alike Ar.2.1) rfl Ar.2.2 hin1 hat1 (g := (mkF m 16 #[.val (.ref xs), .val (.ref vb), .val (.int (4 : Int32)), .val (.int ((0 : Int32) + (1 : Int32))), .val (.ref w0)] [(.int ((0 : Int32) + (1 : Int32))), (.ref vb)])) rfl rfl (hb hby d11_16) _ ?_
    show Steps p.tables e below (T3.setTop (mkF m 17 #[.val (.ref xs), .val (.ref vb), .val (.int (4 : Int32)), .val (.int ((0 : Int32) + (1 : Int32))), .val (.ref w0)] [(.ref w1)])) _
    refine XS.astore X3.here hx rfl (hb hby d11_17) rfl rfl (l' := #[.val (.ref xs), .val (.ref vb), .val (.int (4 : Int32)), .val (.int ((0 : Int32) + (1 : Int32))), .val (.ref w1)]) rfl ?_
    show Steps p.tables e below (T3.setTop (mkF m 19 #[.val (.ref xs), .val (.ref vb), .val (.int (4 : Int32)), .val (.int ((0 : Int32) + (1 : Int32))), .val (.ref w1)] [])) _
    refine XS.aload X3.here hx rfl (hb hby d11_19) rfl rfl ?_
    show Steps p.tables e below (T3.setTop (mkF m 21 #[.val (.ref xs), .val (.ref vb), .val (.int (4 : Int32)), .val (.int ((0 : Int32) + (1 : Int32))), .val (.ref w1)] [(.ref w1)])) _
    refine st4 _ ?_
    show Steps p.tables e below (T4.setTop (mkF m 24 #[.val (.ref xs), .val (.ref vb), .val (.int (4 : Int32)), .val (.int ((0 : Int32) + (1 : Int32))), .val (.ref w1)] [(.ref s1)])) _
    refine XS.aloadN X4.here hx rfl (hb hby d11_24) rfl rfl ?_
    show Steps p.tables e below (T4.setTop (mkF m 25 #[.val (.ref xs), .val (.ref vb), .val (.int (4 : Int32)), .val (.int ((0 : Int32) + (1 : Int32))), .val (.ref w1)] [(.ref xs), (.ref s1)])) _
    refine st5.trans ?_
    show Steps p.tables e below (T5.setTop (mkF m 28 #[.val (.ref xs), .val (.ref vb), .val (.int (4 : Int32)), .val (.int ((0 : Int32) + (1 : Int32))), .val (.ref w1)] [(.int (if own_d1 = cs then (1 : Int32) else 0))])) _
    refine XS.ifYes X5.here hx rfl (pc0 := 28) (pc' := 37) rfl (hb hby d11_28) rfl ((if0 _ _).trans (teq hc28_2).1) (by decide) (by decide) ?_
    show Steps p.tables e below (T5.setTop (mkF m 37 #[.val (.ref xs), .val (.ref vb), .val (.int (4 : Int32)), .val (.int ((0 : Int32) + (1 : Int32))), .val (.ref w1)] [])) _
    refine XS.iinc X5.here hx rfl (hb hby d11_37) rfl (l' := #[.val (.ref xs), .val (.ref vb), .val (.int (4 : Int32)), .val (.int (((0 : Int32) + (1 : Int32)) + (1 : Int32))), .val (.ref w1)]) rfl ?_
    show Steps p.tables e below (T5.setTop (mkF m 40 #[.val (.ref xs), .val (.ref vb), .val (.int (4 : Int32)), .val (.int (((0 : Int32) + (1 : Int32)) + (1 : Int32))), .val (.ref w1)] [])) _
    refine XS.goto X5.here hx rfl (pc0 := 40) (pc' := 9) rfl (hb hby d11_40) (by decide) (by decide) ?_
    show Steps p.tables e below (T5.setTop (mkF m 9 #[.val (.ref xs), .val (.ref vb), .val (.int (4 : Int32)), .val (.int (((0 : Int32) + (1 : Int32)) + (1 : Int32))), .val (.ref w1)] [])) _
    refine XS.iloadN X5.here hx rfl (hb hby d11_9) rfl ?_
    show Steps p.tables e below (T5.setTop (mkF m 10 #[.val (.ref xs), .val (.ref vb), .val (.int (4 : Int32)), .val (.int (((0 : Int32) + (1 : Int32)) + (1 : Int32))), .val (.ref w1)] [(.int (((0 : Int32) + (1 : Int32)) + (1 : Int32)))])) _
    refine XS.iloadN X5.here hx rfl (hb hby d11_10) rfl ?_
    show Steps p.tables e below (T5.setTop (mkF m 11 #[.val (.ref xs), .val (.ref vb), .val (.int (4 : Int32)), .val (.int (((0 : Int32) + (1 : Int32)) + (1 : Int32))), .val (.ref w1)] [(.int (4 : Int32)), (.int (((0 : Int32) + (1 : Int32)) + (1 : Int32)))])) _
    refine XS.icmpNo X5.here hx rfl (hb hby d11_11) rfl (tlt (by decide : (((0 : Int32) + (1 : Int32)) + (1 : Int32)) < (4 : Int32))).2.1 ?_
    show Steps p.tables e below (T5.setTop (mkF m 14 #[.val (.ref xs), .val (.ref vb), .val (.int (4 : Int32)), .val (.int (((0 : Int32) + (1 : Int32)) + (1 : Int32))), .val (.ref w1)] [])) _
    refine XS.aloadN X5.here hx rfl (hb hby d11_14) rfl rfl ?_
    show Steps p.tables e below (T5.setTop (mkF m 15 #[.val (.ref xs), .val (.ref vb), .val (.int (4 : Int32)), .val (.int (((0 : Int32) + (1 : Int32)) + (1 : Int32))), .val (.ref w1)] [(.ref vb)])) _
    refine XS.iloadN X5.here hx rfl (hb hby d11_15) rfl ?_
    show Steps p.tables e below (T5.setTop (mkF m 16 #[.val (.ref xs), .val (.ref vb), .val (.int (4 : Int32)), .val (.int (((0 : Int32) + (1 : Int32)) + (1 : Int32))), .val (.ref w1)] [(.int (((0 : Int32) + (1 : Int32)) + (1 : Int32))), (.ref vb)])) _
    refine X5.aaload hx (j := (((0 : Int32) + (1 : Int32)) + (1 : Int32))) (v := (.ref w2)) (by rw [e5]; exact Ar.1) (State.isArrayOf_alike hZ.alike Ar.2.1) rfl Ar.2.2 hin2 hat2 (g := (mkF m 16 #[.val (.ref xs), .val (.ref vb), .val (.int (4 : Int32)), .val (.int (((0 : Int32) + (1 : Int32)) + (1 : Int32))), .val (.ref w1)] [(.int (((0 : Int32) + (1 : Int32)) + (1 : Int32))), (.ref vb)])) rfl rfl (hb hby d11_16) _ ?_
    show Steps p.tables e below (T5.setTop (mkF m 17 #[.val (.ref xs), .val (.ref vb), .val (.int (4 : Int32)), .val (.int (((0 : Int32) + (1 : Int32)) + (1 : Int32))), .val (.ref w1)] [(.ref w2)])) _
    refine XS.astore X5.here hx rfl (hb hby d11_17) rfl rfl (l' := #[.val (.ref xs), .val (.ref vb), .val (.int (4 : Int32)), .val (.int (((0 : Int32) + (1 : Int32)) + (1 : Int32))), .val (.ref w2)]) rfl ?_
    show Steps p.tables e below (T5.setTop (mkF m 19 #[.val (.ref xs), .val (.ref vb), .val (.int (4 : Int32)), .val (.int (((0 : Int32) + (1 : Int32)) + (1 : Int32))), .val (.ref w2)] [])) _
    refine XS.aload X5.here hx rfl (hb hby d11_19) rfl rfl ?_
    show Steps p.tables e below (T5.setTop (mkF m 21 #[.val (.ref xs), .val (.ref vb), .val (.int (4 : Int32)), .val (.int (((0 : Int32) + (1 : Int32)) + (1 : Int32))), .val (.ref w2)] [(.ref w2)])) _
    refine st6 _ ?_
    show Steps p.tables e below (T6.setTop (mkF m 24 #[.val (.ref xs), .val (.ref vb), .val (.int (4 : Int32)), .val (.int (((0 : Int32) + (1 : Int32)) + (1 : Int32))), .val (.ref w2)] [(.ref s2)])) _
    refine XS.aloadN X6.here hx rfl (hb hby d11_24) rfl rfl ?_
    show Steps p.tables e below (T6.setTop (mkF m 25 #[.val (.ref xs), .val (.ref vb), .val (.int (4 : Int32)), .val (.int (((0 : Int32) + (1 : Int32)) + (1 : Int32))), .val (.ref w2)] [(.ref xs), (.ref s2)])) _
    refine st7.trans ?_
    show Steps p.tables e below (T7.setTop (mkF m 28 #[.val (.ref xs), .val (.ref vb), .val (.int (4 : Int32)), .val (.int (((0 : Int32) + (1 : Int32)) + (1 : Int32))), .val (.ref w2)] [(.int (if own_d2 = cs then (1 : Int32) else 0))])) _
    refine XS.ifNo X7.here hx rfl (hb hby d11_28) rfl ((if0 _ _).trans (feq hc28_3).1) ?_
    show Steps p.tables e below (T7.setTop (mkF m 31 #[.val (.ref xs), .val (.ref vb), .val (.int (4 : Int32)), .val (.int (((0 : Int32) + (1 : Int32)) + (1 : Int32))), .val (.ref w2)] [])) _
    refine XS.aload X7.here hx rfl (hb hby d11_31) rfl rfl ?_
    show Steps p.tables e below (T7.setTop (mkF m 33 #[.val (.ref xs), .val (.ref vb), .val (.int (4 : Int32)), .val (.int (((0 : Int32) + (1 : Int32)) + (1 : Int32))), .val (.ref w2)] [(.ref w2)])) _
    refine st8 _ ?_
    show Steps p.tables e below (T8.setTop (mkF m 36 #[.val (.ref xs), .val (.ref vb), .val (.int (4 : Int32)), .val (.int (((0 : Int32) + (1 : Int32)) + (1 : Int32))), .val (.ref w2)] [(.ref oo)])) _
    exact retOut X8 hx Bd.returns rfl (Or.inr (Or.inr (Or.inr (Or.inr ⟨rfl, rfl, rfl⟩)))) (hb hby d11_36) hr
  · show Qd9 Z xs tt em vA w0 w1 w2 w3 s0 s1 s2 s3 t0 t1 t2 t3 kb kA kb0 kb1 kb2 kb3 cs z h0 n0 _ T8.heap _
    exact ⟨oo, rfl, N8, K8, f8_0, by rw [hrole]; exact f8_1⟩
set_option maxRecDepth 65536 in
set_option maxHeartbeats 40000000 in
theorem rmW3 (l : Launch) (Z : State) (a0 : Array Value) (hw : ∀ d ∈ tables_1, d.before a0 Z = true) (ws : List Jvm.Cond) (xs tt em vA w0 w1 w2 w3 s0 s1 s2 s3 t0 t1 t2 t3 : Addr) (kb kA kb0 kb1 kb2 kb3 : ClassId) (cs : List Int32) (z : Int32) (h0 : Heap) (n0 : Nat) (O0 : Old Z n0 h0) (Ex : Exa Z h0 xs "java/lang/String") (Vx : Fld Z h0 xs "java/lang/String" "value" "[B" (.ref tt)) (Cx : Fld Z h0 xs "java/lang/String" "coder" "B" (.int 0)) (Kx : Arv Z h0 tt kb .byte (Int32.ofNat (cs).length) (((cs).map StrChars.lo8).map Value.int) (.int 0)) (SC : Sta Z Z.heap "java/lang/String" "COMPACT_STRINGS" "Z" (.int z)) (hz : ¬ z = 0) (SV : Sta Z Z.heap "com/example/lendloop/lendloop/core/TransactionRole" "$VALUES" "[Lcom/example/lendloop/lendloop/core/TransactionRole;" (.ref vA)) (VV : Arv Z Z.heap vA kA (.object "com/example/lendloop/lendloop/core/TransactionRole") (4 : Int32) [.ref w0, .ref w1, .ref w2, .ref w3] .null) (EV : Exa Z Z.heap vA "[Lcom/example/lendloop/lendloop/core/TransactionRole;") (SM : Sta Z Z.heap "java/util/Optional" "EMPTY" "Ljava/util/Optional;" (.ref em)) (EE : Exa Z Z.heap em "java/util/Optional") (FE : Fld Z Z.heap em "java/util/Optional" "value" "Ljava/lang/Object;" .null) (E0 : Exa Z Z.heap w0 "com/example/lendloop/lendloop/core/TransactionRole") (G0 : Fld Z Z.heap w0 "com/example/lendloop/lendloop/core/TransactionRole" "wireName" "Ljava/lang/String;" (.ref s0)) (Ex0 : Exa Z Z.heap s0 "java/lang/String") (Vx0 : Fld Z Z.heap s0 "java/lang/String" "value" "[B" (.ref t0)) (Cx0 : Fld Z Z.heap s0 "java/lang/String" "coder" "B" (.int 0)) (Kx0 : Arv Z Z.heap t0 kb0 .byte (Int32.ofNat (own_d0).length) (((own_d0).map StrChars.lo8).map Value.int) (.int 0)) (E1 : Exa Z Z.heap w1 "com/example/lendloop/lendloop/core/TransactionRole") (G1 : Fld Z Z.heap w1 "com/example/lendloop/lendloop/core/TransactionRole" "wireName" "Ljava/lang/String;" (.ref s1)) (Ex1 : Exa Z Z.heap s1 "java/lang/String") (Vx1 : Fld Z Z.heap s1 "java/lang/String" "value" "[B" (.ref t1)) (Cx1 : Fld Z Z.heap s1 "java/lang/String" "coder" "B" (.int 0)) (Kx1 : Arv Z Z.heap t1 kb1 .byte (Int32.ofNat (own_d1).length) (((own_d1).map StrChars.lo8).map Value.int) (.int 0)) (E2 : Exa Z Z.heap w2 "com/example/lendloop/lendloop/core/TransactionRole") (G2 : Fld Z Z.heap w2 "com/example/lendloop/lendloop/core/TransactionRole" "wireName" "Ljava/lang/String;" (.ref s2)) (Ex2 : Exa Z Z.heap s2 "java/lang/String") (Vx2 : Fld Z Z.heap s2 "java/lang/String" "value" "[B" (.ref t2)) (Cx2 : Fld Z Z.heap s2 "java/lang/String" "coder" "B" (.int 0)) (Kx2 : Arv Z Z.heap t2 kb2 .byte (Int32.ofNat (own_d2).length) (((own_d2).map StrChars.lo8).map Value.int) (.int 0)) (E3 : Exa Z Z.heap w3 "com/example/lendloop/lendloop/core/TransactionRole") (G3 : Fld Z Z.heap w3 "com/example/lendloop/lendloop/core/TransactionRole" "wireName" "Ljava/lang/String;" (.ref s3)) (Ex3 : Exa Z Z.heap s3 "java/lang/String") (Vx3 : Fld Z Z.heap s3 "java/lang/String" "value" "[B" (.ref t3)) (Cx3 : Fld Z Z.heap s3 "java/lang/String" "coder" "B" (.int 0)) (Kx3 : Arv Z Z.heap t3 kb3 .byte (Int32.ofNat (own_d3).length) (((own_d3).map StrChars.lo8).map Value.int) (.int 0)) (hg : own_good cs) (hc28 : (if own_d0 = cs then (1 : Int32) else 0) = (0 : Int32)) (hc28_2 : (if own_d1 = cs then (1 : Int32) else 0) = (0 : Int32)) (hc28_3 : (if own_d2 = cs then (1 : Int32) else 0) = (0 : Int32)) (hc28_4 : ¬ ((if own_d3 = cs then (1 : Int32) else 0) = (0 : Int32))) :
    MetFree l (⟨"com/example/lendloop/lendloop/core/TransactionRole", "fromWireName", "(Ljava/lang/String;)Ljava/util/Optional;"⟩ : MethodName) (head1 (Jvm.Cond.code (⟨"com/example/lendloop/lendloop/core/TransactionRole", "fromWireName", "(Ljava/lang/String;)Ljava/util/Optional;"⟩ : MethodName) prog_38_method_5_code 5 (some (.object "java/util/Optional")) :: ws) ({ frames := 3, cells := 2, slots := 5, locals := 70 } : Room)) (fun qq U => qq = #[(.ref xs)] ∧ Z.Warmed39 U.vm ∧ U.heap = h0) (fun _ _ _ _ _ => True) (fun _ UU oo UU' => ∃ vv LL, oo = .returned vv ∧ Qd9 Z xs tt em vA w0 w1 w2 w3 s0 s1 s2 s3 t0 t1 t2 t3 kb kA kb0 kb1 kb2 kb3 cs z h0 n0 vv UU'.heap LL ∧ FrameEnd UU oo UU' LL ({ frames := 3, cells := 2, slots := 5, locals := 70 } : Room).cells ({ frames := 3, cells := 2, slots := 5, locals := 70 } : Room).slots) := by
  refine MetFree.of_bodySF (plainFor_of_name pn_11) hisR ?_
  intro p e s m args below meth c s₁ Bd hml0 hP hK
  obtain ⟨rfl, hZ, hh⟩ := hP
  have hx := Bd.exec
  have hby := Bd.bytes
  have hml : c.maxLocals = 5 := hml0
  have hown : s.vm.findClass "com/example/lendloop/lendloop/core/TransactionRole" = some m.cls := findClass_of_methodNamed Bd.named
  have hnm := (name_of_methodNamed Bd.named Bd.method).1
  have X0 : Stand p l e ({ frames := 3, cells := 2, slots := 5, locals := 70 } : Room) s m #[(.ref xs)] below meth c s₁ [] 0 0 := Stand.of_body Bd
  have e0 : s₁.heap = h0 := by rw [← hh, Bd.state]; rfl
  have N0 := Fr.nil n0
  have pre0 : ∀ tgt, Steps p.tables e below (s₁.setTop (mkF m 0 #[.val (.ref xs), .unset, .unset, .unset, .unset] [])) tgt → Steps p.tables e below (s₁.setTop (entryFrame m #[(.ref xs)] 5)) tgt := fun tt kk => castTop (ef_11 m xs) kk
  obtain ⟨_, _, ⟨T1, L1, k1, n1⟩, -, X1, ⟨Lc1, hQ1, l1, y1, z1⟩, st1⟩ := Jvm.LawKit.callS X0 hx (y := (⟨"com/example/lendloop/lendloop/core/TransactionRole", "values", "()[Lcom/example/lendloop/lendloop/core/TransactionRole;"⟩ : MethodName)) hown (mvT hZ (ww hw 56 rfl)) (mvT hZ (ww hw 57 rfl)) (mvT hZ (ww hw 51 rfl)) (mvT hZ (ww hw 58 rfl)) (by decide) (backOf (W := 0) (rmV l Z a0 hw [] vA w0 w1 w2 w3 kA h0 n0 O0 SV VV EV) hZ (ww hw 58 rfl) (ww hw 51 rfl) (by decide) (by decide)) (g := (mkF m 0 #[.val (.ref xs), .unset, .unset, .unset, .unset] [])) rfl (by rw [hml]; rfl) (argsL := []) (rest := []) (lenOf own_pd3 rfl) rfl (by show 2 * 0 + _ ≤ _; exact Nat.le_of_eq rfl) (hb hby d11_0) (fun _ _ => ⟨rfl, e0, (by decide : 0 + 1 ≤ _), (by decide : 0 + 4 ≤ _)⟩)
  dsimp only [Pt.U, Pt.locs, Pt.cells, Pt.slots] at X1 l1 y1 z1 st1 hQ1
  subst l1 y1 z1
  obtain ⟨vb, rfl, N1q, KK1, g_b, VB⟩ := hQ1
  have N1 := Fr.app N0 N1q
  have O1 := Old.keep O0 KK1 all0
  have K1 := Keep.trans (Keep.refl h0 []) KK1 all0
  obtain ⟨cl, Ar, qk, Sz, Mz, Hz, Uz⟩ := VB
  have hin0 : ¬ ((0 : Int32) < 0 ∨ cl.slots.size ≤ ((0 : Int32)).toNatClampNeg) := by rw [Sz]; decide
  have hat0 : cl.slots[((0 : Int32)).toNatClampNeg]? = some (.ref w0) := Hz 0 (by rw [Sz]; decide)
  obtain ⟨T2, X2, e2, st2⟩ := getF X1 hx hZ hown (host := "") (Or.inl (ww hw 74 rfl)) Via.refl rfl (G0.ext O1.2) (g := (mkF m 21 #[.val (.ref xs), .val (.ref vb), .val (.int (4 : Int32)), .val (.int (0 : Int32)), .val (.ref w0)] [(.ref w0)])) rfl rfl (hb hby d11_21)
  obtain ⟨cq3, kq3, q3a, q3b, q3c⟩ := isOf hZ e2 (Ex0.ext O1.2)
  obtain ⟨_, _, ⟨T3, L3, k3, n3⟩, -, X3, ⟨Lc3, hQ3, l3, y3, z3⟩, st3⟩ := X2.virtualBack hx (y := (⟨"java/lang/String", "equals", "(Ljava/lang/Object;)Z"⟩ : MethodName)) (z := (⟨"java/lang/String", "equals", "(Ljava/lang/Object;)Z"⟩ : MethodName)) hown (mvT hZ (ww hw 76 rfl)) (mvT hZ (ww hw 41 rfl)) (notFace_of_selects (args := #[]) (mvT hZ (ww hw 43 rfl))) (mvT hZ (ww hw 43 rfl)) (mvT hZ (ww hw 42 rfl)) (by decide) (own_bk (n0 := n0) own_eqv (StrChars.Road.eqW (W := 0) hZ (own_wQ hw) (kI := 4) (ww hw 6 rfl) (Ex0.ext O1.2) (Vx0.ext O1.2) (Cx0.ext O1.2) (Kx0.ext O1.2) (own_cd own_gd0) (own_hb own_gd0) (Nat.le_trans own_gd0.1 (by decide)) (Ex.keep KK1) (Vx.keep KK1 nin0) (Cx.keep KK1 nin0) (Kx.keep KK1 nin0) (own_cd hg) (own_hb hg) (Nat.le_trans hg.1 (by decide)) (Sta.ext O1.2 SC) hz (by decide) (by decide))) q3a q3c (g := (mkF m 25 #[.val (.ref xs), .val (.ref vb), .val (.int (4 : Int32)), .val (.int (0 : Int32)), .val (.ref w0)] [(.ref xs), (.ref s0)])) rfl (by rw [hml]; rfl) (Steps.refl _) (argsL := [(.ref xs)]) (rest := []) (lenOf own_pd0 rfl) rfl (by show 2 * 0 + _ ≤ _; exact Nat.le_of_eq rfl) (hb hby d11_25) (fun _ _ => ⟨rfl, e2, (by decide : 1 + 0 ≤ _), (by decide : 4 + 0 ≤ _)⟩)
  dsimp only [Pt.U, Pt.locs, Pt.cells, Pt.slots] at X3 l3 y3 z3 st3 hQ3
  subst l3 y3 z3
  obtain ⟨rfl, N3q, e3⟩ := hQ3
  have N3 := Fr.app N1 N3q
  have hin1 : ¬ (((0 : Int32) + (1 : Int32)) < 0 ∨ cl.slots.size ≤ (((0 : Int32) + (1 : Int32))).toNatClampNeg) := by rw [Sz]; decide
  have hat1 : cl.slots[(((0 : Int32) + (1 : Int32))).toNatClampNeg]? = some (.ref w1) := Hz 1 (by rw [Sz]; decide)
  obtain ⟨T4, X4, e4, st4⟩ := getF X3 hx hZ hown (host := "") (Or.inl (ww hw 74 rfl)) Via.refl e3 (G1.ext O1.2) (g := (mkF m 21 #[.val (.ref xs), .val (.ref vb), .val (.int (4 : Int32)), .val (.int ((0 : Int32) + (1 : Int32))), .val (.ref w1)] [(.ref w1)])) rfl rfl (hb hby d11_21)
  obtain ⟨cq5, kq5, q5a, q5b, q5c⟩ := isOf hZ e4 (Ex1.ext O1.2)
  obtain ⟨_, _, ⟨T5, L5, k5, n5⟩, -, X5, ⟨Lc5, hQ5, l5, y5, z5⟩, st5⟩ := X4.virtualBack hx (y := (⟨"java/lang/String", "equals", "(Ljava/lang/Object;)Z"⟩ : MethodName)) (z := (⟨"java/lang/String", "equals", "(Ljava/lang/Object;)Z"⟩ : MethodName)) hown (mvT hZ (ww hw 76 rfl)) (mvT hZ (ww hw 41 rfl)) (notFace_of_selects (args := #[]) (mvT hZ (ww hw 43 rfl))) (mvT hZ (ww hw 43 rfl)) (mvT hZ (ww hw 42 rfl)) (by decide) (own_bk (n0 := n0) own_eqv (StrChars.Road.eqW (W := 0) hZ (own_wQ hw) (kI := 4) (ww hw 6 rfl) (Ex1.ext O1.2) (Vx1.ext O1.2) (Cx1.ext O1.2) (Kx1.ext O1.2) (own_cd own_gd1) (own_hb own_gd1) (Nat.le_trans own_gd1.1 (by decide)) (Ex.keep KK1) (Vx.keep KK1 nin0) (Cx.keep KK1 nin0) (Kx.keep KK1 nin0) (own_cd hg) (own_hb hg) (Nat.le_trans hg.1 (by decide)) (Sta.ext O1.2 SC) hz (by decide) (by decide))) q5a q5c (g := (mkF m 25 #[.val (.ref xs), .val (.ref vb), .val (.int (4 : Int32)), .val (.int ((0 : Int32) + (1 : Int32))), .val (.ref w1)] [(.ref xs), (.ref s1)])) rfl (by rw [hml]; rfl) (Steps.refl _) (argsL := [(.ref xs)]) (rest := []) (lenOf own_pd0 rfl) rfl (by show 2 * 0 + _ ≤ _; exact Nat.le_of_eq rfl) (hb hby d11_25) (fun _ _ => ⟨rfl, e4, (by decide : 1 + 0 ≤ _), (by decide : 4 + 0 ≤ _)⟩)
  dsimp only [Pt.U, Pt.locs, Pt.cells, Pt.slots] at X5 l5 y5 z5 st5 hQ5
  subst l5 y5 z5
  obtain ⟨rfl, N5q, e5⟩ := hQ5
  have N5 := Fr.app N3 N5q
  have hin2 : ¬ ((((0 : Int32) + (1 : Int32)) + (1 : Int32)) < 0 ∨ cl.slots.size ≤ ((((0 : Int32) + (1 : Int32)) + (1 : Int32))).toNatClampNeg) := by rw [Sz]; decide
  have hat2 : cl.slots[((((0 : Int32) + (1 : Int32)) + (1 : Int32))).toNatClampNeg]? = some (.ref w2) := Hz 2 (by rw [Sz]; decide)
  obtain ⟨T6, X6, e6, st6⟩ := getF X5 hx hZ hown (host := "") (Or.inl (ww hw 74 rfl)) Via.refl e5 (G2.ext O1.2) (g := (mkF m 21 #[.val (.ref xs), .val (.ref vb), .val (.int (4 : Int32)), .val (.int (((0 : Int32) + (1 : Int32)) + (1 : Int32))), .val (.ref w2)] [(.ref w2)])) rfl rfl (hb hby d11_21)
  obtain ⟨cq7, kq7, q7a, q7b, q7c⟩ := isOf hZ e6 (Ex2.ext O1.2)
  obtain ⟨_, _, ⟨T7, L7, k7, n7⟩, -, X7, ⟨Lc7, hQ7, l7, y7, z7⟩, st7⟩ := X6.virtualBack hx (y := (⟨"java/lang/String", "equals", "(Ljava/lang/Object;)Z"⟩ : MethodName)) (z := (⟨"java/lang/String", "equals", "(Ljava/lang/Object;)Z"⟩ : MethodName)) hown (mvT hZ (ww hw 76 rfl)) (mvT hZ (ww hw 41 rfl)) (notFace_of_selects (args := #[]) (mvT hZ (ww hw 43 rfl))) (mvT hZ (ww hw 43 rfl)) (mvT hZ (ww hw 42 rfl)) (by decide) (own_bk (n0 := n0) own_eqv (StrChars.Road.eqW (W := 0) hZ (own_wQ hw) (kI := 4) (ww hw 6 rfl) (Ex2.ext O1.2) (Vx2.ext O1.2) (Cx2.ext O1.2) (Kx2.ext O1.2) (own_cd own_gd2) (own_hb own_gd2) (Nat.le_trans own_gd2.1 (by decide)) (Ex.keep KK1) (Vx.keep KK1 nin0) (Cx.keep KK1 nin0) (Kx.keep KK1 nin0) (own_cd hg) (own_hb hg) (Nat.le_trans hg.1 (by decide)) (Sta.ext O1.2 SC) hz (by decide) (by decide))) q7a q7c (g := (mkF m 25 #[.val (.ref xs), .val (.ref vb), .val (.int (4 : Int32)), .val (.int (((0 : Int32) + (1 : Int32)) + (1 : Int32))), .val (.ref w2)] [(.ref xs), (.ref s2)])) rfl (by rw [hml]; rfl) (Steps.refl _) (argsL := [(.ref xs)]) (rest := []) (lenOf own_pd0 rfl) rfl (by show 2 * 0 + _ ≤ _; exact Nat.le_of_eq rfl) (hb hby d11_25) (fun _ _ => ⟨rfl, e6, (by decide : 1 + 0 ≤ _), (by decide : 4 + 0 ≤ _)⟩)
  dsimp only [Pt.U, Pt.locs, Pt.cells, Pt.slots] at X7 l7 y7 z7 st7 hQ7
  subst l7 y7 z7
  obtain ⟨rfl, N7q, e7⟩ := hQ7
  have N7 := Fr.app N5 N7q
  have hin3 : ¬ (((((0 : Int32) + (1 : Int32)) + (1 : Int32)) + (1 : Int32)) < 0 ∨ cl.slots.size ≤ (((((0 : Int32) + (1 : Int32)) + (1 : Int32)) + (1 : Int32))).toNatClampNeg) := by rw [Sz]; decide
  have hat3 : cl.slots[(((((0 : Int32) + (1 : Int32)) + (1 : Int32)) + (1 : Int32))).toNatClampNeg]? = some (.ref w3) := Hz 3 (by rw [Sz]; decide)
  obtain ⟨T8, X8, e8, st8⟩ := getF X7 hx hZ hown (host := "") (Or.inl (ww hw 74 rfl)) Via.refl e7 (G3.ext O1.2) (g := (mkF m 21 #[.val (.ref xs), .val (.ref vb), .val (.int (4 : Int32)), .val (.int ((((0 : Int32) + (1 : Int32)) + (1 : Int32)) + (1 : Int32))), .val (.ref w3)] [(.ref w3)])) rfl rfl (hb hby d11_21)
  obtain ⟨cq9, kq9, q9a, q9b, q9c⟩ := isOf hZ e8 (Ex3.ext O1.2)
  obtain ⟨_, _, ⟨T9, L9, k9, n9⟩, -, X9, ⟨Lc9, hQ9, l9, y9, z9⟩, st9⟩ := X8.virtualBack hx (y := (⟨"java/lang/String", "equals", "(Ljava/lang/Object;)Z"⟩ : MethodName)) (z := (⟨"java/lang/String", "equals", "(Ljava/lang/Object;)Z"⟩ : MethodName)) hown (mvT hZ (ww hw 76 rfl)) (mvT hZ (ww hw 41 rfl)) (notFace_of_selects (args := #[]) (mvT hZ (ww hw 43 rfl))) (mvT hZ (ww hw 43 rfl)) (mvT hZ (ww hw 42 rfl)) (by decide) (own_bk (n0 := n0) own_eqv (StrChars.Road.eqW (W := 0) hZ (own_wQ hw) (kI := 4) (ww hw 6 rfl) (Ex3.ext O1.2) (Vx3.ext O1.2) (Cx3.ext O1.2) (Kx3.ext O1.2) (own_cd own_gd3) (own_hb own_gd3) (Nat.le_trans own_gd3.1 (by decide)) (Ex.keep KK1) (Vx.keep KK1 nin0) (Cx.keep KK1 nin0) (Kx.keep KK1 nin0) (own_cd hg) (own_hb hg) (Nat.le_trans hg.1 (by decide)) (Sta.ext O1.2 SC) hz (by decide) (by decide))) q9a q9c (g := (mkF m 25 #[.val (.ref xs), .val (.ref vb), .val (.int (4 : Int32)), .val (.int ((((0 : Int32) + (1 : Int32)) + (1 : Int32)) + (1 : Int32))), .val (.ref w3)] [(.ref xs), (.ref s3)])) rfl (by rw [hml]; rfl) (Steps.refl _) (argsL := [(.ref xs)]) (rest := []) (lenOf own_pd0 rfl) rfl (by show 2 * 0 + _ ≤ _; exact Nat.le_of_eq rfl) (hb hby d11_25) (fun _ _ => ⟨rfl, e8, (by decide : 1 + 0 ≤ _), (by decide : 4 + 0 ≤ _)⟩)
  dsimp only [Pt.U, Pt.locs, Pt.cells, Pt.slots] at X9 l9 y9 z9 st9 hQ9
  subst l9 y9 z9
  obtain ⟨rfl, N9q, e9⟩ := hQ9
  have N9 := Fr.app N7 N9q
  obtain ⟨_, _, ⟨T10, L10, k10, n10⟩, -, X10, ⟨Lc10, hQ10, l10, y10, z10⟩, st10⟩ := Jvm.LawKit.callS X9 hx (y := (⟨"java/util/Optional", "of", "(Ljava/lang/Object;)Ljava/util/Optional;"⟩ : MethodName)) hown (mvT hZ (ww hw 77 rfl)) (mvT hZ (ww hw 78 rfl)) (mvT hZ (ww hw 79 rfl)) (mvT hZ (ww hw 80 rfl)) (by decide) (backOf (W := 0) (rmOO l Z a0 hw [] w3 T1.heap n0 O1) hZ (ww hw 80 rfl) (ww hw 79 rfl) (by decide) (by decide)) (g := (mkF m 33 #[.val (.ref xs), .val (.ref vb), .val (.int (4 : Int32)), .val (.int ((((0 : Int32) + (1 : Int32)) + (1 : Int32)) + (1 : Int32))), .val (.ref w3)] [(.ref w3)])) rfl (by rw [hml]; rfl) (argsL := [(.ref w3)]) (rest := []) (lenOf own_pd4 rfl) rfl (by show 2 * 0 + _ ≤ _; exact Nat.le_of_eq rfl) (hb hby d11_33) (fun _ _ => ⟨rfl, e9, (by decide : 1 + 1 ≤ _), (by decide : 4 + 1 ≤ _)⟩)
  dsimp only [Pt.U, Pt.locs, Pt.cells, Pt.slots] at X10 l10 y10 z10 st10 hQ10
  subst l10 y10 z10
  obtain ⟨oo, rfl, N10q, KK10, f10_0, f10_1⟩ := hQ10
  have N10 := Fr.app N9 N10q
  have O10 := Old.keep O1 KK10 all0
  have K10 := Keep.trans K1 KK10 all0
  have hrole : own_role cs w0 w1 w2 w3 = .ref w3 := by rw [own_role, if_neg (fun q => own_f hc28 q.symm), if_neg (fun q => own_f hc28_2 q.symm), if_neg (fun q => own_f hc28_3 q.symm), if_pos (own_t hc28_4).symm]
  obtain ⟨fs, hr, hrun, hended, hW, hsame⟩ := X10.leave (v := some (.ref oo)) (fun h => by rw [Bd.returns] at h; cases h)
  refine ⟨_, _, pre0 _ ?_, hrun, hended, _, _, rfl, ?_, ⟨_, rfl⟩, hW, hsame.mono (by decide) (by decide)⟩
  · show Steps p.tables e below (s₁.setTop (mkF m 0 #[.val (.ref xs), .unset, .unset, .unset, .unset] [])) _
    refine st1 _ ?_
    show Steps p.tables e below (T1.setTop (mkF m 3 #[.val (.ref xs), .unset, .unset, .unset, .unset] [(.ref vb)])) _
    refine XS.astoreN X1.here hx rfl (hb hby d11_3) rfl rfl (l' := #[.val (.ref xs), .val (.ref vb), .unset, .unset, .unset]) rfl ?_
    show Steps p.tables e below (T1.setTop (mkF m 4 #[.val (.ref xs), .val (.ref vb), .unset, .unset, .unset] [])) _
    refine XS.aloadN X1.here hx rfl (hb hby d11_4) rfl rfl ?_
    show Steps p.tables e below (T1.setTop (mkF m 5 #[.val (.ref xs), .val (.ref vb), .unset, .unset, .unset] [(.ref vb)])) _
    refine X1.arraylength hx Ar.1 (State.isArrayOf_alike hZ.alike Ar.2.1) (g := (mkF m 5 #[.val (.ref xs), .val (.ref vb), .unset, .unset, .unset] [(.ref vb)])) rfl rfl (hb hby d11_5) _ ?_
    rw [len_of Sz Mz]
    show Steps p.tables e below (T1.setTop (mkF m 6 #[.val (.ref xs), .val (.ref vb), .unset, .unset, .unset] [(.int (4 : Int32))])) _
    refine XS.istoreN X1.here hx rfl (hb hby d11_6) rfl (l' := #[.val (.ref xs), .val (.ref vb), .val (.int (4 : Int32)), .unset, .unset]) rfl ?_
    show Steps p.tables e below (T1.setTop (mkF m 7 #[.val (.ref xs), .val (.ref vb), .val (.int (4 : Int32)), .unset, .unset] [])) _
    refine XS.iconst X1.here hx rfl (hb hby d11_7) ?_
    show Steps p.tables e below (T1.setTop (mkF m 8 #[.val (.ref xs), .val (.ref vb), .val (.int (4 : Int32)), .unset, .unset] [(.int (0 : Int32))])) _
    refine XS.istoreN X1.here hx rfl (hb hby d11_8) rfl (l' := #[.val (.ref xs), .val (.ref vb), .val (.int (4 : Int32)), .val (.int (0 : Int32)), .unset]) rfl ?_
    show Steps p.tables e below (T1.setTop (mkF m 9 #[.val (.ref xs), .val (.ref vb), .val (.int (4 : Int32)), .val (.int (0 : Int32)), .unset] [])) _
    refine XS.iloadN X1.here hx rfl (hb hby d11_9) rfl ?_
    show Steps p.tables e below (T1.setTop (mkF m 10 #[.val (.ref xs), .val (.ref vb), .val (.int (4 : Int32)), .val (.int (0 : Int32)), .unset] [(.int (0 : Int32))])) _
    refine XS.iloadN X1.here hx rfl (hb hby d11_10) rfl ?_
    show Steps p.tables e below (T1.setTop (mkF m 11 #[.val (.ref xs), .val (.ref vb), .val (.int (4 : Int32)), .val (.int (0 : Int32)), .unset] [(.int (4 : Int32)), (.int (0 : Int32))])) _
    refine XS.icmpNo X1.here hx rfl (hb hby d11_11) rfl (tlt (by decide : (0 : Int32) < (4 : Int32))).2.1 ?_
    show Steps p.tables e below (T1.setTop (mkF m 14 #[.val (.ref xs), .val (.ref vb), .val (.int (4 : Int32)), .val (.int (0 : Int32)), .unset] [])) _
    refine XS.aloadN X1.here hx rfl (hb hby d11_14) rfl rfl ?_
    show Steps p.tables e below (T1.setTop (mkF m 15 #[.val (.ref xs), .val (.ref vb), .val (.int (4 : Int32)), .val (.int (0 : Int32)), .unset] [(.ref vb)])) _
    refine XS.iloadN X1.here hx rfl (hb hby d11_15) rfl ?_
    show Steps p.tables e below (T1.setTop (mkF m 16 #[.val (.ref xs), .val (.ref vb), .val (.int (4 : Int32)), .val (.int (0 : Int32)), .unset] [(.int (0 : Int32)), (.ref vb)])) _
    refine X1.aaload hx (j := (0 : Int32)) (v := (.ref w0)) Ar.1 (State.isArrayOf_alike hZ.alike Ar.2.1) rfl Ar.2.2 hin0 hat0 (g := (mkF m 16 #[.val (.ref xs), .val (.ref vb), .val (.int (4 : Int32)), .val (.int (0 : Int32)), .unset] [(.int (0 : Int32)), (.ref vb)])) rfl rfl (hb hby d11_16) _ ?_
    show Steps p.tables e below (T1.setTop (mkF m 17 #[.val (.ref xs), .val (.ref vb), .val (.int (4 : Int32)), .val (.int (0 : Int32)), .unset] [(.ref w0)])) _
    refine XS.astore X1.here hx rfl (hb hby d11_17) rfl rfl (l' := #[.val (.ref xs), .val (.ref vb), .val (.int (4 : Int32)), .val (.int (0 : Int32)), .val (.ref w0)]) rfl ?_
    show Steps p.tables e below (T1.setTop (mkF m 19 #[.val (.ref xs), .val (.ref vb), .val (.int (4 : Int32)), .val (.int (0 : Int32)), .val (.ref w0)] [])) _
    refine XS.aload X1.here hx rfl (hb hby d11_19) rfl rfl ?_
    show Steps p.tables e below (T1.setTop (mkF m 21 #[.val (.ref xs), .val (.ref vb), .val (.int (4 : Int32)), .val (.int (0 : Int32)), .val (.ref w0)] [(.ref w0)])) _
    refine st2 _ ?_
    show Steps p.tables e below (T2.setTop (mkF m 24 #[.val (.ref xs), .val (.ref vb), .val (.int (4 : Int32)), .val (.int (0 : Int32)), .val (.ref w0)] [(.ref s0)])) _
    refine XS.aloadN X2.here hx rfl (hb hby d11_24) rfl rfl ?_
    show Steps p.tables e below (T2.setTop (mkF m 25 #[.val (.ref xs), .val (.ref vb), .val (.int (4 : Int32)), .val (.int (0 : Int32)), .val (.ref w0)] [(.ref xs), (.ref s0)])) _
    refine st3.trans ?_
    show Steps p.tables e below (T3.setTop (mkF m 28 #[.val (.ref xs), .val (.ref vb), .val (.int (4 : Int32)), .val (.int (0 : Int32)), .val (.ref w0)] [(.int (if own_d0 = cs then (1 : Int32) else 0))])) _
    refine XS.ifYes X3.here hx rfl (pc0 := 28) (pc' := 37) rfl (hb hby d11_28) rfl ((if0 _ _).trans (teq hc28).1) (by decide) (by decide) ?_
    show Steps p.tables e below (T3.setTop (mkF m 37 #[.val (.ref xs), .val (.ref vb), .val (.int (4 : Int32)), .val (.int (0 : Int32)), .val (.ref w0)] [])) _
    refine XS.iinc X3.here hx rfl (hb hby d11_37) rfl (l' := #[.val (.ref xs), .val (.ref vb), .val (.int (4 : Int32)), .val (.int ((0 : Int32) + (1 : Int32))), .val (.ref w0)]) rfl ?_
    show Steps p.tables e below (T3.setTop (mkF m 40 #[.val (.ref xs), .val (.ref vb), .val (.int (4 : Int32)), .val (.int ((0 : Int32) + (1 : Int32))), .val (.ref w0)] [])) _
    refine XS.goto X3.here hx rfl (pc0 := 40) (pc' := 9) rfl (hb hby d11_40) (by decide) (by decide) ?_
    show Steps p.tables e below (T3.setTop (mkF m 9 #[.val (.ref xs), .val (.ref vb), .val (.int (4 : Int32)), .val (.int ((0 : Int32) + (1 : Int32))), .val (.ref w0)] [])) _
    refine XS.iloadN X3.here hx rfl (hb hby d11_9) rfl ?_
    show Steps p.tables e below (T3.setTop (mkF m 10 #[.val (.ref xs), .val (.ref vb), .val (.int (4 : Int32)), .val (.int ((0 : Int32) + (1 : Int32))), .val (.ref w0)] [(.int ((0 : Int32) + (1 : Int32)))])) _
    refine XS.iloadN X3.here hx rfl (hb hby d11_10) rfl ?_
    show Steps p.tables e below (T3.setTop (mkF m 11 #[.val (.ref xs), .val (.ref vb), .val (.int (4 : Int32)), .val (.int ((0 : Int32) + (1 : Int32))), .val (.ref w0)] [(.int (4 : Int32)), (.int ((0 : Int32) + (1 : Int32)))])) _
    refine XS.icmpNo X3.here hx rfl (hb hby d11_11) rfl (tlt (by decide : ((0 : Int32) + (1 : Int32)) < (4 : Int32))).2.1 ?_
    show Steps p.tables e below (T3.setTop (mkF m 14 #[.val (.ref xs), .val (.ref vb), .val (.int (4 : Int32)), .val (.int ((0 : Int32) + (1 : Int32))), .val (.ref w0)] [])) _
    refine XS.aloadN X3.here hx rfl (hb hby d11_14) rfl rfl ?_
    show Steps p.tables e below (T3.setTop (mkF m 15 #[.val (.ref xs), .val (.ref vb), .val (.int (4 : Int32)), .val (.int ((0 : Int32) + (1 : Int32))), .val (.ref w0)] [(.ref vb)])) _
    refine XS.iloadN X3.here hx rfl (hb hby d11_15) rfl ?_
    show Steps p.tables e below (T3.setTop (mkF m 16 #[.val (.ref xs), .val (.ref vb), .val (.int (4 : Int32)), .val (.int ((0 : Int32) + (1 : Int32))), .val (.ref w0)] [(.int ((0 : Int32) + (1 : Int32))), (.ref vb)])) _
    refine X3.aaload hx (j := ((0 : Int32) + (1 : Int32))) (v := (.ref w1)) (by rw [e3]; exact Ar.1) (State.isArrayOf_alike hZ.alike Ar.2.1) rfl Ar.2.2 hin1 hat1 (g := (mkF m 16 #[.val (.ref xs), .val (.ref vb), .val (.int (4 : Int32)), .val (.int ((0 : Int32) + (1 : Int32))), .val (.ref w0)] [(.int ((0 : Int32) + (1 : Int32))), (.ref vb)])) rfl rfl (hb hby d11_16) _ ?_
    show Steps p.tables e below (T3.setTop (mkF m 17 #[.val (.ref xs), .val (.ref vb), .val (.int (4 : Int32)), .val (.int ((0 : Int32) + (1 : Int32))), .val (.ref w0)] [(.ref w1)])) _
    refine XS.astore X3.here hx rfl (hb hby d11_17) rfl rfl (l' := #[.val (.ref xs), .val (.ref vb), .val (.int (4 : Int32)), .val (.int ((0 : Int32) + (1 : Int32))), .val (.ref w1)]) rfl ?_
    show Steps p.tables e below (T3.setTop (mkF m 19 #[.val (.ref xs), .val (.ref vb), .val (.int (4 : Int32)), .val (.int ((0 : Int32) + (1 : Int32))), .val (.ref w1)] [])) _
    refine XS.aload X3.here hx rfl (hb hby d11_19) rfl rfl ?_
    show Steps p.tables e below (T3.setTop (mkF m 21 #[.val (.ref xs), .val (.ref vb), .val (.int (4 : Int32)), .val (.int ((0 : Int32) + (1 : Int32))), .val (.ref w1)] [(.ref w1)])) _
    refine st4 _ ?_
    show Steps p.tables e below (T4.setTop (mkF m 24 #[.val (.ref xs), .val (.ref vb), .val (.int (4 : Int32)), .val (.int ((0 : Int32) + (1 : Int32))), .val (.ref w1)] [(.ref s1)])) _
    refine XS.aloadN X4.here hx rfl (hb hby d11_24) rfl rfl ?_
    show Steps p.tables e below (T4.setTop (mkF m 25 #[.val (.ref xs), .val (.ref vb), .val (.int (4 : Int32)), .val (.int ((0 : Int32) + (1 : Int32))), .val (.ref w1)] [(.ref xs), (.ref s1)])) _
    refine st5.trans ?_
    show Steps p.tables e below (T5.setTop (mkF m 28 #[.val (.ref xs), .val (.ref vb), .val (.int (4 : Int32)), .val (.int ((0 : Int32) + (1 : Int32))), .val (.ref w1)] [(.int (if own_d1 = cs then (1 : Int32) else 0))])) _
    refine XS.ifYes X5.here hx rfl (pc0 := 28) (pc' := 37) rfl (hb hby d11_28) rfl ((if0 _ _).trans (teq hc28_2).1) (by decide) (by decide) ?_
    show Steps p.tables e below (T5.setTop (mkF m 37 #[.val (.ref xs), .val (.ref vb), .val (.int (4 : Int32)), .val (.int ((0 : Int32) + (1 : Int32))), .val (.ref w1)] [])) _
    refine XS.iinc X5.here hx rfl (hb hby d11_37) rfl (l' := #[.val (.ref xs), .val (.ref vb), .val (.int (4 : Int32)), .val (.int (((0 : Int32) + (1 : Int32)) + (1 : Int32))), .val (.ref w1)]) rfl ?_
    show Steps p.tables e below (T5.setTop (mkF m 40 #[.val (.ref xs), .val (.ref vb), .val (.int (4 : Int32)), .val (.int (((0 : Int32) + (1 : Int32)) + (1 : Int32))), .val (.ref w1)] [])) _
    refine XS.goto X5.here hx rfl (pc0 := 40) (pc' := 9) rfl (hb hby d11_40) (by decide) (by decide) ?_
    show Steps p.tables e below (T5.setTop (mkF m 9 #[.val (.ref xs), .val (.ref vb), .val (.int (4 : Int32)), .val (.int (((0 : Int32) + (1 : Int32)) + (1 : Int32))), .val (.ref w1)] [])) _
    refine XS.iloadN X5.here hx rfl (hb hby d11_9) rfl ?_
    show Steps p.tables e below (T5.setTop (mkF m 10 #[.val (.ref xs), .val (.ref vb), .val (.int (4 : Int32)), .val (.int (((0 : Int32) + (1 : Int32)) + (1 : Int32))), .val (.ref w1)] [(.int (((0 : Int32) + (1 : Int32)) + (1 : Int32)))])) _
    refine XS.iloadN X5.here hx rfl (hb hby d11_10) rfl ?_
    show Steps p.tables e below (T5.setTop (mkF m 11 #[.val (.ref xs), .val (.ref vb), .val (.int (4 : Int32)), .val (.int (((0 : Int32) + (1 : Int32)) + (1 : Int32))), .val (.ref w1)] [(.int (4 : Int32)), (.int (((0 : Int32) + (1 : Int32)) + (1 : Int32)))])) _
    refine XS.icmpNo X5.here hx rfl (hb hby d11_11) rfl (tlt (by decide : (((0 : Int32) + (1 : Int32)) + (1 : Int32)) < (4 : Int32))).2.1 ?_
    show Steps p.tables e below (T5.setTop (mkF m 14 #[.val (.ref xs), .val (.ref vb), .val (.int (4 : Int32)), .val (.int (((0 : Int32) + (1 : Int32)) + (1 : Int32))), .val (.ref w1)] [])) _
    refine XS.aloadN X5.here hx rfl (hb hby d11_14) rfl rfl ?_
    show Steps p.tables e below (T5.setTop (mkF m 15 #[.val (.ref xs), .val (.ref vb), .val (.int (4 : Int32)), .val (.int (((0 : Int32) + (1 : Int32)) + (1 : Int32))), .val (.ref w1)] [(.ref vb)])) _
    refine XS.iloadN X5.here hx rfl (hb hby d11_15) rfl ?_
    show Steps p.tables e below (T5.setTop (mkF m 16 #[.val (.ref xs), .val (.ref vb), .val (.int (4 : Int32)), .val (.int (((0 : Int32) + (1 : Int32)) + (1 : Int32))), .val (.ref w1)] [(.int (((0 : Int32) + (1 : Int32)) + (1 : Int32))), (.ref vb)])) _
    refine X5.aaload hx (j := (((0 : Int32) + (1 : Int32)) + (1 : Int32))) (v := (.ref w2)) (by rw [e5]; exact Ar.1) (State.isArrayOf_alike hZ.alike Ar.2.1) rfl Ar.2.2 hin2 hat2 (g := (mkF m 16 #[.val (.ref xs), .val (.ref vb), .val (.int (4 : Int32)), .val (.int (((0 : Int32) + (1 : Int32)) + (1 : Int32))), .val (.ref w1)] [(.int (((0 : Int32) + (1 : Int32)) + (1 : Int32))), (.ref vb)])) rfl rfl (hb hby d11_16) _ ?_
    show Steps p.tables e below (T5.setTop (mkF m 17 #[.val (.ref xs), .val (.ref vb), .val (.int (4 : Int32)), .val (.int (((0 : Int32) + (1 : Int32)) + (1 : Int32))), .val (.ref w1)] [(.ref w2)])) _
    refine XS.astore X5.here hx rfl (hb hby d11_17) rfl rfl (l' := #[.val (.ref xs), .val (.ref vb), .val (.int (4 : Int32)), .val (.int (((0 : Int32) + (1 : Int32)) + (1 : Int32))), .val (.ref w2)]) rfl ?_
    show Steps p.tables e below (T5.setTop (mkF m 19 #[.val (.ref xs), .val (.ref vb), .val (.int (4 : Int32)), .val (.int (((0 : Int32) + (1 : Int32)) + (1 : Int32))), .val (.ref w2)] [])) _
    refine XS.aload X5.here hx rfl (hb hby d11_19) rfl rfl ?_
    show Steps p.tables e below (T5.setTop (mkF m 21 #[.val (.ref xs), .val (.ref vb), .val (.int (4 : Int32)), .val (.int (((0 : Int32) + (1 : Int32)) + (1 : Int32))), .val (.ref w2)] [(.ref w2)])) _
    refine st6 _ ?_
    show Steps p.tables e below (T6.setTop (mkF m 24 #[.val (.ref xs), .val (.ref vb), .val (.int (4 : Int32)), .val (.int (((0 : Int32) + (1 : Int32)) + (1 : Int32))), .val (.ref w2)] [(.ref s2)])) _
    refine XS.aloadN X6.here hx rfl (hb hby d11_24) rfl rfl ?_
    show Steps p.tables e below (T6.setTop (mkF m 25 #[.val (.ref xs), .val (.ref vb), .val (.int (4 : Int32)), .val (.int (((0 : Int32) + (1 : Int32)) + (1 : Int32))), .val (.ref w2)] [(.ref xs), (.ref s2)])) _
    refine st7.trans ?_
    show Steps p.tables e below (T7.setTop (mkF m 28 #[.val (.ref xs), .val (.ref vb), .val (.int (4 : Int32)), .val (.int (((0 : Int32) + (1 : Int32)) + (1 : Int32))), .val (.ref w2)] [(.int (if own_d2 = cs then (1 : Int32) else 0))])) _
    refine XS.ifYes X7.here hx rfl (pc0 := 28) (pc' := 37) rfl (hb hby d11_28) rfl ((if0 _ _).trans (teq hc28_3).1) (by decide) (by decide) ?_
    show Steps p.tables e below (T7.setTop (mkF m 37 #[.val (.ref xs), .val (.ref vb), .val (.int (4 : Int32)), .val (.int (((0 : Int32) + (1 : Int32)) + (1 : Int32))), .val (.ref w2)] [])) _
    refine XS.iinc X7.here hx rfl (hb hby d11_37) rfl (l' := #[.val (.ref xs), .val (.ref vb), .val (.int (4 : Int32)), .val (.int ((((0 : Int32) + (1 : Int32)) + (1 : Int32)) + (1 : Int32))), .val (.ref w2)]) rfl ?_
    show Steps p.tables e below (T7.setTop (mkF m 40 #[.val (.ref xs), .val (.ref vb), .val (.int (4 : Int32)), .val (.int ((((0 : Int32) + (1 : Int32)) + (1 : Int32)) + (1 : Int32))), .val (.ref w2)] [])) _
    refine XS.goto X7.here hx rfl (pc0 := 40) (pc' := 9) rfl (hb hby d11_40) (by decide) (by decide) ?_
    show Steps p.tables e below (T7.setTop (mkF m 9 #[.val (.ref xs), .val (.ref vb), .val (.int (4 : Int32)), .val (.int ((((0 : Int32) + (1 : Int32)) + (1 : Int32)) + (1 : Int32))), .val (.ref w2)] [])) _
    refine XS.iloadN X7.here hx rfl (hb hby d11_9) rfl ?_
    show Steps p.tables e below (T7.setTop (mkF m 10 #[.val (.ref xs), .val (.ref vb), .val (.int (4 : Int32)), .val (.int ((((0 : Int32) + (1 : Int32)) + (1 : Int32)) + (1 : Int32))), .val (.ref w2)] [(.int ((((0 : Int32) + (1 : Int32)) + (1 : Int32)) + (1 : Int32)))])) _
    refine XS.iloadN X7.here hx rfl (hb hby d11_10) rfl ?_
    show Steps p.tables e below (T7.setTop (mkF m 11 #[.val (.ref xs), .val (.ref vb), .val (.int (4 : Int32)), .val (.int ((((0 : Int32) + (1 : Int32)) + (1 : Int32)) + (1 : Int32))), .val (.ref w2)] [(.int (4 : Int32)), (.int ((((0 : Int32) + (1 : Int32)) + (1 : Int32)) + (1 : Int32)))])) _
    refine XS.icmpNo X7.here hx rfl (hb hby d11_11) rfl (tlt (by decide : ((((0 : Int32) + (1 : Int32)) + (1 : Int32)) + (1 : Int32)) < (4 : Int32))).2.1 ?_
    show Steps p.tables e below (T7.setTop (mkF m 14 #[.val (.ref xs), .val (.ref vb), .val (.int (4 : Int32)), .val (.int ((((0 : Int32) + (1 : Int32)) + (1 : Int32)) + (1 : Int32))), .val (.ref w2)] [])) _
    refine XS.aloadN X7.here hx rfl (hb hby d11_14) rfl rfl ?_
    show Steps p.tables e below (T7.setTop (mkF m 15 #[.val (.ref xs), .val (.ref vb), .val (.int (4 : Int32)), .val (.int ((((0 : Int32) + (1 : Int32)) + (1 : Int32)) + (1 : Int32))), .val (.ref w2)] [(.ref vb)])) _
    refine XS.iloadN X7.here hx rfl (hb hby d11_15) rfl ?_
    show Steps p.tables e below (T7.setTop (mkF m 16 #[.val (.ref xs), .val (.ref vb), .val (.int (4 : Int32)), .val (.int ((((0 : Int32) + (1 : Int32)) + (1 : Int32)) + (1 : Int32))), .val (.ref w2)] [(.int ((((0 : Int32) + (1 : Int32)) + (1 : Int32)) + (1 : Int32))), (.ref vb)])) _
    refine X7.aaload hx (j := ((((0 : Int32) + (1 : Int32)) + (1 : Int32)) + (1 : Int32))) (v := (.ref w3)) (by rw [e7]; exact Ar.1) (State.isArrayOf_alike hZ.alike Ar.2.1) rfl Ar.2.2 hin3 hat3 (g := (mkF m 16 #[.val (.ref xs), .val (.ref vb), .val (.int (4 : Int32)), .val (.int ((((0 : Int32) + (1 : Int32)) + (1 : Int32)) + (1 : Int32))), .val (.ref w2)] [(.int ((((0 : Int32) + (1 : Int32)) + (1 : Int32)) + (1 : Int32))), (.ref vb)])) rfl rfl (hb hby d11_16) _ ?_
    show Steps p.tables e below (T7.setTop (mkF m 17 #[.val (.ref xs), .val (.ref vb), .val (.int (4 : Int32)), .val (.int ((((0 : Int32) + (1 : Int32)) + (1 : Int32)) + (1 : Int32))), .val (.ref w2)] [(.ref w3)])) _
    refine XS.astore X7.here hx rfl (hb hby d11_17) rfl rfl (l' := #[.val (.ref xs), .val (.ref vb), .val (.int (4 : Int32)), .val (.int ((((0 : Int32) + (1 : Int32)) + (1 : Int32)) + (1 : Int32))), .val (.ref w3)]) rfl ?_
    show Steps p.tables e below (T7.setTop (mkF m 19 #[.val (.ref xs), .val (.ref vb), .val (.int (4 : Int32)), .val (.int ((((0 : Int32) + (1 : Int32)) + (1 : Int32)) + (1 : Int32))), .val (.ref w3)] [])) _
    refine XS.aload X7.here hx rfl (hb hby d11_19) rfl rfl ?_
    show Steps p.tables e below (T7.setTop (mkF m 21 #[.val (.ref xs), .val (.ref vb), .val (.int (4 : Int32)), .val (.int ((((0 : Int32) + (1 : Int32)) + (1 : Int32)) + (1 : Int32))), .val (.ref w3)] [(.ref w3)])) _
    refine st8 _ ?_
    show Steps p.tables e below (T8.setTop (mkF m 24 #[.val (.ref xs), .val (.ref vb), .val (.int (4 : Int32)), .val (.int ((((0 : Int32) + (1 : Int32)) + (1 : Int32)) + (1 : Int32))), .val (.ref w3)] [(.ref s3)])) _
    refine XS.aloadN X8.here hx rfl (hb hby d11_24) rfl rfl ?_
    show Steps p.tables e below (T8.setTop (mkF m 25 #[.val (.ref xs), .val (.ref vb), .val (.int (4 : Int32)), .val (.int ((((0 : Int32) + (1 : Int32)) + (1 : Int32)) + (1 : Int32))), .val (.ref w3)] [(.ref xs), (.ref s3)])) _
    refine st9.trans ?_
    show Steps p.tables e below (T9.setTop (mkF m 28 #[.val (.ref xs), .val (.ref vb), .val (.int (4 : Int32)), .val (.int ((((0 : Int32) + (1 : Int32)) + (1 : Int32)) + (1 : Int32))), .val (.ref w3)] [(.int (if own_d3 = cs then (1 : Int32) else 0))])) _
    refine XS.ifNo X9.here hx rfl (hb hby d11_28) rfl ((if0 _ _).trans (feq hc28_4).1) ?_
    show Steps p.tables e below (T9.setTop (mkF m 31 #[.val (.ref xs), .val (.ref vb), .val (.int (4 : Int32)), .val (.int ((((0 : Int32) + (1 : Int32)) + (1 : Int32)) + (1 : Int32))), .val (.ref w3)] [])) _
    refine XS.aload X9.here hx rfl (hb hby d11_31) rfl rfl ?_
    show Steps p.tables e below (T9.setTop (mkF m 33 #[.val (.ref xs), .val (.ref vb), .val (.int (4 : Int32)), .val (.int ((((0 : Int32) + (1 : Int32)) + (1 : Int32)) + (1 : Int32))), .val (.ref w3)] [(.ref w3)])) _
    refine st10 _ ?_
    show Steps p.tables e below (T10.setTop (mkF m 36 #[.val (.ref xs), .val (.ref vb), .val (.int (4 : Int32)), .val (.int ((((0 : Int32) + (1 : Int32)) + (1 : Int32)) + (1 : Int32))), .val (.ref w3)] [(.ref oo)])) _
    exact retOut X10 hx Bd.returns rfl (Or.inr (Or.inr (Or.inr (Or.inr ⟨rfl, rfl, rfl⟩)))) (hb hby d11_36) hr
  · show Qd9 Z xs tt em vA w0 w1 w2 w3 s0 s1 s2 s3 t0 t1 t2 t3 kb kA kb0 kb1 kb2 kb3 cs z h0 n0 _ T10.heap _
    exact ⟨oo, rfl, N10, K10, f10_0, by rw [hrole]; exact f10_1⟩
theorem d11_43 : decode prog_38_method_5_code 43 = .ok (.invokestatic 55, 3) := by decide +kernel
theorem own_pd5 : parseMethodDescriptor "()Ljava/util/Optional;" = some ⟨[], some (.object "java/util/Optional")⟩ := by decide +kernel
theorem d11_46 : decode prog_38_method_5_code 46 = .ok (.areturn, 1) := by decide +kernel
set_option maxRecDepth 65536 in
set_option maxHeartbeats 40000000 in
theorem rmW4 (l : Launch) (Z : State) (a0 : Array Value) (hw : ∀ d ∈ tables_1, d.before a0 Z = true) (ws : List Jvm.Cond) (xs tt em vA w0 w1 w2 w3 s0 s1 s2 s3 t0 t1 t2 t3 : Addr) (kb kA kb0 kb1 kb2 kb3 : ClassId) (cs : List Int32) (z : Int32) (h0 : Heap) (n0 : Nat) (O0 : Old Z n0 h0) (Ex : Exa Z h0 xs "java/lang/String") (Vx : Fld Z h0 xs "java/lang/String" "value" "[B" (.ref tt)) (Cx : Fld Z h0 xs "java/lang/String" "coder" "B" (.int 0)) (Kx : Arv Z h0 tt kb .byte (Int32.ofNat (cs).length) (((cs).map StrChars.lo8).map Value.int) (.int 0)) (SC : Sta Z Z.heap "java/lang/String" "COMPACT_STRINGS" "Z" (.int z)) (hz : ¬ z = 0) (SV : Sta Z Z.heap "com/example/lendloop/lendloop/core/TransactionRole" "$VALUES" "[Lcom/example/lendloop/lendloop/core/TransactionRole;" (.ref vA)) (VV : Arv Z Z.heap vA kA (.object "com/example/lendloop/lendloop/core/TransactionRole") (4 : Int32) [.ref w0, .ref w1, .ref w2, .ref w3] .null) (EV : Exa Z Z.heap vA "[Lcom/example/lendloop/lendloop/core/TransactionRole;") (SM : Sta Z Z.heap "java/util/Optional" "EMPTY" "Ljava/util/Optional;" (.ref em)) (EE : Exa Z Z.heap em "java/util/Optional") (FE : Fld Z Z.heap em "java/util/Optional" "value" "Ljava/lang/Object;" .null) (E0 : Exa Z Z.heap w0 "com/example/lendloop/lendloop/core/TransactionRole") (G0 : Fld Z Z.heap w0 "com/example/lendloop/lendloop/core/TransactionRole" "wireName" "Ljava/lang/String;" (.ref s0)) (Ex0 : Exa Z Z.heap s0 "java/lang/String") (Vx0 : Fld Z Z.heap s0 "java/lang/String" "value" "[B" (.ref t0)) (Cx0 : Fld Z Z.heap s0 "java/lang/String" "coder" "B" (.int 0)) (Kx0 : Arv Z Z.heap t0 kb0 .byte (Int32.ofNat (own_d0).length) (((own_d0).map StrChars.lo8).map Value.int) (.int 0)) (E1 : Exa Z Z.heap w1 "com/example/lendloop/lendloop/core/TransactionRole") (G1 : Fld Z Z.heap w1 "com/example/lendloop/lendloop/core/TransactionRole" "wireName" "Ljava/lang/String;" (.ref s1)) (Ex1 : Exa Z Z.heap s1 "java/lang/String") (Vx1 : Fld Z Z.heap s1 "java/lang/String" "value" "[B" (.ref t1)) (Cx1 : Fld Z Z.heap s1 "java/lang/String" "coder" "B" (.int 0)) (Kx1 : Arv Z Z.heap t1 kb1 .byte (Int32.ofNat (own_d1).length) (((own_d1).map StrChars.lo8).map Value.int) (.int 0)) (E2 : Exa Z Z.heap w2 "com/example/lendloop/lendloop/core/TransactionRole") (G2 : Fld Z Z.heap w2 "com/example/lendloop/lendloop/core/TransactionRole" "wireName" "Ljava/lang/String;" (.ref s2)) (Ex2 : Exa Z Z.heap s2 "java/lang/String") (Vx2 : Fld Z Z.heap s2 "java/lang/String" "value" "[B" (.ref t2)) (Cx2 : Fld Z Z.heap s2 "java/lang/String" "coder" "B" (.int 0)) (Kx2 : Arv Z Z.heap t2 kb2 .byte (Int32.ofNat (own_d2).length) (((own_d2).map StrChars.lo8).map Value.int) (.int 0)) (E3 : Exa Z Z.heap w3 "com/example/lendloop/lendloop/core/TransactionRole") (G3 : Fld Z Z.heap w3 "com/example/lendloop/lendloop/core/TransactionRole" "wireName" "Ljava/lang/String;" (.ref s3)) (Ex3 : Exa Z Z.heap s3 "java/lang/String") (Vx3 : Fld Z Z.heap s3 "java/lang/String" "value" "[B" (.ref t3)) (Cx3 : Fld Z Z.heap s3 "java/lang/String" "coder" "B" (.int 0)) (Kx3 : Arv Z Z.heap t3 kb3 .byte (Int32.ofNat (own_d3).length) (((own_d3).map StrChars.lo8).map Value.int) (.int 0)) (hg : own_good cs) (hc28 : (if own_d0 = cs then (1 : Int32) else 0) = (0 : Int32)) (hc28_2 : (if own_d1 = cs then (1 : Int32) else 0) = (0 : Int32)) (hc28_3 : (if own_d2 = cs then (1 : Int32) else 0) = (0 : Int32)) (hc28_4 : (if own_d3 = cs then (1 : Int32) else 0) = (0 : Int32)) :
    MetFree l (⟨"com/example/lendloop/lendloop/core/TransactionRole", "fromWireName", "(Ljava/lang/String;)Ljava/util/Optional;"⟩ : MethodName) (head1 (Jvm.Cond.code (⟨"com/example/lendloop/lendloop/core/TransactionRole", "fromWireName", "(Ljava/lang/String;)Ljava/util/Optional;"⟩ : MethodName) prog_38_method_5_code 5 (some (.object "java/util/Optional")) :: ws) ({ frames := 3, cells := 2, slots := 5, locals := 70 } : Room)) (fun qq U => qq = #[(.ref xs)] ∧ Z.Warmed39 U.vm ∧ U.heap = h0) (fun _ _ _ _ _ => True) (fun _ UU oo UU' => ∃ vv LL, oo = .returned vv ∧ Qd9 Z xs tt em vA w0 w1 w2 w3 s0 s1 s2 s3 t0 t1 t2 t3 kb kA kb0 kb1 kb2 kb3 cs z h0 n0 vv UU'.heap LL ∧ FrameEnd UU oo UU' LL ({ frames := 3, cells := 2, slots := 5, locals := 70 } : Room).cells ({ frames := 3, cells := 2, slots := 5, locals := 70 } : Room).slots) := by
  refine MetFree.of_bodySF (plainFor_of_name pn_11) hisR ?_
  intro p e s m args below meth c s₁ Bd hml0 hP hK
  obtain ⟨rfl, hZ, hh⟩ := hP
  have hx := Bd.exec
  have hby := Bd.bytes
  have hml : c.maxLocals = 5 := hml0
  have hown : s.vm.findClass "com/example/lendloop/lendloop/core/TransactionRole" = some m.cls := findClass_of_methodNamed Bd.named
  have hnm := (name_of_methodNamed Bd.named Bd.method).1
  have X0 : Stand p l e ({ frames := 3, cells := 2, slots := 5, locals := 70 } : Room) s m #[(.ref xs)] below meth c s₁ [] 0 0 := Stand.of_body Bd
  have e0 : s₁.heap = h0 := by rw [← hh, Bd.state]; rfl
  have N0 := Fr.nil n0
  have pre0 : ∀ tgt, Steps p.tables e below (s₁.setTop (mkF m 0 #[.val (.ref xs), .unset, .unset, .unset, .unset] [])) tgt → Steps p.tables e below (s₁.setTop (entryFrame m #[(.ref xs)] 5)) tgt := fun tt kk => castTop (ef_11 m xs) kk
  obtain ⟨_, _, ⟨T1, L1, k1, n1⟩, -, X1, ⟨Lc1, hQ1, l1, y1, z1⟩, st1⟩ := Jvm.LawKit.callS X0 hx (y := (⟨"com/example/lendloop/lendloop/core/TransactionRole", "values", "()[Lcom/example/lendloop/lendloop/core/TransactionRole;"⟩ : MethodName)) hown (mvT hZ (ww hw 56 rfl)) (mvT hZ (ww hw 57 rfl)) (mvT hZ (ww hw 51 rfl)) (mvT hZ (ww hw 58 rfl)) (by decide) (backOf (W := 0) (rmV l Z a0 hw [] vA w0 w1 w2 w3 kA h0 n0 O0 SV VV EV) hZ (ww hw 58 rfl) (ww hw 51 rfl) (by decide) (by decide)) (g := (mkF m 0 #[.val (.ref xs), .unset, .unset, .unset, .unset] [])) rfl (by rw [hml]; rfl) (argsL := []) (rest := []) (lenOf own_pd3 rfl) rfl (by show 2 * 0 + _ ≤ _; exact Nat.le_of_eq rfl) (hb hby d11_0) (fun _ _ => ⟨rfl, e0, (by decide : 0 + 1 ≤ _), (by decide : 0 + 4 ≤ _)⟩)
  dsimp only [Pt.U, Pt.locs, Pt.cells, Pt.slots] at X1 l1 y1 z1 st1 hQ1
  subst l1 y1 z1
  obtain ⟨vb, rfl, N1q, KK1, g_b, VB⟩ := hQ1
  have N1 := Fr.app N0 N1q
  have O1 := Old.keep O0 KK1 all0
  have K1 := Keep.trans (Keep.refl h0 []) KK1 all0
  obtain ⟨cl, Ar, qk, Sz, Mz, Hz, Uz⟩ := VB
  have hin0 : ¬ ((0 : Int32) < 0 ∨ cl.slots.size ≤ ((0 : Int32)).toNatClampNeg) := by rw [Sz]; decide
  have hat0 : cl.slots[((0 : Int32)).toNatClampNeg]? = some (.ref w0) := Hz 0 (by rw [Sz]; decide)
  obtain ⟨T2, X2, e2, st2⟩ := getF X1 hx hZ hown (host := "") (Or.inl (ww hw 74 rfl)) Via.refl rfl (G0.ext O1.2) (g := (mkF m 21 #[.val (.ref xs), .val (.ref vb), .val (.int (4 : Int32)), .val (.int (0 : Int32)), .val (.ref w0)] [(.ref w0)])) rfl rfl (hb hby d11_21)
  obtain ⟨cq3, kq3, q3a, q3b, q3c⟩ := isOf hZ e2 (Ex0.ext O1.2)
  obtain ⟨_, _, ⟨T3, L3, k3, n3⟩, -, X3, ⟨Lc3, hQ3, l3, y3, z3⟩, st3⟩ := X2.virtualBack hx (y := (⟨"java/lang/String", "equals", "(Ljava/lang/Object;)Z"⟩ : MethodName)) (z := (⟨"java/lang/String", "equals", "(Ljava/lang/Object;)Z"⟩ : MethodName)) hown (mvT hZ (ww hw 76 rfl)) (mvT hZ (ww hw 41 rfl)) (notFace_of_selects (args := #[]) (mvT hZ (ww hw 43 rfl))) (mvT hZ (ww hw 43 rfl)) (mvT hZ (ww hw 42 rfl)) (by decide) (own_bk (n0 := n0) own_eqv (StrChars.Road.eqW (W := 0) hZ (own_wQ hw) (kI := 4) (ww hw 6 rfl) (Ex0.ext O1.2) (Vx0.ext O1.2) (Cx0.ext O1.2) (Kx0.ext O1.2) (own_cd own_gd0) (own_hb own_gd0) (Nat.le_trans own_gd0.1 (by decide)) (Ex.keep KK1) (Vx.keep KK1 nin0) (Cx.keep KK1 nin0) (Kx.keep KK1 nin0) (own_cd hg) (own_hb hg) (Nat.le_trans hg.1 (by decide)) (Sta.ext O1.2 SC) hz (by decide) (by decide))) q3a q3c (g := (mkF m 25 #[.val (.ref xs), .val (.ref vb), .val (.int (4 : Int32)), .val (.int (0 : Int32)), .val (.ref w0)] [(.ref xs), (.ref s0)])) rfl (by rw [hml]; rfl) (Steps.refl _) (argsL := [(.ref xs)]) (rest := []) (lenOf own_pd0 rfl) rfl (by show 2 * 0 + _ ≤ _; exact Nat.le_of_eq rfl) (hb hby d11_25) (fun _ _ => ⟨rfl, e2, (by decide : 1 + 0 ≤ _), (by decide : 4 + 0 ≤ _)⟩)
  dsimp only [Pt.U, Pt.locs, Pt.cells, Pt.slots] at X3 l3 y3 z3 st3 hQ3
  subst l3 y3 z3
  obtain ⟨rfl, N3q, e3⟩ := hQ3
  have N3 := Fr.app N1 N3q
  have hin1 : ¬ (((0 : Int32) + (1 : Int32)) < 0 ∨ cl.slots.size ≤ (((0 : Int32) + (1 : Int32))).toNatClampNeg) := by rw [Sz]; decide
  have hat1 : cl.slots[(((0 : Int32) + (1 : Int32))).toNatClampNeg]? = some (.ref w1) := Hz 1 (by rw [Sz]; decide)
  obtain ⟨T4, X4, e4, st4⟩ := getF X3 hx hZ hown (host := "") (Or.inl (ww hw 74 rfl)) Via.refl e3 (G1.ext O1.2) (g := (mkF m 21 #[.val (.ref xs), .val (.ref vb), .val (.int (4 : Int32)), .val (.int ((0 : Int32) + (1 : Int32))), .val (.ref w1)] [(.ref w1)])) rfl rfl (hb hby d11_21)
  obtain ⟨cq5, kq5, q5a, q5b, q5c⟩ := isOf hZ e4 (Ex1.ext O1.2)
  obtain ⟨_, _, ⟨T5, L5, k5, n5⟩, -, X5, ⟨Lc5, hQ5, l5, y5, z5⟩, st5⟩ := X4.virtualBack hx (y := (⟨"java/lang/String", "equals", "(Ljava/lang/Object;)Z"⟩ : MethodName)) (z := (⟨"java/lang/String", "equals", "(Ljava/lang/Object;)Z"⟩ : MethodName)) hown (mvT hZ (ww hw 76 rfl)) (mvT hZ (ww hw 41 rfl)) (notFace_of_selects (args := #[]) (mvT hZ (ww hw 43 rfl))) (mvT hZ (ww hw 43 rfl)) (mvT hZ (ww hw 42 rfl)) (by decide) (own_bk (n0 := n0) own_eqv (StrChars.Road.eqW (W := 0) hZ (own_wQ hw) (kI := 4) (ww hw 6 rfl) (Ex1.ext O1.2) (Vx1.ext O1.2) (Cx1.ext O1.2) (Kx1.ext O1.2) (own_cd own_gd1) (own_hb own_gd1) (Nat.le_trans own_gd1.1 (by decide)) (Ex.keep KK1) (Vx.keep KK1 nin0) (Cx.keep KK1 nin0) (Kx.keep KK1 nin0) (own_cd hg) (own_hb hg) (Nat.le_trans hg.1 (by decide)) (Sta.ext O1.2 SC) hz (by decide) (by decide))) q5a q5c (g := (mkF m 25 #[.val (.ref xs), .val (.ref vb), .val (.int (4 : Int32)), .val (.int ((0 : Int32) + (1 : Int32))), .val (.ref w1)] [(.ref xs), (.ref s1)])) rfl (by rw [hml]; rfl) (Steps.refl _) (argsL := [(.ref xs)]) (rest := []) (lenOf own_pd0 rfl) rfl (by show 2 * 0 + _ ≤ _; exact Nat.le_of_eq rfl) (hb hby d11_25) (fun _ _ => ⟨rfl, e4, (by decide : 1 + 0 ≤ _), (by decide : 4 + 0 ≤ _)⟩)
  dsimp only [Pt.U, Pt.locs, Pt.cells, Pt.slots] at X5 l5 y5 z5 st5 hQ5
  subst l5 y5 z5
  obtain ⟨rfl, N5q, e5⟩ := hQ5
  have N5 := Fr.app N3 N5q
  have hin2 : ¬ ((((0 : Int32) + (1 : Int32)) + (1 : Int32)) < 0 ∨ cl.slots.size ≤ ((((0 : Int32) + (1 : Int32)) + (1 : Int32))).toNatClampNeg) := by rw [Sz]; decide
  have hat2 : cl.slots[((((0 : Int32) + (1 : Int32)) + (1 : Int32))).toNatClampNeg]? = some (.ref w2) := Hz 2 (by rw [Sz]; decide)
  obtain ⟨T6, X6, e6, st6⟩ := getF X5 hx hZ hown (host := "") (Or.inl (ww hw 74 rfl)) Via.refl e5 (G2.ext O1.2) (g := (mkF m 21 #[.val (.ref xs), .val (.ref vb), .val (.int (4 : Int32)), .val (.int (((0 : Int32) + (1 : Int32)) + (1 : Int32))), .val (.ref w2)] [(.ref w2)])) rfl rfl (hb hby d11_21)
  obtain ⟨cq7, kq7, q7a, q7b, q7c⟩ := isOf hZ e6 (Ex2.ext O1.2)
  obtain ⟨_, _, ⟨T7, L7, k7, n7⟩, -, X7, ⟨Lc7, hQ7, l7, y7, z7⟩, st7⟩ := X6.virtualBack hx (y := (⟨"java/lang/String", "equals", "(Ljava/lang/Object;)Z"⟩ : MethodName)) (z := (⟨"java/lang/String", "equals", "(Ljava/lang/Object;)Z"⟩ : MethodName)) hown (mvT hZ (ww hw 76 rfl)) (mvT hZ (ww hw 41 rfl)) (notFace_of_selects (args := #[]) (mvT hZ (ww hw 43 rfl))) (mvT hZ (ww hw 43 rfl)) (mvT hZ (ww hw 42 rfl)) (by decide) (own_bk (n0 := n0) own_eqv (StrChars.Road.eqW (W := 0) hZ (own_wQ hw) (kI := 4) (ww hw 6 rfl) (Ex2.ext O1.2) (Vx2.ext O1.2) (Cx2.ext O1.2) (Kx2.ext O1.2) (own_cd own_gd2) (own_hb own_gd2) (Nat.le_trans own_gd2.1 (by decide)) (Ex.keep KK1) (Vx.keep KK1 nin0) (Cx.keep KK1 nin0) (Kx.keep KK1 nin0) (own_cd hg) (own_hb hg) (Nat.le_trans hg.1 (by decide)) (Sta.ext O1.2 SC) hz (by decide) (by decide))) q7a q7c (g := (mkF m 25 #[.val (.ref xs), .val (.ref vb), .val (.int (4 : Int32)), .val (.int (((0 : Int32) + (1 : Int32)) + (1 : Int32))), .val (.ref w2)] [(.ref xs), (.ref s2)])) rfl (by rw [hml]; rfl) (Steps.refl _) (argsL := [(.ref xs)]) (rest := []) (lenOf own_pd0 rfl) rfl (by show 2 * 0 + _ ≤ _; exact Nat.le_of_eq rfl) (hb hby d11_25) (fun _ _ => ⟨rfl, e6, (by decide : 1 + 0 ≤ _), (by decide : 4 + 0 ≤ _)⟩)
  dsimp only [Pt.U, Pt.locs, Pt.cells, Pt.slots] at X7 l7 y7 z7 st7 hQ7
  subst l7 y7 z7
  obtain ⟨rfl, N7q, e7⟩ := hQ7
  have N7 := Fr.app N5 N7q
  have hin3 : ¬ (((((0 : Int32) + (1 : Int32)) + (1 : Int32)) + (1 : Int32)) < 0 ∨ cl.slots.size ≤ (((((0 : Int32) + (1 : Int32)) + (1 : Int32)) + (1 : Int32))).toNatClampNeg) := by rw [Sz]; decide
  have hat3 : cl.slots[(((((0 : Int32) + (1 : Int32)) + (1 : Int32)) + (1 : Int32))).toNatClampNeg]? = some (.ref w3) := Hz 3 (by rw [Sz]; decide)
  obtain ⟨T8, X8, e8, st8⟩ := getF X7 hx hZ hown (host := "") (Or.inl (ww hw 74 rfl)) Via.refl e7 (G3.ext O1.2) (g := (mkF m 21 #[.val (.ref xs), .val (.ref vb), .val (.int (4 : Int32)), .val (.int ((((0 : Int32) + (1 : Int32)) + (1 : Int32)) + (1 : Int32))), .val (.ref w3)] [(.ref w3)])) rfl rfl (hb hby d11_21)
  obtain ⟨cq9, kq9, q9a, q9b, q9c⟩ := isOf hZ e8 (Ex3.ext O1.2)
  obtain ⟨_, _, ⟨T9, L9, k9, n9⟩, -, X9, ⟨Lc9, hQ9, l9, y9, z9⟩, st9⟩ := X8.virtualBack hx (y := (⟨"java/lang/String", "equals", "(Ljava/lang/Object;)Z"⟩ : MethodName)) (z := (⟨"java/lang/String", "equals", "(Ljava/lang/Object;)Z"⟩ : MethodName)) hown (mvT hZ (ww hw 76 rfl)) (mvT hZ (ww hw 41 rfl)) (notFace_of_selects (args := #[]) (mvT hZ (ww hw 43 rfl))) (mvT hZ (ww hw 43 rfl)) (mvT hZ (ww hw 42 rfl)) (by decide) (own_bk (n0 := n0) own_eqv (StrChars.Road.eqW (W := 0) hZ (own_wQ hw) (kI := 4) (ww hw 6 rfl) (Ex3.ext O1.2) (Vx3.ext O1.2) (Cx3.ext O1.2) (Kx3.ext O1.2) (own_cd own_gd3) (own_hb own_gd3) (Nat.le_trans own_gd3.1 (by decide)) (Ex.keep KK1) (Vx.keep KK1 nin0) (Cx.keep KK1 nin0) (Kx.keep KK1 nin0) (own_cd hg) (own_hb hg) (Nat.le_trans hg.1 (by decide)) (Sta.ext O1.2 SC) hz (by decide) (by decide))) q9a q9c (g := (mkF m 25 #[.val (.ref xs), .val (.ref vb), .val (.int (4 : Int32)), .val (.int ((((0 : Int32) + (1 : Int32)) + (1 : Int32)) + (1 : Int32))), .val (.ref w3)] [(.ref xs), (.ref s3)])) rfl (by rw [hml]; rfl) (Steps.refl _) (argsL := [(.ref xs)]) (rest := []) (lenOf own_pd0 rfl) rfl (by show 2 * 0 + _ ≤ _; exact Nat.le_of_eq rfl) (hb hby d11_25) (fun _ _ => ⟨rfl, e8, (by decide : 1 + 0 ≤ _), (by decide : 4 + 0 ≤ _)⟩)
  dsimp only [Pt.U, Pt.locs, Pt.cells, Pt.slots] at X9 l9 y9 z9 st9 hQ9
  subst l9 y9 z9
  obtain ⟨rfl, N9q, e9⟩ := hQ9
  have N9 := Fr.app N7 N9q
  obtain ⟨_, _, ⟨T10, L10, k10, n10⟩, -, X10, ⟨Lc10, hQ10, l10, y10, z10⟩, st10⟩ := Jvm.LawKit.callS X9 hx (y := (⟨"java/util/Optional", "empty", "()Ljava/util/Optional;"⟩ : MethodName)) hown (mvT hZ (ww hw 108 rfl)) (mvT hZ (ww hw 109 rfl)) (mvT hZ (ww hw 79 rfl)) (mvT hZ (ww hw 110 rfl)) (by decide) (backOf (W := 0) (rmOE l Z a0 hw [] em T1.heap n0 O1 SM EE FE) hZ (ww hw 110 rfl) (ww hw 79 rfl) (by decide) (by decide)) (g := (mkF m 43 #[.val (.ref xs), .val (.ref vb), .val (.int (4 : Int32)), .val (.int (((((0 : Int32) + (1 : Int32)) + (1 : Int32)) + (1 : Int32)) + (1 : Int32))), .val (.ref w3)] [])) rfl (by rw [hml]; rfl) (argsL := []) (rest := []) (lenOf own_pd5 rfl) rfl (by show 2 * 0 + _ ≤ _; exact Nat.le_of_eq rfl) (hb hby d11_43) (fun _ _ => ⟨rfl, e9, (by decide : 1 + 0 ≤ _), (by decide : 4 + 0 ≤ _)⟩)
  dsimp only [Pt.U, Pt.locs, Pt.cells, Pt.slots] at X10 l10 y10 z10 st10 hQ10
  subst l10 y10 z10
  obtain ⟨rfl, N10q, e10⟩ := hQ10
  have N10 := Fr.app N9 N10q
  have hrole : own_role cs w0 w1 w2 w3 = .null := by rw [own_role, if_neg (fun q => own_f hc28 q.symm), if_neg (fun q => own_f hc28_2 q.symm), if_neg (fun q => own_f hc28_3 q.symm), if_neg (fun q => own_f hc28_4 q.symm)]
  obtain ⟨fs, hr, hrun, hended, hW, hsame⟩ := X10.leave (v := some (.ref em)) (fun h => by rw [Bd.returns] at h; cases h)
  refine ⟨_, _, pre0 _ ?_, hrun, hended, _, _, rfl, ?_, ⟨_, rfl⟩, hW, hsame.mono (by decide) (by decide)⟩
  · show Steps p.tables e below (s₁.setTop (mkF m 0 #[.val (.ref xs), .unset, .unset, .unset, .unset] [])) _
    refine st1 _ ?_
    show Steps p.tables e below (T1.setTop (mkF m 3 #[.val (.ref xs), .unset, .unset, .unset, .unset] [(.ref vb)])) _
    refine XS.astoreN X1.here hx rfl (hb hby d11_3) rfl rfl (l' := #[.val (.ref xs), .val (.ref vb), .unset, .unset, .unset]) rfl ?_
    show Steps p.tables e below (T1.setTop (mkF m 4 #[.val (.ref xs), .val (.ref vb), .unset, .unset, .unset] [])) _
    refine XS.aloadN X1.here hx rfl (hb hby d11_4) rfl rfl ?_
    show Steps p.tables e below (T1.setTop (mkF m 5 #[.val (.ref xs), .val (.ref vb), .unset, .unset, .unset] [(.ref vb)])) _
    refine X1.arraylength hx Ar.1 (State.isArrayOf_alike hZ.alike Ar.2.1) (g := (mkF m 5 #[.val (.ref xs), .val (.ref vb), .unset, .unset, .unset] [(.ref vb)])) rfl rfl (hb hby d11_5) _ ?_
    rw [len_of Sz Mz]
    show Steps p.tables e below (T1.setTop (mkF m 6 #[.val (.ref xs), .val (.ref vb), .unset, .unset, .unset] [(.int (4 : Int32))])) _
    refine XS.istoreN X1.here hx rfl (hb hby d11_6) rfl (l' := #[.val (.ref xs), .val (.ref vb), .val (.int (4 : Int32)), .unset, .unset]) rfl ?_
    show Steps p.tables e below (T1.setTop (mkF m 7 #[.val (.ref xs), .val (.ref vb), .val (.int (4 : Int32)), .unset, .unset] [])) _
    refine XS.iconst X1.here hx rfl (hb hby d11_7) ?_
    show Steps p.tables e below (T1.setTop (mkF m 8 #[.val (.ref xs), .val (.ref vb), .val (.int (4 : Int32)), .unset, .unset] [(.int (0 : Int32))])) _
    refine XS.istoreN X1.here hx rfl (hb hby d11_8) rfl (l' := #[.val (.ref xs), .val (.ref vb), .val (.int (4 : Int32)), .val (.int (0 : Int32)), .unset]) rfl ?_
    show Steps p.tables e below (T1.setTop (mkF m 9 #[.val (.ref xs), .val (.ref vb), .val (.int (4 : Int32)), .val (.int (0 : Int32)), .unset] [])) _
    refine XS.iloadN X1.here hx rfl (hb hby d11_9) rfl ?_
    show Steps p.tables e below (T1.setTop (mkF m 10 #[.val (.ref xs), .val (.ref vb), .val (.int (4 : Int32)), .val (.int (0 : Int32)), .unset] [(.int (0 : Int32))])) _
    refine XS.iloadN X1.here hx rfl (hb hby d11_10) rfl ?_
    show Steps p.tables e below (T1.setTop (mkF m 11 #[.val (.ref xs), .val (.ref vb), .val (.int (4 : Int32)), .val (.int (0 : Int32)), .unset] [(.int (4 : Int32)), (.int (0 : Int32))])) _
    refine XS.icmpNo X1.here hx rfl (hb hby d11_11) rfl (tlt (by decide : (0 : Int32) < (4 : Int32))).2.1 ?_
    show Steps p.tables e below (T1.setTop (mkF m 14 #[.val (.ref xs), .val (.ref vb), .val (.int (4 : Int32)), .val (.int (0 : Int32)), .unset] [])) _
    refine XS.aloadN X1.here hx rfl (hb hby d11_14) rfl rfl ?_
    show Steps p.tables e below (T1.setTop (mkF m 15 #[.val (.ref xs), .val (.ref vb), .val (.int (4 : Int32)), .val (.int (0 : Int32)), .unset] [(.ref vb)])) _
    refine XS.iloadN X1.here hx rfl (hb hby d11_15) rfl ?_
    show Steps p.tables e below (T1.setTop (mkF m 16 #[.val (.ref xs), .val (.ref vb), .val (.int (4 : Int32)), .val (.int (0 : Int32)), .unset] [(.int (0 : Int32)), (.ref vb)])) _
    refine X1.aaload hx (j := (0 : Int32)) (v := (.ref w0)) Ar.1 (State.isArrayOf_alike hZ.alike Ar.2.1) rfl Ar.2.2 hin0 hat0 (g := (mkF m 16 #[.val (.ref xs), .val (.ref vb), .val (.int (4 : Int32)), .val (.int (0 : Int32)), .unset] [(.int (0 : Int32)), (.ref vb)])) rfl rfl (hb hby d11_16) _ ?_
    show Steps p.tables e below (T1.setTop (mkF m 17 #[.val (.ref xs), .val (.ref vb), .val (.int (4 : Int32)), .val (.int (0 : Int32)), .unset] [(.ref w0)])) _
    refine XS.astore X1.here hx rfl (hb hby d11_17) rfl rfl (l' := #[.val (.ref xs), .val (.ref vb), .val (.int (4 : Int32)), .val (.int (0 : Int32)), .val (.ref w0)]) rfl ?_
    show Steps p.tables e below (T1.setTop (mkF m 19 #[.val (.ref xs), .val (.ref vb), .val (.int (4 : Int32)), .val (.int (0 : Int32)), .val (.ref w0)] [])) _
    refine XS.aload X1.here hx rfl (hb hby d11_19) rfl rfl ?_
    show Steps p.tables e below (T1.setTop (mkF m 21 #[.val (.ref xs), .val (.ref vb), .val (.int (4 : Int32)), .val (.int (0 : Int32)), .val (.ref w0)] [(.ref w0)])) _
    refine st2 _ ?_
    show Steps p.tables e below (T2.setTop (mkF m 24 #[.val (.ref xs), .val (.ref vb), .val (.int (4 : Int32)), .val (.int (0 : Int32)), .val (.ref w0)] [(.ref s0)])) _
    refine XS.aloadN X2.here hx rfl (hb hby d11_24) rfl rfl ?_
    show Steps p.tables e below (T2.setTop (mkF m 25 #[.val (.ref xs), .val (.ref vb), .val (.int (4 : Int32)), .val (.int (0 : Int32)), .val (.ref w0)] [(.ref xs), (.ref s0)])) _
    refine st3.trans ?_
    show Steps p.tables e below (T3.setTop (mkF m 28 #[.val (.ref xs), .val (.ref vb), .val (.int (4 : Int32)), .val (.int (0 : Int32)), .val (.ref w0)] [(.int (if own_d0 = cs then (1 : Int32) else 0))])) _
    refine XS.ifYes X3.here hx rfl (pc0 := 28) (pc' := 37) rfl (hb hby d11_28) rfl ((if0 _ _).trans (teq hc28).1) (by decide) (by decide) ?_
    show Steps p.tables e below (T3.setTop (mkF m 37 #[.val (.ref xs), .val (.ref vb), .val (.int (4 : Int32)), .val (.int (0 : Int32)), .val (.ref w0)] [])) _
    refine XS.iinc X3.here hx rfl (hb hby d11_37) rfl (l' := #[.val (.ref xs), .val (.ref vb), .val (.int (4 : Int32)), .val (.int ((0 : Int32) + (1 : Int32))), .val (.ref w0)]) rfl ?_
    show Steps p.tables e below (T3.setTop (mkF m 40 #[.val (.ref xs), .val (.ref vb), .val (.int (4 : Int32)), .val (.int ((0 : Int32) + (1 : Int32))), .val (.ref w0)] [])) _
    refine XS.goto X3.here hx rfl (pc0 := 40) (pc' := 9) rfl (hb hby d11_40) (by decide) (by decide) ?_
    show Steps p.tables e below (T3.setTop (mkF m 9 #[.val (.ref xs), .val (.ref vb), .val (.int (4 : Int32)), .val (.int ((0 : Int32) + (1 : Int32))), .val (.ref w0)] [])) _
    refine XS.iloadN X3.here hx rfl (hb hby d11_9) rfl ?_
    show Steps p.tables e below (T3.setTop (mkF m 10 #[.val (.ref xs), .val (.ref vb), .val (.int (4 : Int32)), .val (.int ((0 : Int32) + (1 : Int32))), .val (.ref w0)] [(.int ((0 : Int32) + (1 : Int32)))])) _
    refine XS.iloadN X3.here hx rfl (hb hby d11_10) rfl ?_
    show Steps p.tables e below (T3.setTop (mkF m 11 #[.val (.ref xs), .val (.ref vb), .val (.int (4 : Int32)), .val (.int ((0 : Int32) + (1 : Int32))), .val (.ref w0)] [(.int (4 : Int32)), (.int ((0 : Int32) + (1 : Int32)))])) _
    refine XS.icmpNo X3.here hx rfl (hb hby d11_11) rfl (tlt (by decide : ((0 : Int32) + (1 : Int32)) < (4 : Int32))).2.1 ?_
    show Steps p.tables e below (T3.setTop (mkF m 14 #[.val (.ref xs), .val (.ref vb), .val (.int (4 : Int32)), .val (.int ((0 : Int32) + (1 : Int32))), .val (.ref w0)] [])) _
    refine XS.aloadN X3.here hx rfl (hb hby d11_14) rfl rfl ?_
    show Steps p.tables e below (T3.setTop (mkF m 15 #[.val (.ref xs), .val (.ref vb), .val (.int (4 : Int32)), .val (.int ((0 : Int32) + (1 : Int32))), .val (.ref w0)] [(.ref vb)])) _
    refine XS.iloadN X3.here hx rfl (hb hby d11_15) rfl ?_
    show Steps p.tables e below (T3.setTop (mkF m 16 #[.val (.ref xs), .val (.ref vb), .val (.int (4 : Int32)), .val (.int ((0 : Int32) + (1 : Int32))), .val (.ref w0)] [(.int ((0 : Int32) + (1 : Int32))), (.ref vb)])) _
    refine X3.aaload hx (j := ((0 : Int32) + (1 : Int32))) (v := (.ref w1)) (by rw [e3]; exact Ar.1) (State.isArrayOf_alike hZ.alike Ar.2.1) rfl Ar.2.2 hin1 hat1 (g := (mkF m 16 #[.val (.ref xs), .val (.ref vb), .val (.int (4 : Int32)), .val (.int ((0 : Int32) + (1 : Int32))), .val (.ref w0)] [(.int ((0 : Int32) + (1 : Int32))), (.ref vb)])) rfl rfl (hb hby d11_16) _ ?_
    show Steps p.tables e below (T3.setTop (mkF m 17 #[.val (.ref xs), .val (.ref vb), .val (.int (4 : Int32)), .val (.int ((0 : Int32) + (1 : Int32))), .val (.ref w0)] [(.ref w1)])) _
    refine XS.astore X3.here hx rfl (hb hby d11_17) rfl rfl (l' := #[.val (.ref xs), .val (.ref vb), .val (.int (4 : Int32)), .val (.int ((0 : Int32) + (1 : Int32))), .val (.ref w1)]) rfl ?_
    show Steps p.tables e below (T3.setTop (mkF m 19 #[.val (.ref xs), .val (.ref vb), .val (.int (4 : Int32)), .val (.int ((0 : Int32) + (1 : Int32))), .val (.ref w1)] [])) _
    refine XS.aload X3.here hx rfl (hb hby d11_19) rfl rfl ?_
    show Steps p.tables e below (T3.setTop (mkF m 21 #[.val (.ref xs), .val (.ref vb), .val (.int (4 : Int32)), .val (.int ((0 : Int32) + (1 : Int32))), .val (.ref w1)] [(.ref w1)])) _
    refine st4 _ ?_
    show Steps p.tables e below (T4.setTop (mkF m 24 #[.val (.ref xs), .val (.ref vb), .val (.int (4 : Int32)), .val (.int ((0 : Int32) + (1 : Int32))), .val (.ref w1)] [(.ref s1)])) _
    refine XS.aloadN X4.here hx rfl (hb hby d11_24) rfl rfl ?_
    show Steps p.tables e below (T4.setTop (mkF m 25 #[.val (.ref xs), .val (.ref vb), .val (.int (4 : Int32)), .val (.int ((0 : Int32) + (1 : Int32))), .val (.ref w1)] [(.ref xs), (.ref s1)])) _
    refine st5.trans ?_
    show Steps p.tables e below (T5.setTop (mkF m 28 #[.val (.ref xs), .val (.ref vb), .val (.int (4 : Int32)), .val (.int ((0 : Int32) + (1 : Int32))), .val (.ref w1)] [(.int (if own_d1 = cs then (1 : Int32) else 0))])) _
    refine XS.ifYes X5.here hx rfl (pc0 := 28) (pc' := 37) rfl (hb hby d11_28) rfl ((if0 _ _).trans (teq hc28_2).1) (by decide) (by decide) ?_
    show Steps p.tables e below (T5.setTop (mkF m 37 #[.val (.ref xs), .val (.ref vb), .val (.int (4 : Int32)), .val (.int ((0 : Int32) + (1 : Int32))), .val (.ref w1)] [])) _
    refine XS.iinc X5.here hx rfl (hb hby d11_37) rfl (l' := #[.val (.ref xs), .val (.ref vb), .val (.int (4 : Int32)), .val (.int (((0 : Int32) + (1 : Int32)) + (1 : Int32))), .val (.ref w1)]) rfl ?_
    show Steps p.tables e below (T5.setTop (mkF m 40 #[.val (.ref xs), .val (.ref vb), .val (.int (4 : Int32)), .val (.int (((0 : Int32) + (1 : Int32)) + (1 : Int32))), .val (.ref w1)] [])) _
    refine XS.goto X5.here hx rfl (pc0 := 40) (pc' := 9) rfl (hb hby d11_40) (by decide) (by decide) ?_
    show Steps p.tables e below (T5.setTop (mkF m 9 #[.val (.ref xs), .val (.ref vb), .val (.int (4 : Int32)), .val (.int (((0 : Int32) + (1 : Int32)) + (1 : Int32))), .val (.ref w1)] [])) _
    refine XS.iloadN X5.here hx rfl (hb hby d11_9) rfl ?_
    show Steps p.tables e below (T5.setTop (mkF m 10 #[.val (.ref xs), .val (.ref vb), .val (.int (4 : Int32)), .val (.int (((0 : Int32) + (1 : Int32)) + (1 : Int32))), .val (.ref w1)] [(.int (((0 : Int32) + (1 : Int32)) + (1 : Int32)))])) _
    refine XS.iloadN X5.here hx rfl (hb hby d11_10) rfl ?_
    show Steps p.tables e below (T5.setTop (mkF m 11 #[.val (.ref xs), .val (.ref vb), .val (.int (4 : Int32)), .val (.int (((0 : Int32) + (1 : Int32)) + (1 : Int32))), .val (.ref w1)] [(.int (4 : Int32)), (.int (((0 : Int32) + (1 : Int32)) + (1 : Int32)))])) _
    refine XS.icmpNo X5.here hx rfl (hb hby d11_11) rfl (tlt (by decide : (((0 : Int32) + (1 : Int32)) + (1 : Int32)) < (4 : Int32))).2.1 ?_
    show Steps p.tables e below (T5.setTop (mkF m 14 #[.val (.ref xs), .val (.ref vb), .val (.int (4 : Int32)), .val (.int (((0 : Int32) + (1 : Int32)) + (1 : Int32))), .val (.ref w1)] [])) _
    refine XS.aloadN X5.here hx rfl (hb hby d11_14) rfl rfl ?_
    show Steps p.tables e below (T5.setTop (mkF m 15 #[.val (.ref xs), .val (.ref vb), .val (.int (4 : Int32)), .val (.int (((0 : Int32) + (1 : Int32)) + (1 : Int32))), .val (.ref w1)] [(.ref vb)])) _
    refine XS.iloadN X5.here hx rfl (hb hby d11_15) rfl ?_
    show Steps p.tables e below (T5.setTop (mkF m 16 #[.val (.ref xs), .val (.ref vb), .val (.int (4 : Int32)), .val (.int (((0 : Int32) + (1 : Int32)) + (1 : Int32))), .val (.ref w1)] [(.int (((0 : Int32) + (1 : Int32)) + (1 : Int32))), (.ref vb)])) _
    refine X5.aaload hx (j := (((0 : Int32) + (1 : Int32)) + (1 : Int32))) (v := (.ref w2)) (by rw [e5]; exact Ar.1) (State.isArrayOf_alike hZ.alike Ar.2.1) rfl Ar.2.2 hin2 hat2 (g := (mkF m 16 #[.val (.ref xs), .val (.ref vb), .val (.int (4 : Int32)), .val (.int (((0 : Int32) + (1 : Int32)) + (1 : Int32))), .val (.ref w1)] [(.int (((0 : Int32) + (1 : Int32)) + (1 : Int32))), (.ref vb)])) rfl rfl (hb hby d11_16) _ ?_
    show Steps p.tables e below (T5.setTop (mkF m 17 #[.val (.ref xs), .val (.ref vb), .val (.int (4 : Int32)), .val (.int (((0 : Int32) + (1 : Int32)) + (1 : Int32))), .val (.ref w1)] [(.ref w2)])) _
    refine XS.astore X5.here hx rfl (hb hby d11_17) rfl rfl (l' := #[.val (.ref xs), .val (.ref vb), .val (.int (4 : Int32)), .val (.int (((0 : Int32) + (1 : Int32)) + (1 : Int32))), .val (.ref w2)]) rfl ?_
    show Steps p.tables e below (T5.setTop (mkF m 19 #[.val (.ref xs), .val (.ref vb), .val (.int (4 : Int32)), .val (.int (((0 : Int32) + (1 : Int32)) + (1 : Int32))), .val (.ref w2)] [])) _
    refine XS.aload X5.here hx rfl (hb hby d11_19) rfl rfl ?_
    show Steps p.tables e below (T5.setTop (mkF m 21 #[.val (.ref xs), .val (.ref vb), .val (.int (4 : Int32)), .val (.int (((0 : Int32) + (1 : Int32)) + (1 : Int32))), .val (.ref w2)] [(.ref w2)])) _
    refine st6 _ ?_
    show Steps p.tables e below (T6.setTop (mkF m 24 #[.val (.ref xs), .val (.ref vb), .val (.int (4 : Int32)), .val (.int (((0 : Int32) + (1 : Int32)) + (1 : Int32))), .val (.ref w2)] [(.ref s2)])) _
    refine XS.aloadN X6.here hx rfl (hb hby d11_24) rfl rfl ?_
    show Steps p.tables e below (T6.setTop (mkF m 25 #[.val (.ref xs), .val (.ref vb), .val (.int (4 : Int32)), .val (.int (((0 : Int32) + (1 : Int32)) + (1 : Int32))), .val (.ref w2)] [(.ref xs), (.ref s2)])) _
    refine st7.trans ?_
    show Steps p.tables e below (T7.setTop (mkF m 28 #[.val (.ref xs), .val (.ref vb), .val (.int (4 : Int32)), .val (.int (((0 : Int32) + (1 : Int32)) + (1 : Int32))), .val (.ref w2)] [(.int (if own_d2 = cs then (1 : Int32) else 0))])) _
    refine XS.ifYes X7.here hx rfl (pc0 := 28) (pc' := 37) rfl (hb hby d11_28) rfl ((if0 _ _).trans (teq hc28_3).1) (by decide) (by decide) ?_
    show Steps p.tables e below (T7.setTop (mkF m 37 #[.val (.ref xs), .val (.ref vb), .val (.int (4 : Int32)), .val (.int (((0 : Int32) + (1 : Int32)) + (1 : Int32))), .val (.ref w2)] [])) _
    refine XS.iinc X7.here hx rfl (hb hby d11_37) rfl (l' := #[.val (.ref xs), .val (.ref vb), .val (.int (4 : Int32)), .val (.int ((((0 : Int32) + (1 : Int32)) + (1 : Int32)) + (1 : Int32))), .val (.ref w2)]) rfl ?_
    show Steps p.tables e below (T7.setTop (mkF m 40 #[.val (.ref xs), .val (.ref vb), .val (.int (4 : Int32)), .val (.int ((((0 : Int32) + (1 : Int32)) + (1 : Int32)) + (1 : Int32))), .val (.ref w2)] [])) _
    refine XS.goto X7.here hx rfl (pc0 := 40) (pc' := 9) rfl (hb hby d11_40) (by decide) (by decide) ?_
    show Steps p.tables e below (T7.setTop (mkF m 9 #[.val (.ref xs), .val (.ref vb), .val (.int (4 : Int32)), .val (.int ((((0 : Int32) + (1 : Int32)) + (1 : Int32)) + (1 : Int32))), .val (.ref w2)] [])) _
    refine XS.iloadN X7.here hx rfl (hb hby d11_9) rfl ?_
    show Steps p.tables e below (T7.setTop (mkF m 10 #[.val (.ref xs), .val (.ref vb), .val (.int (4 : Int32)), .val (.int ((((0 : Int32) + (1 : Int32)) + (1 : Int32)) + (1 : Int32))), .val (.ref w2)] [(.int ((((0 : Int32) + (1 : Int32)) + (1 : Int32)) + (1 : Int32)))])) _
    refine XS.iloadN X7.here hx rfl (hb hby d11_10) rfl ?_
    show Steps p.tables e below (T7.setTop (mkF m 11 #[.val (.ref xs), .val (.ref vb), .val (.int (4 : Int32)), .val (.int ((((0 : Int32) + (1 : Int32)) + (1 : Int32)) + (1 : Int32))), .val (.ref w2)] [(.int (4 : Int32)), (.int ((((0 : Int32) + (1 : Int32)) + (1 : Int32)) + (1 : Int32)))])) _
    refine XS.icmpNo X7.here hx rfl (hb hby d11_11) rfl (tlt (by decide : ((((0 : Int32) + (1 : Int32)) + (1 : Int32)) + (1 : Int32)) < (4 : Int32))).2.1 ?_
    show Steps p.tables e below (T7.setTop (mkF m 14 #[.val (.ref xs), .val (.ref vb), .val (.int (4 : Int32)), .val (.int ((((0 : Int32) + (1 : Int32)) + (1 : Int32)) + (1 : Int32))), .val (.ref w2)] [])) _
    refine XS.aloadN X7.here hx rfl (hb hby d11_14) rfl rfl ?_
    show Steps p.tables e below (T7.setTop (mkF m 15 #[.val (.ref xs), .val (.ref vb), .val (.int (4 : Int32)), .val (.int ((((0 : Int32) + (1 : Int32)) + (1 : Int32)) + (1 : Int32))), .val (.ref w2)] [(.ref vb)])) _
    refine XS.iloadN X7.here hx rfl (hb hby d11_15) rfl ?_
    show Steps p.tables e below (T7.setTop (mkF m 16 #[.val (.ref xs), .val (.ref vb), .val (.int (4 : Int32)), .val (.int ((((0 : Int32) + (1 : Int32)) + (1 : Int32)) + (1 : Int32))), .val (.ref w2)] [(.int ((((0 : Int32) + (1 : Int32)) + (1 : Int32)) + (1 : Int32))), (.ref vb)])) _
    refine X7.aaload hx (j := ((((0 : Int32) + (1 : Int32)) + (1 : Int32)) + (1 : Int32))) (v := (.ref w3)) (by rw [e7]; exact Ar.1) (State.isArrayOf_alike hZ.alike Ar.2.1) rfl Ar.2.2 hin3 hat3 (g := (mkF m 16 #[.val (.ref xs), .val (.ref vb), .val (.int (4 : Int32)), .val (.int ((((0 : Int32) + (1 : Int32)) + (1 : Int32)) + (1 : Int32))), .val (.ref w2)] [(.int ((((0 : Int32) + (1 : Int32)) + (1 : Int32)) + (1 : Int32))), (.ref vb)])) rfl rfl (hb hby d11_16) _ ?_
    show Steps p.tables e below (T7.setTop (mkF m 17 #[.val (.ref xs), .val (.ref vb), .val (.int (4 : Int32)), .val (.int ((((0 : Int32) + (1 : Int32)) + (1 : Int32)) + (1 : Int32))), .val (.ref w2)] [(.ref w3)])) _
    refine XS.astore X7.here hx rfl (hb hby d11_17) rfl rfl (l' := #[.val (.ref xs), .val (.ref vb), .val (.int (4 : Int32)), .val (.int ((((0 : Int32) + (1 : Int32)) + (1 : Int32)) + (1 : Int32))), .val (.ref w3)]) rfl ?_
    show Steps p.tables e below (T7.setTop (mkF m 19 #[.val (.ref xs), .val (.ref vb), .val (.int (4 : Int32)), .val (.int ((((0 : Int32) + (1 : Int32)) + (1 : Int32)) + (1 : Int32))), .val (.ref w3)] [])) _
    refine XS.aload X7.here hx rfl (hb hby d11_19) rfl rfl ?_
    show Steps p.tables e below (T7.setTop (mkF m 21 #[.val (.ref xs), .val (.ref vb), .val (.int (4 : Int32)), .val (.int ((((0 : Int32) + (1 : Int32)) + (1 : Int32)) + (1 : Int32))), .val (.ref w3)] [(.ref w3)])) _
    refine st8 _ ?_
    show Steps p.tables e below (T8.setTop (mkF m 24 #[.val (.ref xs), .val (.ref vb), .val (.int (4 : Int32)), .val (.int ((((0 : Int32) + (1 : Int32)) + (1 : Int32)) + (1 : Int32))), .val (.ref w3)] [(.ref s3)])) _
    refine XS.aloadN X8.here hx rfl (hb hby d11_24) rfl rfl ?_
    show Steps p.tables e below (T8.setTop (mkF m 25 #[.val (.ref xs), .val (.ref vb), .val (.int (4 : Int32)), .val (.int ((((0 : Int32) + (1 : Int32)) + (1 : Int32)) + (1 : Int32))), .val (.ref w3)] [(.ref xs), (.ref s3)])) _
    refine st9.trans ?_
    show Steps p.tables e below (T9.setTop (mkF m 28 #[.val (.ref xs), .val (.ref vb), .val (.int (4 : Int32)), .val (.int ((((0 : Int32) + (1 : Int32)) + (1 : Int32)) + (1 : Int32))), .val (.ref w3)] [(.int (if own_d3 = cs then (1 : Int32) else 0))])) _
    refine XS.ifYes X9.here hx rfl (pc0 := 28) (pc' := 37) rfl (hb hby d11_28) rfl ((if0 _ _).trans (teq hc28_4).1) (by decide) (by decide) ?_
    show Steps p.tables e below (T9.setTop (mkF m 37 #[.val (.ref xs), .val (.ref vb), .val (.int (4 : Int32)), .val (.int ((((0 : Int32) + (1 : Int32)) + (1 : Int32)) + (1 : Int32))), .val (.ref w3)] [])) _
    refine XS.iinc X9.here hx rfl (hb hby d11_37) rfl (l' := #[.val (.ref xs), .val (.ref vb), .val (.int (4 : Int32)), .val (.int (((((0 : Int32) + (1 : Int32)) + (1 : Int32)) + (1 : Int32)) + (1 : Int32))), .val (.ref w3)]) rfl ?_
    show Steps p.tables e below (T9.setTop (mkF m 40 #[.val (.ref xs), .val (.ref vb), .val (.int (4 : Int32)), .val (.int (((((0 : Int32) + (1 : Int32)) + (1 : Int32)) + (1 : Int32)) + (1 : Int32))), .val (.ref w3)] [])) _
    refine XS.goto X9.here hx rfl (pc0 := 40) (pc' := 9) rfl (hb hby d11_40) (by decide) (by decide) ?_
    show Steps p.tables e below (T9.setTop (mkF m 9 #[.val (.ref xs), .val (.ref vb), .val (.int (4 : Int32)), .val (.int (((((0 : Int32) + (1 : Int32)) + (1 : Int32)) + (1 : Int32)) + (1 : Int32))), .val (.ref w3)] [])) _
    refine XS.iloadN X9.here hx rfl (hb hby d11_9) rfl ?_
    show Steps p.tables e below (T9.setTop (mkF m 10 #[.val (.ref xs), .val (.ref vb), .val (.int (4 : Int32)), .val (.int (((((0 : Int32) + (1 : Int32)) + (1 : Int32)) + (1 : Int32)) + (1 : Int32))), .val (.ref w3)] [(.int (((((0 : Int32) + (1 : Int32)) + (1 : Int32)) + (1 : Int32)) + (1 : Int32)))])) _
    refine XS.iloadN X9.here hx rfl (hb hby d11_10) rfl ?_
    show Steps p.tables e below (T9.setTop (mkF m 11 #[.val (.ref xs), .val (.ref vb), .val (.int (4 : Int32)), .val (.int (((((0 : Int32) + (1 : Int32)) + (1 : Int32)) + (1 : Int32)) + (1 : Int32))), .val (.ref w3)] [(.int (4 : Int32)), (.int (((((0 : Int32) + (1 : Int32)) + (1 : Int32)) + (1 : Int32)) + (1 : Int32)))])) _
    refine XS.icmpYes X9.here hx rfl (pc0 := 11) (pc' := 43) rfl (hb hby d11_11) rfl (flt (by decide : ¬ ((((((0 : Int32) + (1 : Int32)) + (1 : Int32)) + (1 : Int32)) + (1 : Int32)) < (4 : Int32)))).2.1 (by decide) (by decide) ?_
    show Steps p.tables e below (T9.setTop (mkF m 43 #[.val (.ref xs), .val (.ref vb), .val (.int (4 : Int32)), .val (.int (((((0 : Int32) + (1 : Int32)) + (1 : Int32)) + (1 : Int32)) + (1 : Int32))), .val (.ref w3)] [])) _
    refine st10 _ ?_
    show Steps p.tables e below (T10.setTop (mkF m 46 #[.val (.ref xs), .val (.ref vb), .val (.int (4 : Int32)), .val (.int (((((0 : Int32) + (1 : Int32)) + (1 : Int32)) + (1 : Int32)) + (1 : Int32))), .val (.ref w3)] [(.ref em)])) _
    exact retOut X10 hx Bd.returns rfl (Or.inr (Or.inr (Or.inr (Or.inr ⟨rfl, rfl, rfl⟩)))) (hb hby d11_46) hr
  · show Qd9 Z xs tt em vA w0 w1 w2 w3 s0 s1 s2 s3 t0 t1 t2 t3 kb kA kb0 kb1 kb2 kb3 cs z h0 n0 _ T10.heap _
    rw [e10]
    exact ⟨em, rfl, N10, K1, (EE.ext O1.2), by rw [hrole]; exact (FE.ext O1.2)⟩
theorem rmW (l : Launch) (Z : State) (a0 : Array Value) (hw : ∀ d ∈ tables_1, d.before a0 Z = true) (ws : List Jvm.Cond) (xs tt em vA w0 w1 w2 w3 s0 s1 s2 s3 t0 t1 t2 t3 : Addr) (kb kA kb0 kb1 kb2 kb3 : ClassId) (cs : List Int32) (z : Int32) (h0 : Heap) (n0 : Nat) (O0 : Old Z n0 h0) (Ex : Exa Z h0 xs "java/lang/String") (Vx : Fld Z h0 xs "java/lang/String" "value" "[B" (.ref tt)) (Cx : Fld Z h0 xs "java/lang/String" "coder" "B" (.int 0)) (Kx : Arv Z h0 tt kb .byte (Int32.ofNat (cs).length) (((cs).map StrChars.lo8).map Value.int) (.int 0)) (SC : Sta Z Z.heap "java/lang/String" "COMPACT_STRINGS" "Z" (.int z)) (hz : ¬ z = 0) (SV : Sta Z Z.heap "com/example/lendloop/lendloop/core/TransactionRole" "$VALUES" "[Lcom/example/lendloop/lendloop/core/TransactionRole;" (.ref vA)) (VV : Arv Z Z.heap vA kA (.object "com/example/lendloop/lendloop/core/TransactionRole") (4 : Int32) [.ref w0, .ref w1, .ref w2, .ref w3] .null) (EV : Exa Z Z.heap vA "[Lcom/example/lendloop/lendloop/core/TransactionRole;") (SM : Sta Z Z.heap "java/util/Optional" "EMPTY" "Ljava/util/Optional;" (.ref em)) (EE : Exa Z Z.heap em "java/util/Optional") (FE : Fld Z Z.heap em "java/util/Optional" "value" "Ljava/lang/Object;" .null) (E0 : Exa Z Z.heap w0 "com/example/lendloop/lendloop/core/TransactionRole") (G0 : Fld Z Z.heap w0 "com/example/lendloop/lendloop/core/TransactionRole" "wireName" "Ljava/lang/String;" (.ref s0)) (Ex0 : Exa Z Z.heap s0 "java/lang/String") (Vx0 : Fld Z Z.heap s0 "java/lang/String" "value" "[B" (.ref t0)) (Cx0 : Fld Z Z.heap s0 "java/lang/String" "coder" "B" (.int 0)) (Kx0 : Arv Z Z.heap t0 kb0 .byte (Int32.ofNat (own_d0).length) (((own_d0).map StrChars.lo8).map Value.int) (.int 0)) (E1 : Exa Z Z.heap w1 "com/example/lendloop/lendloop/core/TransactionRole") (G1 : Fld Z Z.heap w1 "com/example/lendloop/lendloop/core/TransactionRole" "wireName" "Ljava/lang/String;" (.ref s1)) (Ex1 : Exa Z Z.heap s1 "java/lang/String") (Vx1 : Fld Z Z.heap s1 "java/lang/String" "value" "[B" (.ref t1)) (Cx1 : Fld Z Z.heap s1 "java/lang/String" "coder" "B" (.int 0)) (Kx1 : Arv Z Z.heap t1 kb1 .byte (Int32.ofNat (own_d1).length) (((own_d1).map StrChars.lo8).map Value.int) (.int 0)) (E2 : Exa Z Z.heap w2 "com/example/lendloop/lendloop/core/TransactionRole") (G2 : Fld Z Z.heap w2 "com/example/lendloop/lendloop/core/TransactionRole" "wireName" "Ljava/lang/String;" (.ref s2)) (Ex2 : Exa Z Z.heap s2 "java/lang/String") (Vx2 : Fld Z Z.heap s2 "java/lang/String" "value" "[B" (.ref t2)) (Cx2 : Fld Z Z.heap s2 "java/lang/String" "coder" "B" (.int 0)) (Kx2 : Arv Z Z.heap t2 kb2 .byte (Int32.ofNat (own_d2).length) (((own_d2).map StrChars.lo8).map Value.int) (.int 0)) (E3 : Exa Z Z.heap w3 "com/example/lendloop/lendloop/core/TransactionRole") (G3 : Fld Z Z.heap w3 "com/example/lendloop/lendloop/core/TransactionRole" "wireName" "Ljava/lang/String;" (.ref s3)) (Ex3 : Exa Z Z.heap s3 "java/lang/String") (Vx3 : Fld Z Z.heap s3 "java/lang/String" "value" "[B" (.ref t3)) (Cx3 : Fld Z Z.heap s3 "java/lang/String" "coder" "B" (.int 0)) (Kx3 : Arv Z Z.heap t3 kb3 .byte (Int32.ofNat (own_d3).length) (((own_d3).map StrChars.lo8).map Value.int) (.int 0)) (hg : own_good cs) :
    MetFree l (⟨"com/example/lendloop/lendloop/core/TransactionRole", "fromWireName", "(Ljava/lang/String;)Ljava/util/Optional;"⟩ : MethodName) (head1 (Jvm.Cond.code (⟨"com/example/lendloop/lendloop/core/TransactionRole", "fromWireName", "(Ljava/lang/String;)Ljava/util/Optional;"⟩ : MethodName) prog_38_method_5_code 5 (some (.object "java/util/Optional")) :: ws) ({ frames := 3, cells := 2, slots := 5, locals := 70 } : Room)) (fun qq U => qq = #[(.ref xs)] ∧ Z.Warmed39 U.vm ∧ U.heap = h0) (fun _ _ _ _ _ => True) (fun _ UU oo UU' => ∃ vv LL, oo = .returned vv ∧ Qd9 Z xs tt em vA w0 w1 w2 w3 s0 s1 s2 s3 t0 t1 t2 t3 kb kA kb0 kb1 kb2 kb3 cs z h0 n0 vv UU'.heap LL ∧ FrameEnd UU oo UU' LL ({ frames := 3, cells := 2, slots := 5, locals := 70 } : Room).cells ({ frames := 3, cells := 2, slots := 5, locals := 70 } : Room).slots) := by
  by_cases q0 : (if own_d0 = cs then (1 : Int32) else 0) = 0
  rotate_left
  · exact rmW0 l Z a0 hw ws xs tt em vA w0 w1 w2 w3 s0 s1 s2 s3 t0 t1 t2 t3 kb kA kb0 kb1 kb2 kb3 cs z h0 n0 O0 Ex Vx Cx Kx SC hz SV VV EV SM EE FE E0 G0 Ex0 Vx0 Cx0 Kx0 E1 G1 Ex1 Vx1 Cx1 Kx1 E2 G2 Ex2 Vx2 Cx2 Kx2 E3 G3 Ex3 Vx3 Cx3 Kx3 hg q0
  by_cases q1 : (if own_d1 = cs then (1 : Int32) else 0) = 0
  rotate_left
  · exact rmW1 l Z a0 hw ws xs tt em vA w0 w1 w2 w3 s0 s1 s2 s3 t0 t1 t2 t3 kb kA kb0 kb1 kb2 kb3 cs z h0 n0 O0 Ex Vx Cx Kx SC hz SV VV EV SM EE FE E0 G0 Ex0 Vx0 Cx0 Kx0 E1 G1 Ex1 Vx1 Cx1 Kx1 E2 G2 Ex2 Vx2 Cx2 Kx2 E3 G3 Ex3 Vx3 Cx3 Kx3 hg q0 q1
  by_cases q2 : (if own_d2 = cs then (1 : Int32) else 0) = 0
  rotate_left
  · exact rmW2 l Z a0 hw ws xs tt em vA w0 w1 w2 w3 s0 s1 s2 s3 t0 t1 t2 t3 kb kA kb0 kb1 kb2 kb3 cs z h0 n0 O0 Ex Vx Cx Kx SC hz SV VV EV SM EE FE E0 G0 Ex0 Vx0 Cx0 Kx0 E1 G1 Ex1 Vx1 Cx1 Kx1 E2 G2 Ex2 Vx2 Cx2 Kx2 E3 G3 Ex3 Vx3 Cx3 Kx3 hg q0 q1 q2
  by_cases q3 : (if own_d3 = cs then (1 : Int32) else 0) = 0
  rotate_left
  · exact rmW3 l Z a0 hw ws xs tt em vA w0 w1 w2 w3 s0 s1 s2 s3 t0 t1 t2 t3 kb kA kb0 kb1 kb2 kb3 cs z h0 n0 O0 Ex Vx Cx Kx SC hz SV VV EV SM EE FE E0 G0 Ex0 Vx0 Cx0 Kx0 E1 G1 Ex1 Vx1 Cx1 Kx1 E2 G2 Ex2 Vx2 Cx2 Kx2 E3 G3 Ex3 Vx3 Cx3 Kx3 hg q0 q1 q2 q3
  exact rmW4 l Z a0 hw ws xs tt em vA w0 w1 w2 w3 s0 s1 s2 s3 t0 t1 t2 t3 kb kA kb0 kb1 kb2 kb3 cs z h0 n0 O0 Ex Vx Cx Kx SC hz SV VV EV SM EE FE E0 G0 Ex0 Vx0 Cx0 Kx0 E1 G1 Ex1 Vx1 Cx1 Kx1 E2 G2 Ex2 Vx2 Cx2 Kx2 E3 G3 Ex3 Vx3 Cx3 Kx3 hg q0 q1 q2 q3
theorem own_safeN {Z : State} {EL : List (String × Nat)} {vm : Vm} {h : Heap} {x : Addr} (hal : Z.vm.Alike vm) (E : Exa Z h x "java/lang/String") (F : Fld Z h x "java/lang/String" "value" "[B" .null) : Safe Z EL vm h x := fun B => by
  obtain ⟨pp, -, u, a, -, q, -, G, hy⟩ := B
  rcases hy with rfl | rfl
  · obtain ⟨cell, cf, k, i, f, f1, f2, -, -, -, -, f7⟩ := F
    cases (show h[q.sa]? = some q.sC from G.ha).symm.trans f1
    obtain ⟨cS, ⟨⟨-, -, -, ⟨cv, kv, iv, s4, -⟩, -, -, -, s8, -⟩, -⟩, -⟩ := G
    obtain ⟨kv', z4⟩ := ff_back (U := Wst Z vm h) hal s4
    cases f2.symm.trans z4
    cases f7.symm.trans s8
  · obtain ⟨cell, k, e1, e2, -⟩ := E
    cases (show h[q.sd]? = some q.SA from G.hd).symm.trans e1
    obtain ⟨cS, -, -, f, -⟩ := G
    have f' : Z.vm.findClass "[B" = some q.SA.cls := by rw [← hal.findClass]; exact f
    exact ids_ne f' e2 (by decide) rfl
theorem own_setC {p : Program} {l : Launch} {e : Env} {R : Room} {s : State} {m : MethodId} {args : Array Value} {below : List Frame} {meth : Method} {c : Code} {T : State} {locs : List Loc} {cells slots : Nat} {Z : State} {h : Heap} (X : Stand p l e R s m args below meth c T locs cells slots) (hx : p.tables.exec = Jvm.exec) (hZ : Z.Warmed39 s.vm) (eT : T.heap = h) {a : Addr} {k : ClassId} {z : Int32} {vs : List Value} (F : Arv Z h a k .char z vs (.int 0)) {x j : Int32} (h0 : ¬ j < 0) (hl : j.toNatClampNeg < vs.length) (hz : z.toNatClampNeg = vs.length) {g : JFrame} (hg : g.method = m) {rest : List Value} (hs : g.stack = .int x :: .int j :: .ref a :: rest) (hd : decode c.code g.pc = .ok (.castore, 1)) :
    ∃ T' h', Stand p l e R s m args below meth c T' (locs ++ [⟨a, j.toNatClampNeg⟩]) cells slots ∧ T'.heap = h' ∧ Wr h h' a j.toNatClampNeg (.int (nar .char x)) ∧ Arv Z h' a k .char z (vs.set j.toNatClampNeg (.int (nar .char x))) (.int 0) ∧ ∀ target, Steps p.tables e below (T'.setTop { g with pc := g.pc + 1, stack := rest }) target → Steps p.tables e below (T.setTop g) target := by
  obtain ⟨cl, Ar, q, S, M, H, U⟩ := F
  have hin : ¬ (j < 0 ∨ cl.slots.size ≤ j.toNatClampNeg) := by
    rw [S, hz]; exact fun q => q.elim h0 (fun q => absurd hl (Nat.not_lt.mpr q))
  obtain ⟨T', h', X', e', W, st⟩ := stC X hx hZ eT Ar hin hg hs hd
  exact ⟨T', h', X', e', W, Arv.set Ar q S M H U (v := .int (nar .char x)) (fits_nar_char _) W _ rfl hl, st⟩
theorem own_ix (x : Int32) {n : Nat} (h0 : n ≠ 0) (hn : n ≤ 17) : Int32.ofNat n ≠ 0 ∧ ¬ ((x &&& (2147483647 : Int32)) % (Int32.ofNat n)) < 0 ∧ ((x &&& (2147483647 : Int32)) % (Int32.ofNat n)).toNatClampNeg < n := by
  have m1 := c_mask x 2147483647 31 (by decide) (by decide)
  have e1 : (Int32.ofNat n).toInt = n := Int32.toInt_ofNat_of_lt (by omega)
  have v := (c_iremV (x &&& 2147483647) (Int32.ofNat n)).1 (by omega) (by omega)
  have e0 : (0 : Int32).toInt = 0 := rfl
  refine ⟨fun q => ?_, ?_, ?_⟩
  · have := congrArg Int32.toInt q; omega
  · rw [Int32.lt_iff_toInt_lt]; omega
  · rw [Int32.toNatClampNeg]; omega
theorem own_zn {n : Nat} (hn : n ≤ 17) : (Int32.ofNat n).toNatClampNeg = n := by
  rw [Int32.toNatClampNeg, Int32.toInt_ofNat_of_lt (by omega)]; rfl
theorem own_gset {cs : List Int32} {i : Nat} {v : Int32} (h : own_good cs) (hv : ¬ v < 0 ∧ ¬ (255 : Int32) < v) : own_good (cs.set i v) := ⟨by rw [List.length_set]; exact h.1, fun c hc => by
  rcases List.mem_or_eq_of_mem_set hc with q | rfl
  · exact h.2 c q
  · exact hv⟩
theorem own_rr (cs : List Int32) (w0 w1 w2 w3 : Addr) : (own_role cs w0 w1 w2 w3).isRef = true := by
  unfold own_role; repeat (split; rfl)
  rfl
theorem own_rc {Z : State} {h : Heap} {C : String} {w0 w1 w2 w3 : Addr} (E0 : Exa Z h w0 C) (E1 : Exa Z h w1 C) (E2 : Exa Z h w2 C) (E3 : Exa Z h w3 C) (cs : List Int32) : own_role cs w0 w1 w2 w3 = .null ∨ ∃ a, own_role cs w0 w1 w2 w3 = .ref a ∧ Ins Z h a C true := by
  unfold own_role
  split
  · exact Or.inr ⟨_, rfl, Ins.self E0⟩
  split
  · exact Or.inr ⟨_, rfl, Ins.self E1⟩
  split
  · exact Or.inr ⟨_, rfl, Ins.self E2⟩
  split
  · exact Or.inr ⟨_, rfl, Ins.self E3⟩
  · exact Or.inl rfl

theorem d1_0 : decode method_5_code 0 = .ok (.iload_n 0, 1) := by decide +kernel
theorem d1_1 : decode method_5_code 1 = .ok (.ifCond .ne 116, 3) := by decide +kernel
theorem d1_4 : decode method_5_code 4 = .ok (.iload_n 1, 1) := by decide +kernel
theorem d1_5 : decode method_5_code 5 = .ok (.ifCond .ne 38, 3) := by decide +kernel
theorem d1_8 : decode method_5_code 8 = .ok (.bipush 6, 2) := by decide +kernel
theorem d1_10 : decode method_5_code 10 = .ok (.newarray .char, 2) := by decide +kernel
theorem d1_12 : decode method_5_code 12 = .ok (.dup, 1) := by decide +kernel
theorem d1_13 : decode method_5_code 13 = .ok (.iconst 0, 1) := by decide +kernel
theorem d1_14 : decode method_5_code 14 = .ok (.bipush 76, 2) := by decide +kernel
theorem d1_16 : decode method_5_code 16 = .ok (.castore, 1) := by decide +kernel
theorem d1_17 : decode method_5_code 17 = .ok (.dup, 1) := by decide +kernel
theorem d1_18 : decode method_5_code 18 = .ok (.iconst 1, 1) := by decide +kernel
theorem d1_19 : decode method_5_code 19 = .ok (.bipush 69, 2) := by decide +kernel
theorem d1_21 : decode method_5_code 21 = .ok (.castore, 1) := by decide +kernel
theorem d1_22 : decode method_5_code 22 = .ok (.dup, 1) := by decide +kernel
theorem d1_23 : decode method_5_code 23 = .ok (.iconst 2, 1) := by decide +kernel
theorem d1_24 : decode method_5_code 24 = .ok (.bipush 78, 2) := by decide +kernel
theorem d1_26 : decode method_5_code 26 = .ok (.castore, 1) := by decide +kernel
theorem d1_27 : decode method_5_code 27 = .ok (.dup, 1) := by decide +kernel
theorem d1_28 : decode method_5_code 28 = .ok (.iconst 3, 1) := by decide +kernel
theorem d1_29 : decode method_5_code 29 = .ok (.bipush 68, 2) := by decide +kernel
theorem d1_31 : decode method_5_code 31 = .ok (.castore, 1) := by decide +kernel
theorem d1_32 : decode method_5_code 32 = .ok (.dup, 1) := by decide +kernel
theorem d1_33 : decode method_5_code 33 = .ok (.iconst 4, 1) := by decide +kernel
theorem d1_34 : decode method_5_code 34 = .ok (.bipush 69, 2) := by decide +kernel
theorem d1_36 : decode method_5_code 36 = .ok (.castore, 1) := by decide +kernel
theorem d1_37 : decode method_5_code 37 = .ok (.dup, 1) := by decide +kernel
theorem d1_38 : decode method_5_code 38 = .ok (.iconst 5, 1) := by decide +kernel
theorem d1_39 : decode method_5_code 39 = .ok (.bipush 82, 2) := by decide +kernel
theorem d1_41 : decode method_5_code 41 = .ok (.castore, 1) := by decide +kernel
theorem d1_42 : decode method_5_code 42 = .ok (.areturn, 1) := by decide +kernel
theorem ef_1 (m : MethodId) (x0 : Int32) (x1 : Int32) (x2 : Int32) : entryFrame m #[(.int x0), (.int x1), (.int x2)] 3 = mkF m 0 #[.val (.int x0), .val (.int x1), .val (.int x2)] [] := by first | (simp [entryFrame, mkF, argsToLocals, Value.category]; done) | rfl
theorem pn_1 : plainName "com/example/lendloop/lendloop/core/TransactionRoleFromWireNamePinLaw" = true := by first | (simp [plainName, overriddenIn]; done) | decide +kernel
def Qd10 (Z : State) (kd vr cc : Int32) (h0 : Heap) (n0 : Nat) (v : Option Value) (h : Heap) (L : List Loc) : Prop := ∃ b kC cs, v = some (.ref b) ∧ Fr n0 L ∧ Keep h0 h [] ∧ n0 ≤ b ∧ Arv Z h b kC .char (Int32.ofNat (cs : List Int32).length) (cs.map Value.int) (.int 0) ∧ own_good cs ∧ cs.length ≠ 0
set_option maxRecDepth 65536 in
set_option maxHeartbeats 40000000 in
theorem rmN00 (l : Launch) (Z : State) (a0 : Array Value) (hw : ∀ d ∈ tables_1, d.before a0 Z = true) (ws : List Jvm.Cond) (kd vr cc : Int32) (h0 : Heap) (n0 : Nat) (O0 : Old Z n0 h0) (hcc : ¬ nar .char cc < 0 ∧ ¬ (255 : Int32) < nar .char cc) (hc1 : kd = (0 : Int32)) (hc5 : vr = (0 : Int32)) :
    MetFree l (⟨"com/example/lendloop/lendloop/core/TransactionRoleFromWireNamePinLaw", "named", "(IIC)[C"⟩ : MethodName) (head1 (Jvm.Cond.code (⟨"com/example/lendloop/lendloop/core/TransactionRoleFromWireNamePinLaw", "named", "(IIC)[C"⟩ : MethodName) method_5_code 3 (some (.array .char)) :: ws) ({ frames := 0, cells := 1, slots := 17, locals := 0 } : Room)) (fun qq U => qq = #[(.int kd), (.int vr), (.int cc)] ∧ Z.Warmed39 U.vm ∧ U.heap = h0) (fun _ _ _ _ _ => True) (fun _ UU oo UU' => ∃ vv LL, oo = .returned vv ∧ Qd10 Z kd vr cc h0 n0 vv UU'.heap LL ∧ FrameEnd UU oo UU' LL ({ frames := 0, cells := 1, slots := 17, locals := 0 } : Room).cells ({ frames := 0, cells := 1, slots := 17, locals := 0 } : Room).slots) := by
  refine MetFree.of_bodySF (plainFor_of_name pn_1) hisR ?_
  intro p e s m args below meth c s₁ Bd hml0 hP hK
  obtain ⟨rfl, hZ, hh⟩ := hP
  have hx := Bd.exec
  have hby := Bd.bytes
  have hml : c.maxLocals = 3 := hml0
  have hown : s.vm.findClass "com/example/lendloop/lendloop/core/TransactionRoleFromWireNamePinLaw" = some m.cls := findClass_of_methodNamed Bd.named
  have hnm := (name_of_methodNamed Bd.named Bd.method).1
  have X0 : Stand p l e ({ frames := 0, cells := 1, slots := 17, locals := 0 } : Room) s m #[(.int kd), (.int vr), (.int cc)] below meth c s₁ [] 0 0 := Stand.of_body Bd
  have e0 : s₁.heap = h0 := by rw [← hh, Bd.state]; rfl
  have N0 := Fr.nil n0
  have pre0 : ∀ tgt, Steps p.tables e below (s₁.setTop (mkF m 0 #[.val (.int kd), .val (.int vr), .val (.int cc)] [])) tgt → Steps p.tables e below (s₁.setTop (entryFrame m #[(.int kd), (.int vr), (.int cc)] 3)) tgt := fun tt kk => castTop (ef_1 m kd vr cc) kk
  obtain ⟨T1, h1, k1, X1, e1, E1, A1, st1⟩ := newP X0 hx hZ (ww hw 4 rfl) e0 (g := (mkF m 10 #[.val (.int kd), .val (.int vr), .val (.int cc)] [(.int (6 : Int32))])) rfl (hb hby d1_10) rfl (by decide) (cap := 6) (by decide) (by decide) (by decide) (by decide)
  obtain ⟨b1, q1⟩ : ∃ z, z = h0.size := ⟨_, rfl⟩
  rw [← q1] at A1 st1
  have g_b1 : n0 ≤ b1 := by rw [q1]; exact (O0).1 ▸ (O0).2.1
  have sz_b1 : h0.size ≤ b1 := by rw [q1]; exact ((Keep.refl h0 [])).1
  have O1 := Old.ext O0 E1
  have K1 := Keep.ext (Keep.refl h0 []) E1
  have V1 : Arv Z h1 b1 k1 .char (6 : Int32) [] (.int (0 : Int32)) := Arv.new A1 (by decide)
  obtain ⟨T2, h2, X2, e2, W2, V2, st2⟩ := own_putC X1 hx hZ e1 V1 (j := (0 : Int32)) rfl (by decide) (Nat.le_of_ble_eq_true rfl) (g := (mkF m 16 #[.val (.int kd), .val (.int vr), .val (.int cc)] [(.int (76 : Int32)), (.int (0 : Int32)), (.ref b1), (.ref b1)])) rfl rfl (hb hby d1_16)
  have N2 := Fr.snoc X2 N0 g_b1
  have O2 := Old.wr O1 W2 g_b1
  have K2 := Keep.wr K1 W2 (Or.inr sz_b1)
  obtain ⟨T3, h3, X3, e3, W3, V3, st3⟩ := own_putC X2 hx hZ e2 V2 (j := (1 : Int32)) rfl (by decide) (Nat.le_of_ble_eq_true rfl) (g := (mkF m 21 #[.val (.int kd), .val (.int vr), .val (.int cc)] [(.int (69 : Int32)), (.int (1 : Int32)), (.ref b1), (.ref b1)])) rfl rfl (hb hby d1_21)
  have N3 := Fr.snoc X3 N2 g_b1
  have O3 := Old.wr O2 W3 g_b1
  have K3 := Keep.wr K2 W3 (Or.inr sz_b1)
  obtain ⟨T4, h4, X4, e4, W4, V4, st4⟩ := own_putC X3 hx hZ e3 V3 (j := (2 : Int32)) rfl (by decide) (Nat.le_of_ble_eq_true rfl) (g := (mkF m 26 #[.val (.int kd), .val (.int vr), .val (.int cc)] [(.int (78 : Int32)), (.int (2 : Int32)), (.ref b1), (.ref b1)])) rfl rfl (hb hby d1_26)
  have N4 := Fr.snoc X4 N3 g_b1
  have O4 := Old.wr O3 W4 g_b1
  have K4 := Keep.wr K3 W4 (Or.inr sz_b1)
  obtain ⟨T5, h5, X5, e5, W5, V5, st5⟩ := own_putC X4 hx hZ e4 V4 (j := (3 : Int32)) rfl (by decide) (Nat.le_of_ble_eq_true rfl) (g := (mkF m 31 #[.val (.int kd), .val (.int vr), .val (.int cc)] [(.int (68 : Int32)), (.int (3 : Int32)), (.ref b1), (.ref b1)])) rfl rfl (hb hby d1_31)
  have N5 := Fr.snoc X5 N4 g_b1
  have O5 := Old.wr O4 W5 g_b1
  have K5 := Keep.wr K4 W5 (Or.inr sz_b1)
  obtain ⟨T6, h6, X6, e6, W6, V6, st6⟩ := own_putC X5 hx hZ e5 V5 (j := (4 : Int32)) rfl (by decide) (Nat.le_of_ble_eq_true rfl) (g := (mkF m 36 #[.val (.int kd), .val (.int vr), .val (.int cc)] [(.int (69 : Int32)), (.int (4 : Int32)), (.ref b1), (.ref b1)])) rfl rfl (hb hby d1_36)
  have N6 := Fr.snoc X6 N5 g_b1
  have O6 := Old.wr O5 W6 g_b1
  have K6 := Keep.wr K5 W6 (Or.inr sz_b1)
  obtain ⟨T7, h7, X7, e7, W7, V7, st7⟩ := own_putC X6 hx hZ e6 V6 (j := (5 : Int32)) rfl (by decide) (Nat.le_of_ble_eq_true rfl) (g := (mkF m 41 #[.val (.int kd), .val (.int vr), .val (.int cc)] [(.int (82 : Int32)), (.int (5 : Int32)), (.ref b1), (.ref b1)])) rfl rfl (hb hby d1_41)
  have N7 := Fr.snoc X7 N6 g_b1
  have O7 := Old.wr O6 W7 g_b1
  have K7 := Keep.wr K6 W7 (Or.inr sz_b1)
  have hgood : own_good ([(nar .char (76 : Int32)), (nar .char (69 : Int32)), (nar .char (78 : Int32)), (nar .char (68 : Int32)), (nar .char (69 : Int32)), (nar .char (82 : Int32))] : List Int32) := ⟨Nat.le_of_ble_eq_true rfl, by
    intro x hx
    simp only [List.mem_cons, List.not_mem_nil, or_false] at hx
    rcases hx with rfl | rfl | rfl | rfl | rfl | rfl
    all_goals first | exact hcc | decide⟩
  obtain ⟨fs, hr, hrun, hended, hW, hsame⟩ := X7.leave (v := some (.ref b1)) (fun h => by rw [Bd.returns] at h; cases h)
  refine ⟨_, _, pre0 _ ?_, hrun, hended, _, _, rfl, ?_, ⟨_, rfl⟩, hW, hsame.mono (by decide) (by decide)⟩
  · show Steps p.tables e below (s₁.setTop (mkF m 0 #[.val (.int kd), .val (.int vr), .val (.int cc)] [])) _
    refine XS.iloadN X0.here hx rfl (hb hby d1_0) rfl ?_
    show Steps p.tables e below (s₁.setTop (mkF m 1 #[.val (.int kd), .val (.int vr), .val (.int cc)] [(.int kd)])) _
    refine XS.ifNo X0.here hx rfl (hb hby d1_1) rfl ((if0 _ _).trans (teq hc1).2) ?_
    show Steps p.tables e below (s₁.setTop (mkF m 4 #[.val (.int kd), .val (.int vr), .val (.int cc)] [])) _
    refine XS.iloadN X0.here hx rfl (hb hby d1_4) rfl ?_
    show Steps p.tables e below (s₁.setTop (mkF m 5 #[.val (.int kd), .val (.int vr), .val (.int cc)] [(.int vr)])) _
    refine XS.ifNo X0.here hx rfl (hb hby d1_5) rfl ((if0 _ _).trans (teq hc5).2) ?_
    show Steps p.tables e below (s₁.setTop (mkF m 8 #[.val (.int kd), .val (.int vr), .val (.int cc)] [])) _
    refine XS.bipush X0.here hx rfl (hb hby d1_8) ?_
    show Steps p.tables e below (s₁.setTop (mkF m 10 #[.val (.int kd), .val (.int vr), .val (.int cc)] [(.int (6 : Int32))])) _
    refine st1 _ ?_
    show Steps p.tables e below (T1.setTop (mkF m 12 #[.val (.int kd), .val (.int vr), .val (.int cc)] [(.ref b1)])) _
    refine XS.dup X1.here hx rfl (hb hby d1_12) rfl rfl ?_
    show Steps p.tables e below (T1.setTop (mkF m 13 #[.val (.int kd), .val (.int vr), .val (.int cc)] [(.ref b1), (.ref b1)])) _
    refine XS.iconst X1.here hx rfl (hb hby d1_13) ?_
    show Steps p.tables e below (T1.setTop (mkF m 14 #[.val (.int kd), .val (.int vr), .val (.int cc)] [(.int (0 : Int32)), (.ref b1), (.ref b1)])) _
    refine XS.bipush X1.here hx rfl (hb hby d1_14) ?_
    show Steps p.tables e below (T1.setTop (mkF m 16 #[.val (.int kd), .val (.int vr), .val (.int cc)] [(.int (76 : Int32)), (.int (0 : Int32)), (.ref b1), (.ref b1)])) _
    refine st2 _ ?_
    show Steps p.tables e below (T2.setTop (mkF m 17 #[.val (.int kd), .val (.int vr), .val (.int cc)] [(.ref b1)])) _
    refine XS.dup X2.here hx rfl (hb hby d1_17) rfl rfl ?_
    show Steps p.tables e below (T2.setTop (mkF m 18 #[.val (.int kd), .val (.int vr), .val (.int cc)] [(.ref b1), (.ref b1)])) _
    refine XS.iconst X2.here hx rfl (hb hby d1_18) ?_
    show Steps p.tables e below (T2.setTop (mkF m 19 #[.val (.int kd), .val (.int vr), .val (.int cc)] [(.int (1 : Int32)), (.ref b1), (.ref b1)])) _
    refine XS.bipush X2.here hx rfl (hb hby d1_19) ?_
    show Steps p.tables e below (T2.setTop (mkF m 21 #[.val (.int kd), .val (.int vr), .val (.int cc)] [(.int (69 : Int32)), (.int (1 : Int32)), (.ref b1), (.ref b1)])) _
    refine st3 _ ?_
    show Steps p.tables e below (T3.setTop (mkF m 22 #[.val (.int kd), .val (.int vr), .val (.int cc)] [(.ref b1)])) _
    refine XS.dup X3.here hx rfl (hb hby d1_22) rfl rfl ?_
    show Steps p.tables e below (T3.setTop (mkF m 23 #[.val (.int kd), .val (.int vr), .val (.int cc)] [(.ref b1), (.ref b1)])) _
    refine XS.iconst X3.here hx rfl (hb hby d1_23) ?_
    show Steps p.tables e below (T3.setTop (mkF m 24 #[.val (.int kd), .val (.int vr), .val (.int cc)] [(.int (2 : Int32)), (.ref b1), (.ref b1)])) _
    refine XS.bipush X3.here hx rfl (hb hby d1_24) ?_
    show Steps p.tables e below (T3.setTop (mkF m 26 #[.val (.int kd), .val (.int vr), .val (.int cc)] [(.int (78 : Int32)), (.int (2 : Int32)), (.ref b1), (.ref b1)])) _
    refine st4 _ ?_
    show Steps p.tables e below (T4.setTop (mkF m 27 #[.val (.int kd), .val (.int vr), .val (.int cc)] [(.ref b1)])) _
    refine XS.dup X4.here hx rfl (hb hby d1_27) rfl rfl ?_
    show Steps p.tables e below (T4.setTop (mkF m 28 #[.val (.int kd), .val (.int vr), .val (.int cc)] [(.ref b1), (.ref b1)])) _
    refine XS.iconst X4.here hx rfl (hb hby d1_28) ?_
    show Steps p.tables e below (T4.setTop (mkF m 29 #[.val (.int kd), .val (.int vr), .val (.int cc)] [(.int (3 : Int32)), (.ref b1), (.ref b1)])) _
    refine XS.bipush X4.here hx rfl (hb hby d1_29) ?_
    show Steps p.tables e below (T4.setTop (mkF m 31 #[.val (.int kd), .val (.int vr), .val (.int cc)] [(.int (68 : Int32)), (.int (3 : Int32)), (.ref b1), (.ref b1)])) _
    refine st5 _ ?_
    show Steps p.tables e below (T5.setTop (mkF m 32 #[.val (.int kd), .val (.int vr), .val (.int cc)] [(.ref b1)])) _
    refine XS.dup X5.here hx rfl (hb hby d1_32) rfl rfl ?_
    show Steps p.tables e below (T5.setTop (mkF m 33 #[.val (.int kd), .val (.int vr), .val (.int cc)] [(.ref b1), (.ref b1)])) _
    refine XS.iconst X5.here hx rfl (hb hby d1_33) ?_
    show Steps p.tables e below (T5.setTop (mkF m 34 #[.val (.int kd), .val (.int vr), .val (.int cc)] [(.int (4 : Int32)), (.ref b1), (.ref b1)])) _
    refine XS.bipush X5.here hx rfl (hb hby d1_34) ?_
    show Steps p.tables e below (T5.setTop (mkF m 36 #[.val (.int kd), .val (.int vr), .val (.int cc)] [(.int (69 : Int32)), (.int (4 : Int32)), (.ref b1), (.ref b1)])) _
    refine st6 _ ?_
    show Steps p.tables e below (T6.setTop (mkF m 37 #[.val (.int kd), .val (.int vr), .val (.int cc)] [(.ref b1)])) _
    refine XS.dup X6.here hx rfl (hb hby d1_37) rfl rfl ?_
    show Steps p.tables e below (T6.setTop (mkF m 38 #[.val (.int kd), .val (.int vr), .val (.int cc)] [(.ref b1), (.ref b1)])) _
    refine XS.iconst X6.here hx rfl (hb hby d1_38) ?_
    show Steps p.tables e below (T6.setTop (mkF m 39 #[.val (.int kd), .val (.int vr), .val (.int cc)] [(.int (5 : Int32)), (.ref b1), (.ref b1)])) _
    refine XS.bipush X6.here hx rfl (hb hby d1_39) ?_
    show Steps p.tables e below (T6.setTop (mkF m 41 #[.val (.int kd), .val (.int vr), .val (.int cc)] [(.int (82 : Int32)), (.int (5 : Int32)), (.ref b1), (.ref b1)])) _
    refine st7 _ ?_
    show Steps p.tables e below (T7.setTop (mkF m 42 #[.val (.int kd), .val (.int vr), .val (.int cc)] [(.ref b1)])) _
    exact retOut X7 hx Bd.returns rfl (Or.inr (Or.inr (Or.inr (Or.inr ⟨rfl, rfl, rfl⟩)))) (hb hby d1_42) hr
  · show Qd10 Z kd vr cc h0 n0 _ T7.heap _
    rw [e7]
    exact ⟨b1, k1, ([(nar .char (76 : Int32)), (nar .char (69 : Int32)), (nar .char (78 : Int32)), (nar .char (68 : Int32)), (nar .char (69 : Int32)), (nar .char (82 : Int32))] : List Int32), rfl, N7, K7, g_b1, V7, hgood, Nat.succ_ne_zero _⟩
theorem d1_43 : decode method_5_code 43 = .ok (.iload_n 1, 1) := by decide +kernel
theorem d1_44 : decode method_5_code 44 = .ok (.iconst 1, 1) := by decide +kernel
theorem d1_45 : decode method_5_code 45 = .ok (.if_icmp .ne 43, 3) := by decide +kernel
theorem d1_48 : decode method_5_code 48 = .ok (.bipush 7, 2) := by decide +kernel
theorem d1_50 : decode method_5_code 50 = .ok (.newarray .char, 2) := by decide +kernel
theorem d1_52 : decode method_5_code 52 = .ok (.dup, 1) := by decide +kernel
theorem d1_53 : decode method_5_code 53 = .ok (.iconst 0, 1) := by decide +kernel
theorem d1_54 : decode method_5_code 54 = .ok (.bipush 76, 2) := by decide +kernel
theorem d1_56 : decode method_5_code 56 = .ok (.castore, 1) := by decide +kernel
theorem d1_57 : decode method_5_code 57 = .ok (.dup, 1) := by decide +kernel
theorem d1_58 : decode method_5_code 58 = .ok (.iconst 1, 1) := by decide +kernel
theorem d1_59 : decode method_5_code 59 = .ok (.bipush 69, 2) := by decide +kernel
theorem d1_61 : decode method_5_code 61 = .ok (.castore, 1) := by decide +kernel
theorem d1_62 : decode method_5_code 62 = .ok (.dup, 1) := by decide +kernel
theorem d1_63 : decode method_5_code 63 = .ok (.iconst 2, 1) := by decide +kernel
theorem d1_64 : decode method_5_code 64 = .ok (.bipush 78, 2) := by decide +kernel
theorem d1_66 : decode method_5_code 66 = .ok (.castore, 1) := by decide +kernel
theorem d1_67 : decode method_5_code 67 = .ok (.dup, 1) := by decide +kernel
theorem d1_68 : decode method_5_code 68 = .ok (.iconst 3, 1) := by decide +kernel
theorem d1_69 : decode method_5_code 69 = .ok (.bipush 68, 2) := by decide +kernel
theorem d1_71 : decode method_5_code 71 = .ok (.castore, 1) := by decide +kernel
theorem d1_72 : decode method_5_code 72 = .ok (.dup, 1) := by decide +kernel
theorem d1_73 : decode method_5_code 73 = .ok (.iconst 4, 1) := by decide +kernel
theorem d1_74 : decode method_5_code 74 = .ok (.bipush 69, 2) := by decide +kernel
theorem d1_76 : decode method_5_code 76 = .ok (.castore, 1) := by decide +kernel
theorem d1_77 : decode method_5_code 77 = .ok (.dup, 1) := by decide +kernel
theorem d1_78 : decode method_5_code 78 = .ok (.iconst 5, 1) := by decide +kernel
theorem d1_79 : decode method_5_code 79 = .ok (.bipush 82, 2) := by decide +kernel
theorem d1_81 : decode method_5_code 81 = .ok (.castore, 1) := by decide +kernel
theorem d1_82 : decode method_5_code 82 = .ok (.dup, 1) := by decide +kernel
theorem d1_83 : decode method_5_code 83 = .ok (.bipush 6, 2) := by decide +kernel
theorem d1_85 : decode method_5_code 85 = .ok (.iload_n 2, 1) := by decide +kernel
theorem d1_86 : decode method_5_code 86 = .ok (.castore, 1) := by decide +kernel
theorem d1_87 : decode method_5_code 87 = .ok (.areturn, 1) := by decide +kernel
set_option maxRecDepth 65536 in
set_option maxHeartbeats 40000000 in
theorem rmN01 (l : Launch) (Z : State) (a0 : Array Value) (hw : ∀ d ∈ tables_1, d.before a0 Z = true) (ws : List Jvm.Cond) (kd vr cc : Int32) (h0 : Heap) (n0 : Nat) (O0 : Old Z n0 h0) (hcc : ¬ nar .char cc < 0 ∧ ¬ (255 : Int32) < nar .char cc) (hc1 : kd = (0 : Int32)) (hc5 : ¬ (vr = (0 : Int32))) (hc45 : vr = (1 : Int32)) :
    MetFree l (⟨"com/example/lendloop/lendloop/core/TransactionRoleFromWireNamePinLaw", "named", "(IIC)[C"⟩ : MethodName) (head1 (Jvm.Cond.code (⟨"com/example/lendloop/lendloop/core/TransactionRoleFromWireNamePinLaw", "named", "(IIC)[C"⟩ : MethodName) method_5_code 3 (some (.array .char)) :: ws) ({ frames := 0, cells := 1, slots := 17, locals := 0 } : Room)) (fun qq U => qq = #[(.int kd), (.int vr), (.int cc)] ∧ Z.Warmed39 U.vm ∧ U.heap = h0) (fun _ _ _ _ _ => True) (fun _ UU oo UU' => ∃ vv LL, oo = .returned vv ∧ Qd10 Z kd vr cc h0 n0 vv UU'.heap LL ∧ FrameEnd UU oo UU' LL ({ frames := 0, cells := 1, slots := 17, locals := 0 } : Room).cells ({ frames := 0, cells := 1, slots := 17, locals := 0 } : Room).slots) := by
  refine MetFree.of_bodySF (plainFor_of_name pn_1) hisR ?_
  intro p e s m args below meth c s₁ Bd hml0 hP hK
  obtain ⟨rfl, hZ, hh⟩ := hP
  have hx := Bd.exec
  have hby := Bd.bytes
  have hml : c.maxLocals = 3 := hml0
  have hown : s.vm.findClass "com/example/lendloop/lendloop/core/TransactionRoleFromWireNamePinLaw" = some m.cls := findClass_of_methodNamed Bd.named
  have hnm := (name_of_methodNamed Bd.named Bd.method).1
  have X0 : Stand p l e ({ frames := 0, cells := 1, slots := 17, locals := 0 } : Room) s m #[(.int kd), (.int vr), (.int cc)] below meth c s₁ [] 0 0 := Stand.of_body Bd
  have e0 : s₁.heap = h0 := by rw [← hh, Bd.state]; rfl
  have N0 := Fr.nil n0
  have pre0 : ∀ tgt, Steps p.tables e below (s₁.setTop (mkF m 0 #[.val (.int kd), .val (.int vr), .val (.int cc)] [])) tgt → Steps p.tables e below (s₁.setTop (entryFrame m #[(.int kd), (.int vr), (.int cc)] 3)) tgt := fun tt kk => castTop (ef_1 m kd vr cc) kk
  obtain ⟨T1, h1, k1, X1, e1, E1, A1, st1⟩ := newP X0 hx hZ (ww hw 4 rfl) e0 (g := (mkF m 50 #[.val (.int kd), .val (.int vr), .val (.int cc)] [(.int (7 : Int32))])) rfl (hb hby d1_50) rfl (by decide) (cap := 7) (by decide) (by decide) (by decide) (by decide)
  obtain ⟨b1, q1⟩ : ∃ z, z = h0.size := ⟨_, rfl⟩
  rw [← q1] at A1 st1
  have g_b1 : n0 ≤ b1 := by rw [q1]; exact (O0).1 ▸ (O0).2.1
  have sz_b1 : h0.size ≤ b1 := by rw [q1]; exact ((Keep.refl h0 [])).1
  have O1 := Old.ext O0 E1
  have K1 := Keep.ext (Keep.refl h0 []) E1
  have V1 : Arv Z h1 b1 k1 .char (7 : Int32) [] (.int (0 : Int32)) := Arv.new A1 (by decide)
  obtain ⟨T2, h2, X2, e2, W2, V2, st2⟩ := own_putC X1 hx hZ e1 V1 (j := (0 : Int32)) rfl (by decide) (Nat.le_of_ble_eq_true rfl) (g := (mkF m 56 #[.val (.int kd), .val (.int vr), .val (.int cc)] [(.int (76 : Int32)), (.int (0 : Int32)), (.ref b1), (.ref b1)])) rfl rfl (hb hby d1_56)
  have N2 := Fr.snoc X2 N0 g_b1
  have O2 := Old.wr O1 W2 g_b1
  have K2 := Keep.wr K1 W2 (Or.inr sz_b1)
  obtain ⟨T3, h3, X3, e3, W3, V3, st3⟩ := own_putC X2 hx hZ e2 V2 (j := (1 : Int32)) rfl (by decide) (Nat.le_of_ble_eq_true rfl) (g := (mkF m 61 #[.val (.int kd), .val (.int vr), .val (.int cc)] [(.int (69 : Int32)), (.int (1 : Int32)), (.ref b1), (.ref b1)])) rfl rfl (hb hby d1_61)
  have N3 := Fr.snoc X3 N2 g_b1
  have O3 := Old.wr O2 W3 g_b1
  have K3 := Keep.wr K2 W3 (Or.inr sz_b1)
  obtain ⟨T4, h4, X4, e4, W4, V4, st4⟩ := own_putC X3 hx hZ e3 V3 (j := (2 : Int32)) rfl (by decide) (Nat.le_of_ble_eq_true rfl) (g := (mkF m 66 #[.val (.int kd), .val (.int vr), .val (.int cc)] [(.int (78 : Int32)), (.int (2 : Int32)), (.ref b1), (.ref b1)])) rfl rfl (hb hby d1_66)
  have N4 := Fr.snoc X4 N3 g_b1
  have O4 := Old.wr O3 W4 g_b1
  have K4 := Keep.wr K3 W4 (Or.inr sz_b1)
  obtain ⟨T5, h5, X5, e5, W5, V5, st5⟩ := own_putC X4 hx hZ e4 V4 (j := (3 : Int32)) rfl (by decide) (Nat.le_of_ble_eq_true rfl) (g := (mkF m 71 #[.val (.int kd), .val (.int vr), .val (.int cc)] [(.int (68 : Int32)), (.int (3 : Int32)), (.ref b1), (.ref b1)])) rfl rfl (hb hby d1_71)
  have N5 := Fr.snoc X5 N4 g_b1
  have O5 := Old.wr O4 W5 g_b1
  have K5 := Keep.wr K4 W5 (Or.inr sz_b1)
  obtain ⟨T6, h6, X6, e6, W6, V6, st6⟩ := own_putC X5 hx hZ e5 V5 (j := (4 : Int32)) rfl (by decide) (Nat.le_of_ble_eq_true rfl) (g := (mkF m 76 #[.val (.int kd), .val (.int vr), .val (.int cc)] [(.int (69 : Int32)), (.int (4 : Int32)), (.ref b1), (.ref b1)])) rfl rfl (hb hby d1_76)
  have N6 := Fr.snoc X6 N5 g_b1
  have O6 := Old.wr O5 W6 g_b1
  have K6 := Keep.wr K5 W6 (Or.inr sz_b1)
  obtain ⟨T7, h7, X7, e7, W7, V7, st7⟩ := own_putC X6 hx hZ e6 V6 (j := (5 : Int32)) rfl (by decide) (Nat.le_of_ble_eq_true rfl) (g := (mkF m 81 #[.val (.int kd), .val (.int vr), .val (.int cc)] [(.int (82 : Int32)), (.int (5 : Int32)), (.ref b1), (.ref b1)])) rfl rfl (hb hby d1_81)
  have N7 := Fr.snoc X7 N6 g_b1
  have O7 := Old.wr O6 W7 g_b1
  have K7 := Keep.wr K6 W7 (Or.inr sz_b1)
  obtain ⟨T8, h8, X8, e8, W8, V8, st8⟩ := own_putC X7 hx hZ e7 V7 (j := (6 : Int32)) rfl (by decide) (Nat.le_of_ble_eq_true rfl) (g := (mkF m 86 #[.val (.int kd), .val (.int vr), .val (.int cc)] [(.int cc), (.int (6 : Int32)), (.ref b1), (.ref b1)])) rfl rfl (hb hby d1_86)
  have N8 := Fr.snoc X8 N7 g_b1
  have O8 := Old.wr O7 W8 g_b1
  have K8 := Keep.wr K7 W8 (Or.inr sz_b1)
  have hgood : own_good ([(nar .char (76 : Int32)), (nar .char (69 : Int32)), (nar .char (78 : Int32)), (nar .char (68 : Int32)), (nar .char (69 : Int32)), (nar .char (82 : Int32)), (nar .char cc)] : List Int32) := ⟨Nat.le_of_ble_eq_true rfl, by
    intro x hx
    simp only [List.mem_cons, List.not_mem_nil, or_false] at hx
    rcases hx with rfl | rfl | rfl | rfl | rfl | rfl | rfl
    all_goals first | exact hcc | decide⟩
  obtain ⟨fs, hr, hrun, hended, hW, hsame⟩ := X8.leave (v := some (.ref b1)) (fun h => by rw [Bd.returns] at h; cases h)
  refine ⟨_, _, pre0 _ ?_, hrun, hended, _, _, rfl, ?_, ⟨_, rfl⟩, hW, hsame.mono (by decide) (by decide)⟩
  · show Steps p.tables e below (s₁.setTop (mkF m 0 #[.val (.int kd), .val (.int vr), .val (.int cc)] [])) _
    refine XS.iloadN X0.here hx rfl (hb hby d1_0) rfl ?_
    show Steps p.tables e below (s₁.setTop (mkF m 1 #[.val (.int kd), .val (.int vr), .val (.int cc)] [(.int kd)])) _
    refine XS.ifNo X0.here hx rfl (hb hby d1_1) rfl ((if0 _ _).trans (teq hc1).2) ?_
    show Steps p.tables e below (s₁.setTop (mkF m 4 #[.val (.int kd), .val (.int vr), .val (.int cc)] [])) _
    refine XS.iloadN X0.here hx rfl (hb hby d1_4) rfl ?_
    show Steps p.tables e below (s₁.setTop (mkF m 5 #[.val (.int kd), .val (.int vr), .val (.int cc)] [(.int vr)])) _
    refine XS.ifYes X0.here hx rfl (pc0 := 5) (pc' := 43) rfl (hb hby d1_5) rfl ((if0 _ _).trans (feq hc5).2) (by decide) (by decide) ?_
    show Steps p.tables e below (s₁.setTop (mkF m 43 #[.val (.int kd), .val (.int vr), .val (.int cc)] [])) _
    refine XS.iloadN X0.here hx rfl (hb hby d1_43) rfl ?_
    show Steps p.tables e below (s₁.setTop (mkF m 44 #[.val (.int kd), .val (.int vr), .val (.int cc)] [(.int vr)])) _
    refine XS.iconst X0.here hx rfl (hb hby d1_44) ?_
    show Steps p.tables e below (s₁.setTop (mkF m 45 #[.val (.int kd), .val (.int vr), .val (.int cc)] [(.int (1 : Int32)), (.int vr)])) _
    refine XS.icmpNo X0.here hx rfl (hb hby d1_45) rfl (teq hc45).2 ?_
    show Steps p.tables e below (s₁.setTop (mkF m 48 #[.val (.int kd), .val (.int vr), .val (.int cc)] [])) _
    refine XS.bipush X0.here hx rfl (hb hby d1_48) ?_
    show Steps p.tables e below (s₁.setTop (mkF m 50 #[.val (.int kd), .val (.int vr), .val (.int cc)] [(.int (7 : Int32))])) _
    refine st1 _ ?_
    show Steps p.tables e below (T1.setTop (mkF m 52 #[.val (.int kd), .val (.int vr), .val (.int cc)] [(.ref b1)])) _
    refine XS.dup X1.here hx rfl (hb hby d1_52) rfl rfl ?_
    show Steps p.tables e below (T1.setTop (mkF m 53 #[.val (.int kd), .val (.int vr), .val (.int cc)] [(.ref b1), (.ref b1)])) _
    refine XS.iconst X1.here hx rfl (hb hby d1_53) ?_
    show Steps p.tables e below (T1.setTop (mkF m 54 #[.val (.int kd), .val (.int vr), .val (.int cc)] [(.int (0 : Int32)), (.ref b1), (.ref b1)])) _
    refine XS.bipush X1.here hx rfl (hb hby d1_54) ?_
    show Steps p.tables e below (T1.setTop (mkF m 56 #[.val (.int kd), .val (.int vr), .val (.int cc)] [(.int (76 : Int32)), (.int (0 : Int32)), (.ref b1), (.ref b1)])) _
    refine st2 _ ?_
    show Steps p.tables e below (T2.setTop (mkF m 57 #[.val (.int kd), .val (.int vr), .val (.int cc)] [(.ref b1)])) _
    refine XS.dup X2.here hx rfl (hb hby d1_57) rfl rfl ?_
    show Steps p.tables e below (T2.setTop (mkF m 58 #[.val (.int kd), .val (.int vr), .val (.int cc)] [(.ref b1), (.ref b1)])) _
    refine XS.iconst X2.here hx rfl (hb hby d1_58) ?_
    show Steps p.tables e below (T2.setTop (mkF m 59 #[.val (.int kd), .val (.int vr), .val (.int cc)] [(.int (1 : Int32)), (.ref b1), (.ref b1)])) _
    refine XS.bipush X2.here hx rfl (hb hby d1_59) ?_
    show Steps p.tables e below (T2.setTop (mkF m 61 #[.val (.int kd), .val (.int vr), .val (.int cc)] [(.int (69 : Int32)), (.int (1 : Int32)), (.ref b1), (.ref b1)])) _
    refine st3 _ ?_
    show Steps p.tables e below (T3.setTop (mkF m 62 #[.val (.int kd), .val (.int vr), .val (.int cc)] [(.ref b1)])) _
    refine XS.dup X3.here hx rfl (hb hby d1_62) rfl rfl ?_
    show Steps p.tables e below (T3.setTop (mkF m 63 #[.val (.int kd), .val (.int vr), .val (.int cc)] [(.ref b1), (.ref b1)])) _
    refine XS.iconst X3.here hx rfl (hb hby d1_63) ?_
    show Steps p.tables e below (T3.setTop (mkF m 64 #[.val (.int kd), .val (.int vr), .val (.int cc)] [(.int (2 : Int32)), (.ref b1), (.ref b1)])) _
    refine XS.bipush X3.here hx rfl (hb hby d1_64) ?_
    show Steps p.tables e below (T3.setTop (mkF m 66 #[.val (.int kd), .val (.int vr), .val (.int cc)] [(.int (78 : Int32)), (.int (2 : Int32)), (.ref b1), (.ref b1)])) _
    refine st4 _ ?_
    show Steps p.tables e below (T4.setTop (mkF m 67 #[.val (.int kd), .val (.int vr), .val (.int cc)] [(.ref b1)])) _
    refine XS.dup X4.here hx rfl (hb hby d1_67) rfl rfl ?_
    show Steps p.tables e below (T4.setTop (mkF m 68 #[.val (.int kd), .val (.int vr), .val (.int cc)] [(.ref b1), (.ref b1)])) _
    refine XS.iconst X4.here hx rfl (hb hby d1_68) ?_
    show Steps p.tables e below (T4.setTop (mkF m 69 #[.val (.int kd), .val (.int vr), .val (.int cc)] [(.int (3 : Int32)), (.ref b1), (.ref b1)])) _
    refine XS.bipush X4.here hx rfl (hb hby d1_69) ?_
    show Steps p.tables e below (T4.setTop (mkF m 71 #[.val (.int kd), .val (.int vr), .val (.int cc)] [(.int (68 : Int32)), (.int (3 : Int32)), (.ref b1), (.ref b1)])) _
    refine st5 _ ?_
    show Steps p.tables e below (T5.setTop (mkF m 72 #[.val (.int kd), .val (.int vr), .val (.int cc)] [(.ref b1)])) _
    refine XS.dup X5.here hx rfl (hb hby d1_72) rfl rfl ?_
    show Steps p.tables e below (T5.setTop (mkF m 73 #[.val (.int kd), .val (.int vr), .val (.int cc)] [(.ref b1), (.ref b1)])) _
    refine XS.iconst X5.here hx rfl (hb hby d1_73) ?_
    show Steps p.tables e below (T5.setTop (mkF m 74 #[.val (.int kd), .val (.int vr), .val (.int cc)] [(.int (4 : Int32)), (.ref b1), (.ref b1)])) _
    refine XS.bipush X5.here hx rfl (hb hby d1_74) ?_
    show Steps p.tables e below (T5.setTop (mkF m 76 #[.val (.int kd), .val (.int vr), .val (.int cc)] [(.int (69 : Int32)), (.int (4 : Int32)), (.ref b1), (.ref b1)])) _
    refine st6 _ ?_
    show Steps p.tables e below (T6.setTop (mkF m 77 #[.val (.int kd), .val (.int vr), .val (.int cc)] [(.ref b1)])) _
    refine XS.dup X6.here hx rfl (hb hby d1_77) rfl rfl ?_
    show Steps p.tables e below (T6.setTop (mkF m 78 #[.val (.int kd), .val (.int vr), .val (.int cc)] [(.ref b1), (.ref b1)])) _
    refine XS.iconst X6.here hx rfl (hb hby d1_78) ?_
    show Steps p.tables e below (T6.setTop (mkF m 79 #[.val (.int kd), .val (.int vr), .val (.int cc)] [(.int (5 : Int32)), (.ref b1), (.ref b1)])) _
    refine XS.bipush X6.here hx rfl (hb hby d1_79) ?_
    show Steps p.tables e below (T6.setTop (mkF m 81 #[.val (.int kd), .val (.int vr), .val (.int cc)] [(.int (82 : Int32)), (.int (5 : Int32)), (.ref b1), (.ref b1)])) _
    refine st7 _ ?_
    show Steps p.tables e below (T7.setTop (mkF m 82 #[.val (.int kd), .val (.int vr), .val (.int cc)] [(.ref b1)])) _
    refine XS.dup X7.here hx rfl (hb hby d1_82) rfl rfl ?_
    show Steps p.tables e below (T7.setTop (mkF m 83 #[.val (.int kd), .val (.int vr), .val (.int cc)] [(.ref b1), (.ref b1)])) _
    refine XS.bipush X7.here hx rfl (hb hby d1_83) ?_
    show Steps p.tables e below (T7.setTop (mkF m 85 #[.val (.int kd), .val (.int vr), .val (.int cc)] [(.int (6 : Int32)), (.ref b1), (.ref b1)])) _
    refine XS.iloadN X7.here hx rfl (hb hby d1_85) rfl ?_
    show Steps p.tables e below (T7.setTop (mkF m 86 #[.val (.int kd), .val (.int vr), .val (.int cc)] [(.int cc), (.int (6 : Int32)), (.ref b1), (.ref b1)])) _
    refine st8 _ ?_
    show Steps p.tables e below (T8.setTop (mkF m 87 #[.val (.int kd), .val (.int vr), .val (.int cc)] [(.ref b1)])) _
    exact retOut X8 hx Bd.returns rfl (Or.inr (Or.inr (Or.inr (Or.inr ⟨rfl, rfl, rfl⟩)))) (hb hby d1_87) hr
  · show Qd10 Z kd vr cc h0 n0 _ T8.heap _
    rw [e8]
    exact ⟨b1, k1, ([(nar .char (76 : Int32)), (nar .char (69 : Int32)), (nar .char (78 : Int32)), (nar .char (68 : Int32)), (nar .char (69 : Int32)), (nar .char (82 : Int32)), (nar .char cc)] : List Int32), rfl, N8, K8, g_b1, V8, hgood, Nat.succ_ne_zero _⟩
theorem d1_88 : decode method_5_code 88 = .ok (.iconst 5, 1) := by decide +kernel
theorem d1_89 : decode method_5_code 89 = .ok (.newarray .char, 2) := by decide +kernel
theorem d1_91 : decode method_5_code 91 = .ok (.dup, 1) := by decide +kernel
theorem d1_92 : decode method_5_code 92 = .ok (.iconst 0, 1) := by decide +kernel
theorem d1_93 : decode method_5_code 93 = .ok (.bipush 76, 2) := by decide +kernel
theorem d1_95 : decode method_5_code 95 = .ok (.castore, 1) := by decide +kernel
theorem d1_96 : decode method_5_code 96 = .ok (.dup, 1) := by decide +kernel
theorem d1_97 : decode method_5_code 97 = .ok (.iconst 1, 1) := by decide +kernel
theorem d1_98 : decode method_5_code 98 = .ok (.bipush 69, 2) := by decide +kernel
theorem d1_100 : decode method_5_code 100 = .ok (.castore, 1) := by decide +kernel
theorem d1_101 : decode method_5_code 101 = .ok (.dup, 1) := by decide +kernel
theorem d1_102 : decode method_5_code 102 = .ok (.iconst 2, 1) := by decide +kernel
theorem d1_103 : decode method_5_code 103 = .ok (.bipush 78, 2) := by decide +kernel
theorem d1_105 : decode method_5_code 105 = .ok (.castore, 1) := by decide +kernel
theorem d1_106 : decode method_5_code 106 = .ok (.dup, 1) := by decide +kernel
theorem d1_107 : decode method_5_code 107 = .ok (.iconst 3, 1) := by decide +kernel
theorem d1_108 : decode method_5_code 108 = .ok (.bipush 68, 2) := by decide +kernel
theorem d1_110 : decode method_5_code 110 = .ok (.castore, 1) := by decide +kernel
theorem d1_111 : decode method_5_code 111 = .ok (.dup, 1) := by decide +kernel
theorem d1_112 : decode method_5_code 112 = .ok (.iconst 4, 1) := by decide +kernel
theorem d1_113 : decode method_5_code 113 = .ok (.bipush 69, 2) := by decide +kernel
theorem d1_115 : decode method_5_code 115 = .ok (.castore, 1) := by decide +kernel
theorem d1_116 : decode method_5_code 116 = .ok (.areturn, 1) := by decide +kernel
set_option maxRecDepth 65536 in
set_option maxHeartbeats 40000000 in
theorem rmN02 (l : Launch) (Z : State) (a0 : Array Value) (hw : ∀ d ∈ tables_1, d.before a0 Z = true) (ws : List Jvm.Cond) (kd vr cc : Int32) (h0 : Heap) (n0 : Nat) (O0 : Old Z n0 h0) (hcc : ¬ nar .char cc < 0 ∧ ¬ (255 : Int32) < nar .char cc) (hc1 : kd = (0 : Int32)) (hc5 : ¬ (vr = (0 : Int32))) (hc45 : ¬ (vr = (1 : Int32))) :
    MetFree l (⟨"com/example/lendloop/lendloop/core/TransactionRoleFromWireNamePinLaw", "named", "(IIC)[C"⟩ : MethodName) (head1 (Jvm.Cond.code (⟨"com/example/lendloop/lendloop/core/TransactionRoleFromWireNamePinLaw", "named", "(IIC)[C"⟩ : MethodName) method_5_code 3 (some (.array .char)) :: ws) ({ frames := 0, cells := 1, slots := 17, locals := 0 } : Room)) (fun qq U => qq = #[(.int kd), (.int vr), (.int cc)] ∧ Z.Warmed39 U.vm ∧ U.heap = h0) (fun _ _ _ _ _ => True) (fun _ UU oo UU' => ∃ vv LL, oo = .returned vv ∧ Qd10 Z kd vr cc h0 n0 vv UU'.heap LL ∧ FrameEnd UU oo UU' LL ({ frames := 0, cells := 1, slots := 17, locals := 0 } : Room).cells ({ frames := 0, cells := 1, slots := 17, locals := 0 } : Room).slots) := by
  refine MetFree.of_bodySF (plainFor_of_name pn_1) hisR ?_
  intro p e s m args below meth c s₁ Bd hml0 hP hK
  obtain ⟨rfl, hZ, hh⟩ := hP
  have hx := Bd.exec
  have hby := Bd.bytes
  have hml : c.maxLocals = 3 := hml0
  have hown : s.vm.findClass "com/example/lendloop/lendloop/core/TransactionRoleFromWireNamePinLaw" = some m.cls := findClass_of_methodNamed Bd.named
  have hnm := (name_of_methodNamed Bd.named Bd.method).1
  have X0 : Stand p l e ({ frames := 0, cells := 1, slots := 17, locals := 0 } : Room) s m #[(.int kd), (.int vr), (.int cc)] below meth c s₁ [] 0 0 := Stand.of_body Bd
  have e0 : s₁.heap = h0 := by rw [← hh, Bd.state]; rfl
  have N0 := Fr.nil n0
  have pre0 : ∀ tgt, Steps p.tables e below (s₁.setTop (mkF m 0 #[.val (.int kd), .val (.int vr), .val (.int cc)] [])) tgt → Steps p.tables e below (s₁.setTop (entryFrame m #[(.int kd), (.int vr), (.int cc)] 3)) tgt := fun tt kk => castTop (ef_1 m kd vr cc) kk
  obtain ⟨T1, h1, k1, X1, e1, E1, A1, st1⟩ := newP X0 hx hZ (ww hw 4 rfl) e0 (g := (mkF m 89 #[.val (.int kd), .val (.int vr), .val (.int cc)] [(.int (5 : Int32))])) rfl (hb hby d1_89) rfl (by decide) (cap := 5) (by decide) (by decide) (by decide) (by decide)
  obtain ⟨b1, q1⟩ : ∃ z, z = h0.size := ⟨_, rfl⟩
  rw [← q1] at A1 st1
  have g_b1 : n0 ≤ b1 := by rw [q1]; exact (O0).1 ▸ (O0).2.1
  have sz_b1 : h0.size ≤ b1 := by rw [q1]; exact ((Keep.refl h0 [])).1
  have O1 := Old.ext O0 E1
  have K1 := Keep.ext (Keep.refl h0 []) E1
  have V1 : Arv Z h1 b1 k1 .char (5 : Int32) [] (.int (0 : Int32)) := Arv.new A1 (by decide)
  obtain ⟨T2, h2, X2, e2, W2, V2, st2⟩ := own_putC X1 hx hZ e1 V1 (j := (0 : Int32)) rfl (by decide) (Nat.le_of_ble_eq_true rfl) (g := (mkF m 95 #[.val (.int kd), .val (.int vr), .val (.int cc)] [(.int (76 : Int32)), (.int (0 : Int32)), (.ref b1), (.ref b1)])) rfl rfl (hb hby d1_95)
  have N2 := Fr.snoc X2 N0 g_b1
  have O2 := Old.wr O1 W2 g_b1
  have K2 := Keep.wr K1 W2 (Or.inr sz_b1)
  obtain ⟨T3, h3, X3, e3, W3, V3, st3⟩ := own_putC X2 hx hZ e2 V2 (j := (1 : Int32)) rfl (by decide) (Nat.le_of_ble_eq_true rfl) (g := (mkF m 100 #[.val (.int kd), .val (.int vr), .val (.int cc)] [(.int (69 : Int32)), (.int (1 : Int32)), (.ref b1), (.ref b1)])) rfl rfl (hb hby d1_100)
  have N3 := Fr.snoc X3 N2 g_b1
  have O3 := Old.wr O2 W3 g_b1
  have K3 := Keep.wr K2 W3 (Or.inr sz_b1)
  obtain ⟨T4, h4, X4, e4, W4, V4, st4⟩ := own_putC X3 hx hZ e3 V3 (j := (2 : Int32)) rfl (by decide) (Nat.le_of_ble_eq_true rfl) (g := (mkF m 105 #[.val (.int kd), .val (.int vr), .val (.int cc)] [(.int (78 : Int32)), (.int (2 : Int32)), (.ref b1), (.ref b1)])) rfl rfl (hb hby d1_105)
  have N4 := Fr.snoc X4 N3 g_b1
  have O4 := Old.wr O3 W4 g_b1
  have K4 := Keep.wr K3 W4 (Or.inr sz_b1)
  obtain ⟨T5, h5, X5, e5, W5, V5, st5⟩ := own_putC X4 hx hZ e4 V4 (j := (3 : Int32)) rfl (by decide) (Nat.le_of_ble_eq_true rfl) (g := (mkF m 110 #[.val (.int kd), .val (.int vr), .val (.int cc)] [(.int (68 : Int32)), (.int (3 : Int32)), (.ref b1), (.ref b1)])) rfl rfl (hb hby d1_110)
  have N5 := Fr.snoc X5 N4 g_b1
  have O5 := Old.wr O4 W5 g_b1
  have K5 := Keep.wr K4 W5 (Or.inr sz_b1)
  obtain ⟨T6, h6, X6, e6, W6, V6, st6⟩ := own_putC X5 hx hZ e5 V5 (j := (4 : Int32)) rfl (by decide) (Nat.le_of_ble_eq_true rfl) (g := (mkF m 115 #[.val (.int kd), .val (.int vr), .val (.int cc)] [(.int (69 : Int32)), (.int (4 : Int32)), (.ref b1), (.ref b1)])) rfl rfl (hb hby d1_115)
  have N6 := Fr.snoc X6 N5 g_b1
  have O6 := Old.wr O5 W6 g_b1
  have K6 := Keep.wr K5 W6 (Or.inr sz_b1)
  have hgood : own_good ([(nar .char (76 : Int32)), (nar .char (69 : Int32)), (nar .char (78 : Int32)), (nar .char (68 : Int32)), (nar .char (69 : Int32))] : List Int32) := ⟨Nat.le_of_ble_eq_true rfl, by
    intro x hx
    simp only [List.mem_cons, List.not_mem_nil, or_false] at hx
    rcases hx with rfl | rfl | rfl | rfl | rfl
    all_goals first | exact hcc | decide⟩
  obtain ⟨fs, hr, hrun, hended, hW, hsame⟩ := X6.leave (v := some (.ref b1)) (fun h => by rw [Bd.returns] at h; cases h)
  refine ⟨_, _, pre0 _ ?_, hrun, hended, _, _, rfl, ?_, ⟨_, rfl⟩, hW, hsame.mono (by decide) (by decide)⟩
  · show Steps p.tables e below (s₁.setTop (mkF m 0 #[.val (.int kd), .val (.int vr), .val (.int cc)] [])) _
    refine XS.iloadN X0.here hx rfl (hb hby d1_0) rfl ?_
    show Steps p.tables e below (s₁.setTop (mkF m 1 #[.val (.int kd), .val (.int vr), .val (.int cc)] [(.int kd)])) _
    refine XS.ifNo X0.here hx rfl (hb hby d1_1) rfl ((if0 _ _).trans (teq hc1).2) ?_
    show Steps p.tables e below (s₁.setTop (mkF m 4 #[.val (.int kd), .val (.int vr), .val (.int cc)] [])) _
    refine XS.iloadN X0.here hx rfl (hb hby d1_4) rfl ?_
    show Steps p.tables e below (s₁.setTop (mkF m 5 #[.val (.int kd), .val (.int vr), .val (.int cc)] [(.int vr)])) _
    refine XS.ifYes X0.here hx rfl (pc0 := 5) (pc' := 43) rfl (hb hby d1_5) rfl ((if0 _ _).trans (feq hc5).2) (by decide) (by decide) ?_
    show Steps p.tables e below (s₁.setTop (mkF m 43 #[.val (.int kd), .val (.int vr), .val (.int cc)] [])) _
    refine XS.iloadN X0.here hx rfl (hb hby d1_43) rfl ?_
    show Steps p.tables e below (s₁.setTop (mkF m 44 #[.val (.int kd), .val (.int vr), .val (.int cc)] [(.int vr)])) _
    refine XS.iconst X0.here hx rfl (hb hby d1_44) ?_
    show Steps p.tables e below (s₁.setTop (mkF m 45 #[.val (.int kd), .val (.int vr), .val (.int cc)] [(.int (1 : Int32)), (.int vr)])) _
    refine XS.icmpYes X0.here hx rfl (pc0 := 45) (pc' := 88) rfl (hb hby d1_45) rfl (feq hc45).2 (by decide) (by decide) ?_
    show Steps p.tables e below (s₁.setTop (mkF m 88 #[.val (.int kd), .val (.int vr), .val (.int cc)] [])) _
    refine XS.iconst X0.here hx rfl (hb hby d1_88) ?_
    show Steps p.tables e below (s₁.setTop (mkF m 89 #[.val (.int kd), .val (.int vr), .val (.int cc)] [(.int (5 : Int32))])) _
    refine st1 _ ?_
    show Steps p.tables e below (T1.setTop (mkF m 91 #[.val (.int kd), .val (.int vr), .val (.int cc)] [(.ref b1)])) _
    refine XS.dup X1.here hx rfl (hb hby d1_91) rfl rfl ?_
    show Steps p.tables e below (T1.setTop (mkF m 92 #[.val (.int kd), .val (.int vr), .val (.int cc)] [(.ref b1), (.ref b1)])) _
    refine XS.iconst X1.here hx rfl (hb hby d1_92) ?_
    show Steps p.tables e below (T1.setTop (mkF m 93 #[.val (.int kd), .val (.int vr), .val (.int cc)] [(.int (0 : Int32)), (.ref b1), (.ref b1)])) _
    refine XS.bipush X1.here hx rfl (hb hby d1_93) ?_
    show Steps p.tables e below (T1.setTop (mkF m 95 #[.val (.int kd), .val (.int vr), .val (.int cc)] [(.int (76 : Int32)), (.int (0 : Int32)), (.ref b1), (.ref b1)])) _
    refine st2 _ ?_
    show Steps p.tables e below (T2.setTop (mkF m 96 #[.val (.int kd), .val (.int vr), .val (.int cc)] [(.ref b1)])) _
    refine XS.dup X2.here hx rfl (hb hby d1_96) rfl rfl ?_
    show Steps p.tables e below (T2.setTop (mkF m 97 #[.val (.int kd), .val (.int vr), .val (.int cc)] [(.ref b1), (.ref b1)])) _
    refine XS.iconst X2.here hx rfl (hb hby d1_97) ?_
    show Steps p.tables e below (T2.setTop (mkF m 98 #[.val (.int kd), .val (.int vr), .val (.int cc)] [(.int (1 : Int32)), (.ref b1), (.ref b1)])) _
    refine XS.bipush X2.here hx rfl (hb hby d1_98) ?_
    show Steps p.tables e below (T2.setTop (mkF m 100 #[.val (.int kd), .val (.int vr), .val (.int cc)] [(.int (69 : Int32)), (.int (1 : Int32)), (.ref b1), (.ref b1)])) _
    refine st3 _ ?_
    show Steps p.tables e below (T3.setTop (mkF m 101 #[.val (.int kd), .val (.int vr), .val (.int cc)] [(.ref b1)])) _
    refine XS.dup X3.here hx rfl (hb hby d1_101) rfl rfl ?_
    show Steps p.tables e below (T3.setTop (mkF m 102 #[.val (.int kd), .val (.int vr), .val (.int cc)] [(.ref b1), (.ref b1)])) _
    refine XS.iconst X3.here hx rfl (hb hby d1_102) ?_
    show Steps p.tables e below (T3.setTop (mkF m 103 #[.val (.int kd), .val (.int vr), .val (.int cc)] [(.int (2 : Int32)), (.ref b1), (.ref b1)])) _
    refine XS.bipush X3.here hx rfl (hb hby d1_103) ?_
    show Steps p.tables e below (T3.setTop (mkF m 105 #[.val (.int kd), .val (.int vr), .val (.int cc)] [(.int (78 : Int32)), (.int (2 : Int32)), (.ref b1), (.ref b1)])) _
    refine st4 _ ?_
    show Steps p.tables e below (T4.setTop (mkF m 106 #[.val (.int kd), .val (.int vr), .val (.int cc)] [(.ref b1)])) _
    refine XS.dup X4.here hx rfl (hb hby d1_106) rfl rfl ?_
    show Steps p.tables e below (T4.setTop (mkF m 107 #[.val (.int kd), .val (.int vr), .val (.int cc)] [(.ref b1), (.ref b1)])) _
    refine XS.iconst X4.here hx rfl (hb hby d1_107) ?_
    show Steps p.tables e below (T4.setTop (mkF m 108 #[.val (.int kd), .val (.int vr), .val (.int cc)] [(.int (3 : Int32)), (.ref b1), (.ref b1)])) _
    refine XS.bipush X4.here hx rfl (hb hby d1_108) ?_
    show Steps p.tables e below (T4.setTop (mkF m 110 #[.val (.int kd), .val (.int vr), .val (.int cc)] [(.int (68 : Int32)), (.int (3 : Int32)), (.ref b1), (.ref b1)])) _
    refine st5 _ ?_
    show Steps p.tables e below (T5.setTop (mkF m 111 #[.val (.int kd), .val (.int vr), .val (.int cc)] [(.ref b1)])) _
    refine XS.dup X5.here hx rfl (hb hby d1_111) rfl rfl ?_
    show Steps p.tables e below (T5.setTop (mkF m 112 #[.val (.int kd), .val (.int vr), .val (.int cc)] [(.ref b1), (.ref b1)])) _
    refine XS.iconst X5.here hx rfl (hb hby d1_112) ?_
    show Steps p.tables e below (T5.setTop (mkF m 113 #[.val (.int kd), .val (.int vr), .val (.int cc)] [(.int (4 : Int32)), (.ref b1), (.ref b1)])) _
    refine XS.bipush X5.here hx rfl (hb hby d1_113) ?_
    show Steps p.tables e below (T5.setTop (mkF m 115 #[.val (.int kd), .val (.int vr), .val (.int cc)] [(.int (69 : Int32)), (.int (4 : Int32)), (.ref b1), (.ref b1)])) _
    refine st6 _ ?_
    show Steps p.tables e below (T6.setTop (mkF m 116 #[.val (.int kd), .val (.int vr), .val (.int cc)] [(.ref b1)])) _
    exact retOut X6 hx Bd.returns rfl (Or.inr (Or.inr (Or.inr (Or.inr ⟨rfl, rfl, rfl⟩)))) (hb hby d1_116) hr
  · show Qd10 Z kd vr cc h0 n0 _ T6.heap _
    rw [e6]
    exact ⟨b1, k1, ([(nar .char (76 : Int32)), (nar .char (69 : Int32)), (nar .char (78 : Int32)), (nar .char (68 : Int32)), (nar .char (69 : Int32))] : List Int32), rfl, N6, K6, g_b1, V6, hgood, Nat.succ_ne_zero _⟩
theorem d1_117 : decode method_5_code 117 = .ok (.iload_n 0, 1) := by decide +kernel
theorem d1_118 : decode method_5_code 118 = .ok (.iconst 1, 1) := by decide +kernel
theorem d1_119 : decode method_5_code 119 = .ok (.if_icmp .ne 152, 3) := by decide +kernel
theorem d1_122 : decode method_5_code 122 = .ok (.iload_n 1, 1) := by decide +kernel
theorem d1_123 : decode method_5_code 123 = .ok (.ifCond .ne 50, 3) := by decide +kernel
theorem d1_126 : decode method_5_code 126 = .ok (.bipush 8, 2) := by decide +kernel
theorem d1_128 : decode method_5_code 128 = .ok (.newarray .char, 2) := by decide +kernel
theorem d1_130 : decode method_5_code 130 = .ok (.dup, 1) := by decide +kernel
theorem d1_131 : decode method_5_code 131 = .ok (.iconst 0, 1) := by decide +kernel
theorem d1_132 : decode method_5_code 132 = .ok (.bipush 66, 2) := by decide +kernel
theorem d1_134 : decode method_5_code 134 = .ok (.castore, 1) := by decide +kernel
theorem d1_135 : decode method_5_code 135 = .ok (.dup, 1) := by decide +kernel
theorem d1_136 : decode method_5_code 136 = .ok (.iconst 1, 1) := by decide +kernel
theorem d1_137 : decode method_5_code 137 = .ok (.bipush 79, 2) := by decide +kernel
theorem d1_139 : decode method_5_code 139 = .ok (.castore, 1) := by decide +kernel
theorem d1_140 : decode method_5_code 140 = .ok (.dup, 1) := by decide +kernel
theorem d1_141 : decode method_5_code 141 = .ok (.iconst 2, 1) := by decide +kernel
theorem d1_142 : decode method_5_code 142 = .ok (.bipush 82, 2) := by decide +kernel
theorem d1_144 : decode method_5_code 144 = .ok (.castore, 1) := by decide +kernel
theorem d1_145 : decode method_5_code 145 = .ok (.dup, 1) := by decide +kernel
theorem d1_146 : decode method_5_code 146 = .ok (.iconst 3, 1) := by decide +kernel
theorem d1_147 : decode method_5_code 147 = .ok (.bipush 82, 2) := by decide +kernel
theorem d1_149 : decode method_5_code 149 = .ok (.castore, 1) := by decide +kernel
theorem d1_150 : decode method_5_code 150 = .ok (.dup, 1) := by decide +kernel
theorem d1_151 : decode method_5_code 151 = .ok (.iconst 4, 1) := by decide +kernel
theorem d1_152 : decode method_5_code 152 = .ok (.bipush 79, 2) := by decide +kernel
theorem d1_154 : decode method_5_code 154 = .ok (.castore, 1) := by decide +kernel
theorem d1_155 : decode method_5_code 155 = .ok (.dup, 1) := by decide +kernel
theorem d1_156 : decode method_5_code 156 = .ok (.iconst 5, 1) := by decide +kernel
theorem d1_157 : decode method_5_code 157 = .ok (.bipush 87, 2) := by decide +kernel
theorem d1_159 : decode method_5_code 159 = .ok (.castore, 1) := by decide +kernel
theorem d1_160 : decode method_5_code 160 = .ok (.dup, 1) := by decide +kernel
theorem d1_161 : decode method_5_code 161 = .ok (.bipush 6, 2) := by decide +kernel
theorem d1_163 : decode method_5_code 163 = .ok (.bipush 69, 2) := by decide +kernel
theorem d1_165 : decode method_5_code 165 = .ok (.castore, 1) := by decide +kernel
theorem d1_166 : decode method_5_code 166 = .ok (.dup, 1) := by decide +kernel
theorem d1_167 : decode method_5_code 167 = .ok (.bipush 7, 2) := by decide +kernel
theorem d1_169 : decode method_5_code 169 = .ok (.bipush 82, 2) := by decide +kernel
theorem d1_171 : decode method_5_code 171 = .ok (.castore, 1) := by decide +kernel
theorem d1_172 : decode method_5_code 172 = .ok (.areturn, 1) := by decide +kernel
set_option maxRecDepth 65536 in
set_option maxHeartbeats 40000000 in
theorem rmN10 (l : Launch) (Z : State) (a0 : Array Value) (hw : ∀ d ∈ tables_1, d.before a0 Z = true) (ws : List Jvm.Cond) (kd vr cc : Int32) (h0 : Heap) (n0 : Nat) (O0 : Old Z n0 h0) (hcc : ¬ nar .char cc < 0 ∧ ¬ (255 : Int32) < nar .char cc) (hc1 : ¬ (kd = (0 : Int32))) (hc119 : kd = (1 : Int32)) (hc123 : vr = (0 : Int32)) :
    MetFree l (⟨"com/example/lendloop/lendloop/core/TransactionRoleFromWireNamePinLaw", "named", "(IIC)[C"⟩ : MethodName) (head1 (Jvm.Cond.code (⟨"com/example/lendloop/lendloop/core/TransactionRoleFromWireNamePinLaw", "named", "(IIC)[C"⟩ : MethodName) method_5_code 3 (some (.array .char)) :: ws) ({ frames := 0, cells := 1, slots := 17, locals := 0 } : Room)) (fun qq U => qq = #[(.int kd), (.int vr), (.int cc)] ∧ Z.Warmed39 U.vm ∧ U.heap = h0) (fun _ _ _ _ _ => True) (fun _ UU oo UU' => ∃ vv LL, oo = .returned vv ∧ Qd10 Z kd vr cc h0 n0 vv UU'.heap LL ∧ FrameEnd UU oo UU' LL ({ frames := 0, cells := 1, slots := 17, locals := 0 } : Room).cells ({ frames := 0, cells := 1, slots := 17, locals := 0 } : Room).slots) := by
  refine MetFree.of_bodySF (plainFor_of_name pn_1) hisR ?_
  intro p e s m args below meth c s₁ Bd hml0 hP hK
  obtain ⟨rfl, hZ, hh⟩ := hP
  have hx := Bd.exec
  have hby := Bd.bytes
  have hml : c.maxLocals = 3 := hml0
  have hown : s.vm.findClass "com/example/lendloop/lendloop/core/TransactionRoleFromWireNamePinLaw" = some m.cls := findClass_of_methodNamed Bd.named
  have hnm := (name_of_methodNamed Bd.named Bd.method).1
  have X0 : Stand p l e ({ frames := 0, cells := 1, slots := 17, locals := 0 } : Room) s m #[(.int kd), (.int vr), (.int cc)] below meth c s₁ [] 0 0 := Stand.of_body Bd
  have e0 : s₁.heap = h0 := by rw [← hh, Bd.state]; rfl
  have N0 := Fr.nil n0
  have pre0 : ∀ tgt, Steps p.tables e below (s₁.setTop (mkF m 0 #[.val (.int kd), .val (.int vr), .val (.int cc)] [])) tgt → Steps p.tables e below (s₁.setTop (entryFrame m #[(.int kd), (.int vr), (.int cc)] 3)) tgt := fun tt kk => castTop (ef_1 m kd vr cc) kk
  obtain ⟨T1, h1, k1, X1, e1, E1, A1, st1⟩ := newP X0 hx hZ (ww hw 4 rfl) e0 (g := (mkF m 128 #[.val (.int kd), .val (.int vr), .val (.int cc)] [(.int (8 : Int32))])) rfl (hb hby d1_128) rfl (by decide) (cap := 8) (by decide) (by decide) (by decide) (by decide)
  obtain ⟨b1, q1⟩ : ∃ z, z = h0.size := ⟨_, rfl⟩
  rw [← q1] at A1 st1
  have g_b1 : n0 ≤ b1 := by rw [q1]; exact (O0).1 ▸ (O0).2.1
  have sz_b1 : h0.size ≤ b1 := by rw [q1]; exact ((Keep.refl h0 [])).1
  have O1 := Old.ext O0 E1
  have K1 := Keep.ext (Keep.refl h0 []) E1
  have V1 : Arv Z h1 b1 k1 .char (8 : Int32) [] (.int (0 : Int32)) := Arv.new A1 (by decide)
  obtain ⟨T2, h2, X2, e2, W2, V2, st2⟩ := own_putC X1 hx hZ e1 V1 (j := (0 : Int32)) rfl (by decide) (Nat.le_of_ble_eq_true rfl) (g := (mkF m 134 #[.val (.int kd), .val (.int vr), .val (.int cc)] [(.int (66 : Int32)), (.int (0 : Int32)), (.ref b1), (.ref b1)])) rfl rfl (hb hby d1_134)
  have N2 := Fr.snoc X2 N0 g_b1
  have O2 := Old.wr O1 W2 g_b1
  have K2 := Keep.wr K1 W2 (Or.inr sz_b1)
  obtain ⟨T3, h3, X3, e3, W3, V3, st3⟩ := own_putC X2 hx hZ e2 V2 (j := (1 : Int32)) rfl (by decide) (Nat.le_of_ble_eq_true rfl) (g := (mkF m 139 #[.val (.int kd), .val (.int vr), .val (.int cc)] [(.int (79 : Int32)), (.int (1 : Int32)), (.ref b1), (.ref b1)])) rfl rfl (hb hby d1_139)
  have N3 := Fr.snoc X3 N2 g_b1
  have O3 := Old.wr O2 W3 g_b1
  have K3 := Keep.wr K2 W3 (Or.inr sz_b1)
  obtain ⟨T4, h4, X4, e4, W4, V4, st4⟩ := own_putC X3 hx hZ e3 V3 (j := (2 : Int32)) rfl (by decide) (Nat.le_of_ble_eq_true rfl) (g := (mkF m 144 #[.val (.int kd), .val (.int vr), .val (.int cc)] [(.int (82 : Int32)), (.int (2 : Int32)), (.ref b1), (.ref b1)])) rfl rfl (hb hby d1_144)
  have N4 := Fr.snoc X4 N3 g_b1
  have O4 := Old.wr O3 W4 g_b1
  have K4 := Keep.wr K3 W4 (Or.inr sz_b1)
  obtain ⟨T5, h5, X5, e5, W5, V5, st5⟩ := own_putC X4 hx hZ e4 V4 (j := (3 : Int32)) rfl (by decide) (Nat.le_of_ble_eq_true rfl) (g := (mkF m 149 #[.val (.int kd), .val (.int vr), .val (.int cc)] [(.int (82 : Int32)), (.int (3 : Int32)), (.ref b1), (.ref b1)])) rfl rfl (hb hby d1_149)
  have N5 := Fr.snoc X5 N4 g_b1
  have O5 := Old.wr O4 W5 g_b1
  have K5 := Keep.wr K4 W5 (Or.inr sz_b1)
  obtain ⟨T6, h6, X6, e6, W6, V6, st6⟩ := own_putC X5 hx hZ e5 V5 (j := (4 : Int32)) rfl (by decide) (Nat.le_of_ble_eq_true rfl) (g := (mkF m 154 #[.val (.int kd), .val (.int vr), .val (.int cc)] [(.int (79 : Int32)), (.int (4 : Int32)), (.ref b1), (.ref b1)])) rfl rfl (hb hby d1_154)
  have N6 := Fr.snoc X6 N5 g_b1
  have O6 := Old.wr O5 W6 g_b1
  have K6 := Keep.wr K5 W6 (Or.inr sz_b1)
  obtain ⟨T7, h7, X7, e7, W7, V7, st7⟩ := own_putC X6 hx hZ e6 V6 (j := (5 : Int32)) rfl (by decide) (Nat.le_of_ble_eq_true rfl) (g := (mkF m 159 #[.val (.int kd), .val (.int vr), .val (.int cc)] [(.int (87 : Int32)), (.int (5 : Int32)), (.ref b1), (.ref b1)])) rfl rfl (hb hby d1_159)
  have N7 := Fr.snoc X7 N6 g_b1
  have O7 := Old.wr O6 W7 g_b1
  have K7 := Keep.wr K6 W7 (Or.inr sz_b1)
  obtain ⟨T8, h8, X8, e8, W8, V8, st8⟩ := own_putC X7 hx hZ e7 V7 (j := (6 : Int32)) rfl (by decide) (Nat.le_of_ble_eq_true rfl) (g := (mkF m 165 #[.val (.int kd), .val (.int vr), .val (.int cc)] [(.int (69 : Int32)), (.int (6 : Int32)), (.ref b1), (.ref b1)])) rfl rfl (hb hby d1_165)
  have N8 := Fr.snoc X8 N7 g_b1
  have O8 := Old.wr O7 W8 g_b1
  have K8 := Keep.wr K7 W8 (Or.inr sz_b1)
  obtain ⟨T9, h9, X9, e9, W9, V9, st9⟩ := own_putC X8 hx hZ e8 V8 (j := (7 : Int32)) rfl (by decide) (Nat.le_of_ble_eq_true rfl) (g := (mkF m 171 #[.val (.int kd), .val (.int vr), .val (.int cc)] [(.int (82 : Int32)), (.int (7 : Int32)), (.ref b1), (.ref b1)])) rfl rfl (hb hby d1_171)
  have N9 := Fr.snoc X9 N8 g_b1
  have O9 := Old.wr O8 W9 g_b1
  have K9 := Keep.wr K8 W9 (Or.inr sz_b1)
  have hgood : own_good ([(nar .char (66 : Int32)), (nar .char (79 : Int32)), (nar .char (82 : Int32)), (nar .char (82 : Int32)), (nar .char (79 : Int32)), (nar .char (87 : Int32)), (nar .char (69 : Int32)), (nar .char (82 : Int32))] : List Int32) := ⟨Nat.le_of_ble_eq_true rfl, by
    intro x hx
    simp only [List.mem_cons, List.not_mem_nil, or_false] at hx
    rcases hx with rfl | rfl | rfl | rfl | rfl | rfl | rfl | rfl
    all_goals first | exact hcc | decide⟩
  obtain ⟨fs, hr, hrun, hended, hW, hsame⟩ := X9.leave (v := some (.ref b1)) (fun h => by rw [Bd.returns] at h; cases h)
  refine ⟨_, _, pre0 _ ?_, hrun, hended, _, _, rfl, ?_, ⟨_, rfl⟩, hW, hsame.mono (by decide) (by decide)⟩
  · show Steps p.tables e below (s₁.setTop (mkF m 0 #[.val (.int kd), .val (.int vr), .val (.int cc)] [])) _
    refine XS.iloadN X0.here hx rfl (hb hby d1_0) rfl ?_
    show Steps p.tables e below (s₁.setTop (mkF m 1 #[.val (.int kd), .val (.int vr), .val (.int cc)] [(.int kd)])) _
    refine XS.ifYes X0.here hx rfl (pc0 := 1) (pc' := 117) rfl (hb hby d1_1) rfl ((if0 _ _).trans (feq hc1).2) (by decide) (by decide) ?_
    show Steps p.tables e below (s₁.setTop (mkF m 117 #[.val (.int kd), .val (.int vr), .val (.int cc)] [])) _
    refine XS.iloadN X0.here hx rfl (hb hby d1_117) rfl ?_
    show Steps p.tables e below (s₁.setTop (mkF m 118 #[.val (.int kd), .val (.int vr), .val (.int cc)] [(.int kd)])) _
    refine XS.iconst X0.here hx rfl (hb hby d1_118) ?_
    show Steps p.tables e below (s₁.setTop (mkF m 119 #[.val (.int kd), .val (.int vr), .val (.int cc)] [(.int (1 : Int32)), (.int kd)])) _
    refine XS.icmpNo X0.here hx rfl (hb hby d1_119) rfl (teq hc119).2 ?_
    show Steps p.tables e below (s₁.setTop (mkF m 122 #[.val (.int kd), .val (.int vr), .val (.int cc)] [])) _
    refine XS.iloadN X0.here hx rfl (hb hby d1_122) rfl ?_
    show Steps p.tables e below (s₁.setTop (mkF m 123 #[.val (.int kd), .val (.int vr), .val (.int cc)] [(.int vr)])) _
    refine XS.ifNo X0.here hx rfl (hb hby d1_123) rfl ((if0 _ _).trans (teq hc123).2) ?_
    show Steps p.tables e below (s₁.setTop (mkF m 126 #[.val (.int kd), .val (.int vr), .val (.int cc)] [])) _
    refine XS.bipush X0.here hx rfl (hb hby d1_126) ?_
    show Steps p.tables e below (s₁.setTop (mkF m 128 #[.val (.int kd), .val (.int vr), .val (.int cc)] [(.int (8 : Int32))])) _
    refine st1 _ ?_
    show Steps p.tables e below (T1.setTop (mkF m 130 #[.val (.int kd), .val (.int vr), .val (.int cc)] [(.ref b1)])) _
    refine XS.dup X1.here hx rfl (hb hby d1_130) rfl rfl ?_
    show Steps p.tables e below (T1.setTop (mkF m 131 #[.val (.int kd), .val (.int vr), .val (.int cc)] [(.ref b1), (.ref b1)])) _
    refine XS.iconst X1.here hx rfl (hb hby d1_131) ?_
    show Steps p.tables e below (T1.setTop (mkF m 132 #[.val (.int kd), .val (.int vr), .val (.int cc)] [(.int (0 : Int32)), (.ref b1), (.ref b1)])) _
    refine XS.bipush X1.here hx rfl (hb hby d1_132) ?_
    show Steps p.tables e below (T1.setTop (mkF m 134 #[.val (.int kd), .val (.int vr), .val (.int cc)] [(.int (66 : Int32)), (.int (0 : Int32)), (.ref b1), (.ref b1)])) _
    refine st2 _ ?_
    show Steps p.tables e below (T2.setTop (mkF m 135 #[.val (.int kd), .val (.int vr), .val (.int cc)] [(.ref b1)])) _
    refine XS.dup X2.here hx rfl (hb hby d1_135) rfl rfl ?_
    show Steps p.tables e below (T2.setTop (mkF m 136 #[.val (.int kd), .val (.int vr), .val (.int cc)] [(.ref b1), (.ref b1)])) _
    refine XS.iconst X2.here hx rfl (hb hby d1_136) ?_
    show Steps p.tables e below (T2.setTop (mkF m 137 #[.val (.int kd), .val (.int vr), .val (.int cc)] [(.int (1 : Int32)), (.ref b1), (.ref b1)])) _
    refine XS.bipush X2.here hx rfl (hb hby d1_137) ?_
    show Steps p.tables e below (T2.setTop (mkF m 139 #[.val (.int kd), .val (.int vr), .val (.int cc)] [(.int (79 : Int32)), (.int (1 : Int32)), (.ref b1), (.ref b1)])) _
    refine st3 _ ?_
    show Steps p.tables e below (T3.setTop (mkF m 140 #[.val (.int kd), .val (.int vr), .val (.int cc)] [(.ref b1)])) _
    refine XS.dup X3.here hx rfl (hb hby d1_140) rfl rfl ?_
    show Steps p.tables e below (T3.setTop (mkF m 141 #[.val (.int kd), .val (.int vr), .val (.int cc)] [(.ref b1), (.ref b1)])) _
    refine XS.iconst X3.here hx rfl (hb hby d1_141) ?_
    show Steps p.tables e below (T3.setTop (mkF m 142 #[.val (.int kd), .val (.int vr), .val (.int cc)] [(.int (2 : Int32)), (.ref b1), (.ref b1)])) _
    refine XS.bipush X3.here hx rfl (hb hby d1_142) ?_
    show Steps p.tables e below (T3.setTop (mkF m 144 #[.val (.int kd), .val (.int vr), .val (.int cc)] [(.int (82 : Int32)), (.int (2 : Int32)), (.ref b1), (.ref b1)])) _
    refine st4 _ ?_
    show Steps p.tables e below (T4.setTop (mkF m 145 #[.val (.int kd), .val (.int vr), .val (.int cc)] [(.ref b1)])) _
    refine XS.dup X4.here hx rfl (hb hby d1_145) rfl rfl ?_
    show Steps p.tables e below (T4.setTop (mkF m 146 #[.val (.int kd), .val (.int vr), .val (.int cc)] [(.ref b1), (.ref b1)])) _
    refine XS.iconst X4.here hx rfl (hb hby d1_146) ?_
    show Steps p.tables e below (T4.setTop (mkF m 147 #[.val (.int kd), .val (.int vr), .val (.int cc)] [(.int (3 : Int32)), (.ref b1), (.ref b1)])) _
    refine XS.bipush X4.here hx rfl (hb hby d1_147) ?_
    show Steps p.tables e below (T4.setTop (mkF m 149 #[.val (.int kd), .val (.int vr), .val (.int cc)] [(.int (82 : Int32)), (.int (3 : Int32)), (.ref b1), (.ref b1)])) _
    refine st5 _ ?_
    show Steps p.tables e below (T5.setTop (mkF m 150 #[.val (.int kd), .val (.int vr), .val (.int cc)] [(.ref b1)])) _
    refine XS.dup X5.here hx rfl (hb hby d1_150) rfl rfl ?_
    show Steps p.tables e below (T5.setTop (mkF m 151 #[.val (.int kd), .val (.int vr), .val (.int cc)] [(.ref b1), (.ref b1)])) _
    refine XS.iconst X5.here hx rfl (hb hby d1_151) ?_
    show Steps p.tables e below (T5.setTop (mkF m 152 #[.val (.int kd), .val (.int vr), .val (.int cc)] [(.int (4 : Int32)), (.ref b1), (.ref b1)])) _
    refine XS.bipush X5.here hx rfl (hb hby d1_152) ?_
    show Steps p.tables e below (T5.setTop (mkF m 154 #[.val (.int kd), .val (.int vr), .val (.int cc)] [(.int (79 : Int32)), (.int (4 : Int32)), (.ref b1), (.ref b1)])) _
    refine st6 _ ?_
    show Steps p.tables e below (T6.setTop (mkF m 155 #[.val (.int kd), .val (.int vr), .val (.int cc)] [(.ref b1)])) _
    refine XS.dup X6.here hx rfl (hb hby d1_155) rfl rfl ?_
    show Steps p.tables e below (T6.setTop (mkF m 156 #[.val (.int kd), .val (.int vr), .val (.int cc)] [(.ref b1), (.ref b1)])) _
    refine XS.iconst X6.here hx rfl (hb hby d1_156) ?_
    show Steps p.tables e below (T6.setTop (mkF m 157 #[.val (.int kd), .val (.int vr), .val (.int cc)] [(.int (5 : Int32)), (.ref b1), (.ref b1)])) _
    refine XS.bipush X6.here hx rfl (hb hby d1_157) ?_
    show Steps p.tables e below (T6.setTop (mkF m 159 #[.val (.int kd), .val (.int vr), .val (.int cc)] [(.int (87 : Int32)), (.int (5 : Int32)), (.ref b1), (.ref b1)])) _
    refine st7 _ ?_
    show Steps p.tables e below (T7.setTop (mkF m 160 #[.val (.int kd), .val (.int vr), .val (.int cc)] [(.ref b1)])) _
    refine XS.dup X7.here hx rfl (hb hby d1_160) rfl rfl ?_
    show Steps p.tables e below (T7.setTop (mkF m 161 #[.val (.int kd), .val (.int vr), .val (.int cc)] [(.ref b1), (.ref b1)])) _
    refine XS.bipush X7.here hx rfl (hb hby d1_161) ?_
    show Steps p.tables e below (T7.setTop (mkF m 163 #[.val (.int kd), .val (.int vr), .val (.int cc)] [(.int (6 : Int32)), (.ref b1), (.ref b1)])) _
    refine XS.bipush X7.here hx rfl (hb hby d1_163) ?_
    show Steps p.tables e below (T7.setTop (mkF m 165 #[.val (.int kd), .val (.int vr), .val (.int cc)] [(.int (69 : Int32)), (.int (6 : Int32)), (.ref b1), (.ref b1)])) _
    refine st8 _ ?_
    show Steps p.tables e below (T8.setTop (mkF m 166 #[.val (.int kd), .val (.int vr), .val (.int cc)] [(.ref b1)])) _
    refine XS.dup X8.here hx rfl (hb hby d1_166) rfl rfl ?_
    show Steps p.tables e below (T8.setTop (mkF m 167 #[.val (.int kd), .val (.int vr), .val (.int cc)] [(.ref b1), (.ref b1)])) _
    refine XS.bipush X8.here hx rfl (hb hby d1_167) ?_
    show Steps p.tables e below (T8.setTop (mkF m 169 #[.val (.int kd), .val (.int vr), .val (.int cc)] [(.int (7 : Int32)), (.ref b1), (.ref b1)])) _
    refine XS.bipush X8.here hx rfl (hb hby d1_169) ?_
    show Steps p.tables e below (T8.setTop (mkF m 171 #[.val (.int kd), .val (.int vr), .val (.int cc)] [(.int (82 : Int32)), (.int (7 : Int32)), (.ref b1), (.ref b1)])) _
    refine st9 _ ?_
    show Steps p.tables e below (T9.setTop (mkF m 172 #[.val (.int kd), .val (.int vr), .val (.int cc)] [(.ref b1)])) _
    exact retOut X9 hx Bd.returns rfl (Or.inr (Or.inr (Or.inr (Or.inr ⟨rfl, rfl, rfl⟩)))) (hb hby d1_172) hr
  · show Qd10 Z kd vr cc h0 n0 _ T9.heap _
    rw [e9]
    exact ⟨b1, k1, ([(nar .char (66 : Int32)), (nar .char (79 : Int32)), (nar .char (82 : Int32)), (nar .char (82 : Int32)), (nar .char (79 : Int32)), (nar .char (87 : Int32)), (nar .char (69 : Int32)), (nar .char (82 : Int32))] : List Int32), rfl, N9, K9, g_b1, V9, hgood, Nat.succ_ne_zero _⟩
theorem d1_173 : decode method_5_code 173 = .ok (.iload_n 1, 1) := by decide +kernel
theorem d1_174 : decode method_5_code 174 = .ok (.iconst 1, 1) := by decide +kernel
theorem d1_175 : decode method_5_code 175 = .ok (.if_icmp .ne 55, 3) := by decide +kernel
theorem d1_178 : decode method_5_code 178 = .ok (.bipush 9, 2) := by decide +kernel
theorem d1_180 : decode method_5_code 180 = .ok (.newarray .char, 2) := by decide +kernel
theorem d1_182 : decode method_5_code 182 = .ok (.dup, 1) := by decide +kernel
theorem d1_183 : decode method_5_code 183 = .ok (.iconst 0, 1) := by decide +kernel
theorem d1_184 : decode method_5_code 184 = .ok (.bipush 66, 2) := by decide +kernel
theorem d1_186 : decode method_5_code 186 = .ok (.castore, 1) := by decide +kernel
theorem d1_187 : decode method_5_code 187 = .ok (.dup, 1) := by decide +kernel
theorem d1_188 : decode method_5_code 188 = .ok (.iconst 1, 1) := by decide +kernel
theorem d1_189 : decode method_5_code 189 = .ok (.bipush 79, 2) := by decide +kernel
theorem d1_191 : decode method_5_code 191 = .ok (.castore, 1) := by decide +kernel
theorem d1_192 : decode method_5_code 192 = .ok (.dup, 1) := by decide +kernel
theorem d1_193 : decode method_5_code 193 = .ok (.iconst 2, 1) := by decide +kernel
theorem d1_194 : decode method_5_code 194 = .ok (.bipush 82, 2) := by decide +kernel
theorem d1_196 : decode method_5_code 196 = .ok (.castore, 1) := by decide +kernel
theorem d1_197 : decode method_5_code 197 = .ok (.dup, 1) := by decide +kernel
theorem d1_198 : decode method_5_code 198 = .ok (.iconst 3, 1) := by decide +kernel
theorem d1_199 : decode method_5_code 199 = .ok (.bipush 82, 2) := by decide +kernel
theorem d1_201 : decode method_5_code 201 = .ok (.castore, 1) := by decide +kernel
theorem d1_202 : decode method_5_code 202 = .ok (.dup, 1) := by decide +kernel
theorem d1_203 : decode method_5_code 203 = .ok (.iconst 4, 1) := by decide +kernel
theorem d1_204 : decode method_5_code 204 = .ok (.bipush 79, 2) := by decide +kernel
theorem d1_206 : decode method_5_code 206 = .ok (.castore, 1) := by decide +kernel
theorem d1_207 : decode method_5_code 207 = .ok (.dup, 1) := by decide +kernel
theorem d1_208 : decode method_5_code 208 = .ok (.iconst 5, 1) := by decide +kernel
theorem d1_209 : decode method_5_code 209 = .ok (.bipush 87, 2) := by decide +kernel
theorem d1_211 : decode method_5_code 211 = .ok (.castore, 1) := by decide +kernel
theorem d1_212 : decode method_5_code 212 = .ok (.dup, 1) := by decide +kernel
theorem d1_213 : decode method_5_code 213 = .ok (.bipush 6, 2) := by decide +kernel
theorem d1_215 : decode method_5_code 215 = .ok (.bipush 69, 2) := by decide +kernel
theorem d1_217 : decode method_5_code 217 = .ok (.castore, 1) := by decide +kernel
theorem d1_218 : decode method_5_code 218 = .ok (.dup, 1) := by decide +kernel
theorem d1_219 : decode method_5_code 219 = .ok (.bipush 7, 2) := by decide +kernel
theorem d1_221 : decode method_5_code 221 = .ok (.bipush 82, 2) := by decide +kernel
theorem d1_223 : decode method_5_code 223 = .ok (.castore, 1) := by decide +kernel
theorem d1_224 : decode method_5_code 224 = .ok (.dup, 1) := by decide +kernel
theorem d1_225 : decode method_5_code 225 = .ok (.bipush 8, 2) := by decide +kernel
theorem d1_227 : decode method_5_code 227 = .ok (.iload_n 2, 1) := by decide +kernel
theorem d1_228 : decode method_5_code 228 = .ok (.castore, 1) := by decide +kernel
theorem d1_229 : decode method_5_code 229 = .ok (.areturn, 1) := by decide +kernel
set_option maxRecDepth 65536 in
set_option maxHeartbeats 40000000 in
theorem rmN11 (l : Launch) (Z : State) (a0 : Array Value) (hw : ∀ d ∈ tables_1, d.before a0 Z = true) (ws : List Jvm.Cond) (kd vr cc : Int32) (h0 : Heap) (n0 : Nat) (O0 : Old Z n0 h0) (hcc : ¬ nar .char cc < 0 ∧ ¬ (255 : Int32) < nar .char cc) (hc1 : ¬ (kd = (0 : Int32))) (hc119 : kd = (1 : Int32)) (hc123 : ¬ (vr = (0 : Int32))) (hc175 : vr = (1 : Int32)) :
    MetFree l (⟨"com/example/lendloop/lendloop/core/TransactionRoleFromWireNamePinLaw", "named", "(IIC)[C"⟩ : MethodName) (head1 (Jvm.Cond.code (⟨"com/example/lendloop/lendloop/core/TransactionRoleFromWireNamePinLaw", "named", "(IIC)[C"⟩ : MethodName) method_5_code 3 (some (.array .char)) :: ws) ({ frames := 0, cells := 1, slots := 17, locals := 0 } : Room)) (fun qq U => qq = #[(.int kd), (.int vr), (.int cc)] ∧ Z.Warmed39 U.vm ∧ U.heap = h0) (fun _ _ _ _ _ => True) (fun _ UU oo UU' => ∃ vv LL, oo = .returned vv ∧ Qd10 Z kd vr cc h0 n0 vv UU'.heap LL ∧ FrameEnd UU oo UU' LL ({ frames := 0, cells := 1, slots := 17, locals := 0 } : Room).cells ({ frames := 0, cells := 1, slots := 17, locals := 0 } : Room).slots) := by
  refine MetFree.of_bodySF (plainFor_of_name pn_1) hisR ?_
  intro p e s m args below meth c s₁ Bd hml0 hP hK
  obtain ⟨rfl, hZ, hh⟩ := hP
  have hx := Bd.exec
  have hby := Bd.bytes
  have hml : c.maxLocals = 3 := hml0
  have hown : s.vm.findClass "com/example/lendloop/lendloop/core/TransactionRoleFromWireNamePinLaw" = some m.cls := findClass_of_methodNamed Bd.named
  have hnm := (name_of_methodNamed Bd.named Bd.method).1
  have X0 : Stand p l e ({ frames := 0, cells := 1, slots := 17, locals := 0 } : Room) s m #[(.int kd), (.int vr), (.int cc)] below meth c s₁ [] 0 0 := Stand.of_body Bd
  have e0 : s₁.heap = h0 := by rw [← hh, Bd.state]; rfl
  have N0 := Fr.nil n0
  have pre0 : ∀ tgt, Steps p.tables e below (s₁.setTop (mkF m 0 #[.val (.int kd), .val (.int vr), .val (.int cc)] [])) tgt → Steps p.tables e below (s₁.setTop (entryFrame m #[(.int kd), (.int vr), (.int cc)] 3)) tgt := fun tt kk => castTop (ef_1 m kd vr cc) kk
  obtain ⟨T1, h1, k1, X1, e1, E1, A1, st1⟩ := newP X0 hx hZ (ww hw 4 rfl) e0 (g := (mkF m 180 #[.val (.int kd), .val (.int vr), .val (.int cc)] [(.int (9 : Int32))])) rfl (hb hby d1_180) rfl (by decide) (cap := 9) (by decide) (by decide) (by decide) (by decide)
  obtain ⟨b1, q1⟩ : ∃ z, z = h0.size := ⟨_, rfl⟩
  rw [← q1] at A1 st1
  have g_b1 : n0 ≤ b1 := by rw [q1]; exact (O0).1 ▸ (O0).2.1
  have sz_b1 : h0.size ≤ b1 := by rw [q1]; exact ((Keep.refl h0 [])).1
  have O1 := Old.ext O0 E1
  have K1 := Keep.ext (Keep.refl h0 []) E1
  have V1 : Arv Z h1 b1 k1 .char (9 : Int32) [] (.int (0 : Int32)) := Arv.new A1 (by decide)
  obtain ⟨T2, h2, X2, e2, W2, V2, st2⟩ := own_putC X1 hx hZ e1 V1 (j := (0 : Int32)) rfl (by decide) (Nat.le_of_ble_eq_true rfl) (g := (mkF m 186 #[.val (.int kd), .val (.int vr), .val (.int cc)] [(.int (66 : Int32)), (.int (0 : Int32)), (.ref b1), (.ref b1)])) rfl rfl (hb hby d1_186)
  have N2 := Fr.snoc X2 N0 g_b1
  have O2 := Old.wr O1 W2 g_b1
  have K2 := Keep.wr K1 W2 (Or.inr sz_b1)
  obtain ⟨T3, h3, X3, e3, W3, V3, st3⟩ := own_putC X2 hx hZ e2 V2 (j := (1 : Int32)) rfl (by decide) (Nat.le_of_ble_eq_true rfl) (g := (mkF m 191 #[.val (.int kd), .val (.int vr), .val (.int cc)] [(.int (79 : Int32)), (.int (1 : Int32)), (.ref b1), (.ref b1)])) rfl rfl (hb hby d1_191)
  have N3 := Fr.snoc X3 N2 g_b1
  have O3 := Old.wr O2 W3 g_b1
  have K3 := Keep.wr K2 W3 (Or.inr sz_b1)
  obtain ⟨T4, h4, X4, e4, W4, V4, st4⟩ := own_putC X3 hx hZ e3 V3 (j := (2 : Int32)) rfl (by decide) (Nat.le_of_ble_eq_true rfl) (g := (mkF m 196 #[.val (.int kd), .val (.int vr), .val (.int cc)] [(.int (82 : Int32)), (.int (2 : Int32)), (.ref b1), (.ref b1)])) rfl rfl (hb hby d1_196)
  have N4 := Fr.snoc X4 N3 g_b1
  have O4 := Old.wr O3 W4 g_b1
  have K4 := Keep.wr K3 W4 (Or.inr sz_b1)
  obtain ⟨T5, h5, X5, e5, W5, V5, st5⟩ := own_putC X4 hx hZ e4 V4 (j := (3 : Int32)) rfl (by decide) (Nat.le_of_ble_eq_true rfl) (g := (mkF m 201 #[.val (.int kd), .val (.int vr), .val (.int cc)] [(.int (82 : Int32)), (.int (3 : Int32)), (.ref b1), (.ref b1)])) rfl rfl (hb hby d1_201)
  have N5 := Fr.snoc X5 N4 g_b1
  have O5 := Old.wr O4 W5 g_b1
  have K5 := Keep.wr K4 W5 (Or.inr sz_b1)
  obtain ⟨T6, h6, X6, e6, W6, V6, st6⟩ := own_putC X5 hx hZ e5 V5 (j := (4 : Int32)) rfl (by decide) (Nat.le_of_ble_eq_true rfl) (g := (mkF m 206 #[.val (.int kd), .val (.int vr), .val (.int cc)] [(.int (79 : Int32)), (.int (4 : Int32)), (.ref b1), (.ref b1)])) rfl rfl (hb hby d1_206)
  have N6 := Fr.snoc X6 N5 g_b1
  have O6 := Old.wr O5 W6 g_b1
  have K6 := Keep.wr K5 W6 (Or.inr sz_b1)
  obtain ⟨T7, h7, X7, e7, W7, V7, st7⟩ := own_putC X6 hx hZ e6 V6 (j := (5 : Int32)) rfl (by decide) (Nat.le_of_ble_eq_true rfl) (g := (mkF m 211 #[.val (.int kd), .val (.int vr), .val (.int cc)] [(.int (87 : Int32)), (.int (5 : Int32)), (.ref b1), (.ref b1)])) rfl rfl (hb hby d1_211)
  have N7 := Fr.snoc X7 N6 g_b1
  have O7 := Old.wr O6 W7 g_b1
  have K7 := Keep.wr K6 W7 (Or.inr sz_b1)
  obtain ⟨T8, h8, X8, e8, W8, V8, st8⟩ := own_putC X7 hx hZ e7 V7 (j := (6 : Int32)) rfl (by decide) (Nat.le_of_ble_eq_true rfl) (g := (mkF m 217 #[.val (.int kd), .val (.int vr), .val (.int cc)] [(.int (69 : Int32)), (.int (6 : Int32)), (.ref b1), (.ref b1)])) rfl rfl (hb hby d1_217)
  have N8 := Fr.snoc X8 N7 g_b1
  have O8 := Old.wr O7 W8 g_b1
  have K8 := Keep.wr K7 W8 (Or.inr sz_b1)
  obtain ⟨T9, h9, X9, e9, W9, V9, st9⟩ := own_putC X8 hx hZ e8 V8 (j := (7 : Int32)) rfl (by decide) (Nat.le_of_ble_eq_true rfl) (g := (mkF m 223 #[.val (.int kd), .val (.int vr), .val (.int cc)] [(.int (82 : Int32)), (.int (7 : Int32)), (.ref b1), (.ref b1)])) rfl rfl (hb hby d1_223)
  have N9 := Fr.snoc X9 N8 g_b1
  have O9 := Old.wr O8 W9 g_b1
  have K9 := Keep.wr K8 W9 (Or.inr sz_b1)
  obtain ⟨T10, h10, X10, e10, W10, V10, st10⟩ := own_putC X9 hx hZ e9 V9 (j := (8 : Int32)) rfl (by decide) (Nat.le_of_ble_eq_true rfl) (g := (mkF m 228 #[.val (.int kd), .val (.int vr), .val (.int cc)] [(.int cc), (.int (8 : Int32)), (.ref b1), (.ref b1)])) rfl rfl (hb hby d1_228)
  have N10 := Fr.snoc X10 N9 g_b1
  have O10 := Old.wr O9 W10 g_b1
  have K10 := Keep.wr K9 W10 (Or.inr sz_b1)
  have hgood : own_good ([(nar .char (66 : Int32)), (nar .char (79 : Int32)), (nar .char (82 : Int32)), (nar .char (82 : Int32)), (nar .char (79 : Int32)), (nar .char (87 : Int32)), (nar .char (69 : Int32)), (nar .char (82 : Int32)), (nar .char cc)] : List Int32) := ⟨Nat.le_of_ble_eq_true rfl, by
    intro x hx
    simp only [List.mem_cons, List.not_mem_nil, or_false] at hx
    rcases hx with rfl | rfl | rfl | rfl | rfl | rfl | rfl | rfl | rfl
    all_goals first | exact hcc | decide⟩
  obtain ⟨fs, hr, hrun, hended, hW, hsame⟩ := X10.leave (v := some (.ref b1)) (fun h => by rw [Bd.returns] at h; cases h)
  refine ⟨_, _, pre0 _ ?_, hrun, hended, _, _, rfl, ?_, ⟨_, rfl⟩, hW, hsame.mono (by decide) (by decide)⟩
  · show Steps p.tables e below (s₁.setTop (mkF m 0 #[.val (.int kd), .val (.int vr), .val (.int cc)] [])) _
    refine XS.iloadN X0.here hx rfl (hb hby d1_0) rfl ?_
    show Steps p.tables e below (s₁.setTop (mkF m 1 #[.val (.int kd), .val (.int vr), .val (.int cc)] [(.int kd)])) _
    refine XS.ifYes X0.here hx rfl (pc0 := 1) (pc' := 117) rfl (hb hby d1_1) rfl ((if0 _ _).trans (feq hc1).2) (by decide) (by decide) ?_
    show Steps p.tables e below (s₁.setTop (mkF m 117 #[.val (.int kd), .val (.int vr), .val (.int cc)] [])) _
    refine XS.iloadN X0.here hx rfl (hb hby d1_117) rfl ?_
    show Steps p.tables e below (s₁.setTop (mkF m 118 #[.val (.int kd), .val (.int vr), .val (.int cc)] [(.int kd)])) _
    refine XS.iconst X0.here hx rfl (hb hby d1_118) ?_
    show Steps p.tables e below (s₁.setTop (mkF m 119 #[.val (.int kd), .val (.int vr), .val (.int cc)] [(.int (1 : Int32)), (.int kd)])) _
    refine XS.icmpNo X0.here hx rfl (hb hby d1_119) rfl (teq hc119).2 ?_
    show Steps p.tables e below (s₁.setTop (mkF m 122 #[.val (.int kd), .val (.int vr), .val (.int cc)] [])) _
    refine XS.iloadN X0.here hx rfl (hb hby d1_122) rfl ?_
    show Steps p.tables e below (s₁.setTop (mkF m 123 #[.val (.int kd), .val (.int vr), .val (.int cc)] [(.int vr)])) _
    refine XS.ifYes X0.here hx rfl (pc0 := 123) (pc' := 173) rfl (hb hby d1_123) rfl ((if0 _ _).trans (feq hc123).2) (by decide) (by decide) ?_
    show Steps p.tables e below (s₁.setTop (mkF m 173 #[.val (.int kd), .val (.int vr), .val (.int cc)] [])) _
    refine XS.iloadN X0.here hx rfl (hb hby d1_173) rfl ?_
    show Steps p.tables e below (s₁.setTop (mkF m 174 #[.val (.int kd), .val (.int vr), .val (.int cc)] [(.int vr)])) _
    refine XS.iconst X0.here hx rfl (hb hby d1_174) ?_
    show Steps p.tables e below (s₁.setTop (mkF m 175 #[.val (.int kd), .val (.int vr), .val (.int cc)] [(.int (1 : Int32)), (.int vr)])) _
    refine XS.icmpNo X0.here hx rfl (hb hby d1_175) rfl (teq hc175).2 ?_
    show Steps p.tables e below (s₁.setTop (mkF m 178 #[.val (.int kd), .val (.int vr), .val (.int cc)] [])) _
    refine XS.bipush X0.here hx rfl (hb hby d1_178) ?_
    show Steps p.tables e below (s₁.setTop (mkF m 180 #[.val (.int kd), .val (.int vr), .val (.int cc)] [(.int (9 : Int32))])) _
    refine st1 _ ?_
    show Steps p.tables e below (T1.setTop (mkF m 182 #[.val (.int kd), .val (.int vr), .val (.int cc)] [(.ref b1)])) _
    refine XS.dup X1.here hx rfl (hb hby d1_182) rfl rfl ?_
    show Steps p.tables e below (T1.setTop (mkF m 183 #[.val (.int kd), .val (.int vr), .val (.int cc)] [(.ref b1), (.ref b1)])) _
    refine XS.iconst X1.here hx rfl (hb hby d1_183) ?_
    show Steps p.tables e below (T1.setTop (mkF m 184 #[.val (.int kd), .val (.int vr), .val (.int cc)] [(.int (0 : Int32)), (.ref b1), (.ref b1)])) _
    refine XS.bipush X1.here hx rfl (hb hby d1_184) ?_
    show Steps p.tables e below (T1.setTop (mkF m 186 #[.val (.int kd), .val (.int vr), .val (.int cc)] [(.int (66 : Int32)), (.int (0 : Int32)), (.ref b1), (.ref b1)])) _
    refine st2 _ ?_
    show Steps p.tables e below (T2.setTop (mkF m 187 #[.val (.int kd), .val (.int vr), .val (.int cc)] [(.ref b1)])) _
    refine XS.dup X2.here hx rfl (hb hby d1_187) rfl rfl ?_
    show Steps p.tables e below (T2.setTop (mkF m 188 #[.val (.int kd), .val (.int vr), .val (.int cc)] [(.ref b1), (.ref b1)])) _
    refine XS.iconst X2.here hx rfl (hb hby d1_188) ?_
    show Steps p.tables e below (T2.setTop (mkF m 189 #[.val (.int kd), .val (.int vr), .val (.int cc)] [(.int (1 : Int32)), (.ref b1), (.ref b1)])) _
    refine XS.bipush X2.here hx rfl (hb hby d1_189) ?_
    show Steps p.tables e below (T2.setTop (mkF m 191 #[.val (.int kd), .val (.int vr), .val (.int cc)] [(.int (79 : Int32)), (.int (1 : Int32)), (.ref b1), (.ref b1)])) _
    refine st3 _ ?_
    show Steps p.tables e below (T3.setTop (mkF m 192 #[.val (.int kd), .val (.int vr), .val (.int cc)] [(.ref b1)])) _
    refine XS.dup X3.here hx rfl (hb hby d1_192) rfl rfl ?_
    show Steps p.tables e below (T3.setTop (mkF m 193 #[.val (.int kd), .val (.int vr), .val (.int cc)] [(.ref b1), (.ref b1)])) _
    refine XS.iconst X3.here hx rfl (hb hby d1_193) ?_
    show Steps p.tables e below (T3.setTop (mkF m 194 #[.val (.int kd), .val (.int vr), .val (.int cc)] [(.int (2 : Int32)), (.ref b1), (.ref b1)])) _
    refine XS.bipush X3.here hx rfl (hb hby d1_194) ?_
    show Steps p.tables e below (T3.setTop (mkF m 196 #[.val (.int kd), .val (.int vr), .val (.int cc)] [(.int (82 : Int32)), (.int (2 : Int32)), (.ref b1), (.ref b1)])) _
    refine st4 _ ?_
    show Steps p.tables e below (T4.setTop (mkF m 197 #[.val (.int kd), .val (.int vr), .val (.int cc)] [(.ref b1)])) _
    refine XS.dup X4.here hx rfl (hb hby d1_197) rfl rfl ?_
    show Steps p.tables e below (T4.setTop (mkF m 198 #[.val (.int kd), .val (.int vr), .val (.int cc)] [(.ref b1), (.ref b1)])) _
    refine XS.iconst X4.here hx rfl (hb hby d1_198) ?_
    show Steps p.tables e below (T4.setTop (mkF m 199 #[.val (.int kd), .val (.int vr), .val (.int cc)] [(.int (3 : Int32)), (.ref b1), (.ref b1)])) _
    refine XS.bipush X4.here hx rfl (hb hby d1_199) ?_
    show Steps p.tables e below (T4.setTop (mkF m 201 #[.val (.int kd), .val (.int vr), .val (.int cc)] [(.int (82 : Int32)), (.int (3 : Int32)), (.ref b1), (.ref b1)])) _
    refine st5 _ ?_
    show Steps p.tables e below (T5.setTop (mkF m 202 #[.val (.int kd), .val (.int vr), .val (.int cc)] [(.ref b1)])) _
    refine XS.dup X5.here hx rfl (hb hby d1_202) rfl rfl ?_
    show Steps p.tables e below (T5.setTop (mkF m 203 #[.val (.int kd), .val (.int vr), .val (.int cc)] [(.ref b1), (.ref b1)])) _
    refine XS.iconst X5.here hx rfl (hb hby d1_203) ?_
    show Steps p.tables e below (T5.setTop (mkF m 204 #[.val (.int kd), .val (.int vr), .val (.int cc)] [(.int (4 : Int32)), (.ref b1), (.ref b1)])) _
    refine XS.bipush X5.here hx rfl (hb hby d1_204) ?_
    show Steps p.tables e below (T5.setTop (mkF m 206 #[.val (.int kd), .val (.int vr), .val (.int cc)] [(.int (79 : Int32)), (.int (4 : Int32)), (.ref b1), (.ref b1)])) _
    refine st6 _ ?_
    show Steps p.tables e below (T6.setTop (mkF m 207 #[.val (.int kd), .val (.int vr), .val (.int cc)] [(.ref b1)])) _
    refine XS.dup X6.here hx rfl (hb hby d1_207) rfl rfl ?_
    show Steps p.tables e below (T6.setTop (mkF m 208 #[.val (.int kd), .val (.int vr), .val (.int cc)] [(.ref b1), (.ref b1)])) _
    refine XS.iconst X6.here hx rfl (hb hby d1_208) ?_
    show Steps p.tables e below (T6.setTop (mkF m 209 #[.val (.int kd), .val (.int vr), .val (.int cc)] [(.int (5 : Int32)), (.ref b1), (.ref b1)])) _
    refine XS.bipush X6.here hx rfl (hb hby d1_209) ?_
    show Steps p.tables e below (T6.setTop (mkF m 211 #[.val (.int kd), .val (.int vr), .val (.int cc)] [(.int (87 : Int32)), (.int (5 : Int32)), (.ref b1), (.ref b1)])) _
    refine st7 _ ?_
    show Steps p.tables e below (T7.setTop (mkF m 212 #[.val (.int kd), .val (.int vr), .val (.int cc)] [(.ref b1)])) _
    refine XS.dup X7.here hx rfl (hb hby d1_212) rfl rfl ?_
    show Steps p.tables e below (T7.setTop (mkF m 213 #[.val (.int kd), .val (.int vr), .val (.int cc)] [(.ref b1), (.ref b1)])) _
    refine XS.bipush X7.here hx rfl (hb hby d1_213) ?_
    show Steps p.tables e below (T7.setTop (mkF m 215 #[.val (.int kd), .val (.int vr), .val (.int cc)] [(.int (6 : Int32)), (.ref b1), (.ref b1)])) _
    refine XS.bipush X7.here hx rfl (hb hby d1_215) ?_
    show Steps p.tables e below (T7.setTop (mkF m 217 #[.val (.int kd), .val (.int vr), .val (.int cc)] [(.int (69 : Int32)), (.int (6 : Int32)), (.ref b1), (.ref b1)])) _
    refine st8 _ ?_
    show Steps p.tables e below (T8.setTop (mkF m 218 #[.val (.int kd), .val (.int vr), .val (.int cc)] [(.ref b1)])) _
    refine XS.dup X8.here hx rfl (hb hby d1_218) rfl rfl ?_
    show Steps p.tables e below (T8.setTop (mkF m 219 #[.val (.int kd), .val (.int vr), .val (.int cc)] [(.ref b1), (.ref b1)])) _
    refine XS.bipush X8.here hx rfl (hb hby d1_219) ?_
    show Steps p.tables e below (T8.setTop (mkF m 221 #[.val (.int kd), .val (.int vr), .val (.int cc)] [(.int (7 : Int32)), (.ref b1), (.ref b1)])) _
    refine XS.bipush X8.here hx rfl (hb hby d1_221) ?_
    show Steps p.tables e below (T8.setTop (mkF m 223 #[.val (.int kd), .val (.int vr), .val (.int cc)] [(.int (82 : Int32)), (.int (7 : Int32)), (.ref b1), (.ref b1)])) _
    refine st9 _ ?_
    show Steps p.tables e below (T9.setTop (mkF m 224 #[.val (.int kd), .val (.int vr), .val (.int cc)] [(.ref b1)])) _
    refine XS.dup X9.here hx rfl (hb hby d1_224) rfl rfl ?_
    show Steps p.tables e below (T9.setTop (mkF m 225 #[.val (.int kd), .val (.int vr), .val (.int cc)] [(.ref b1), (.ref b1)])) _
    refine XS.bipush X9.here hx rfl (hb hby d1_225) ?_
    show Steps p.tables e below (T9.setTop (mkF m 227 #[.val (.int kd), .val (.int vr), .val (.int cc)] [(.int (8 : Int32)), (.ref b1), (.ref b1)])) _
    refine XS.iloadN X9.here hx rfl (hb hby d1_227) rfl ?_
    show Steps p.tables e below (T9.setTop (mkF m 228 #[.val (.int kd), .val (.int vr), .val (.int cc)] [(.int cc), (.int (8 : Int32)), (.ref b1), (.ref b1)])) _
    refine st10 _ ?_
    show Steps p.tables e below (T10.setTop (mkF m 229 #[.val (.int kd), .val (.int vr), .val (.int cc)] [(.ref b1)])) _
    exact retOut X10 hx Bd.returns rfl (Or.inr (Or.inr (Or.inr (Or.inr ⟨rfl, rfl, rfl⟩)))) (hb hby d1_229) hr
  · show Qd10 Z kd vr cc h0 n0 _ T10.heap _
    rw [e10]
    exact ⟨b1, k1, ([(nar .char (66 : Int32)), (nar .char (79 : Int32)), (nar .char (82 : Int32)), (nar .char (82 : Int32)), (nar .char (79 : Int32)), (nar .char (87 : Int32)), (nar .char (69 : Int32)), (nar .char (82 : Int32)), (nar .char cc)] : List Int32), rfl, N10, K10, g_b1, V10, hgood, Nat.succ_ne_zero _⟩
theorem d1_230 : decode method_5_code 230 = .ok (.bipush 7, 2) := by decide +kernel
theorem d1_232 : decode method_5_code 232 = .ok (.newarray .char, 2) := by decide +kernel
theorem d1_234 : decode method_5_code 234 = .ok (.dup, 1) := by decide +kernel
theorem d1_235 : decode method_5_code 235 = .ok (.iconst 0, 1) := by decide +kernel
theorem d1_236 : decode method_5_code 236 = .ok (.bipush 66, 2) := by decide +kernel
theorem d1_238 : decode method_5_code 238 = .ok (.castore, 1) := by decide +kernel
theorem d1_239 : decode method_5_code 239 = .ok (.dup, 1) := by decide +kernel
theorem d1_240 : decode method_5_code 240 = .ok (.iconst 1, 1) := by decide +kernel
theorem d1_241 : decode method_5_code 241 = .ok (.bipush 79, 2) := by decide +kernel
theorem d1_243 : decode method_5_code 243 = .ok (.castore, 1) := by decide +kernel
theorem d1_244 : decode method_5_code 244 = .ok (.dup, 1) := by decide +kernel
theorem d1_245 : decode method_5_code 245 = .ok (.iconst 2, 1) := by decide +kernel
theorem d1_246 : decode method_5_code 246 = .ok (.bipush 82, 2) := by decide +kernel
theorem d1_248 : decode method_5_code 248 = .ok (.castore, 1) := by decide +kernel
theorem d1_249 : decode method_5_code 249 = .ok (.dup, 1) := by decide +kernel
theorem d1_250 : decode method_5_code 250 = .ok (.iconst 3, 1) := by decide +kernel
theorem d1_251 : decode method_5_code 251 = .ok (.bipush 82, 2) := by decide +kernel
theorem d1_253 : decode method_5_code 253 = .ok (.castore, 1) := by decide +kernel
theorem d1_254 : decode method_5_code 254 = .ok (.dup, 1) := by decide +kernel
theorem d1_255 : decode method_5_code 255 = .ok (.iconst 4, 1) := by decide +kernel
theorem d1_256 : decode method_5_code 256 = .ok (.bipush 79, 2) := by decide +kernel
theorem d1_258 : decode method_5_code 258 = .ok (.castore, 1) := by decide +kernel
theorem d1_259 : decode method_5_code 259 = .ok (.dup, 1) := by decide +kernel
theorem d1_260 : decode method_5_code 260 = .ok (.iconst 5, 1) := by decide +kernel
theorem d1_261 : decode method_5_code 261 = .ok (.bipush 87, 2) := by decide +kernel
theorem d1_263 : decode method_5_code 263 = .ok (.castore, 1) := by decide +kernel
theorem d1_264 : decode method_5_code 264 = .ok (.dup, 1) := by decide +kernel
theorem d1_265 : decode method_5_code 265 = .ok (.bipush 6, 2) := by decide +kernel
theorem d1_267 : decode method_5_code 267 = .ok (.bipush 69, 2) := by decide +kernel
theorem d1_269 : decode method_5_code 269 = .ok (.castore, 1) := by decide +kernel
theorem d1_270 : decode method_5_code 270 = .ok (.areturn, 1) := by decide +kernel
set_option maxRecDepth 65536 in
set_option maxHeartbeats 40000000 in
theorem rmN12 (l : Launch) (Z : State) (a0 : Array Value) (hw : ∀ d ∈ tables_1, d.before a0 Z = true) (ws : List Jvm.Cond) (kd vr cc : Int32) (h0 : Heap) (n0 : Nat) (O0 : Old Z n0 h0) (hcc : ¬ nar .char cc < 0 ∧ ¬ (255 : Int32) < nar .char cc) (hc1 : ¬ (kd = (0 : Int32))) (hc119 : kd = (1 : Int32)) (hc123 : ¬ (vr = (0 : Int32))) (hc175 : ¬ (vr = (1 : Int32))) :
    MetFree l (⟨"com/example/lendloop/lendloop/core/TransactionRoleFromWireNamePinLaw", "named", "(IIC)[C"⟩ : MethodName) (head1 (Jvm.Cond.code (⟨"com/example/lendloop/lendloop/core/TransactionRoleFromWireNamePinLaw", "named", "(IIC)[C"⟩ : MethodName) method_5_code 3 (some (.array .char)) :: ws) ({ frames := 0, cells := 1, slots := 17, locals := 0 } : Room)) (fun qq U => qq = #[(.int kd), (.int vr), (.int cc)] ∧ Z.Warmed39 U.vm ∧ U.heap = h0) (fun _ _ _ _ _ => True) (fun _ UU oo UU' => ∃ vv LL, oo = .returned vv ∧ Qd10 Z kd vr cc h0 n0 vv UU'.heap LL ∧ FrameEnd UU oo UU' LL ({ frames := 0, cells := 1, slots := 17, locals := 0 } : Room).cells ({ frames := 0, cells := 1, slots := 17, locals := 0 } : Room).slots) := by
  refine MetFree.of_bodySF (plainFor_of_name pn_1) hisR ?_
  intro p e s m args below meth c s₁ Bd hml0 hP hK
  obtain ⟨rfl, hZ, hh⟩ := hP
  have hx := Bd.exec
  have hby := Bd.bytes
  have hml : c.maxLocals = 3 := hml0
  have hown : s.vm.findClass "com/example/lendloop/lendloop/core/TransactionRoleFromWireNamePinLaw" = some m.cls := findClass_of_methodNamed Bd.named
  have hnm := (name_of_methodNamed Bd.named Bd.method).1
  have X0 : Stand p l e ({ frames := 0, cells := 1, slots := 17, locals := 0 } : Room) s m #[(.int kd), (.int vr), (.int cc)] below meth c s₁ [] 0 0 := Stand.of_body Bd
  have e0 : s₁.heap = h0 := by rw [← hh, Bd.state]; rfl
  have N0 := Fr.nil n0
  have pre0 : ∀ tgt, Steps p.tables e below (s₁.setTop (mkF m 0 #[.val (.int kd), .val (.int vr), .val (.int cc)] [])) tgt → Steps p.tables e below (s₁.setTop (entryFrame m #[(.int kd), (.int vr), (.int cc)] 3)) tgt := fun tt kk => castTop (ef_1 m kd vr cc) kk
  obtain ⟨T1, h1, k1, X1, e1, E1, A1, st1⟩ := newP X0 hx hZ (ww hw 4 rfl) e0 (g := (mkF m 232 #[.val (.int kd), .val (.int vr), .val (.int cc)] [(.int (7 : Int32))])) rfl (hb hby d1_232) rfl (by decide) (cap := 7) (by decide) (by decide) (by decide) (by decide)
  obtain ⟨b1, q1⟩ : ∃ z, z = h0.size := ⟨_, rfl⟩
  rw [← q1] at A1 st1
  have g_b1 : n0 ≤ b1 := by rw [q1]; exact (O0).1 ▸ (O0).2.1
  have sz_b1 : h0.size ≤ b1 := by rw [q1]; exact ((Keep.refl h0 [])).1
  have O1 := Old.ext O0 E1
  have K1 := Keep.ext (Keep.refl h0 []) E1
  have V1 : Arv Z h1 b1 k1 .char (7 : Int32) [] (.int (0 : Int32)) := Arv.new A1 (by decide)
  obtain ⟨T2, h2, X2, e2, W2, V2, st2⟩ := own_putC X1 hx hZ e1 V1 (j := (0 : Int32)) rfl (by decide) (Nat.le_of_ble_eq_true rfl) (g := (mkF m 238 #[.val (.int kd), .val (.int vr), .val (.int cc)] [(.int (66 : Int32)), (.int (0 : Int32)), (.ref b1), (.ref b1)])) rfl rfl (hb hby d1_238)
  have N2 := Fr.snoc X2 N0 g_b1
  have O2 := Old.wr O1 W2 g_b1
  have K2 := Keep.wr K1 W2 (Or.inr sz_b1)
  obtain ⟨T3, h3, X3, e3, W3, V3, st3⟩ := own_putC X2 hx hZ e2 V2 (j := (1 : Int32)) rfl (by decide) (Nat.le_of_ble_eq_true rfl) (g := (mkF m 243 #[.val (.int kd), .val (.int vr), .val (.int cc)] [(.int (79 : Int32)), (.int (1 : Int32)), (.ref b1), (.ref b1)])) rfl rfl (hb hby d1_243)
  have N3 := Fr.snoc X3 N2 g_b1
  have O3 := Old.wr O2 W3 g_b1
  have K3 := Keep.wr K2 W3 (Or.inr sz_b1)
  obtain ⟨T4, h4, X4, e4, W4, V4, st4⟩ := own_putC X3 hx hZ e3 V3 (j := (2 : Int32)) rfl (by decide) (Nat.le_of_ble_eq_true rfl) (g := (mkF m 248 #[.val (.int kd), .val (.int vr), .val (.int cc)] [(.int (82 : Int32)), (.int (2 : Int32)), (.ref b1), (.ref b1)])) rfl rfl (hb hby d1_248)
  have N4 := Fr.snoc X4 N3 g_b1
  have O4 := Old.wr O3 W4 g_b1
  have K4 := Keep.wr K3 W4 (Or.inr sz_b1)
  obtain ⟨T5, h5, X5, e5, W5, V5, st5⟩ := own_putC X4 hx hZ e4 V4 (j := (3 : Int32)) rfl (by decide) (Nat.le_of_ble_eq_true rfl) (g := (mkF m 253 #[.val (.int kd), .val (.int vr), .val (.int cc)] [(.int (82 : Int32)), (.int (3 : Int32)), (.ref b1), (.ref b1)])) rfl rfl (hb hby d1_253)
  have N5 := Fr.snoc X5 N4 g_b1
  have O5 := Old.wr O4 W5 g_b1
  have K5 := Keep.wr K4 W5 (Or.inr sz_b1)
  obtain ⟨T6, h6, X6, e6, W6, V6, st6⟩ := own_putC X5 hx hZ e5 V5 (j := (4 : Int32)) rfl (by decide) (Nat.le_of_ble_eq_true rfl) (g := (mkF m 258 #[.val (.int kd), .val (.int vr), .val (.int cc)] [(.int (79 : Int32)), (.int (4 : Int32)), (.ref b1), (.ref b1)])) rfl rfl (hb hby d1_258)
  have N6 := Fr.snoc X6 N5 g_b1
  have O6 := Old.wr O5 W6 g_b1
  have K6 := Keep.wr K5 W6 (Or.inr sz_b1)
  obtain ⟨T7, h7, X7, e7, W7, V7, st7⟩ := own_putC X6 hx hZ e6 V6 (j := (5 : Int32)) rfl (by decide) (Nat.le_of_ble_eq_true rfl) (g := (mkF m 263 #[.val (.int kd), .val (.int vr), .val (.int cc)] [(.int (87 : Int32)), (.int (5 : Int32)), (.ref b1), (.ref b1)])) rfl rfl (hb hby d1_263)
  have N7 := Fr.snoc X7 N6 g_b1
  have O7 := Old.wr O6 W7 g_b1
  have K7 := Keep.wr K6 W7 (Or.inr sz_b1)
  obtain ⟨T8, h8, X8, e8, W8, V8, st8⟩ := own_putC X7 hx hZ e7 V7 (j := (6 : Int32)) rfl (by decide) (Nat.le_of_ble_eq_true rfl) (g := (mkF m 269 #[.val (.int kd), .val (.int vr), .val (.int cc)] [(.int (69 : Int32)), (.int (6 : Int32)), (.ref b1), (.ref b1)])) rfl rfl (hb hby d1_269)
  have N8 := Fr.snoc X8 N7 g_b1
  have O8 := Old.wr O7 W8 g_b1
  have K8 := Keep.wr K7 W8 (Or.inr sz_b1)
  have hgood : own_good ([(nar .char (66 : Int32)), (nar .char (79 : Int32)), (nar .char (82 : Int32)), (nar .char (82 : Int32)), (nar .char (79 : Int32)), (nar .char (87 : Int32)), (nar .char (69 : Int32))] : List Int32) := ⟨Nat.le_of_ble_eq_true rfl, by
    intro x hx
    simp only [List.mem_cons, List.not_mem_nil, or_false] at hx
    rcases hx with rfl | rfl | rfl | rfl | rfl | rfl | rfl
    all_goals first | exact hcc | decide⟩
  obtain ⟨fs, hr, hrun, hended, hW, hsame⟩ := X8.leave (v := some (.ref b1)) (fun h => by rw [Bd.returns] at h; cases h)
  refine ⟨_, _, pre0 _ ?_, hrun, hended, _, _, rfl, ?_, ⟨_, rfl⟩, hW, hsame.mono (by decide) (by decide)⟩
  · show Steps p.tables e below (s₁.setTop (mkF m 0 #[.val (.int kd), .val (.int vr), .val (.int cc)] [])) _
    refine XS.iloadN X0.here hx rfl (hb hby d1_0) rfl ?_
    show Steps p.tables e below (s₁.setTop (mkF m 1 #[.val (.int kd), .val (.int vr), .val (.int cc)] [(.int kd)])) _
    refine XS.ifYes X0.here hx rfl (pc0 := 1) (pc' := 117) rfl (hb hby d1_1) rfl ((if0 _ _).trans (feq hc1).2) (by decide) (by decide) ?_
    show Steps p.tables e below (s₁.setTop (mkF m 117 #[.val (.int kd), .val (.int vr), .val (.int cc)] [])) _
    refine XS.iloadN X0.here hx rfl (hb hby d1_117) rfl ?_
    show Steps p.tables e below (s₁.setTop (mkF m 118 #[.val (.int kd), .val (.int vr), .val (.int cc)] [(.int kd)])) _
    refine XS.iconst X0.here hx rfl (hb hby d1_118) ?_
    show Steps p.tables e below (s₁.setTop (mkF m 119 #[.val (.int kd), .val (.int vr), .val (.int cc)] [(.int (1 : Int32)), (.int kd)])) _
    refine XS.icmpNo X0.here hx rfl (hb hby d1_119) rfl (teq hc119).2 ?_
    show Steps p.tables e below (s₁.setTop (mkF m 122 #[.val (.int kd), .val (.int vr), .val (.int cc)] [])) _
    refine XS.iloadN X0.here hx rfl (hb hby d1_122) rfl ?_
    show Steps p.tables e below (s₁.setTop (mkF m 123 #[.val (.int kd), .val (.int vr), .val (.int cc)] [(.int vr)])) _
    refine XS.ifYes X0.here hx rfl (pc0 := 123) (pc' := 173) rfl (hb hby d1_123) rfl ((if0 _ _).trans (feq hc123).2) (by decide) (by decide) ?_
    show Steps p.tables e below (s₁.setTop (mkF m 173 #[.val (.int kd), .val (.int vr), .val (.int cc)] [])) _
    refine XS.iloadN X0.here hx rfl (hb hby d1_173) rfl ?_
    show Steps p.tables e below (s₁.setTop (mkF m 174 #[.val (.int kd), .val (.int vr), .val (.int cc)] [(.int vr)])) _
    refine XS.iconst X0.here hx rfl (hb hby d1_174) ?_
    show Steps p.tables e below (s₁.setTop (mkF m 175 #[.val (.int kd), .val (.int vr), .val (.int cc)] [(.int (1 : Int32)), (.int vr)])) _
    refine XS.icmpYes X0.here hx rfl (pc0 := 175) (pc' := 230) rfl (hb hby d1_175) rfl (feq hc175).2 (by decide) (by decide) ?_
    show Steps p.tables e below (s₁.setTop (mkF m 230 #[.val (.int kd), .val (.int vr), .val (.int cc)] [])) _
    refine XS.bipush X0.here hx rfl (hb hby d1_230) ?_
    show Steps p.tables e below (s₁.setTop (mkF m 232 #[.val (.int kd), .val (.int vr), .val (.int cc)] [(.int (7 : Int32))])) _
    refine st1 _ ?_
    show Steps p.tables e below (T1.setTop (mkF m 234 #[.val (.int kd), .val (.int vr), .val (.int cc)] [(.ref b1)])) _
    refine XS.dup X1.here hx rfl (hb hby d1_234) rfl rfl ?_
    show Steps p.tables e below (T1.setTop (mkF m 235 #[.val (.int kd), .val (.int vr), .val (.int cc)] [(.ref b1), (.ref b1)])) _
    refine XS.iconst X1.here hx rfl (hb hby d1_235) ?_
    show Steps p.tables e below (T1.setTop (mkF m 236 #[.val (.int kd), .val (.int vr), .val (.int cc)] [(.int (0 : Int32)), (.ref b1), (.ref b1)])) _
    refine XS.bipush X1.here hx rfl (hb hby d1_236) ?_
    show Steps p.tables e below (T1.setTop (mkF m 238 #[.val (.int kd), .val (.int vr), .val (.int cc)] [(.int (66 : Int32)), (.int (0 : Int32)), (.ref b1), (.ref b1)])) _
    refine st2 _ ?_
    show Steps p.tables e below (T2.setTop (mkF m 239 #[.val (.int kd), .val (.int vr), .val (.int cc)] [(.ref b1)])) _
    refine XS.dup X2.here hx rfl (hb hby d1_239) rfl rfl ?_
    show Steps p.tables e below (T2.setTop (mkF m 240 #[.val (.int kd), .val (.int vr), .val (.int cc)] [(.ref b1), (.ref b1)])) _
    refine XS.iconst X2.here hx rfl (hb hby d1_240) ?_
    show Steps p.tables e below (T2.setTop (mkF m 241 #[.val (.int kd), .val (.int vr), .val (.int cc)] [(.int (1 : Int32)), (.ref b1), (.ref b1)])) _
    refine XS.bipush X2.here hx rfl (hb hby d1_241) ?_
    show Steps p.tables e below (T2.setTop (mkF m 243 #[.val (.int kd), .val (.int vr), .val (.int cc)] [(.int (79 : Int32)), (.int (1 : Int32)), (.ref b1), (.ref b1)])) _
    refine st3 _ ?_
    show Steps p.tables e below (T3.setTop (mkF m 244 #[.val (.int kd), .val (.int vr), .val (.int cc)] [(.ref b1)])) _
    refine XS.dup X3.here hx rfl (hb hby d1_244) rfl rfl ?_
    show Steps p.tables e below (T3.setTop (mkF m 245 #[.val (.int kd), .val (.int vr), .val (.int cc)] [(.ref b1), (.ref b1)])) _
    refine XS.iconst X3.here hx rfl (hb hby d1_245) ?_
    show Steps p.tables e below (T3.setTop (mkF m 246 #[.val (.int kd), .val (.int vr), .val (.int cc)] [(.int (2 : Int32)), (.ref b1), (.ref b1)])) _
    refine XS.bipush X3.here hx rfl (hb hby d1_246) ?_
    show Steps p.tables e below (T3.setTop (mkF m 248 #[.val (.int kd), .val (.int vr), .val (.int cc)] [(.int (82 : Int32)), (.int (2 : Int32)), (.ref b1), (.ref b1)])) _
    refine st4 _ ?_
    show Steps p.tables e below (T4.setTop (mkF m 249 #[.val (.int kd), .val (.int vr), .val (.int cc)] [(.ref b1)])) _
    refine XS.dup X4.here hx rfl (hb hby d1_249) rfl rfl ?_
    show Steps p.tables e below (T4.setTop (mkF m 250 #[.val (.int kd), .val (.int vr), .val (.int cc)] [(.ref b1), (.ref b1)])) _
    refine XS.iconst X4.here hx rfl (hb hby d1_250) ?_
    show Steps p.tables e below (T4.setTop (mkF m 251 #[.val (.int kd), .val (.int vr), .val (.int cc)] [(.int (3 : Int32)), (.ref b1), (.ref b1)])) _
    refine XS.bipush X4.here hx rfl (hb hby d1_251) ?_
    show Steps p.tables e below (T4.setTop (mkF m 253 #[.val (.int kd), .val (.int vr), .val (.int cc)] [(.int (82 : Int32)), (.int (3 : Int32)), (.ref b1), (.ref b1)])) _
    refine st5 _ ?_
    show Steps p.tables e below (T5.setTop (mkF m 254 #[.val (.int kd), .val (.int vr), .val (.int cc)] [(.ref b1)])) _
    refine XS.dup X5.here hx rfl (hb hby d1_254) rfl rfl ?_
    show Steps p.tables e below (T5.setTop (mkF m 255 #[.val (.int kd), .val (.int vr), .val (.int cc)] [(.ref b1), (.ref b1)])) _
    refine XS.iconst X5.here hx rfl (hb hby d1_255) ?_
    show Steps p.tables e below (T5.setTop (mkF m 256 #[.val (.int kd), .val (.int vr), .val (.int cc)] [(.int (4 : Int32)), (.ref b1), (.ref b1)])) _
    refine XS.bipush X5.here hx rfl (hb hby d1_256) ?_
    show Steps p.tables e below (T5.setTop (mkF m 258 #[.val (.int kd), .val (.int vr), .val (.int cc)] [(.int (79 : Int32)), (.int (4 : Int32)), (.ref b1), (.ref b1)])) _
    refine st6 _ ?_
    show Steps p.tables e below (T6.setTop (mkF m 259 #[.val (.int kd), .val (.int vr), .val (.int cc)] [(.ref b1)])) _
    refine XS.dup X6.here hx rfl (hb hby d1_259) rfl rfl ?_
    show Steps p.tables e below (T6.setTop (mkF m 260 #[.val (.int kd), .val (.int vr), .val (.int cc)] [(.ref b1), (.ref b1)])) _
    refine XS.iconst X6.here hx rfl (hb hby d1_260) ?_
    show Steps p.tables e below (T6.setTop (mkF m 261 #[.val (.int kd), .val (.int vr), .val (.int cc)] [(.int (5 : Int32)), (.ref b1), (.ref b1)])) _
    refine XS.bipush X6.here hx rfl (hb hby d1_261) ?_
    show Steps p.tables e below (T6.setTop (mkF m 263 #[.val (.int kd), .val (.int vr), .val (.int cc)] [(.int (87 : Int32)), (.int (5 : Int32)), (.ref b1), (.ref b1)])) _
    refine st7 _ ?_
    show Steps p.tables e below (T7.setTop (mkF m 264 #[.val (.int kd), .val (.int vr), .val (.int cc)] [(.ref b1)])) _
    refine XS.dup X7.here hx rfl (hb hby d1_264) rfl rfl ?_
    show Steps p.tables e below (T7.setTop (mkF m 265 #[.val (.int kd), .val (.int vr), .val (.int cc)] [(.ref b1), (.ref b1)])) _
    refine XS.bipush X7.here hx rfl (hb hby d1_265) ?_
    show Steps p.tables e below (T7.setTop (mkF m 267 #[.val (.int kd), .val (.int vr), .val (.int cc)] [(.int (6 : Int32)), (.ref b1), (.ref b1)])) _
    refine XS.bipush X7.here hx rfl (hb hby d1_267) ?_
    show Steps p.tables e below (T7.setTop (mkF m 269 #[.val (.int kd), .val (.int vr), .val (.int cc)] [(.int (69 : Int32)), (.int (6 : Int32)), (.ref b1), (.ref b1)])) _
    refine st8 _ ?_
    show Steps p.tables e below (T8.setTop (mkF m 270 #[.val (.int kd), .val (.int vr), .val (.int cc)] [(.ref b1)])) _
    exact retOut X8 hx Bd.returns rfl (Or.inr (Or.inr (Or.inr (Or.inr ⟨rfl, rfl, rfl⟩)))) (hb hby d1_270) hr
  · show Qd10 Z kd vr cc h0 n0 _ T8.heap _
    rw [e8]
    exact ⟨b1, k1, ([(nar .char (66 : Int32)), (nar .char (79 : Int32)), (nar .char (82 : Int32)), (nar .char (82 : Int32)), (nar .char (79 : Int32)), (nar .char (87 : Int32)), (nar .char (69 : Int32))] : List Int32), rfl, N8, K8, g_b1, V8, hgood, Nat.succ_ne_zero _⟩
theorem d1_271 : decode method_5_code 271 = .ok (.iload_n 0, 1) := by decide +kernel
theorem d1_272 : decode method_5_code 272 = .ok (.iconst 2, 1) := by decide +kernel
theorem d1_273 : decode method_5_code 273 = .ok (.if_icmp .ne 116, 3) := by decide +kernel
theorem d1_276 : decode method_5_code 276 = .ok (.iload_n 1, 1) := by decide +kernel
theorem d1_277 : decode method_5_code 277 = .ok (.ifCond .ne 38, 3) := by decide +kernel
theorem d1_280 : decode method_5_code 280 = .ok (.bipush 6, 2) := by decide +kernel
theorem d1_282 : decode method_5_code 282 = .ok (.newarray .char, 2) := by decide +kernel
theorem d1_284 : decode method_5_code 284 = .ok (.dup, 1) := by decide +kernel
theorem d1_285 : decode method_5_code 285 = .ok (.iconst 0, 1) := by decide +kernel
theorem d1_286 : decode method_5_code 286 = .ok (.bipush 80, 2) := by decide +kernel
theorem d1_288 : decode method_5_code 288 = .ok (.castore, 1) := by decide +kernel
theorem d1_289 : decode method_5_code 289 = .ok (.dup, 1) := by decide +kernel
theorem d1_290 : decode method_5_code 290 = .ok (.iconst 1, 1) := by decide +kernel
theorem d1_291 : decode method_5_code 291 = .ok (.bipush 73, 2) := by decide +kernel
theorem d1_293 : decode method_5_code 293 = .ok (.castore, 1) := by decide +kernel
theorem d1_294 : decode method_5_code 294 = .ok (.dup, 1) := by decide +kernel
theorem d1_295 : decode method_5_code 295 = .ok (.iconst 2, 1) := by decide +kernel
theorem d1_296 : decode method_5_code 296 = .ok (.bipush 67, 2) := by decide +kernel
theorem d1_298 : decode method_5_code 298 = .ok (.castore, 1) := by decide +kernel
theorem d1_299 : decode method_5_code 299 = .ok (.dup, 1) := by decide +kernel
theorem d1_300 : decode method_5_code 300 = .ok (.iconst 3, 1) := by decide +kernel
theorem d1_301 : decode method_5_code 301 = .ok (.bipush 75, 2) := by decide +kernel
theorem d1_303 : decode method_5_code 303 = .ok (.castore, 1) := by decide +kernel
theorem d1_304 : decode method_5_code 304 = .ok (.dup, 1) := by decide +kernel
theorem d1_305 : decode method_5_code 305 = .ok (.iconst 4, 1) := by decide +kernel
theorem d1_306 : decode method_5_code 306 = .ok (.bipush 85, 2) := by decide +kernel
theorem d1_308 : decode method_5_code 308 = .ok (.castore, 1) := by decide +kernel
theorem d1_309 : decode method_5_code 309 = .ok (.dup, 1) := by decide +kernel
theorem d1_310 : decode method_5_code 310 = .ok (.iconst 5, 1) := by decide +kernel
theorem d1_311 : decode method_5_code 311 = .ok (.bipush 80, 2) := by decide +kernel
theorem d1_313 : decode method_5_code 313 = .ok (.castore, 1) := by decide +kernel
theorem d1_314 : decode method_5_code 314 = .ok (.areturn, 1) := by decide +kernel
set_option maxRecDepth 65536 in
set_option maxHeartbeats 40000000 in
theorem rmN20 (l : Launch) (Z : State) (a0 : Array Value) (hw : ∀ d ∈ tables_1, d.before a0 Z = true) (ws : List Jvm.Cond) (kd vr cc : Int32) (h0 : Heap) (n0 : Nat) (O0 : Old Z n0 h0) (hcc : ¬ nar .char cc < 0 ∧ ¬ (255 : Int32) < nar .char cc) (hc1 : ¬ (kd = (0 : Int32))) (hc119 : ¬ (kd = (1 : Int32))) (hc273 : kd = (2 : Int32)) (hc277 : vr = (0 : Int32)) :
    MetFree l (⟨"com/example/lendloop/lendloop/core/TransactionRoleFromWireNamePinLaw", "named", "(IIC)[C"⟩ : MethodName) (head1 (Jvm.Cond.code (⟨"com/example/lendloop/lendloop/core/TransactionRoleFromWireNamePinLaw", "named", "(IIC)[C"⟩ : MethodName) method_5_code 3 (some (.array .char)) :: ws) ({ frames := 0, cells := 1, slots := 17, locals := 0 } : Room)) (fun qq U => qq = #[(.int kd), (.int vr), (.int cc)] ∧ Z.Warmed39 U.vm ∧ U.heap = h0) (fun _ _ _ _ _ => True) (fun _ UU oo UU' => ∃ vv LL, oo = .returned vv ∧ Qd10 Z kd vr cc h0 n0 vv UU'.heap LL ∧ FrameEnd UU oo UU' LL ({ frames := 0, cells := 1, slots := 17, locals := 0 } : Room).cells ({ frames := 0, cells := 1, slots := 17, locals := 0 } : Room).slots) := by
  refine MetFree.of_bodySF (plainFor_of_name pn_1) hisR ?_
  intro p e s m args below meth c s₁ Bd hml0 hP hK
  obtain ⟨rfl, hZ, hh⟩ := hP
  have hx := Bd.exec
  have hby := Bd.bytes
  have hml : c.maxLocals = 3 := hml0
  have hown : s.vm.findClass "com/example/lendloop/lendloop/core/TransactionRoleFromWireNamePinLaw" = some m.cls := findClass_of_methodNamed Bd.named
  have hnm := (name_of_methodNamed Bd.named Bd.method).1
  have X0 : Stand p l e ({ frames := 0, cells := 1, slots := 17, locals := 0 } : Room) s m #[(.int kd), (.int vr), (.int cc)] below meth c s₁ [] 0 0 := Stand.of_body Bd
  have e0 : s₁.heap = h0 := by rw [← hh, Bd.state]; rfl
  have N0 := Fr.nil n0
  have pre0 : ∀ tgt, Steps p.tables e below (s₁.setTop (mkF m 0 #[.val (.int kd), .val (.int vr), .val (.int cc)] [])) tgt → Steps p.tables e below (s₁.setTop (entryFrame m #[(.int kd), (.int vr), (.int cc)] 3)) tgt := fun tt kk => castTop (ef_1 m kd vr cc) kk
  obtain ⟨T1, h1, k1, X1, e1, E1, A1, st1⟩ := newP X0 hx hZ (ww hw 4 rfl) e0 (g := (mkF m 282 #[.val (.int kd), .val (.int vr), .val (.int cc)] [(.int (6 : Int32))])) rfl (hb hby d1_282) rfl (by decide) (cap := 6) (by decide) (by decide) (by decide) (by decide)
  obtain ⟨b1, q1⟩ : ∃ z, z = h0.size := ⟨_, rfl⟩
  rw [← q1] at A1 st1
  have g_b1 : n0 ≤ b1 := by rw [q1]; exact (O0).1 ▸ (O0).2.1
  have sz_b1 : h0.size ≤ b1 := by rw [q1]; exact ((Keep.refl h0 [])).1
  have O1 := Old.ext O0 E1
  have K1 := Keep.ext (Keep.refl h0 []) E1
  have V1 : Arv Z h1 b1 k1 .char (6 : Int32) [] (.int (0 : Int32)) := Arv.new A1 (by decide)
  obtain ⟨T2, h2, X2, e2, W2, V2, st2⟩ := own_putC X1 hx hZ e1 V1 (j := (0 : Int32)) rfl (by decide) (Nat.le_of_ble_eq_true rfl) (g := (mkF m 288 #[.val (.int kd), .val (.int vr), .val (.int cc)] [(.int (80 : Int32)), (.int (0 : Int32)), (.ref b1), (.ref b1)])) rfl rfl (hb hby d1_288)
  have N2 := Fr.snoc X2 N0 g_b1
  have O2 := Old.wr O1 W2 g_b1
  have K2 := Keep.wr K1 W2 (Or.inr sz_b1)
  obtain ⟨T3, h3, X3, e3, W3, V3, st3⟩ := own_putC X2 hx hZ e2 V2 (j := (1 : Int32)) rfl (by decide) (Nat.le_of_ble_eq_true rfl) (g := (mkF m 293 #[.val (.int kd), .val (.int vr), .val (.int cc)] [(.int (73 : Int32)), (.int (1 : Int32)), (.ref b1), (.ref b1)])) rfl rfl (hb hby d1_293)
  have N3 := Fr.snoc X3 N2 g_b1
  have O3 := Old.wr O2 W3 g_b1
  have K3 := Keep.wr K2 W3 (Or.inr sz_b1)
  obtain ⟨T4, h4, X4, e4, W4, V4, st4⟩ := own_putC X3 hx hZ e3 V3 (j := (2 : Int32)) rfl (by decide) (Nat.le_of_ble_eq_true rfl) (g := (mkF m 298 #[.val (.int kd), .val (.int vr), .val (.int cc)] [(.int (67 : Int32)), (.int (2 : Int32)), (.ref b1), (.ref b1)])) rfl rfl (hb hby d1_298)
  have N4 := Fr.snoc X4 N3 g_b1
  have O4 := Old.wr O3 W4 g_b1
  have K4 := Keep.wr K3 W4 (Or.inr sz_b1)
  obtain ⟨T5, h5, X5, e5, W5, V5, st5⟩ := own_putC X4 hx hZ e4 V4 (j := (3 : Int32)) rfl (by decide) (Nat.le_of_ble_eq_true rfl) (g := (mkF m 303 #[.val (.int kd), .val (.int vr), .val (.int cc)] [(.int (75 : Int32)), (.int (3 : Int32)), (.ref b1), (.ref b1)])) rfl rfl (hb hby d1_303)
  have N5 := Fr.snoc X5 N4 g_b1
  have O5 := Old.wr O4 W5 g_b1
  have K5 := Keep.wr K4 W5 (Or.inr sz_b1)
  obtain ⟨T6, h6, X6, e6, W6, V6, st6⟩ := own_putC X5 hx hZ e5 V5 (j := (4 : Int32)) rfl (by decide) (Nat.le_of_ble_eq_true rfl) (g := (mkF m 308 #[.val (.int kd), .val (.int vr), .val (.int cc)] [(.int (85 : Int32)), (.int (4 : Int32)), (.ref b1), (.ref b1)])) rfl rfl (hb hby d1_308)
  have N6 := Fr.snoc X6 N5 g_b1
  have O6 := Old.wr O5 W6 g_b1
  have K6 := Keep.wr K5 W6 (Or.inr sz_b1)
  obtain ⟨T7, h7, X7, e7, W7, V7, st7⟩ := own_putC X6 hx hZ e6 V6 (j := (5 : Int32)) rfl (by decide) (Nat.le_of_ble_eq_true rfl) (g := (mkF m 313 #[.val (.int kd), .val (.int vr), .val (.int cc)] [(.int (80 : Int32)), (.int (5 : Int32)), (.ref b1), (.ref b1)])) rfl rfl (hb hby d1_313)
  have N7 := Fr.snoc X7 N6 g_b1
  have O7 := Old.wr O6 W7 g_b1
  have K7 := Keep.wr K6 W7 (Or.inr sz_b1)
  have hgood : own_good ([(nar .char (80 : Int32)), (nar .char (73 : Int32)), (nar .char (67 : Int32)), (nar .char (75 : Int32)), (nar .char (85 : Int32)), (nar .char (80 : Int32))] : List Int32) := ⟨Nat.le_of_ble_eq_true rfl, by
    intro x hx
    simp only [List.mem_cons, List.not_mem_nil, or_false] at hx
    rcases hx with rfl | rfl | rfl | rfl | rfl | rfl
    all_goals first | exact hcc | decide⟩
  obtain ⟨fs, hr, hrun, hended, hW, hsame⟩ := X7.leave (v := some (.ref b1)) (fun h => by rw [Bd.returns] at h; cases h)
  refine ⟨_, _, pre0 _ ?_, hrun, hended, _, _, rfl, ?_, ⟨_, rfl⟩, hW, hsame.mono (by decide) (by decide)⟩
  · show Steps p.tables e below (s₁.setTop (mkF m 0 #[.val (.int kd), .val (.int vr), .val (.int cc)] [])) _
    refine XS.iloadN X0.here hx rfl (hb hby d1_0) rfl ?_
    show Steps p.tables e below (s₁.setTop (mkF m 1 #[.val (.int kd), .val (.int vr), .val (.int cc)] [(.int kd)])) _
    refine XS.ifYes X0.here hx rfl (pc0 := 1) (pc' := 117) rfl (hb hby d1_1) rfl ((if0 _ _).trans (feq hc1).2) (by decide) (by decide) ?_
    show Steps p.tables e below (s₁.setTop (mkF m 117 #[.val (.int kd), .val (.int vr), .val (.int cc)] [])) _
    refine XS.iloadN X0.here hx rfl (hb hby d1_117) rfl ?_
    show Steps p.tables e below (s₁.setTop (mkF m 118 #[.val (.int kd), .val (.int vr), .val (.int cc)] [(.int kd)])) _
    refine XS.iconst X0.here hx rfl (hb hby d1_118) ?_
    show Steps p.tables e below (s₁.setTop (mkF m 119 #[.val (.int kd), .val (.int vr), .val (.int cc)] [(.int (1 : Int32)), (.int kd)])) _
    refine XS.icmpYes X0.here hx rfl (pc0 := 119) (pc' := 271) rfl (hb hby d1_119) rfl (feq hc119).2 (by decide) (by decide) ?_
    show Steps p.tables e below (s₁.setTop (mkF m 271 #[.val (.int kd), .val (.int vr), .val (.int cc)] [])) _
    refine XS.iloadN X0.here hx rfl (hb hby d1_271) rfl ?_
    show Steps p.tables e below (s₁.setTop (mkF m 272 #[.val (.int kd), .val (.int vr), .val (.int cc)] [(.int kd)])) _
    refine XS.iconst X0.here hx rfl (hb hby d1_272) ?_
    show Steps p.tables e below (s₁.setTop (mkF m 273 #[.val (.int kd), .val (.int vr), .val (.int cc)] [(.int (2 : Int32)), (.int kd)])) _
    refine XS.icmpNo X0.here hx rfl (hb hby d1_273) rfl (teq hc273).2 ?_
    show Steps p.tables e below (s₁.setTop (mkF m 276 #[.val (.int kd), .val (.int vr), .val (.int cc)] [])) _
    refine XS.iloadN X0.here hx rfl (hb hby d1_276) rfl ?_
    show Steps p.tables e below (s₁.setTop (mkF m 277 #[.val (.int kd), .val (.int vr), .val (.int cc)] [(.int vr)])) _
    refine XS.ifNo X0.here hx rfl (hb hby d1_277) rfl ((if0 _ _).trans (teq hc277).2) ?_
    show Steps p.tables e below (s₁.setTop (mkF m 280 #[.val (.int kd), .val (.int vr), .val (.int cc)] [])) _
    refine XS.bipush X0.here hx rfl (hb hby d1_280) ?_
    show Steps p.tables e below (s₁.setTop (mkF m 282 #[.val (.int kd), .val (.int vr), .val (.int cc)] [(.int (6 : Int32))])) _
    refine st1 _ ?_
    show Steps p.tables e below (T1.setTop (mkF m 284 #[.val (.int kd), .val (.int vr), .val (.int cc)] [(.ref b1)])) _
    refine XS.dup X1.here hx rfl (hb hby d1_284) rfl rfl ?_
    show Steps p.tables e below (T1.setTop (mkF m 285 #[.val (.int kd), .val (.int vr), .val (.int cc)] [(.ref b1), (.ref b1)])) _
    refine XS.iconst X1.here hx rfl (hb hby d1_285) ?_
    show Steps p.tables e below (T1.setTop (mkF m 286 #[.val (.int kd), .val (.int vr), .val (.int cc)] [(.int (0 : Int32)), (.ref b1), (.ref b1)])) _
    refine XS.bipush X1.here hx rfl (hb hby d1_286) ?_
    show Steps p.tables e below (T1.setTop (mkF m 288 #[.val (.int kd), .val (.int vr), .val (.int cc)] [(.int (80 : Int32)), (.int (0 : Int32)), (.ref b1), (.ref b1)])) _
    refine st2 _ ?_
    show Steps p.tables e below (T2.setTop (mkF m 289 #[.val (.int kd), .val (.int vr), .val (.int cc)] [(.ref b1)])) _
    refine XS.dup X2.here hx rfl (hb hby d1_289) rfl rfl ?_
    show Steps p.tables e below (T2.setTop (mkF m 290 #[.val (.int kd), .val (.int vr), .val (.int cc)] [(.ref b1), (.ref b1)])) _
    refine XS.iconst X2.here hx rfl (hb hby d1_290) ?_
    show Steps p.tables e below (T2.setTop (mkF m 291 #[.val (.int kd), .val (.int vr), .val (.int cc)] [(.int (1 : Int32)), (.ref b1), (.ref b1)])) _
    refine XS.bipush X2.here hx rfl (hb hby d1_291) ?_
    show Steps p.tables e below (T2.setTop (mkF m 293 #[.val (.int kd), .val (.int vr), .val (.int cc)] [(.int (73 : Int32)), (.int (1 : Int32)), (.ref b1), (.ref b1)])) _
    refine st3 _ ?_
    show Steps p.tables e below (T3.setTop (mkF m 294 #[.val (.int kd), .val (.int vr), .val (.int cc)] [(.ref b1)])) _
    refine XS.dup X3.here hx rfl (hb hby d1_294) rfl rfl ?_
    show Steps p.tables e below (T3.setTop (mkF m 295 #[.val (.int kd), .val (.int vr), .val (.int cc)] [(.ref b1), (.ref b1)])) _
    refine XS.iconst X3.here hx rfl (hb hby d1_295) ?_
    show Steps p.tables e below (T3.setTop (mkF m 296 #[.val (.int kd), .val (.int vr), .val (.int cc)] [(.int (2 : Int32)), (.ref b1), (.ref b1)])) _
    refine XS.bipush X3.here hx rfl (hb hby d1_296) ?_
    show Steps p.tables e below (T3.setTop (mkF m 298 #[.val (.int kd), .val (.int vr), .val (.int cc)] [(.int (67 : Int32)), (.int (2 : Int32)), (.ref b1), (.ref b1)])) _
    refine st4 _ ?_
    show Steps p.tables e below (T4.setTop (mkF m 299 #[.val (.int kd), .val (.int vr), .val (.int cc)] [(.ref b1)])) _
    refine XS.dup X4.here hx rfl (hb hby d1_299) rfl rfl ?_
    show Steps p.tables e below (T4.setTop (mkF m 300 #[.val (.int kd), .val (.int vr), .val (.int cc)] [(.ref b1), (.ref b1)])) _
    refine XS.iconst X4.here hx rfl (hb hby d1_300) ?_
    show Steps p.tables e below (T4.setTop (mkF m 301 #[.val (.int kd), .val (.int vr), .val (.int cc)] [(.int (3 : Int32)), (.ref b1), (.ref b1)])) _
    refine XS.bipush X4.here hx rfl (hb hby d1_301) ?_
    show Steps p.tables e below (T4.setTop (mkF m 303 #[.val (.int kd), .val (.int vr), .val (.int cc)] [(.int (75 : Int32)), (.int (3 : Int32)), (.ref b1), (.ref b1)])) _
    refine st5 _ ?_
    show Steps p.tables e below (T5.setTop (mkF m 304 #[.val (.int kd), .val (.int vr), .val (.int cc)] [(.ref b1)])) _
    refine XS.dup X5.here hx rfl (hb hby d1_304) rfl rfl ?_
    show Steps p.tables e below (T5.setTop (mkF m 305 #[.val (.int kd), .val (.int vr), .val (.int cc)] [(.ref b1), (.ref b1)])) _
    refine XS.iconst X5.here hx rfl (hb hby d1_305) ?_
    show Steps p.tables e below (T5.setTop (mkF m 306 #[.val (.int kd), .val (.int vr), .val (.int cc)] [(.int (4 : Int32)), (.ref b1), (.ref b1)])) _
    refine XS.bipush X5.here hx rfl (hb hby d1_306) ?_
    show Steps p.tables e below (T5.setTop (mkF m 308 #[.val (.int kd), .val (.int vr), .val (.int cc)] [(.int (85 : Int32)), (.int (4 : Int32)), (.ref b1), (.ref b1)])) _
    refine st6 _ ?_
    show Steps p.tables e below (T6.setTop (mkF m 309 #[.val (.int kd), .val (.int vr), .val (.int cc)] [(.ref b1)])) _
    refine XS.dup X6.here hx rfl (hb hby d1_309) rfl rfl ?_
    show Steps p.tables e below (T6.setTop (mkF m 310 #[.val (.int kd), .val (.int vr), .val (.int cc)] [(.ref b1), (.ref b1)])) _
    refine XS.iconst X6.here hx rfl (hb hby d1_310) ?_
    show Steps p.tables e below (T6.setTop (mkF m 311 #[.val (.int kd), .val (.int vr), .val (.int cc)] [(.int (5 : Int32)), (.ref b1), (.ref b1)])) _
    refine XS.bipush X6.here hx rfl (hb hby d1_311) ?_
    show Steps p.tables e below (T6.setTop (mkF m 313 #[.val (.int kd), .val (.int vr), .val (.int cc)] [(.int (80 : Int32)), (.int (5 : Int32)), (.ref b1), (.ref b1)])) _
    refine st7 _ ?_
    show Steps p.tables e below (T7.setTop (mkF m 314 #[.val (.int kd), .val (.int vr), .val (.int cc)] [(.ref b1)])) _
    exact retOut X7 hx Bd.returns rfl (Or.inr (Or.inr (Or.inr (Or.inr ⟨rfl, rfl, rfl⟩)))) (hb hby d1_314) hr
  · show Qd10 Z kd vr cc h0 n0 _ T7.heap _
    rw [e7]
    exact ⟨b1, k1, ([(nar .char (80 : Int32)), (nar .char (73 : Int32)), (nar .char (67 : Int32)), (nar .char (75 : Int32)), (nar .char (85 : Int32)), (nar .char (80 : Int32))] : List Int32), rfl, N7, K7, g_b1, V7, hgood, Nat.succ_ne_zero _⟩
theorem d1_315 : decode method_5_code 315 = .ok (.iload_n 1, 1) := by decide +kernel
theorem d1_316 : decode method_5_code 316 = .ok (.iconst 1, 1) := by decide +kernel
theorem d1_317 : decode method_5_code 317 = .ok (.if_icmp .ne 43, 3) := by decide +kernel
theorem d1_320 : decode method_5_code 320 = .ok (.bipush 7, 2) := by decide +kernel
theorem d1_322 : decode method_5_code 322 = .ok (.newarray .char, 2) := by decide +kernel
theorem d1_324 : decode method_5_code 324 = .ok (.dup, 1) := by decide +kernel
theorem d1_325 : decode method_5_code 325 = .ok (.iconst 0, 1) := by decide +kernel
theorem d1_326 : decode method_5_code 326 = .ok (.bipush 80, 2) := by decide +kernel
theorem d1_328 : decode method_5_code 328 = .ok (.castore, 1) := by decide +kernel
theorem d1_329 : decode method_5_code 329 = .ok (.dup, 1) := by decide +kernel
theorem d1_330 : decode method_5_code 330 = .ok (.iconst 1, 1) := by decide +kernel
theorem d1_331 : decode method_5_code 331 = .ok (.bipush 73, 2) := by decide +kernel
theorem d1_333 : decode method_5_code 333 = .ok (.castore, 1) := by decide +kernel
theorem d1_334 : decode method_5_code 334 = .ok (.dup, 1) := by decide +kernel
theorem d1_335 : decode method_5_code 335 = .ok (.iconst 2, 1) := by decide +kernel
theorem d1_336 : decode method_5_code 336 = .ok (.bipush 67, 2) := by decide +kernel
theorem d1_338 : decode method_5_code 338 = .ok (.castore, 1) := by decide +kernel
theorem d1_339 : decode method_5_code 339 = .ok (.dup, 1) := by decide +kernel
theorem d1_340 : decode method_5_code 340 = .ok (.iconst 3, 1) := by decide +kernel
theorem d1_341 : decode method_5_code 341 = .ok (.bipush 75, 2) := by decide +kernel
theorem d1_343 : decode method_5_code 343 = .ok (.castore, 1) := by decide +kernel
theorem d1_344 : decode method_5_code 344 = .ok (.dup, 1) := by decide +kernel
theorem d1_345 : decode method_5_code 345 = .ok (.iconst 4, 1) := by decide +kernel
theorem d1_346 : decode method_5_code 346 = .ok (.bipush 85, 2) := by decide +kernel
theorem d1_348 : decode method_5_code 348 = .ok (.castore, 1) := by decide +kernel
theorem d1_349 : decode method_5_code 349 = .ok (.dup, 1) := by decide +kernel
theorem d1_350 : decode method_5_code 350 = .ok (.iconst 5, 1) := by decide +kernel
theorem d1_351 : decode method_5_code 351 = .ok (.bipush 80, 2) := by decide +kernel
theorem d1_353 : decode method_5_code 353 = .ok (.castore, 1) := by decide +kernel
theorem d1_354 : decode method_5_code 354 = .ok (.dup, 1) := by decide +kernel
theorem d1_355 : decode method_5_code 355 = .ok (.bipush 6, 2) := by decide +kernel
theorem d1_357 : decode method_5_code 357 = .ok (.iload_n 2, 1) := by decide +kernel
theorem d1_358 : decode method_5_code 358 = .ok (.castore, 1) := by decide +kernel
theorem d1_359 : decode method_5_code 359 = .ok (.areturn, 1) := by decide +kernel
set_option maxRecDepth 65536 in
set_option maxHeartbeats 40000000 in
theorem rmN21 (l : Launch) (Z : State) (a0 : Array Value) (hw : ∀ d ∈ tables_1, d.before a0 Z = true) (ws : List Jvm.Cond) (kd vr cc : Int32) (h0 : Heap) (n0 : Nat) (O0 : Old Z n0 h0) (hcc : ¬ nar .char cc < 0 ∧ ¬ (255 : Int32) < nar .char cc) (hc1 : ¬ (kd = (0 : Int32))) (hc119 : ¬ (kd = (1 : Int32))) (hc273 : kd = (2 : Int32)) (hc277 : ¬ (vr = (0 : Int32))) (hc317 : vr = (1 : Int32)) :
    MetFree l (⟨"com/example/lendloop/lendloop/core/TransactionRoleFromWireNamePinLaw", "named", "(IIC)[C"⟩ : MethodName) (head1 (Jvm.Cond.code (⟨"com/example/lendloop/lendloop/core/TransactionRoleFromWireNamePinLaw", "named", "(IIC)[C"⟩ : MethodName) method_5_code 3 (some (.array .char)) :: ws) ({ frames := 0, cells := 1, slots := 17, locals := 0 } : Room)) (fun qq U => qq = #[(.int kd), (.int vr), (.int cc)] ∧ Z.Warmed39 U.vm ∧ U.heap = h0) (fun _ _ _ _ _ => True) (fun _ UU oo UU' => ∃ vv LL, oo = .returned vv ∧ Qd10 Z kd vr cc h0 n0 vv UU'.heap LL ∧ FrameEnd UU oo UU' LL ({ frames := 0, cells := 1, slots := 17, locals := 0 } : Room).cells ({ frames := 0, cells := 1, slots := 17, locals := 0 } : Room).slots) := by
  refine MetFree.of_bodySF (plainFor_of_name pn_1) hisR ?_
  intro p e s m args below meth c s₁ Bd hml0 hP hK
  obtain ⟨rfl, hZ, hh⟩ := hP
  have hx := Bd.exec
  have hby := Bd.bytes
  have hml : c.maxLocals = 3 := hml0
  have hown : s.vm.findClass "com/example/lendloop/lendloop/core/TransactionRoleFromWireNamePinLaw" = some m.cls := findClass_of_methodNamed Bd.named
  have hnm := (name_of_methodNamed Bd.named Bd.method).1
  have X0 : Stand p l e ({ frames := 0, cells := 1, slots := 17, locals := 0 } : Room) s m #[(.int kd), (.int vr), (.int cc)] below meth c s₁ [] 0 0 := Stand.of_body Bd
  have e0 : s₁.heap = h0 := by rw [← hh, Bd.state]; rfl
  have N0 := Fr.nil n0
  have pre0 : ∀ tgt, Steps p.tables e below (s₁.setTop (mkF m 0 #[.val (.int kd), .val (.int vr), .val (.int cc)] [])) tgt → Steps p.tables e below (s₁.setTop (entryFrame m #[(.int kd), (.int vr), (.int cc)] 3)) tgt := fun tt kk => castTop (ef_1 m kd vr cc) kk
  obtain ⟨T1, h1, k1, X1, e1, E1, A1, st1⟩ := newP X0 hx hZ (ww hw 4 rfl) e0 (g := (mkF m 322 #[.val (.int kd), .val (.int vr), .val (.int cc)] [(.int (7 : Int32))])) rfl (hb hby d1_322) rfl (by decide) (cap := 7) (by decide) (by decide) (by decide) (by decide)
  obtain ⟨b1, q1⟩ : ∃ z, z = h0.size := ⟨_, rfl⟩
  rw [← q1] at A1 st1
  have g_b1 : n0 ≤ b1 := by rw [q1]; exact (O0).1 ▸ (O0).2.1
  have sz_b1 : h0.size ≤ b1 := by rw [q1]; exact ((Keep.refl h0 [])).1
  have O1 := Old.ext O0 E1
  have K1 := Keep.ext (Keep.refl h0 []) E1
  have V1 : Arv Z h1 b1 k1 .char (7 : Int32) [] (.int (0 : Int32)) := Arv.new A1 (by decide)
  obtain ⟨T2, h2, X2, e2, W2, V2, st2⟩ := own_putC X1 hx hZ e1 V1 (j := (0 : Int32)) rfl (by decide) (Nat.le_of_ble_eq_true rfl) (g := (mkF m 328 #[.val (.int kd), .val (.int vr), .val (.int cc)] [(.int (80 : Int32)), (.int (0 : Int32)), (.ref b1), (.ref b1)])) rfl rfl (hb hby d1_328)
  have N2 := Fr.snoc X2 N0 g_b1
  have O2 := Old.wr O1 W2 g_b1
  have K2 := Keep.wr K1 W2 (Or.inr sz_b1)
  obtain ⟨T3, h3, X3, e3, W3, V3, st3⟩ := own_putC X2 hx hZ e2 V2 (j := (1 : Int32)) rfl (by decide) (Nat.le_of_ble_eq_true rfl) (g := (mkF m 333 #[.val (.int kd), .val (.int vr), .val (.int cc)] [(.int (73 : Int32)), (.int (1 : Int32)), (.ref b1), (.ref b1)])) rfl rfl (hb hby d1_333)
  have N3 := Fr.snoc X3 N2 g_b1
  have O3 := Old.wr O2 W3 g_b1
  have K3 := Keep.wr K2 W3 (Or.inr sz_b1)
  obtain ⟨T4, h4, X4, e4, W4, V4, st4⟩ := own_putC X3 hx hZ e3 V3 (j := (2 : Int32)) rfl (by decide) (Nat.le_of_ble_eq_true rfl) (g := (mkF m 338 #[.val (.int kd), .val (.int vr), .val (.int cc)] [(.int (67 : Int32)), (.int (2 : Int32)), (.ref b1), (.ref b1)])) rfl rfl (hb hby d1_338)
  have N4 := Fr.snoc X4 N3 g_b1
  have O4 := Old.wr O3 W4 g_b1
  have K4 := Keep.wr K3 W4 (Or.inr sz_b1)
  obtain ⟨T5, h5, X5, e5, W5, V5, st5⟩ := own_putC X4 hx hZ e4 V4 (j := (3 : Int32)) rfl (by decide) (Nat.le_of_ble_eq_true rfl) (g := (mkF m 343 #[.val (.int kd), .val (.int vr), .val (.int cc)] [(.int (75 : Int32)), (.int (3 : Int32)), (.ref b1), (.ref b1)])) rfl rfl (hb hby d1_343)
  have N5 := Fr.snoc X5 N4 g_b1
  have O5 := Old.wr O4 W5 g_b1
  have K5 := Keep.wr K4 W5 (Or.inr sz_b1)
  obtain ⟨T6, h6, X6, e6, W6, V6, st6⟩ := own_putC X5 hx hZ e5 V5 (j := (4 : Int32)) rfl (by decide) (Nat.le_of_ble_eq_true rfl) (g := (mkF m 348 #[.val (.int kd), .val (.int vr), .val (.int cc)] [(.int (85 : Int32)), (.int (4 : Int32)), (.ref b1), (.ref b1)])) rfl rfl (hb hby d1_348)
  have N6 := Fr.snoc X6 N5 g_b1
  have O6 := Old.wr O5 W6 g_b1
  have K6 := Keep.wr K5 W6 (Or.inr sz_b1)
  obtain ⟨T7, h7, X7, e7, W7, V7, st7⟩ := own_putC X6 hx hZ e6 V6 (j := (5 : Int32)) rfl (by decide) (Nat.le_of_ble_eq_true rfl) (g := (mkF m 353 #[.val (.int kd), .val (.int vr), .val (.int cc)] [(.int (80 : Int32)), (.int (5 : Int32)), (.ref b1), (.ref b1)])) rfl rfl (hb hby d1_353)
  have N7 := Fr.snoc X7 N6 g_b1
  have O7 := Old.wr O6 W7 g_b1
  have K7 := Keep.wr K6 W7 (Or.inr sz_b1)
  obtain ⟨T8, h8, X8, e8, W8, V8, st8⟩ := own_putC X7 hx hZ e7 V7 (j := (6 : Int32)) rfl (by decide) (Nat.le_of_ble_eq_true rfl) (g := (mkF m 358 #[.val (.int kd), .val (.int vr), .val (.int cc)] [(.int cc), (.int (6 : Int32)), (.ref b1), (.ref b1)])) rfl rfl (hb hby d1_358)
  have N8 := Fr.snoc X8 N7 g_b1
  have O8 := Old.wr O7 W8 g_b1
  have K8 := Keep.wr K7 W8 (Or.inr sz_b1)
  have hgood : own_good ([(nar .char (80 : Int32)), (nar .char (73 : Int32)), (nar .char (67 : Int32)), (nar .char (75 : Int32)), (nar .char (85 : Int32)), (nar .char (80 : Int32)), (nar .char cc)] : List Int32) := ⟨Nat.le_of_ble_eq_true rfl, by
    intro x hx
    simp only [List.mem_cons, List.not_mem_nil, or_false] at hx
    rcases hx with rfl | rfl | rfl | rfl | rfl | rfl | rfl
    all_goals first | exact hcc | decide⟩
  obtain ⟨fs, hr, hrun, hended, hW, hsame⟩ := X8.leave (v := some (.ref b1)) (fun h => by rw [Bd.returns] at h; cases h)
  refine ⟨_, _, pre0 _ ?_, hrun, hended, _, _, rfl, ?_, ⟨_, rfl⟩, hW, hsame.mono (by decide) (by decide)⟩
  · show Steps p.tables e below (s₁.setTop (mkF m 0 #[.val (.int kd), .val (.int vr), .val (.int cc)] [])) _
    refine XS.iloadN X0.here hx rfl (hb hby d1_0) rfl ?_
    show Steps p.tables e below (s₁.setTop (mkF m 1 #[.val (.int kd), .val (.int vr), .val (.int cc)] [(.int kd)])) _
    refine XS.ifYes X0.here hx rfl (pc0 := 1) (pc' := 117) rfl (hb hby d1_1) rfl ((if0 _ _).trans (feq hc1).2) (by decide) (by decide) ?_
    show Steps p.tables e below (s₁.setTop (mkF m 117 #[.val (.int kd), .val (.int vr), .val (.int cc)] [])) _
    refine XS.iloadN X0.here hx rfl (hb hby d1_117) rfl ?_
    show Steps p.tables e below (s₁.setTop (mkF m 118 #[.val (.int kd), .val (.int vr), .val (.int cc)] [(.int kd)])) _
    refine XS.iconst X0.here hx rfl (hb hby d1_118) ?_
    show Steps p.tables e below (s₁.setTop (mkF m 119 #[.val (.int kd), .val (.int vr), .val (.int cc)] [(.int (1 : Int32)), (.int kd)])) _
    refine XS.icmpYes X0.here hx rfl (pc0 := 119) (pc' := 271) rfl (hb hby d1_119) rfl (feq hc119).2 (by decide) (by decide) ?_
    show Steps p.tables e below (s₁.setTop (mkF m 271 #[.val (.int kd), .val (.int vr), .val (.int cc)] [])) _
    refine XS.iloadN X0.here hx rfl (hb hby d1_271) rfl ?_
    show Steps p.tables e below (s₁.setTop (mkF m 272 #[.val (.int kd), .val (.int vr), .val (.int cc)] [(.int kd)])) _
    refine XS.iconst X0.here hx rfl (hb hby d1_272) ?_
    show Steps p.tables e below (s₁.setTop (mkF m 273 #[.val (.int kd), .val (.int vr), .val (.int cc)] [(.int (2 : Int32)), (.int kd)])) _
    refine XS.icmpNo X0.here hx rfl (hb hby d1_273) rfl (teq hc273).2 ?_
    show Steps p.tables e below (s₁.setTop (mkF m 276 #[.val (.int kd), .val (.int vr), .val (.int cc)] [])) _
    refine XS.iloadN X0.here hx rfl (hb hby d1_276) rfl ?_
    show Steps p.tables e below (s₁.setTop (mkF m 277 #[.val (.int kd), .val (.int vr), .val (.int cc)] [(.int vr)])) _
    refine XS.ifYes X0.here hx rfl (pc0 := 277) (pc' := 315) rfl (hb hby d1_277) rfl ((if0 _ _).trans (feq hc277).2) (by decide) (by decide) ?_
    show Steps p.tables e below (s₁.setTop (mkF m 315 #[.val (.int kd), .val (.int vr), .val (.int cc)] [])) _
    refine XS.iloadN X0.here hx rfl (hb hby d1_315) rfl ?_
    show Steps p.tables e below (s₁.setTop (mkF m 316 #[.val (.int kd), .val (.int vr), .val (.int cc)] [(.int vr)])) _
    refine XS.iconst X0.here hx rfl (hb hby d1_316) ?_
    show Steps p.tables e below (s₁.setTop (mkF m 317 #[.val (.int kd), .val (.int vr), .val (.int cc)] [(.int (1 : Int32)), (.int vr)])) _
    refine XS.icmpNo X0.here hx rfl (hb hby d1_317) rfl (teq hc317).2 ?_
    show Steps p.tables e below (s₁.setTop (mkF m 320 #[.val (.int kd), .val (.int vr), .val (.int cc)] [])) _
    refine XS.bipush X0.here hx rfl (hb hby d1_320) ?_
    show Steps p.tables e below (s₁.setTop (mkF m 322 #[.val (.int kd), .val (.int vr), .val (.int cc)] [(.int (7 : Int32))])) _
    refine st1 _ ?_
    show Steps p.tables e below (T1.setTop (mkF m 324 #[.val (.int kd), .val (.int vr), .val (.int cc)] [(.ref b1)])) _
    refine XS.dup X1.here hx rfl (hb hby d1_324) rfl rfl ?_
    show Steps p.tables e below (T1.setTop (mkF m 325 #[.val (.int kd), .val (.int vr), .val (.int cc)] [(.ref b1), (.ref b1)])) _
    refine XS.iconst X1.here hx rfl (hb hby d1_325) ?_
    show Steps p.tables e below (T1.setTop (mkF m 326 #[.val (.int kd), .val (.int vr), .val (.int cc)] [(.int (0 : Int32)), (.ref b1), (.ref b1)])) _
    refine XS.bipush X1.here hx rfl (hb hby d1_326) ?_
    show Steps p.tables e below (T1.setTop (mkF m 328 #[.val (.int kd), .val (.int vr), .val (.int cc)] [(.int (80 : Int32)), (.int (0 : Int32)), (.ref b1), (.ref b1)])) _
    refine st2 _ ?_
    show Steps p.tables e below (T2.setTop (mkF m 329 #[.val (.int kd), .val (.int vr), .val (.int cc)] [(.ref b1)])) _
    refine XS.dup X2.here hx rfl (hb hby d1_329) rfl rfl ?_
    show Steps p.tables e below (T2.setTop (mkF m 330 #[.val (.int kd), .val (.int vr), .val (.int cc)] [(.ref b1), (.ref b1)])) _
    refine XS.iconst X2.here hx rfl (hb hby d1_330) ?_
    show Steps p.tables e below (T2.setTop (mkF m 331 #[.val (.int kd), .val (.int vr), .val (.int cc)] [(.int (1 : Int32)), (.ref b1), (.ref b1)])) _
    refine XS.bipush X2.here hx rfl (hb hby d1_331) ?_
    show Steps p.tables e below (T2.setTop (mkF m 333 #[.val (.int kd), .val (.int vr), .val (.int cc)] [(.int (73 : Int32)), (.int (1 : Int32)), (.ref b1), (.ref b1)])) _
    refine st3 _ ?_
    show Steps p.tables e below (T3.setTop (mkF m 334 #[.val (.int kd), .val (.int vr), .val (.int cc)] [(.ref b1)])) _
    refine XS.dup X3.here hx rfl (hb hby d1_334) rfl rfl ?_
    show Steps p.tables e below (T3.setTop (mkF m 335 #[.val (.int kd), .val (.int vr), .val (.int cc)] [(.ref b1), (.ref b1)])) _
    refine XS.iconst X3.here hx rfl (hb hby d1_335) ?_
    show Steps p.tables e below (T3.setTop (mkF m 336 #[.val (.int kd), .val (.int vr), .val (.int cc)] [(.int (2 : Int32)), (.ref b1), (.ref b1)])) _
    refine XS.bipush X3.here hx rfl (hb hby d1_336) ?_
    show Steps p.tables e below (T3.setTop (mkF m 338 #[.val (.int kd), .val (.int vr), .val (.int cc)] [(.int (67 : Int32)), (.int (2 : Int32)), (.ref b1), (.ref b1)])) _
    refine st4 _ ?_
    show Steps p.tables e below (T4.setTop (mkF m 339 #[.val (.int kd), .val (.int vr), .val (.int cc)] [(.ref b1)])) _
    refine XS.dup X4.here hx rfl (hb hby d1_339) rfl rfl ?_
    show Steps p.tables e below (T4.setTop (mkF m 340 #[.val (.int kd), .val (.int vr), .val (.int cc)] [(.ref b1), (.ref b1)])) _
    refine XS.iconst X4.here hx rfl (hb hby d1_340) ?_
    show Steps p.tables e below (T4.setTop (mkF m 341 #[.val (.int kd), .val (.int vr), .val (.int cc)] [(.int (3 : Int32)), (.ref b1), (.ref b1)])) _
    refine XS.bipush X4.here hx rfl (hb hby d1_341) ?_
    show Steps p.tables e below (T4.setTop (mkF m 343 #[.val (.int kd), .val (.int vr), .val (.int cc)] [(.int (75 : Int32)), (.int (3 : Int32)), (.ref b1), (.ref b1)])) _
    refine st5 _ ?_
    show Steps p.tables e below (T5.setTop (mkF m 344 #[.val (.int kd), .val (.int vr), .val (.int cc)] [(.ref b1)])) _
    refine XS.dup X5.here hx rfl (hb hby d1_344) rfl rfl ?_
    show Steps p.tables e below (T5.setTop (mkF m 345 #[.val (.int kd), .val (.int vr), .val (.int cc)] [(.ref b1), (.ref b1)])) _
    refine XS.iconst X5.here hx rfl (hb hby d1_345) ?_
    show Steps p.tables e below (T5.setTop (mkF m 346 #[.val (.int kd), .val (.int vr), .val (.int cc)] [(.int (4 : Int32)), (.ref b1), (.ref b1)])) _
    refine XS.bipush X5.here hx rfl (hb hby d1_346) ?_
    show Steps p.tables e below (T5.setTop (mkF m 348 #[.val (.int kd), .val (.int vr), .val (.int cc)] [(.int (85 : Int32)), (.int (4 : Int32)), (.ref b1), (.ref b1)])) _
    refine st6 _ ?_
    show Steps p.tables e below (T6.setTop (mkF m 349 #[.val (.int kd), .val (.int vr), .val (.int cc)] [(.ref b1)])) _
    refine XS.dup X6.here hx rfl (hb hby d1_349) rfl rfl ?_
    show Steps p.tables e below (T6.setTop (mkF m 350 #[.val (.int kd), .val (.int vr), .val (.int cc)] [(.ref b1), (.ref b1)])) _
    refine XS.iconst X6.here hx rfl (hb hby d1_350) ?_
    show Steps p.tables e below (T6.setTop (mkF m 351 #[.val (.int kd), .val (.int vr), .val (.int cc)] [(.int (5 : Int32)), (.ref b1), (.ref b1)])) _
    refine XS.bipush X6.here hx rfl (hb hby d1_351) ?_
    show Steps p.tables e below (T6.setTop (mkF m 353 #[.val (.int kd), .val (.int vr), .val (.int cc)] [(.int (80 : Int32)), (.int (5 : Int32)), (.ref b1), (.ref b1)])) _
    refine st7 _ ?_
    show Steps p.tables e below (T7.setTop (mkF m 354 #[.val (.int kd), .val (.int vr), .val (.int cc)] [(.ref b1)])) _
    refine XS.dup X7.here hx rfl (hb hby d1_354) rfl rfl ?_
    show Steps p.tables e below (T7.setTop (mkF m 355 #[.val (.int kd), .val (.int vr), .val (.int cc)] [(.ref b1), (.ref b1)])) _
    refine XS.bipush X7.here hx rfl (hb hby d1_355) ?_
    show Steps p.tables e below (T7.setTop (mkF m 357 #[.val (.int kd), .val (.int vr), .val (.int cc)] [(.int (6 : Int32)), (.ref b1), (.ref b1)])) _
    refine XS.iloadN X7.here hx rfl (hb hby d1_357) rfl ?_
    show Steps p.tables e below (T7.setTop (mkF m 358 #[.val (.int kd), .val (.int vr), .val (.int cc)] [(.int cc), (.int (6 : Int32)), (.ref b1), (.ref b1)])) _
    refine st8 _ ?_
    show Steps p.tables e below (T8.setTop (mkF m 359 #[.val (.int kd), .val (.int vr), .val (.int cc)] [(.ref b1)])) _
    exact retOut X8 hx Bd.returns rfl (Or.inr (Or.inr (Or.inr (Or.inr ⟨rfl, rfl, rfl⟩)))) (hb hby d1_359) hr
  · show Qd10 Z kd vr cc h0 n0 _ T8.heap _
    rw [e8]
    exact ⟨b1, k1, ([(nar .char (80 : Int32)), (nar .char (73 : Int32)), (nar .char (67 : Int32)), (nar .char (75 : Int32)), (nar .char (85 : Int32)), (nar .char (80 : Int32)), (nar .char cc)] : List Int32), rfl, N8, K8, g_b1, V8, hgood, Nat.succ_ne_zero _⟩
theorem d1_360 : decode method_5_code 360 = .ok (.iconst 5, 1) := by decide +kernel
theorem d1_361 : decode method_5_code 361 = .ok (.newarray .char, 2) := by decide +kernel
theorem d1_363 : decode method_5_code 363 = .ok (.dup, 1) := by decide +kernel
theorem d1_364 : decode method_5_code 364 = .ok (.iconst 0, 1) := by decide +kernel
theorem d1_365 : decode method_5_code 365 = .ok (.bipush 80, 2) := by decide +kernel
theorem d1_367 : decode method_5_code 367 = .ok (.castore, 1) := by decide +kernel
theorem d1_368 : decode method_5_code 368 = .ok (.dup, 1) := by decide +kernel
theorem d1_369 : decode method_5_code 369 = .ok (.iconst 1, 1) := by decide +kernel
theorem d1_370 : decode method_5_code 370 = .ok (.bipush 73, 2) := by decide +kernel
theorem d1_372 : decode method_5_code 372 = .ok (.castore, 1) := by decide +kernel
theorem d1_373 : decode method_5_code 373 = .ok (.dup, 1) := by decide +kernel
theorem d1_374 : decode method_5_code 374 = .ok (.iconst 2, 1) := by decide +kernel
theorem d1_375 : decode method_5_code 375 = .ok (.bipush 67, 2) := by decide +kernel
theorem d1_377 : decode method_5_code 377 = .ok (.castore, 1) := by decide +kernel
theorem d1_378 : decode method_5_code 378 = .ok (.dup, 1) := by decide +kernel
theorem d1_379 : decode method_5_code 379 = .ok (.iconst 3, 1) := by decide +kernel
theorem d1_380 : decode method_5_code 380 = .ok (.bipush 75, 2) := by decide +kernel
theorem d1_382 : decode method_5_code 382 = .ok (.castore, 1) := by decide +kernel
theorem d1_383 : decode method_5_code 383 = .ok (.dup, 1) := by decide +kernel
theorem d1_384 : decode method_5_code 384 = .ok (.iconst 4, 1) := by decide +kernel
theorem d1_385 : decode method_5_code 385 = .ok (.bipush 85, 2) := by decide +kernel
theorem d1_387 : decode method_5_code 387 = .ok (.castore, 1) := by decide +kernel
theorem d1_388 : decode method_5_code 388 = .ok (.areturn, 1) := by decide +kernel
set_option maxRecDepth 65536 in
set_option maxHeartbeats 40000000 in
theorem rmN22 (l : Launch) (Z : State) (a0 : Array Value) (hw : ∀ d ∈ tables_1, d.before a0 Z = true) (ws : List Jvm.Cond) (kd vr cc : Int32) (h0 : Heap) (n0 : Nat) (O0 : Old Z n0 h0) (hcc : ¬ nar .char cc < 0 ∧ ¬ (255 : Int32) < nar .char cc) (hc1 : ¬ (kd = (0 : Int32))) (hc119 : ¬ (kd = (1 : Int32))) (hc273 : kd = (2 : Int32)) (hc277 : ¬ (vr = (0 : Int32))) (hc317 : ¬ (vr = (1 : Int32))) :
    MetFree l (⟨"com/example/lendloop/lendloop/core/TransactionRoleFromWireNamePinLaw", "named", "(IIC)[C"⟩ : MethodName) (head1 (Jvm.Cond.code (⟨"com/example/lendloop/lendloop/core/TransactionRoleFromWireNamePinLaw", "named", "(IIC)[C"⟩ : MethodName) method_5_code 3 (some (.array .char)) :: ws) ({ frames := 0, cells := 1, slots := 17, locals := 0 } : Room)) (fun qq U => qq = #[(.int kd), (.int vr), (.int cc)] ∧ Z.Warmed39 U.vm ∧ U.heap = h0) (fun _ _ _ _ _ => True) (fun _ UU oo UU' => ∃ vv LL, oo = .returned vv ∧ Qd10 Z kd vr cc h0 n0 vv UU'.heap LL ∧ FrameEnd UU oo UU' LL ({ frames := 0, cells := 1, slots := 17, locals := 0 } : Room).cells ({ frames := 0, cells := 1, slots := 17, locals := 0 } : Room).slots) := by
  refine MetFree.of_bodySF (plainFor_of_name pn_1) hisR ?_
  intro p e s m args below meth c s₁ Bd hml0 hP hK
  obtain ⟨rfl, hZ, hh⟩ := hP
  have hx := Bd.exec
  have hby := Bd.bytes
  have hml : c.maxLocals = 3 := hml0
  have hown : s.vm.findClass "com/example/lendloop/lendloop/core/TransactionRoleFromWireNamePinLaw" = some m.cls := findClass_of_methodNamed Bd.named
  have hnm := (name_of_methodNamed Bd.named Bd.method).1
  have X0 : Stand p l e ({ frames := 0, cells := 1, slots := 17, locals := 0 } : Room) s m #[(.int kd), (.int vr), (.int cc)] below meth c s₁ [] 0 0 := Stand.of_body Bd
  have e0 : s₁.heap = h0 := by rw [← hh, Bd.state]; rfl
  have N0 := Fr.nil n0
  have pre0 : ∀ tgt, Steps p.tables e below (s₁.setTop (mkF m 0 #[.val (.int kd), .val (.int vr), .val (.int cc)] [])) tgt → Steps p.tables e below (s₁.setTop (entryFrame m #[(.int kd), (.int vr), (.int cc)] 3)) tgt := fun tt kk => castTop (ef_1 m kd vr cc) kk
  obtain ⟨T1, h1, k1, X1, e1, E1, A1, st1⟩ := newP X0 hx hZ (ww hw 4 rfl) e0 (g := (mkF m 361 #[.val (.int kd), .val (.int vr), .val (.int cc)] [(.int (5 : Int32))])) rfl (hb hby d1_361) rfl (by decide) (cap := 5) (by decide) (by decide) (by decide) (by decide)
  obtain ⟨b1, q1⟩ : ∃ z, z = h0.size := ⟨_, rfl⟩
  rw [← q1] at A1 st1
  have g_b1 : n0 ≤ b1 := by rw [q1]; exact (O0).1 ▸ (O0).2.1
  have sz_b1 : h0.size ≤ b1 := by rw [q1]; exact ((Keep.refl h0 [])).1
  have O1 := Old.ext O0 E1
  have K1 := Keep.ext (Keep.refl h0 []) E1
  have V1 : Arv Z h1 b1 k1 .char (5 : Int32) [] (.int (0 : Int32)) := Arv.new A1 (by decide)
  obtain ⟨T2, h2, X2, e2, W2, V2, st2⟩ := own_putC X1 hx hZ e1 V1 (j := (0 : Int32)) rfl (by decide) (Nat.le_of_ble_eq_true rfl) (g := (mkF m 367 #[.val (.int kd), .val (.int vr), .val (.int cc)] [(.int (80 : Int32)), (.int (0 : Int32)), (.ref b1), (.ref b1)])) rfl rfl (hb hby d1_367)
  have N2 := Fr.snoc X2 N0 g_b1
  have O2 := Old.wr O1 W2 g_b1
  have K2 := Keep.wr K1 W2 (Or.inr sz_b1)
  obtain ⟨T3, h3, X3, e3, W3, V3, st3⟩ := own_putC X2 hx hZ e2 V2 (j := (1 : Int32)) rfl (by decide) (Nat.le_of_ble_eq_true rfl) (g := (mkF m 372 #[.val (.int kd), .val (.int vr), .val (.int cc)] [(.int (73 : Int32)), (.int (1 : Int32)), (.ref b1), (.ref b1)])) rfl rfl (hb hby d1_372)
  have N3 := Fr.snoc X3 N2 g_b1
  have O3 := Old.wr O2 W3 g_b1
  have K3 := Keep.wr K2 W3 (Or.inr sz_b1)
  obtain ⟨T4, h4, X4, e4, W4, V4, st4⟩ := own_putC X3 hx hZ e3 V3 (j := (2 : Int32)) rfl (by decide) (Nat.le_of_ble_eq_true rfl) (g := (mkF m 377 #[.val (.int kd), .val (.int vr), .val (.int cc)] [(.int (67 : Int32)), (.int (2 : Int32)), (.ref b1), (.ref b1)])) rfl rfl (hb hby d1_377)
  have N4 := Fr.snoc X4 N3 g_b1
  have O4 := Old.wr O3 W4 g_b1
  have K4 := Keep.wr K3 W4 (Or.inr sz_b1)
  obtain ⟨T5, h5, X5, e5, W5, V5, st5⟩ := own_putC X4 hx hZ e4 V4 (j := (3 : Int32)) rfl (by decide) (Nat.le_of_ble_eq_true rfl) (g := (mkF m 382 #[.val (.int kd), .val (.int vr), .val (.int cc)] [(.int (75 : Int32)), (.int (3 : Int32)), (.ref b1), (.ref b1)])) rfl rfl (hb hby d1_382)
  have N5 := Fr.snoc X5 N4 g_b1
  have O5 := Old.wr O4 W5 g_b1
  have K5 := Keep.wr K4 W5 (Or.inr sz_b1)
  obtain ⟨T6, h6, X6, e6, W6, V6, st6⟩ := own_putC X5 hx hZ e5 V5 (j := (4 : Int32)) rfl (by decide) (Nat.le_of_ble_eq_true rfl) (g := (mkF m 387 #[.val (.int kd), .val (.int vr), .val (.int cc)] [(.int (85 : Int32)), (.int (4 : Int32)), (.ref b1), (.ref b1)])) rfl rfl (hb hby d1_387)
  have N6 := Fr.snoc X6 N5 g_b1
  have O6 := Old.wr O5 W6 g_b1
  have K6 := Keep.wr K5 W6 (Or.inr sz_b1)
  have hgood : own_good ([(nar .char (80 : Int32)), (nar .char (73 : Int32)), (nar .char (67 : Int32)), (nar .char (75 : Int32)), (nar .char (85 : Int32))] : List Int32) := ⟨Nat.le_of_ble_eq_true rfl, by
    intro x hx
    simp only [List.mem_cons, List.not_mem_nil, or_false] at hx
    rcases hx with rfl | rfl | rfl | rfl | rfl
    all_goals first | exact hcc | decide⟩
  obtain ⟨fs, hr, hrun, hended, hW, hsame⟩ := X6.leave (v := some (.ref b1)) (fun h => by rw [Bd.returns] at h; cases h)
  refine ⟨_, _, pre0 _ ?_, hrun, hended, _, _, rfl, ?_, ⟨_, rfl⟩, hW, hsame.mono (by decide) (by decide)⟩
  · show Steps p.tables e below (s₁.setTop (mkF m 0 #[.val (.int kd), .val (.int vr), .val (.int cc)] [])) _
    refine XS.iloadN X0.here hx rfl (hb hby d1_0) rfl ?_
    show Steps p.tables e below (s₁.setTop (mkF m 1 #[.val (.int kd), .val (.int vr), .val (.int cc)] [(.int kd)])) _
    refine XS.ifYes X0.here hx rfl (pc0 := 1) (pc' := 117) rfl (hb hby d1_1) rfl ((if0 _ _).trans (feq hc1).2) (by decide) (by decide) ?_
    show Steps p.tables e below (s₁.setTop (mkF m 117 #[.val (.int kd), .val (.int vr), .val (.int cc)] [])) _
    refine XS.iloadN X0.here hx rfl (hb hby d1_117) rfl ?_
    show Steps p.tables e below (s₁.setTop (mkF m 118 #[.val (.int kd), .val (.int vr), .val (.int cc)] [(.int kd)])) _
    refine XS.iconst X0.here hx rfl (hb hby d1_118) ?_
    show Steps p.tables e below (s₁.setTop (mkF m 119 #[.val (.int kd), .val (.int vr), .val (.int cc)] [(.int (1 : Int32)), (.int kd)])) _
    refine XS.icmpYes X0.here hx rfl (pc0 := 119) (pc' := 271) rfl (hb hby d1_119) rfl (feq hc119).2 (by decide) (by decide) ?_
    show Steps p.tables e below (s₁.setTop (mkF m 271 #[.val (.int kd), .val (.int vr), .val (.int cc)] [])) _
    refine XS.iloadN X0.here hx rfl (hb hby d1_271) rfl ?_
    show Steps p.tables e below (s₁.setTop (mkF m 272 #[.val (.int kd), .val (.int vr), .val (.int cc)] [(.int kd)])) _
    refine XS.iconst X0.here hx rfl (hb hby d1_272) ?_
    show Steps p.tables e below (s₁.setTop (mkF m 273 #[.val (.int kd), .val (.int vr), .val (.int cc)] [(.int (2 : Int32)), (.int kd)])) _
    refine XS.icmpNo X0.here hx rfl (hb hby d1_273) rfl (teq hc273).2 ?_
    show Steps p.tables e below (s₁.setTop (mkF m 276 #[.val (.int kd), .val (.int vr), .val (.int cc)] [])) _
    refine XS.iloadN X0.here hx rfl (hb hby d1_276) rfl ?_
    show Steps p.tables e below (s₁.setTop (mkF m 277 #[.val (.int kd), .val (.int vr), .val (.int cc)] [(.int vr)])) _
    refine XS.ifYes X0.here hx rfl (pc0 := 277) (pc' := 315) rfl (hb hby d1_277) rfl ((if0 _ _).trans (feq hc277).2) (by decide) (by decide) ?_
    show Steps p.tables e below (s₁.setTop (mkF m 315 #[.val (.int kd), .val (.int vr), .val (.int cc)] [])) _
    refine XS.iloadN X0.here hx rfl (hb hby d1_315) rfl ?_
    show Steps p.tables e below (s₁.setTop (mkF m 316 #[.val (.int kd), .val (.int vr), .val (.int cc)] [(.int vr)])) _
    refine XS.iconst X0.here hx rfl (hb hby d1_316) ?_
    show Steps p.tables e below (s₁.setTop (mkF m 317 #[.val (.int kd), .val (.int vr), .val (.int cc)] [(.int (1 : Int32)), (.int vr)])) _
    refine XS.icmpYes X0.here hx rfl (pc0 := 317) (pc' := 360) rfl (hb hby d1_317) rfl (feq hc317).2 (by decide) (by decide) ?_
    show Steps p.tables e below (s₁.setTop (mkF m 360 #[.val (.int kd), .val (.int vr), .val (.int cc)] [])) _
    refine XS.iconst X0.here hx rfl (hb hby d1_360) ?_
    show Steps p.tables e below (s₁.setTop (mkF m 361 #[.val (.int kd), .val (.int vr), .val (.int cc)] [(.int (5 : Int32))])) _
    refine st1 _ ?_
    show Steps p.tables e below (T1.setTop (mkF m 363 #[.val (.int kd), .val (.int vr), .val (.int cc)] [(.ref b1)])) _
    refine XS.dup X1.here hx rfl (hb hby d1_363) rfl rfl ?_
    show Steps p.tables e below (T1.setTop (mkF m 364 #[.val (.int kd), .val (.int vr), .val (.int cc)] [(.ref b1), (.ref b1)])) _
    refine XS.iconst X1.here hx rfl (hb hby d1_364) ?_
    show Steps p.tables e below (T1.setTop (mkF m 365 #[.val (.int kd), .val (.int vr), .val (.int cc)] [(.int (0 : Int32)), (.ref b1), (.ref b1)])) _
    refine XS.bipush X1.here hx rfl (hb hby d1_365) ?_
    show Steps p.tables e below (T1.setTop (mkF m 367 #[.val (.int kd), .val (.int vr), .val (.int cc)] [(.int (80 : Int32)), (.int (0 : Int32)), (.ref b1), (.ref b1)])) _
    refine st2 _ ?_
    show Steps p.tables e below (T2.setTop (mkF m 368 #[.val (.int kd), .val (.int vr), .val (.int cc)] [(.ref b1)])) _
    refine XS.dup X2.here hx rfl (hb hby d1_368) rfl rfl ?_
    show Steps p.tables e below (T2.setTop (mkF m 369 #[.val (.int kd), .val (.int vr), .val (.int cc)] [(.ref b1), (.ref b1)])) _
    refine XS.iconst X2.here hx rfl (hb hby d1_369) ?_
    show Steps p.tables e below (T2.setTop (mkF m 370 #[.val (.int kd), .val (.int vr), .val (.int cc)] [(.int (1 : Int32)), (.ref b1), (.ref b1)])) _
    refine XS.bipush X2.here hx rfl (hb hby d1_370) ?_
    show Steps p.tables e below (T2.setTop (mkF m 372 #[.val (.int kd), .val (.int vr), .val (.int cc)] [(.int (73 : Int32)), (.int (1 : Int32)), (.ref b1), (.ref b1)])) _
    refine st3 _ ?_
    show Steps p.tables e below (T3.setTop (mkF m 373 #[.val (.int kd), .val (.int vr), .val (.int cc)] [(.ref b1)])) _
    refine XS.dup X3.here hx rfl (hb hby d1_373) rfl rfl ?_
    show Steps p.tables e below (T3.setTop (mkF m 374 #[.val (.int kd), .val (.int vr), .val (.int cc)] [(.ref b1), (.ref b1)])) _
    refine XS.iconst X3.here hx rfl (hb hby d1_374) ?_
    show Steps p.tables e below (T3.setTop (mkF m 375 #[.val (.int kd), .val (.int vr), .val (.int cc)] [(.int (2 : Int32)), (.ref b1), (.ref b1)])) _
    refine XS.bipush X3.here hx rfl (hb hby d1_375) ?_
    show Steps p.tables e below (T3.setTop (mkF m 377 #[.val (.int kd), .val (.int vr), .val (.int cc)] [(.int (67 : Int32)), (.int (2 : Int32)), (.ref b1), (.ref b1)])) _
    refine st4 _ ?_
    show Steps p.tables e below (T4.setTop (mkF m 378 #[.val (.int kd), .val (.int vr), .val (.int cc)] [(.ref b1)])) _
    refine XS.dup X4.here hx rfl (hb hby d1_378) rfl rfl ?_
    show Steps p.tables e below (T4.setTop (mkF m 379 #[.val (.int kd), .val (.int vr), .val (.int cc)] [(.ref b1), (.ref b1)])) _
    refine XS.iconst X4.here hx rfl (hb hby d1_379) ?_
    show Steps p.tables e below (T4.setTop (mkF m 380 #[.val (.int kd), .val (.int vr), .val (.int cc)] [(.int (3 : Int32)), (.ref b1), (.ref b1)])) _
    refine XS.bipush X4.here hx rfl (hb hby d1_380) ?_
    show Steps p.tables e below (T4.setTop (mkF m 382 #[.val (.int kd), .val (.int vr), .val (.int cc)] [(.int (75 : Int32)), (.int (3 : Int32)), (.ref b1), (.ref b1)])) _
    refine st5 _ ?_
    show Steps p.tables e below (T5.setTop (mkF m 383 #[.val (.int kd), .val (.int vr), .val (.int cc)] [(.ref b1)])) _
    refine XS.dup X5.here hx rfl (hb hby d1_383) rfl rfl ?_
    show Steps p.tables e below (T5.setTop (mkF m 384 #[.val (.int kd), .val (.int vr), .val (.int cc)] [(.ref b1), (.ref b1)])) _
    refine XS.iconst X5.here hx rfl (hb hby d1_384) ?_
    show Steps p.tables e below (T5.setTop (mkF m 385 #[.val (.int kd), .val (.int vr), .val (.int cc)] [(.int (4 : Int32)), (.ref b1), (.ref b1)])) _
    refine XS.bipush X5.here hx rfl (hb hby d1_385) ?_
    show Steps p.tables e below (T5.setTop (mkF m 387 #[.val (.int kd), .val (.int vr), .val (.int cc)] [(.int (85 : Int32)), (.int (4 : Int32)), (.ref b1), (.ref b1)])) _
    refine st6 _ ?_
    show Steps p.tables e below (T6.setTop (mkF m 388 #[.val (.int kd), .val (.int vr), .val (.int cc)] [(.ref b1)])) _
    exact retOut X6 hx Bd.returns rfl (Or.inr (Or.inr (Or.inr (Or.inr ⟨rfl, rfl, rfl⟩)))) (hb hby d1_388) hr
  · show Qd10 Z kd vr cc h0 n0 _ T6.heap _
    rw [e6]
    exact ⟨b1, k1, ([(nar .char (80 : Int32)), (nar .char (73 : Int32)), (nar .char (67 : Int32)), (nar .char (75 : Int32)), (nar .char (85 : Int32))] : List Int32), rfl, N6, K6, g_b1, V6, hgood, Nat.succ_ne_zero _⟩
theorem d1_389 : decode method_5_code 389 = .ok (.iload_n 1, 1) := by decide +kernel
theorem d1_390 : decode method_5_code 390 = .ok (.ifCond .ne 98, 3) := by decide +kernel
theorem d1_393 : decode method_5_code 393 = .ok (.bipush 16, 2) := by decide +kernel
theorem d1_395 : decode method_5_code 395 = .ok (.newarray .char, 2) := by decide +kernel
theorem d1_397 : decode method_5_code 397 = .ok (.dup, 1) := by decide +kernel
theorem d1_398 : decode method_5_code 398 = .ok (.iconst 0, 1) := by decide +kernel
theorem d1_399 : decode method_5_code 399 = .ok (.bipush 66, 2) := by decide +kernel
theorem d1_401 : decode method_5_code 401 = .ok (.castore, 1) := by decide +kernel
theorem d1_402 : decode method_5_code 402 = .ok (.dup, 1) := by decide +kernel
theorem d1_403 : decode method_5_code 403 = .ok (.iconst 1, 1) := by decide +kernel
theorem d1_404 : decode method_5_code 404 = .ok (.bipush 79, 2) := by decide +kernel
theorem d1_406 : decode method_5_code 406 = .ok (.castore, 1) := by decide +kernel
theorem d1_407 : decode method_5_code 407 = .ok (.dup, 1) := by decide +kernel
theorem d1_408 : decode method_5_code 408 = .ok (.iconst 2, 1) := by decide +kernel
theorem d1_409 : decode method_5_code 409 = .ok (.bipush 82, 2) := by decide +kernel
theorem d1_411 : decode method_5_code 411 = .ok (.castore, 1) := by decide +kernel
theorem d1_412 : decode method_5_code 412 = .ok (.dup, 1) := by decide +kernel
theorem d1_413 : decode method_5_code 413 = .ok (.iconst 3, 1) := by decide +kernel
theorem d1_414 : decode method_5_code 414 = .ok (.bipush 82, 2) := by decide +kernel
theorem d1_416 : decode method_5_code 416 = .ok (.castore, 1) := by decide +kernel
theorem d1_417 : decode method_5_code 417 = .ok (.dup, 1) := by decide +kernel
theorem d1_418 : decode method_5_code 418 = .ok (.iconst 4, 1) := by decide +kernel
theorem d1_419 : decode method_5_code 419 = .ok (.bipush 79, 2) := by decide +kernel
theorem d1_421 : decode method_5_code 421 = .ok (.castore, 1) := by decide +kernel
theorem d1_422 : decode method_5_code 422 = .ok (.dup, 1) := by decide +kernel
theorem d1_423 : decode method_5_code 423 = .ok (.iconst 5, 1) := by decide +kernel
theorem d1_424 : decode method_5_code 424 = .ok (.bipush 87, 2) := by decide +kernel
theorem d1_426 : decode method_5_code 426 = .ok (.castore, 1) := by decide +kernel
theorem d1_427 : decode method_5_code 427 = .ok (.dup, 1) := by decide +kernel
theorem d1_428 : decode method_5_code 428 = .ok (.bipush 6, 2) := by decide +kernel
theorem d1_430 : decode method_5_code 430 = .ok (.bipush 73, 2) := by decide +kernel
theorem d1_432 : decode method_5_code 432 = .ok (.castore, 1) := by decide +kernel
theorem d1_433 : decode method_5_code 433 = .ok (.dup, 1) := by decide +kernel
theorem d1_434 : decode method_5_code 434 = .ok (.bipush 7, 2) := by decide +kernel
theorem d1_436 : decode method_5_code 436 = .ok (.bipush 78, 2) := by decide +kernel
theorem d1_438 : decode method_5_code 438 = .ok (.castore, 1) := by decide +kernel
theorem d1_439 : decode method_5_code 439 = .ok (.dup, 1) := by decide +kernel
theorem d1_440 : decode method_5_code 440 = .ok (.bipush 8, 2) := by decide +kernel
theorem d1_442 : decode method_5_code 442 = .ok (.bipush 71, 2) := by decide +kernel
theorem d1_444 : decode method_5_code 444 = .ok (.castore, 1) := by decide +kernel
theorem d1_445 : decode method_5_code 445 = .ok (.dup, 1) := by decide +kernel
theorem d1_446 : decode method_5_code 446 = .ok (.bipush 9, 2) := by decide +kernel
theorem d1_448 : decode method_5_code 448 = .ok (.bipush 45, 2) := by decide +kernel
theorem d1_450 : decode method_5_code 450 = .ok (.castore, 1) := by decide +kernel
theorem d1_451 : decode method_5_code 451 = .ok (.dup, 1) := by decide +kernel
theorem d1_452 : decode method_5_code 452 = .ok (.bipush 10, 2) := by decide +kernel
theorem d1_454 : decode method_5_code 454 = .ok (.bipush 80, 2) := by decide +kernel
theorem d1_456 : decode method_5_code 456 = .ok (.castore, 1) := by decide +kernel
theorem d1_457 : decode method_5_code 457 = .ok (.dup, 1) := by decide +kernel
theorem d1_458 : decode method_5_code 458 = .ok (.bipush 11, 2) := by decide +kernel
theorem d1_460 : decode method_5_code 460 = .ok (.bipush 73, 2) := by decide +kernel
theorem d1_462 : decode method_5_code 462 = .ok (.castore, 1) := by decide +kernel
theorem d1_463 : decode method_5_code 463 = .ok (.dup, 1) := by decide +kernel
theorem d1_464 : decode method_5_code 464 = .ok (.bipush 12, 2) := by decide +kernel
theorem d1_466 : decode method_5_code 466 = .ok (.bipush 67, 2) := by decide +kernel
theorem d1_468 : decode method_5_code 468 = .ok (.castore, 1) := by decide +kernel
theorem d1_469 : decode method_5_code 469 = .ok (.dup, 1) := by decide +kernel
theorem d1_470 : decode method_5_code 470 = .ok (.bipush 13, 2) := by decide +kernel
theorem d1_472 : decode method_5_code 472 = .ok (.bipush 75, 2) := by decide +kernel
theorem d1_474 : decode method_5_code 474 = .ok (.castore, 1) := by decide +kernel
theorem d1_475 : decode method_5_code 475 = .ok (.dup, 1) := by decide +kernel
theorem d1_476 : decode method_5_code 476 = .ok (.bipush 14, 2) := by decide +kernel
theorem d1_478 : decode method_5_code 478 = .ok (.bipush 85, 2) := by decide +kernel
theorem d1_480 : decode method_5_code 480 = .ok (.castore, 1) := by decide +kernel
theorem d1_481 : decode method_5_code 481 = .ok (.dup, 1) := by decide +kernel
theorem d1_482 : decode method_5_code 482 = .ok (.bipush 15, 2) := by decide +kernel
theorem d1_484 : decode method_5_code 484 = .ok (.bipush 80, 2) := by decide +kernel
theorem d1_486 : decode method_5_code 486 = .ok (.castore, 1) := by decide +kernel
theorem d1_487 : decode method_5_code 487 = .ok (.areturn, 1) := by decide +kernel
set_option maxRecDepth 65536 in
set_option maxHeartbeats 40000000 in
theorem rmN30 (l : Launch) (Z : State) (a0 : Array Value) (hw : ∀ d ∈ tables_1, d.before a0 Z = true) (ws : List Jvm.Cond) (kd vr cc : Int32) (h0 : Heap) (n0 : Nat) (O0 : Old Z n0 h0) (hcc : ¬ nar .char cc < 0 ∧ ¬ (255 : Int32) < nar .char cc) (hc1 : ¬ (kd = (0 : Int32))) (hc119 : ¬ (kd = (1 : Int32))) (hc273 : ¬ (kd = (2 : Int32))) (hc390 : vr = (0 : Int32)) :
    MetFree l (⟨"com/example/lendloop/lendloop/core/TransactionRoleFromWireNamePinLaw", "named", "(IIC)[C"⟩ : MethodName) (head1 (Jvm.Cond.code (⟨"com/example/lendloop/lendloop/core/TransactionRoleFromWireNamePinLaw", "named", "(IIC)[C"⟩ : MethodName) method_5_code 3 (some (.array .char)) :: ws) ({ frames := 0, cells := 1, slots := 17, locals := 0 } : Room)) (fun qq U => qq = #[(.int kd), (.int vr), (.int cc)] ∧ Z.Warmed39 U.vm ∧ U.heap = h0) (fun _ _ _ _ _ => True) (fun _ UU oo UU' => ∃ vv LL, oo = .returned vv ∧ Qd10 Z kd vr cc h0 n0 vv UU'.heap LL ∧ FrameEnd UU oo UU' LL ({ frames := 0, cells := 1, slots := 17, locals := 0 } : Room).cells ({ frames := 0, cells := 1, slots := 17, locals := 0 } : Room).slots) := by
  refine MetFree.of_bodySF (plainFor_of_name pn_1) hisR ?_
  intro p e s m args below meth c s₁ Bd hml0 hP hK
  obtain ⟨rfl, hZ, hh⟩ := hP
  have hx := Bd.exec
  have hby := Bd.bytes
  have hml : c.maxLocals = 3 := hml0
  have hown : s.vm.findClass "com/example/lendloop/lendloop/core/TransactionRoleFromWireNamePinLaw" = some m.cls := findClass_of_methodNamed Bd.named
  have hnm := (name_of_methodNamed Bd.named Bd.method).1
  have X0 : Stand p l e ({ frames := 0, cells := 1, slots := 17, locals := 0 } : Room) s m #[(.int kd), (.int vr), (.int cc)] below meth c s₁ [] 0 0 := Stand.of_body Bd
  have e0 : s₁.heap = h0 := by rw [← hh, Bd.state]; rfl
  have N0 := Fr.nil n0
  have pre0 : ∀ tgt, Steps p.tables e below (s₁.setTop (mkF m 0 #[.val (.int kd), .val (.int vr), .val (.int cc)] [])) tgt → Steps p.tables e below (s₁.setTop (entryFrame m #[(.int kd), (.int vr), (.int cc)] 3)) tgt := fun tt kk => castTop (ef_1 m kd vr cc) kk
  obtain ⟨T1, h1, k1, X1, e1, E1, A1, st1⟩ := newP X0 hx hZ (ww hw 4 rfl) e0 (g := (mkF m 395 #[.val (.int kd), .val (.int vr), .val (.int cc)] [(.int (16 : Int32))])) rfl (hb hby d1_395) rfl (by decide) (cap := 16) (by decide) (by decide) (by decide) (by decide)
  obtain ⟨b1, q1⟩ : ∃ z, z = h0.size := ⟨_, rfl⟩
  rw [← q1] at A1 st1
  have g_b1 : n0 ≤ b1 := by rw [q1]; exact (O0).1 ▸ (O0).2.1
  have sz_b1 : h0.size ≤ b1 := by rw [q1]; exact ((Keep.refl h0 [])).1
  have O1 := Old.ext O0 E1
  have K1 := Keep.ext (Keep.refl h0 []) E1
  have V1 : Arv Z h1 b1 k1 .char (16 : Int32) [] (.int (0 : Int32)) := Arv.new A1 (by decide)
  obtain ⟨T2, h2, X2, e2, W2, V2, st2⟩ := own_putC X1 hx hZ e1 V1 (j := (0 : Int32)) rfl (by decide) (Nat.le_of_ble_eq_true rfl) (g := (mkF m 401 #[.val (.int kd), .val (.int vr), .val (.int cc)] [(.int (66 : Int32)), (.int (0 : Int32)), (.ref b1), (.ref b1)])) rfl rfl (hb hby d1_401)
  have N2 := Fr.snoc X2 N0 g_b1
  have O2 := Old.wr O1 W2 g_b1
  have K2 := Keep.wr K1 W2 (Or.inr sz_b1)
  obtain ⟨T3, h3, X3, e3, W3, V3, st3⟩ := own_putC X2 hx hZ e2 V2 (j := (1 : Int32)) rfl (by decide) (Nat.le_of_ble_eq_true rfl) (g := (mkF m 406 #[.val (.int kd), .val (.int vr), .val (.int cc)] [(.int (79 : Int32)), (.int (1 : Int32)), (.ref b1), (.ref b1)])) rfl rfl (hb hby d1_406)
  have N3 := Fr.snoc X3 N2 g_b1
  have O3 := Old.wr O2 W3 g_b1
  have K3 := Keep.wr K2 W3 (Or.inr sz_b1)
  obtain ⟨T4, h4, X4, e4, W4, V4, st4⟩ := own_putC X3 hx hZ e3 V3 (j := (2 : Int32)) rfl (by decide) (Nat.le_of_ble_eq_true rfl) (g := (mkF m 411 #[.val (.int kd), .val (.int vr), .val (.int cc)] [(.int (82 : Int32)), (.int (2 : Int32)), (.ref b1), (.ref b1)])) rfl rfl (hb hby d1_411)
  have N4 := Fr.snoc X4 N3 g_b1
  have O4 := Old.wr O3 W4 g_b1
  have K4 := Keep.wr K3 W4 (Or.inr sz_b1)
  obtain ⟨T5, h5, X5, e5, W5, V5, st5⟩ := own_putC X4 hx hZ e4 V4 (j := (3 : Int32)) rfl (by decide) (Nat.le_of_ble_eq_true rfl) (g := (mkF m 416 #[.val (.int kd), .val (.int vr), .val (.int cc)] [(.int (82 : Int32)), (.int (3 : Int32)), (.ref b1), (.ref b1)])) rfl rfl (hb hby d1_416)
  have N5 := Fr.snoc X5 N4 g_b1
  have O5 := Old.wr O4 W5 g_b1
  have K5 := Keep.wr K4 W5 (Or.inr sz_b1)
  obtain ⟨T6, h6, X6, e6, W6, V6, st6⟩ := own_putC X5 hx hZ e5 V5 (j := (4 : Int32)) rfl (by decide) (Nat.le_of_ble_eq_true rfl) (g := (mkF m 421 #[.val (.int kd), .val (.int vr), .val (.int cc)] [(.int (79 : Int32)), (.int (4 : Int32)), (.ref b1), (.ref b1)])) rfl rfl (hb hby d1_421)
  have N6 := Fr.snoc X6 N5 g_b1
  have O6 := Old.wr O5 W6 g_b1
  have K6 := Keep.wr K5 W6 (Or.inr sz_b1)
  obtain ⟨T7, h7, X7, e7, W7, V7, st7⟩ := own_putC X6 hx hZ e6 V6 (j := (5 : Int32)) rfl (by decide) (Nat.le_of_ble_eq_true rfl) (g := (mkF m 426 #[.val (.int kd), .val (.int vr), .val (.int cc)] [(.int (87 : Int32)), (.int (5 : Int32)), (.ref b1), (.ref b1)])) rfl rfl (hb hby d1_426)
  have N7 := Fr.snoc X7 N6 g_b1
  have O7 := Old.wr O6 W7 g_b1
  have K7 := Keep.wr K6 W7 (Or.inr sz_b1)
  obtain ⟨T8, h8, X8, e8, W8, V8, st8⟩ := own_putC X7 hx hZ e7 V7 (j := (6 : Int32)) rfl (by decide) (Nat.le_of_ble_eq_true rfl) (g := (mkF m 432 #[.val (.int kd), .val (.int vr), .val (.int cc)] [(.int (73 : Int32)), (.int (6 : Int32)), (.ref b1), (.ref b1)])) rfl rfl (hb hby d1_432)
  have N8 := Fr.snoc X8 N7 g_b1
  have O8 := Old.wr O7 W8 g_b1
  have K8 := Keep.wr K7 W8 (Or.inr sz_b1)
  obtain ⟨T9, h9, X9, e9, W9, V9, st9⟩ := own_putC X8 hx hZ e8 V8 (j := (7 : Int32)) rfl (by decide) (Nat.le_of_ble_eq_true rfl) (g := (mkF m 438 #[.val (.int kd), .val (.int vr), .val (.int cc)] [(.int (78 : Int32)), (.int (7 : Int32)), (.ref b1), (.ref b1)])) rfl rfl (hb hby d1_438)
  have N9 := Fr.snoc X9 N8 g_b1
  have O9 := Old.wr O8 W9 g_b1
  have K9 := Keep.wr K8 W9 (Or.inr sz_b1)
  obtain ⟨T10, h10, X10, e10, W10, V10, st10⟩ := own_putC X9 hx hZ e9 V9 (j := (8 : Int32)) rfl (by decide) (Nat.le_of_ble_eq_true rfl) (g := (mkF m 444 #[.val (.int kd), .val (.int vr), .val (.int cc)] [(.int (71 : Int32)), (.int (8 : Int32)), (.ref b1), (.ref b1)])) rfl rfl (hb hby d1_444)
  have N10 := Fr.snoc X10 N9 g_b1
  have O10 := Old.wr O9 W10 g_b1
  have K10 := Keep.wr K9 W10 (Or.inr sz_b1)
  obtain ⟨T11, h11, X11, e11, W11, V11, st11⟩ := own_putC X10 hx hZ e10 V10 (j := (9 : Int32)) rfl (by decide) (Nat.le_of_ble_eq_true rfl) (g := (mkF m 450 #[.val (.int kd), .val (.int vr), .val (.int cc)] [(.int (45 : Int32)), (.int (9 : Int32)), (.ref b1), (.ref b1)])) rfl rfl (hb hby d1_450)
  have N11 := Fr.snoc X11 N10 g_b1
  have O11 := Old.wr O10 W11 g_b1
  have K11 := Keep.wr K10 W11 (Or.inr sz_b1)
  obtain ⟨T12, h12, X12, e12, W12, V12, st12⟩ := own_putC X11 hx hZ e11 V11 (j := (10 : Int32)) rfl (by decide) (Nat.le_of_ble_eq_true rfl) (g := (mkF m 456 #[.val (.int kd), .val (.int vr), .val (.int cc)] [(.int (80 : Int32)), (.int (10 : Int32)), (.ref b1), (.ref b1)])) rfl rfl (hb hby d1_456)
  have N12 := Fr.snoc X12 N11 g_b1
  have O12 := Old.wr O11 W12 g_b1
  have K12 := Keep.wr K11 W12 (Or.inr sz_b1)
  obtain ⟨T13, h13, X13, e13, W13, V13, st13⟩ := own_putC X12 hx hZ e12 V12 (j := (11 : Int32)) rfl (by decide) (Nat.le_of_ble_eq_true rfl) (g := (mkF m 462 #[.val (.int kd), .val (.int vr), .val (.int cc)] [(.int (73 : Int32)), (.int (11 : Int32)), (.ref b1), (.ref b1)])) rfl rfl (hb hby d1_462)
  have N13 := Fr.snoc X13 N12 g_b1
  have O13 := Old.wr O12 W13 g_b1
  have K13 := Keep.wr K12 W13 (Or.inr sz_b1)
  obtain ⟨T14, h14, X14, e14, W14, V14, st14⟩ := own_putC X13 hx hZ e13 V13 (j := (12 : Int32)) rfl (by decide) (Nat.le_of_ble_eq_true rfl) (g := (mkF m 468 #[.val (.int kd), .val (.int vr), .val (.int cc)] [(.int (67 : Int32)), (.int (12 : Int32)), (.ref b1), (.ref b1)])) rfl rfl (hb hby d1_468)
  have N14 := Fr.snoc X14 N13 g_b1
  have O14 := Old.wr O13 W14 g_b1
  have K14 := Keep.wr K13 W14 (Or.inr sz_b1)
  obtain ⟨T15, h15, X15, e15, W15, V15, st15⟩ := own_putC X14 hx hZ e14 V14 (j := (13 : Int32)) rfl (by decide) (Nat.le_of_ble_eq_true rfl) (g := (mkF m 474 #[.val (.int kd), .val (.int vr), .val (.int cc)] [(.int (75 : Int32)), (.int (13 : Int32)), (.ref b1), (.ref b1)])) rfl rfl (hb hby d1_474)
  have N15 := Fr.snoc X15 N14 g_b1
  have O15 := Old.wr O14 W15 g_b1
  have K15 := Keep.wr K14 W15 (Or.inr sz_b1)
  obtain ⟨T16, h16, X16, e16, W16, V16, st16⟩ := own_putC X15 hx hZ e15 V15 (j := (14 : Int32)) rfl (by decide) (Nat.le_of_ble_eq_true rfl) (g := (mkF m 480 #[.val (.int kd), .val (.int vr), .val (.int cc)] [(.int (85 : Int32)), (.int (14 : Int32)), (.ref b1), (.ref b1)])) rfl rfl (hb hby d1_480)
  have N16 := Fr.snoc X16 N15 g_b1
  have O16 := Old.wr O15 W16 g_b1
  have K16 := Keep.wr K15 W16 (Or.inr sz_b1)
  obtain ⟨T17, h17, X17, e17, W17, V17, st17⟩ := own_putC X16 hx hZ e16 V16 (j := (15 : Int32)) rfl (by decide) (Nat.le_of_ble_eq_true rfl) (g := (mkF m 486 #[.val (.int kd), .val (.int vr), .val (.int cc)] [(.int (80 : Int32)), (.int (15 : Int32)), (.ref b1), (.ref b1)])) rfl rfl (hb hby d1_486)
  have N17 := Fr.snoc X17 N16 g_b1
  have O17 := Old.wr O16 W17 g_b1
  have K17 := Keep.wr K16 W17 (Or.inr sz_b1)
  have hgood : own_good ([(nar .char (66 : Int32)), (nar .char (79 : Int32)), (nar .char (82 : Int32)), (nar .char (82 : Int32)), (nar .char (79 : Int32)), (nar .char (87 : Int32)), (nar .char (73 : Int32)), (nar .char (78 : Int32)), (nar .char (71 : Int32)), (nar .char (45 : Int32)), (nar .char (80 : Int32)), (nar .char (73 : Int32)), (nar .char (67 : Int32)), (nar .char (75 : Int32)), (nar .char (85 : Int32)), (nar .char (80 : Int32))] : List Int32) := ⟨Nat.le_of_ble_eq_true rfl, by
    intro x hx
    simp only [List.mem_cons, List.not_mem_nil, or_false] at hx
    rcases hx with rfl | rfl | rfl | rfl | rfl | rfl | rfl | rfl | rfl | rfl | rfl | rfl | rfl | rfl | rfl | rfl
    all_goals first | exact hcc | decide⟩
  obtain ⟨fs, hr, hrun, hended, hW, hsame⟩ := X17.leave (v := some (.ref b1)) (fun h => by rw [Bd.returns] at h; cases h)
  refine ⟨_, _, pre0 _ ?_, hrun, hended, _, _, rfl, ?_, ⟨_, rfl⟩, hW, hsame.mono (by decide) (by decide)⟩
  · show Steps p.tables e below (s₁.setTop (mkF m 0 #[.val (.int kd), .val (.int vr), .val (.int cc)] [])) _
    refine XS.iloadN X0.here hx rfl (hb hby d1_0) rfl ?_
    show Steps p.tables e below (s₁.setTop (mkF m 1 #[.val (.int kd), .val (.int vr), .val (.int cc)] [(.int kd)])) _
    refine XS.ifYes X0.here hx rfl (pc0 := 1) (pc' := 117) rfl (hb hby d1_1) rfl ((if0 _ _).trans (feq hc1).2) (by decide) (by decide) ?_
    show Steps p.tables e below (s₁.setTop (mkF m 117 #[.val (.int kd), .val (.int vr), .val (.int cc)] [])) _
    refine XS.iloadN X0.here hx rfl (hb hby d1_117) rfl ?_
    show Steps p.tables e below (s₁.setTop (mkF m 118 #[.val (.int kd), .val (.int vr), .val (.int cc)] [(.int kd)])) _
    refine XS.iconst X0.here hx rfl (hb hby d1_118) ?_
    show Steps p.tables e below (s₁.setTop (mkF m 119 #[.val (.int kd), .val (.int vr), .val (.int cc)] [(.int (1 : Int32)), (.int kd)])) _
    refine XS.icmpYes X0.here hx rfl (pc0 := 119) (pc' := 271) rfl (hb hby d1_119) rfl (feq hc119).2 (by decide) (by decide) ?_
    show Steps p.tables e below (s₁.setTop (mkF m 271 #[.val (.int kd), .val (.int vr), .val (.int cc)] [])) _
    refine XS.iloadN X0.here hx rfl (hb hby d1_271) rfl ?_
    show Steps p.tables e below (s₁.setTop (mkF m 272 #[.val (.int kd), .val (.int vr), .val (.int cc)] [(.int kd)])) _
    refine XS.iconst X0.here hx rfl (hb hby d1_272) ?_
    show Steps p.tables e below (s₁.setTop (mkF m 273 #[.val (.int kd), .val (.int vr), .val (.int cc)] [(.int (2 : Int32)), (.int kd)])) _
    refine XS.icmpYes X0.here hx rfl (pc0 := 273) (pc' := 389) rfl (hb hby d1_273) rfl (feq hc273).2 (by decide) (by decide) ?_
    show Steps p.tables e below (s₁.setTop (mkF m 389 #[.val (.int kd), .val (.int vr), .val (.int cc)] [])) _
    refine XS.iloadN X0.here hx rfl (hb hby d1_389) rfl ?_
    show Steps p.tables e below (s₁.setTop (mkF m 390 #[.val (.int kd), .val (.int vr), .val (.int cc)] [(.int vr)])) _
    refine XS.ifNo X0.here hx rfl (hb hby d1_390) rfl ((if0 _ _).trans (teq hc390).2) ?_
    show Steps p.tables e below (s₁.setTop (mkF m 393 #[.val (.int kd), .val (.int vr), .val (.int cc)] [])) _
    refine XS.bipush X0.here hx rfl (hb hby d1_393) ?_
    show Steps p.tables e below (s₁.setTop (mkF m 395 #[.val (.int kd), .val (.int vr), .val (.int cc)] [(.int (16 : Int32))])) _
    refine st1 _ ?_
    show Steps p.tables e below (T1.setTop (mkF m 397 #[.val (.int kd), .val (.int vr), .val (.int cc)] [(.ref b1)])) _
    refine XS.dup X1.here hx rfl (hb hby d1_397) rfl rfl ?_
    show Steps p.tables e below (T1.setTop (mkF m 398 #[.val (.int kd), .val (.int vr), .val (.int cc)] [(.ref b1), (.ref b1)])) _
    refine XS.iconst X1.here hx rfl (hb hby d1_398) ?_
    show Steps p.tables e below (T1.setTop (mkF m 399 #[.val (.int kd), .val (.int vr), .val (.int cc)] [(.int (0 : Int32)), (.ref b1), (.ref b1)])) _
    refine XS.bipush X1.here hx rfl (hb hby d1_399) ?_
    show Steps p.tables e below (T1.setTop (mkF m 401 #[.val (.int kd), .val (.int vr), .val (.int cc)] [(.int (66 : Int32)), (.int (0 : Int32)), (.ref b1), (.ref b1)])) _
    refine st2 _ ?_
    show Steps p.tables e below (T2.setTop (mkF m 402 #[.val (.int kd), .val (.int vr), .val (.int cc)] [(.ref b1)])) _
    refine XS.dup X2.here hx rfl (hb hby d1_402) rfl rfl ?_
    show Steps p.tables e below (T2.setTop (mkF m 403 #[.val (.int kd), .val (.int vr), .val (.int cc)] [(.ref b1), (.ref b1)])) _
    refine XS.iconst X2.here hx rfl (hb hby d1_403) ?_
    show Steps p.tables e below (T2.setTop (mkF m 404 #[.val (.int kd), .val (.int vr), .val (.int cc)] [(.int (1 : Int32)), (.ref b1), (.ref b1)])) _
    refine XS.bipush X2.here hx rfl (hb hby d1_404) ?_
    show Steps p.tables e below (T2.setTop (mkF m 406 #[.val (.int kd), .val (.int vr), .val (.int cc)] [(.int (79 : Int32)), (.int (1 : Int32)), (.ref b1), (.ref b1)])) _
    refine st3 _ ?_
    show Steps p.tables e below (T3.setTop (mkF m 407 #[.val (.int kd), .val (.int vr), .val (.int cc)] [(.ref b1)])) _
    refine XS.dup X3.here hx rfl (hb hby d1_407) rfl rfl ?_
    show Steps p.tables e below (T3.setTop (mkF m 408 #[.val (.int kd), .val (.int vr), .val (.int cc)] [(.ref b1), (.ref b1)])) _
    refine XS.iconst X3.here hx rfl (hb hby d1_408) ?_
    show Steps p.tables e below (T3.setTop (mkF m 409 #[.val (.int kd), .val (.int vr), .val (.int cc)] [(.int (2 : Int32)), (.ref b1), (.ref b1)])) _
    refine XS.bipush X3.here hx rfl (hb hby d1_409) ?_
    show Steps p.tables e below (T3.setTop (mkF m 411 #[.val (.int kd), .val (.int vr), .val (.int cc)] [(.int (82 : Int32)), (.int (2 : Int32)), (.ref b1), (.ref b1)])) _
    refine st4 _ ?_
    show Steps p.tables e below (T4.setTop (mkF m 412 #[.val (.int kd), .val (.int vr), .val (.int cc)] [(.ref b1)])) _
    refine XS.dup X4.here hx rfl (hb hby d1_412) rfl rfl ?_
    show Steps p.tables e below (T4.setTop (mkF m 413 #[.val (.int kd), .val (.int vr), .val (.int cc)] [(.ref b1), (.ref b1)])) _
    refine XS.iconst X4.here hx rfl (hb hby d1_413) ?_
    show Steps p.tables e below (T4.setTop (mkF m 414 #[.val (.int kd), .val (.int vr), .val (.int cc)] [(.int (3 : Int32)), (.ref b1), (.ref b1)])) _
    refine XS.bipush X4.here hx rfl (hb hby d1_414) ?_
    show Steps p.tables e below (T4.setTop (mkF m 416 #[.val (.int kd), .val (.int vr), .val (.int cc)] [(.int (82 : Int32)), (.int (3 : Int32)), (.ref b1), (.ref b1)])) _
    refine st5 _ ?_
    show Steps p.tables e below (T5.setTop (mkF m 417 #[.val (.int kd), .val (.int vr), .val (.int cc)] [(.ref b1)])) _
    refine XS.dup X5.here hx rfl (hb hby d1_417) rfl rfl ?_
    show Steps p.tables e below (T5.setTop (mkF m 418 #[.val (.int kd), .val (.int vr), .val (.int cc)] [(.ref b1), (.ref b1)])) _
    refine XS.iconst X5.here hx rfl (hb hby d1_418) ?_
    show Steps p.tables e below (T5.setTop (mkF m 419 #[.val (.int kd), .val (.int vr), .val (.int cc)] [(.int (4 : Int32)), (.ref b1), (.ref b1)])) _
    refine XS.bipush X5.here hx rfl (hb hby d1_419) ?_
    show Steps p.tables e below (T5.setTop (mkF m 421 #[.val (.int kd), .val (.int vr), .val (.int cc)] [(.int (79 : Int32)), (.int (4 : Int32)), (.ref b1), (.ref b1)])) _
    refine st6 _ ?_
    show Steps p.tables e below (T6.setTop (mkF m 422 #[.val (.int kd), .val (.int vr), .val (.int cc)] [(.ref b1)])) _
    refine XS.dup X6.here hx rfl (hb hby d1_422) rfl rfl ?_
    show Steps p.tables e below (T6.setTop (mkF m 423 #[.val (.int kd), .val (.int vr), .val (.int cc)] [(.ref b1), (.ref b1)])) _
    refine XS.iconst X6.here hx rfl (hb hby d1_423) ?_
    show Steps p.tables e below (T6.setTop (mkF m 424 #[.val (.int kd), .val (.int vr), .val (.int cc)] [(.int (5 : Int32)), (.ref b1), (.ref b1)])) _
    refine XS.bipush X6.here hx rfl (hb hby d1_424) ?_
    show Steps p.tables e below (T6.setTop (mkF m 426 #[.val (.int kd), .val (.int vr), .val (.int cc)] [(.int (87 : Int32)), (.int (5 : Int32)), (.ref b1), (.ref b1)])) _
    refine st7 _ ?_
    show Steps p.tables e below (T7.setTop (mkF m 427 #[.val (.int kd), .val (.int vr), .val (.int cc)] [(.ref b1)])) _
    refine XS.dup X7.here hx rfl (hb hby d1_427) rfl rfl ?_
    show Steps p.tables e below (T7.setTop (mkF m 428 #[.val (.int kd), .val (.int vr), .val (.int cc)] [(.ref b1), (.ref b1)])) _
    refine XS.bipush X7.here hx rfl (hb hby d1_428) ?_
    show Steps p.tables e below (T7.setTop (mkF m 430 #[.val (.int kd), .val (.int vr), .val (.int cc)] [(.int (6 : Int32)), (.ref b1), (.ref b1)])) _
    refine XS.bipush X7.here hx rfl (hb hby d1_430) ?_
    show Steps p.tables e below (T7.setTop (mkF m 432 #[.val (.int kd), .val (.int vr), .val (.int cc)] [(.int (73 : Int32)), (.int (6 : Int32)), (.ref b1), (.ref b1)])) _
    refine st8 _ ?_
    show Steps p.tables e below (T8.setTop (mkF m 433 #[.val (.int kd), .val (.int vr), .val (.int cc)] [(.ref b1)])) _
    refine XS.dup X8.here hx rfl (hb hby d1_433) rfl rfl ?_
    show Steps p.tables e below (T8.setTop (mkF m 434 #[.val (.int kd), .val (.int vr), .val (.int cc)] [(.ref b1), (.ref b1)])) _
    refine XS.bipush X8.here hx rfl (hb hby d1_434) ?_
    show Steps p.tables e below (T8.setTop (mkF m 436 #[.val (.int kd), .val (.int vr), .val (.int cc)] [(.int (7 : Int32)), (.ref b1), (.ref b1)])) _
    refine XS.bipush X8.here hx rfl (hb hby d1_436) ?_
    show Steps p.tables e below (T8.setTop (mkF m 438 #[.val (.int kd), .val (.int vr), .val (.int cc)] [(.int (78 : Int32)), (.int (7 : Int32)), (.ref b1), (.ref b1)])) _
    refine st9 _ ?_
    show Steps p.tables e below (T9.setTop (mkF m 439 #[.val (.int kd), .val (.int vr), .val (.int cc)] [(.ref b1)])) _
    refine XS.dup X9.here hx rfl (hb hby d1_439) rfl rfl ?_
    show Steps p.tables e below (T9.setTop (mkF m 440 #[.val (.int kd), .val (.int vr), .val (.int cc)] [(.ref b1), (.ref b1)])) _
    refine XS.bipush X9.here hx rfl (hb hby d1_440) ?_
    show Steps p.tables e below (T9.setTop (mkF m 442 #[.val (.int kd), .val (.int vr), .val (.int cc)] [(.int (8 : Int32)), (.ref b1), (.ref b1)])) _
    refine XS.bipush X9.here hx rfl (hb hby d1_442) ?_
    show Steps p.tables e below (T9.setTop (mkF m 444 #[.val (.int kd), .val (.int vr), .val (.int cc)] [(.int (71 : Int32)), (.int (8 : Int32)), (.ref b1), (.ref b1)])) _
    refine st10 _ ?_
    show Steps p.tables e below (T10.setTop (mkF m 445 #[.val (.int kd), .val (.int vr), .val (.int cc)] [(.ref b1)])) _
    refine XS.dup X10.here hx rfl (hb hby d1_445) rfl rfl ?_
    show Steps p.tables e below (T10.setTop (mkF m 446 #[.val (.int kd), .val (.int vr), .val (.int cc)] [(.ref b1), (.ref b1)])) _
    refine XS.bipush X10.here hx rfl (hb hby d1_446) ?_
    show Steps p.tables e below (T10.setTop (mkF m 448 #[.val (.int kd), .val (.int vr), .val (.int cc)] [(.int (9 : Int32)), (.ref b1), (.ref b1)])) _
    refine XS.bipush X10.here hx rfl (hb hby d1_448) ?_
    show Steps p.tables e below (T10.setTop (mkF m 450 #[.val (.int kd), .val (.int vr), .val (.int cc)] [(.int (45 : Int32)), (.int (9 : Int32)), (.ref b1), (.ref b1)])) _
    refine st11 _ ?_
    show Steps p.tables e below (T11.setTop (mkF m 451 #[.val (.int kd), .val (.int vr), .val (.int cc)] [(.ref b1)])) _
    refine XS.dup X11.here hx rfl (hb hby d1_451) rfl rfl ?_
    show Steps p.tables e below (T11.setTop (mkF m 452 #[.val (.int kd), .val (.int vr), .val (.int cc)] [(.ref b1), (.ref b1)])) _
    refine XS.bipush X11.here hx rfl (hb hby d1_452) ?_
    show Steps p.tables e below (T11.setTop (mkF m 454 #[.val (.int kd), .val (.int vr), .val (.int cc)] [(.int (10 : Int32)), (.ref b1), (.ref b1)])) _
    refine XS.bipush X11.here hx rfl (hb hby d1_454) ?_
    show Steps p.tables e below (T11.setTop (mkF m 456 #[.val (.int kd), .val (.int vr), .val (.int cc)] [(.int (80 : Int32)), (.int (10 : Int32)), (.ref b1), (.ref b1)])) _
    refine st12 _ ?_
    show Steps p.tables e below (T12.setTop (mkF m 457 #[.val (.int kd), .val (.int vr), .val (.int cc)] [(.ref b1)])) _
    refine XS.dup X12.here hx rfl (hb hby d1_457) rfl rfl ?_
    show Steps p.tables e below (T12.setTop (mkF m 458 #[.val (.int kd), .val (.int vr), .val (.int cc)] [(.ref b1), (.ref b1)])) _
    refine XS.bipush X12.here hx rfl (hb hby d1_458) ?_
    show Steps p.tables e below (T12.setTop (mkF m 460 #[.val (.int kd), .val (.int vr), .val (.int cc)] [(.int (11 : Int32)), (.ref b1), (.ref b1)])) _
    refine XS.bipush X12.here hx rfl (hb hby d1_460) ?_
    show Steps p.tables e below (T12.setTop (mkF m 462 #[.val (.int kd), .val (.int vr), .val (.int cc)] [(.int (73 : Int32)), (.int (11 : Int32)), (.ref b1), (.ref b1)])) _
    refine st13 _ ?_
    show Steps p.tables e below (T13.setTop (mkF m 463 #[.val (.int kd), .val (.int vr), .val (.int cc)] [(.ref b1)])) _
    refine XS.dup X13.here hx rfl (hb hby d1_463) rfl rfl ?_
    show Steps p.tables e below (T13.setTop (mkF m 464 #[.val (.int kd), .val (.int vr), .val (.int cc)] [(.ref b1), (.ref b1)])) _
    refine XS.bipush X13.here hx rfl (hb hby d1_464) ?_
    show Steps p.tables e below (T13.setTop (mkF m 466 #[.val (.int kd), .val (.int vr), .val (.int cc)] [(.int (12 : Int32)), (.ref b1), (.ref b1)])) _
    refine XS.bipush X13.here hx rfl (hb hby d1_466) ?_
    show Steps p.tables e below (T13.setTop (mkF m 468 #[.val (.int kd), .val (.int vr), .val (.int cc)] [(.int (67 : Int32)), (.int (12 : Int32)), (.ref b1), (.ref b1)])) _
    refine st14 _ ?_
    show Steps p.tables e below (T14.setTop (mkF m 469 #[.val (.int kd), .val (.int vr), .val (.int cc)] [(.ref b1)])) _
    refine XS.dup X14.here hx rfl (hb hby d1_469) rfl rfl ?_
    show Steps p.tables e below (T14.setTop (mkF m 470 #[.val (.int kd), .val (.int vr), .val (.int cc)] [(.ref b1), (.ref b1)])) _
    refine XS.bipush X14.here hx rfl (hb hby d1_470) ?_
    show Steps p.tables e below (T14.setTop (mkF m 472 #[.val (.int kd), .val (.int vr), .val (.int cc)] [(.int (13 : Int32)), (.ref b1), (.ref b1)])) _
    refine XS.bipush X14.here hx rfl (hb hby d1_472) ?_
    show Steps p.tables e below (T14.setTop (mkF m 474 #[.val (.int kd), .val (.int vr), .val (.int cc)] [(.int (75 : Int32)), (.int (13 : Int32)), (.ref b1), (.ref b1)])) _
    refine st15 _ ?_
    show Steps p.tables e below (T15.setTop (mkF m 475 #[.val (.int kd), .val (.int vr), .val (.int cc)] [(.ref b1)])) _
    refine XS.dup X15.here hx rfl (hb hby d1_475) rfl rfl ?_
    show Steps p.tables e below (T15.setTop (mkF m 476 #[.val (.int kd), .val (.int vr), .val (.int cc)] [(.ref b1), (.ref b1)])) _
    refine XS.bipush X15.here hx rfl (hb hby d1_476) ?_
    show Steps p.tables e below (T15.setTop (mkF m 478 #[.val (.int kd), .val (.int vr), .val (.int cc)] [(.int (14 : Int32)), (.ref b1), (.ref b1)])) _
    refine XS.bipush X15.here hx rfl (hb hby d1_478) ?_
    show Steps p.tables e below (T15.setTop (mkF m 480 #[.val (.int kd), .val (.int vr), .val (.int cc)] [(.int (85 : Int32)), (.int (14 : Int32)), (.ref b1), (.ref b1)])) _
    refine st16 _ ?_
    show Steps p.tables e below (T16.setTop (mkF m 481 #[.val (.int kd), .val (.int vr), .val (.int cc)] [(.ref b1)])) _
    refine XS.dup X16.here hx rfl (hb hby d1_481) rfl rfl ?_
    show Steps p.tables e below (T16.setTop (mkF m 482 #[.val (.int kd), .val (.int vr), .val (.int cc)] [(.ref b1), (.ref b1)])) _
    refine XS.bipush X16.here hx rfl (hb hby d1_482) ?_
    show Steps p.tables e below (T16.setTop (mkF m 484 #[.val (.int kd), .val (.int vr), .val (.int cc)] [(.int (15 : Int32)), (.ref b1), (.ref b1)])) _
    refine XS.bipush X16.here hx rfl (hb hby d1_484) ?_
    show Steps p.tables e below (T16.setTop (mkF m 486 #[.val (.int kd), .val (.int vr), .val (.int cc)] [(.int (80 : Int32)), (.int (15 : Int32)), (.ref b1), (.ref b1)])) _
    refine st17 _ ?_
    show Steps p.tables e below (T17.setTop (mkF m 487 #[.val (.int kd), .val (.int vr), .val (.int cc)] [(.ref b1)])) _
    exact retOut X17 hx Bd.returns rfl (Or.inr (Or.inr (Or.inr (Or.inr ⟨rfl, rfl, rfl⟩)))) (hb hby d1_487) hr
  · show Qd10 Z kd vr cc h0 n0 _ T17.heap _
    rw [e17]
    exact ⟨b1, k1, ([(nar .char (66 : Int32)), (nar .char (79 : Int32)), (nar .char (82 : Int32)), (nar .char (82 : Int32)), (nar .char (79 : Int32)), (nar .char (87 : Int32)), (nar .char (73 : Int32)), (nar .char (78 : Int32)), (nar .char (71 : Int32)), (nar .char (45 : Int32)), (nar .char (80 : Int32)), (nar .char (73 : Int32)), (nar .char (67 : Int32)), (nar .char (75 : Int32)), (nar .char (85 : Int32)), (nar .char (80 : Int32))] : List Int32), rfl, N17, K17, g_b1, V17, hgood, Nat.succ_ne_zero _⟩
theorem d1_488 : decode method_5_code 488 = .ok (.iload_n 1, 1) := by decide +kernel
theorem d1_489 : decode method_5_code 489 = .ok (.iconst 1, 1) := by decide +kernel
theorem d1_490 : decode method_5_code 490 = .ok (.if_icmp .ne 103, 3) := by decide +kernel
theorem d1_493 : decode method_5_code 493 = .ok (.bipush 17, 2) := by decide +kernel
theorem d1_495 : decode method_5_code 495 = .ok (.newarray .char, 2) := by decide +kernel
theorem d1_497 : decode method_5_code 497 = .ok (.dup, 1) := by decide +kernel
theorem d1_498 : decode method_5_code 498 = .ok (.iconst 0, 1) := by decide +kernel
theorem d1_499 : decode method_5_code 499 = .ok (.bipush 66, 2) := by decide +kernel
theorem d1_501 : decode method_5_code 501 = .ok (.castore, 1) := by decide +kernel
theorem d1_502 : decode method_5_code 502 = .ok (.dup, 1) := by decide +kernel
theorem d1_503 : decode method_5_code 503 = .ok (.iconst 1, 1) := by decide +kernel
theorem d1_504 : decode method_5_code 504 = .ok (.bipush 79, 2) := by decide +kernel
theorem d1_506 : decode method_5_code 506 = .ok (.castore, 1) := by decide +kernel
theorem d1_507 : decode method_5_code 507 = .ok (.dup, 1) := by decide +kernel
theorem d1_508 : decode method_5_code 508 = .ok (.iconst 2, 1) := by decide +kernel
theorem d1_509 : decode method_5_code 509 = .ok (.bipush 82, 2) := by decide +kernel
theorem d1_511 : decode method_5_code 511 = .ok (.castore, 1) := by decide +kernel
theorem d1_512 : decode method_5_code 512 = .ok (.dup, 1) := by decide +kernel
theorem d1_513 : decode method_5_code 513 = .ok (.iconst 3, 1) := by decide +kernel
theorem d1_514 : decode method_5_code 514 = .ok (.bipush 82, 2) := by decide +kernel
theorem d1_516 : decode method_5_code 516 = .ok (.castore, 1) := by decide +kernel
theorem d1_517 : decode method_5_code 517 = .ok (.dup, 1) := by decide +kernel
theorem d1_518 : decode method_5_code 518 = .ok (.iconst 4, 1) := by decide +kernel
theorem d1_519 : decode method_5_code 519 = .ok (.bipush 79, 2) := by decide +kernel
theorem d1_521 : decode method_5_code 521 = .ok (.castore, 1) := by decide +kernel
theorem d1_522 : decode method_5_code 522 = .ok (.dup, 1) := by decide +kernel
theorem d1_523 : decode method_5_code 523 = .ok (.iconst 5, 1) := by decide +kernel
theorem d1_524 : decode method_5_code 524 = .ok (.bipush 87, 2) := by decide +kernel
theorem d1_526 : decode method_5_code 526 = .ok (.castore, 1) := by decide +kernel
theorem d1_527 : decode method_5_code 527 = .ok (.dup, 1) := by decide +kernel
theorem d1_528 : decode method_5_code 528 = .ok (.bipush 6, 2) := by decide +kernel
theorem d1_530 : decode method_5_code 530 = .ok (.bipush 73, 2) := by decide +kernel
theorem d1_532 : decode method_5_code 532 = .ok (.castore, 1) := by decide +kernel
theorem d1_533 : decode method_5_code 533 = .ok (.dup, 1) := by decide +kernel
theorem d1_534 : decode method_5_code 534 = .ok (.bipush 7, 2) := by decide +kernel
theorem d1_536 : decode method_5_code 536 = .ok (.bipush 78, 2) := by decide +kernel
theorem d1_538 : decode method_5_code 538 = .ok (.castore, 1) := by decide +kernel
theorem d1_539 : decode method_5_code 539 = .ok (.dup, 1) := by decide +kernel
theorem d1_540 : decode method_5_code 540 = .ok (.bipush 8, 2) := by decide +kernel
theorem d1_542 : decode method_5_code 542 = .ok (.bipush 71, 2) := by decide +kernel
theorem d1_544 : decode method_5_code 544 = .ok (.castore, 1) := by decide +kernel
theorem d1_545 : decode method_5_code 545 = .ok (.dup, 1) := by decide +kernel
theorem d1_546 : decode method_5_code 546 = .ok (.bipush 9, 2) := by decide +kernel
theorem d1_548 : decode method_5_code 548 = .ok (.bipush 45, 2) := by decide +kernel
theorem d1_550 : decode method_5_code 550 = .ok (.castore, 1) := by decide +kernel
theorem d1_551 : decode method_5_code 551 = .ok (.dup, 1) := by decide +kernel
theorem d1_552 : decode method_5_code 552 = .ok (.bipush 10, 2) := by decide +kernel
theorem d1_554 : decode method_5_code 554 = .ok (.bipush 80, 2) := by decide +kernel
theorem d1_556 : decode method_5_code 556 = .ok (.castore, 1) := by decide +kernel
theorem d1_557 : decode method_5_code 557 = .ok (.dup, 1) := by decide +kernel
theorem d1_558 : decode method_5_code 558 = .ok (.bipush 11, 2) := by decide +kernel
theorem d1_560 : decode method_5_code 560 = .ok (.bipush 73, 2) := by decide +kernel
theorem d1_562 : decode method_5_code 562 = .ok (.castore, 1) := by decide +kernel
theorem d1_563 : decode method_5_code 563 = .ok (.dup, 1) := by decide +kernel
theorem d1_564 : decode method_5_code 564 = .ok (.bipush 12, 2) := by decide +kernel
theorem d1_566 : decode method_5_code 566 = .ok (.bipush 67, 2) := by decide +kernel
theorem d1_568 : decode method_5_code 568 = .ok (.castore, 1) := by decide +kernel
theorem d1_569 : decode method_5_code 569 = .ok (.dup, 1) := by decide +kernel
theorem d1_570 : decode method_5_code 570 = .ok (.bipush 13, 2) := by decide +kernel
theorem d1_572 : decode method_5_code 572 = .ok (.bipush 75, 2) := by decide +kernel
theorem d1_574 : decode method_5_code 574 = .ok (.castore, 1) := by decide +kernel
theorem d1_575 : decode method_5_code 575 = .ok (.dup, 1) := by decide +kernel
theorem d1_576 : decode method_5_code 576 = .ok (.bipush 14, 2) := by decide +kernel
theorem d1_578 : decode method_5_code 578 = .ok (.bipush 85, 2) := by decide +kernel
theorem d1_580 : decode method_5_code 580 = .ok (.castore, 1) := by decide +kernel
theorem d1_581 : decode method_5_code 581 = .ok (.dup, 1) := by decide +kernel
theorem d1_582 : decode method_5_code 582 = .ok (.bipush 15, 2) := by decide +kernel
theorem d1_584 : decode method_5_code 584 = .ok (.bipush 80, 2) := by decide +kernel
theorem d1_586 : decode method_5_code 586 = .ok (.castore, 1) := by decide +kernel
theorem d1_587 : decode method_5_code 587 = .ok (.dup, 1) := by decide +kernel
theorem d1_588 : decode method_5_code 588 = .ok (.bipush 16, 2) := by decide +kernel
theorem d1_590 : decode method_5_code 590 = .ok (.iload_n 2, 1) := by decide +kernel
theorem d1_591 : decode method_5_code 591 = .ok (.castore, 1) := by decide +kernel
theorem d1_592 : decode method_5_code 592 = .ok (.areturn, 1) := by decide +kernel
set_option maxRecDepth 65536 in
set_option maxHeartbeats 40000000 in
theorem rmN31 (l : Launch) (Z : State) (a0 : Array Value) (hw : ∀ d ∈ tables_1, d.before a0 Z = true) (ws : List Jvm.Cond) (kd vr cc : Int32) (h0 : Heap) (n0 : Nat) (O0 : Old Z n0 h0) (hcc : ¬ nar .char cc < 0 ∧ ¬ (255 : Int32) < nar .char cc) (hc1 : ¬ (kd = (0 : Int32))) (hc119 : ¬ (kd = (1 : Int32))) (hc273 : ¬ (kd = (2 : Int32))) (hc390 : ¬ (vr = (0 : Int32))) (hc490 : vr = (1 : Int32)) :
    MetFree l (⟨"com/example/lendloop/lendloop/core/TransactionRoleFromWireNamePinLaw", "named", "(IIC)[C"⟩ : MethodName) (head1 (Jvm.Cond.code (⟨"com/example/lendloop/lendloop/core/TransactionRoleFromWireNamePinLaw", "named", "(IIC)[C"⟩ : MethodName) method_5_code 3 (some (.array .char)) :: ws) ({ frames := 0, cells := 1, slots := 17, locals := 0 } : Room)) (fun qq U => qq = #[(.int kd), (.int vr), (.int cc)] ∧ Z.Warmed39 U.vm ∧ U.heap = h0) (fun _ _ _ _ _ => True) (fun _ UU oo UU' => ∃ vv LL, oo = .returned vv ∧ Qd10 Z kd vr cc h0 n0 vv UU'.heap LL ∧ FrameEnd UU oo UU' LL ({ frames := 0, cells := 1, slots := 17, locals := 0 } : Room).cells ({ frames := 0, cells := 1, slots := 17, locals := 0 } : Room).slots) := by
  refine MetFree.of_bodySF (plainFor_of_name pn_1) hisR ?_
  intro p e s m args below meth c s₁ Bd hml0 hP hK
  obtain ⟨rfl, hZ, hh⟩ := hP
  have hx := Bd.exec
  have hby := Bd.bytes
  have hml : c.maxLocals = 3 := hml0
  have hown : s.vm.findClass "com/example/lendloop/lendloop/core/TransactionRoleFromWireNamePinLaw" = some m.cls := findClass_of_methodNamed Bd.named
  have hnm := (name_of_methodNamed Bd.named Bd.method).1
  have X0 : Stand p l e ({ frames := 0, cells := 1, slots := 17, locals := 0 } : Room) s m #[(.int kd), (.int vr), (.int cc)] below meth c s₁ [] 0 0 := Stand.of_body Bd
  have e0 : s₁.heap = h0 := by rw [← hh, Bd.state]; rfl
  have N0 := Fr.nil n0
  have pre0 : ∀ tgt, Steps p.tables e below (s₁.setTop (mkF m 0 #[.val (.int kd), .val (.int vr), .val (.int cc)] [])) tgt → Steps p.tables e below (s₁.setTop (entryFrame m #[(.int kd), (.int vr), (.int cc)] 3)) tgt := fun tt kk => castTop (ef_1 m kd vr cc) kk
  obtain ⟨T1, h1, k1, X1, e1, E1, A1, st1⟩ := newP X0 hx hZ (ww hw 4 rfl) e0 (g := (mkF m 495 #[.val (.int kd), .val (.int vr), .val (.int cc)] [(.int (17 : Int32))])) rfl (hb hby d1_495) rfl (by decide) (cap := 17) (by decide) (by decide) (by decide) (by decide)
  obtain ⟨b1, q1⟩ : ∃ z, z = h0.size := ⟨_, rfl⟩
  rw [← q1] at A1 st1
  have g_b1 : n0 ≤ b1 := by rw [q1]; exact (O0).1 ▸ (O0).2.1
  have sz_b1 : h0.size ≤ b1 := by rw [q1]; exact ((Keep.refl h0 [])).1
  have O1 := Old.ext O0 E1
  have K1 := Keep.ext (Keep.refl h0 []) E1
  have V1 : Arv Z h1 b1 k1 .char (17 : Int32) [] (.int (0 : Int32)) := Arv.new A1 (by decide)
  obtain ⟨T2, h2, X2, e2, W2, V2, st2⟩ := own_putC X1 hx hZ e1 V1 (j := (0 : Int32)) rfl (by decide) (Nat.le_of_ble_eq_true rfl) (g := (mkF m 501 #[.val (.int kd), .val (.int vr), .val (.int cc)] [(.int (66 : Int32)), (.int (0 : Int32)), (.ref b1), (.ref b1)])) rfl rfl (hb hby d1_501)
  have N2 := Fr.snoc X2 N0 g_b1
  have O2 := Old.wr O1 W2 g_b1
  have K2 := Keep.wr K1 W2 (Or.inr sz_b1)
  obtain ⟨T3, h3, X3, e3, W3, V3, st3⟩ := own_putC X2 hx hZ e2 V2 (j := (1 : Int32)) rfl (by decide) (Nat.le_of_ble_eq_true rfl) (g := (mkF m 506 #[.val (.int kd), .val (.int vr), .val (.int cc)] [(.int (79 : Int32)), (.int (1 : Int32)), (.ref b1), (.ref b1)])) rfl rfl (hb hby d1_506)
  have N3 := Fr.snoc X3 N2 g_b1
  have O3 := Old.wr O2 W3 g_b1
  have K3 := Keep.wr K2 W3 (Or.inr sz_b1)
  obtain ⟨T4, h4, X4, e4, W4, V4, st4⟩ := own_putC X3 hx hZ e3 V3 (j := (2 : Int32)) rfl (by decide) (Nat.le_of_ble_eq_true rfl) (g := (mkF m 511 #[.val (.int kd), .val (.int vr), .val (.int cc)] [(.int (82 : Int32)), (.int (2 : Int32)), (.ref b1), (.ref b1)])) rfl rfl (hb hby d1_511)
  have N4 := Fr.snoc X4 N3 g_b1
  have O4 := Old.wr O3 W4 g_b1
  have K4 := Keep.wr K3 W4 (Or.inr sz_b1)
  obtain ⟨T5, h5, X5, e5, W5, V5, st5⟩ := own_putC X4 hx hZ e4 V4 (j := (3 : Int32)) rfl (by decide) (Nat.le_of_ble_eq_true rfl) (g := (mkF m 516 #[.val (.int kd), .val (.int vr), .val (.int cc)] [(.int (82 : Int32)), (.int (3 : Int32)), (.ref b1), (.ref b1)])) rfl rfl (hb hby d1_516)
  have N5 := Fr.snoc X5 N4 g_b1
  have O5 := Old.wr O4 W5 g_b1
  have K5 := Keep.wr K4 W5 (Or.inr sz_b1)
  obtain ⟨T6, h6, X6, e6, W6, V6, st6⟩ := own_putC X5 hx hZ e5 V5 (j := (4 : Int32)) rfl (by decide) (Nat.le_of_ble_eq_true rfl) (g := (mkF m 521 #[.val (.int kd), .val (.int vr), .val (.int cc)] [(.int (79 : Int32)), (.int (4 : Int32)), (.ref b1), (.ref b1)])) rfl rfl (hb hby d1_521)
  have N6 := Fr.snoc X6 N5 g_b1
  have O6 := Old.wr O5 W6 g_b1
  have K6 := Keep.wr K5 W6 (Or.inr sz_b1)
  obtain ⟨T7, h7, X7, e7, W7, V7, st7⟩ := own_putC X6 hx hZ e6 V6 (j := (5 : Int32)) rfl (by decide) (Nat.le_of_ble_eq_true rfl) (g := (mkF m 526 #[.val (.int kd), .val (.int vr), .val (.int cc)] [(.int (87 : Int32)), (.int (5 : Int32)), (.ref b1), (.ref b1)])) rfl rfl (hb hby d1_526)
  have N7 := Fr.snoc X7 N6 g_b1
  have O7 := Old.wr O6 W7 g_b1
  have K7 := Keep.wr K6 W7 (Or.inr sz_b1)
  obtain ⟨T8, h8, X8, e8, W8, V8, st8⟩ := own_putC X7 hx hZ e7 V7 (j := (6 : Int32)) rfl (by decide) (Nat.le_of_ble_eq_true rfl) (g := (mkF m 532 #[.val (.int kd), .val (.int vr), .val (.int cc)] [(.int (73 : Int32)), (.int (6 : Int32)), (.ref b1), (.ref b1)])) rfl rfl (hb hby d1_532)
  have N8 := Fr.snoc X8 N7 g_b1
  have O8 := Old.wr O7 W8 g_b1
  have K8 := Keep.wr K7 W8 (Or.inr sz_b1)
  obtain ⟨T9, h9, X9, e9, W9, V9, st9⟩ := own_putC X8 hx hZ e8 V8 (j := (7 : Int32)) rfl (by decide) (Nat.le_of_ble_eq_true rfl) (g := (mkF m 538 #[.val (.int kd), .val (.int vr), .val (.int cc)] [(.int (78 : Int32)), (.int (7 : Int32)), (.ref b1), (.ref b1)])) rfl rfl (hb hby d1_538)
  have N9 := Fr.snoc X9 N8 g_b1
  have O9 := Old.wr O8 W9 g_b1
  have K9 := Keep.wr K8 W9 (Or.inr sz_b1)
  obtain ⟨T10, h10, X10, e10, W10, V10, st10⟩ := own_putC X9 hx hZ e9 V9 (j := (8 : Int32)) rfl (by decide) (Nat.le_of_ble_eq_true rfl) (g := (mkF m 544 #[.val (.int kd), .val (.int vr), .val (.int cc)] [(.int (71 : Int32)), (.int (8 : Int32)), (.ref b1), (.ref b1)])) rfl rfl (hb hby d1_544)
  have N10 := Fr.snoc X10 N9 g_b1
  have O10 := Old.wr O9 W10 g_b1
  have K10 := Keep.wr K9 W10 (Or.inr sz_b1)
  obtain ⟨T11, h11, X11, e11, W11, V11, st11⟩ := own_putC X10 hx hZ e10 V10 (j := (9 : Int32)) rfl (by decide) (Nat.le_of_ble_eq_true rfl) (g := (mkF m 550 #[.val (.int kd), .val (.int vr), .val (.int cc)] [(.int (45 : Int32)), (.int (9 : Int32)), (.ref b1), (.ref b1)])) rfl rfl (hb hby d1_550)
  have N11 := Fr.snoc X11 N10 g_b1
  have O11 := Old.wr O10 W11 g_b1
  have K11 := Keep.wr K10 W11 (Or.inr sz_b1)
  obtain ⟨T12, h12, X12, e12, W12, V12, st12⟩ := own_putC X11 hx hZ e11 V11 (j := (10 : Int32)) rfl (by decide) (Nat.le_of_ble_eq_true rfl) (g := (mkF m 556 #[.val (.int kd), .val (.int vr), .val (.int cc)] [(.int (80 : Int32)), (.int (10 : Int32)), (.ref b1), (.ref b1)])) rfl rfl (hb hby d1_556)
  have N12 := Fr.snoc X12 N11 g_b1
  have O12 := Old.wr O11 W12 g_b1
  have K12 := Keep.wr K11 W12 (Or.inr sz_b1)
  obtain ⟨T13, h13, X13, e13, W13, V13, st13⟩ := own_putC X12 hx hZ e12 V12 (j := (11 : Int32)) rfl (by decide) (Nat.le_of_ble_eq_true rfl) (g := (mkF m 562 #[.val (.int kd), .val (.int vr), .val (.int cc)] [(.int (73 : Int32)), (.int (11 : Int32)), (.ref b1), (.ref b1)])) rfl rfl (hb hby d1_562)
  have N13 := Fr.snoc X13 N12 g_b1
  have O13 := Old.wr O12 W13 g_b1
  have K13 := Keep.wr K12 W13 (Or.inr sz_b1)
  obtain ⟨T14, h14, X14, e14, W14, V14, st14⟩ := own_putC X13 hx hZ e13 V13 (j := (12 : Int32)) rfl (by decide) (Nat.le_of_ble_eq_true rfl) (g := (mkF m 568 #[.val (.int kd), .val (.int vr), .val (.int cc)] [(.int (67 : Int32)), (.int (12 : Int32)), (.ref b1), (.ref b1)])) rfl rfl (hb hby d1_568)
  have N14 := Fr.snoc X14 N13 g_b1
  have O14 := Old.wr O13 W14 g_b1
  have K14 := Keep.wr K13 W14 (Or.inr sz_b1)
  obtain ⟨T15, h15, X15, e15, W15, V15, st15⟩ := own_putC X14 hx hZ e14 V14 (j := (13 : Int32)) rfl (by decide) (Nat.le_of_ble_eq_true rfl) (g := (mkF m 574 #[.val (.int kd), .val (.int vr), .val (.int cc)] [(.int (75 : Int32)), (.int (13 : Int32)), (.ref b1), (.ref b1)])) rfl rfl (hb hby d1_574)
  have N15 := Fr.snoc X15 N14 g_b1
  have O15 := Old.wr O14 W15 g_b1
  have K15 := Keep.wr K14 W15 (Or.inr sz_b1)
  obtain ⟨T16, h16, X16, e16, W16, V16, st16⟩ := own_putC X15 hx hZ e15 V15 (j := (14 : Int32)) rfl (by decide) (Nat.le_of_ble_eq_true rfl) (g := (mkF m 580 #[.val (.int kd), .val (.int vr), .val (.int cc)] [(.int (85 : Int32)), (.int (14 : Int32)), (.ref b1), (.ref b1)])) rfl rfl (hb hby d1_580)
  have N16 := Fr.snoc X16 N15 g_b1
  have O16 := Old.wr O15 W16 g_b1
  have K16 := Keep.wr K15 W16 (Or.inr sz_b1)
  obtain ⟨T17, h17, X17, e17, W17, V17, st17⟩ := own_putC X16 hx hZ e16 V16 (j := (15 : Int32)) rfl (by decide) (Nat.le_of_ble_eq_true rfl) (g := (mkF m 586 #[.val (.int kd), .val (.int vr), .val (.int cc)] [(.int (80 : Int32)), (.int (15 : Int32)), (.ref b1), (.ref b1)])) rfl rfl (hb hby d1_586)
  have N17 := Fr.snoc X17 N16 g_b1
  have O17 := Old.wr O16 W17 g_b1
  have K17 := Keep.wr K16 W17 (Or.inr sz_b1)
  obtain ⟨T18, h18, X18, e18, W18, V18, st18⟩ := own_putC X17 hx hZ e17 V17 (j := (16 : Int32)) rfl (by decide) (Nat.le_of_ble_eq_true rfl) (g := (mkF m 591 #[.val (.int kd), .val (.int vr), .val (.int cc)] [(.int cc), (.int (16 : Int32)), (.ref b1), (.ref b1)])) rfl rfl (hb hby d1_591)
  have N18 := Fr.snoc X18 N17 g_b1
  have O18 := Old.wr O17 W18 g_b1
  have K18 := Keep.wr K17 W18 (Or.inr sz_b1)
  have hgood : own_good ([(nar .char (66 : Int32)), (nar .char (79 : Int32)), (nar .char (82 : Int32)), (nar .char (82 : Int32)), (nar .char (79 : Int32)), (nar .char (87 : Int32)), (nar .char (73 : Int32)), (nar .char (78 : Int32)), (nar .char (71 : Int32)), (nar .char (45 : Int32)), (nar .char (80 : Int32)), (nar .char (73 : Int32)), (nar .char (67 : Int32)), (nar .char (75 : Int32)), (nar .char (85 : Int32)), (nar .char (80 : Int32)), (nar .char cc)] : List Int32) := ⟨Nat.le_of_ble_eq_true rfl, by
    intro x hx
    simp only [List.mem_cons, List.not_mem_nil, or_false] at hx
    rcases hx with rfl | rfl | rfl | rfl | rfl | rfl | rfl | rfl | rfl | rfl | rfl | rfl | rfl | rfl | rfl | rfl | rfl
    all_goals first | exact hcc | decide⟩
  obtain ⟨fs, hr, hrun, hended, hW, hsame⟩ := X18.leave (v := some (.ref b1)) (fun h => by rw [Bd.returns] at h; cases h)
  refine ⟨_, _, pre0 _ ?_, hrun, hended, _, _, rfl, ?_, ⟨_, rfl⟩, hW, hsame.mono (by decide) (by decide)⟩
  · show Steps p.tables e below (s₁.setTop (mkF m 0 #[.val (.int kd), .val (.int vr), .val (.int cc)] [])) _
    refine XS.iloadN X0.here hx rfl (hb hby d1_0) rfl ?_
    show Steps p.tables e below (s₁.setTop (mkF m 1 #[.val (.int kd), .val (.int vr), .val (.int cc)] [(.int kd)])) _
    refine XS.ifYes X0.here hx rfl (pc0 := 1) (pc' := 117) rfl (hb hby d1_1) rfl ((if0 _ _).trans (feq hc1).2) (by decide) (by decide) ?_
    show Steps p.tables e below (s₁.setTop (mkF m 117 #[.val (.int kd), .val (.int vr), .val (.int cc)] [])) _
    refine XS.iloadN X0.here hx rfl (hb hby d1_117) rfl ?_
    show Steps p.tables e below (s₁.setTop (mkF m 118 #[.val (.int kd), .val (.int vr), .val (.int cc)] [(.int kd)])) _
    refine XS.iconst X0.here hx rfl (hb hby d1_118) ?_
    show Steps p.tables e below (s₁.setTop (mkF m 119 #[.val (.int kd), .val (.int vr), .val (.int cc)] [(.int (1 : Int32)), (.int kd)])) _
    refine XS.icmpYes X0.here hx rfl (pc0 := 119) (pc' := 271) rfl (hb hby d1_119) rfl (feq hc119).2 (by decide) (by decide) ?_
    show Steps p.tables e below (s₁.setTop (mkF m 271 #[.val (.int kd), .val (.int vr), .val (.int cc)] [])) _
    refine XS.iloadN X0.here hx rfl (hb hby d1_271) rfl ?_
    show Steps p.tables e below (s₁.setTop (mkF m 272 #[.val (.int kd), .val (.int vr), .val (.int cc)] [(.int kd)])) _
    refine XS.iconst X0.here hx rfl (hb hby d1_272) ?_
    show Steps p.tables e below (s₁.setTop (mkF m 273 #[.val (.int kd), .val (.int vr), .val (.int cc)] [(.int (2 : Int32)), (.int kd)])) _
    refine XS.icmpYes X0.here hx rfl (pc0 := 273) (pc' := 389) rfl (hb hby d1_273) rfl (feq hc273).2 (by decide) (by decide) ?_
    show Steps p.tables e below (s₁.setTop (mkF m 389 #[.val (.int kd), .val (.int vr), .val (.int cc)] [])) _
    refine XS.iloadN X0.here hx rfl (hb hby d1_389) rfl ?_
    show Steps p.tables e below (s₁.setTop (mkF m 390 #[.val (.int kd), .val (.int vr), .val (.int cc)] [(.int vr)])) _
    refine XS.ifYes X0.here hx rfl (pc0 := 390) (pc' := 488) rfl (hb hby d1_390) rfl ((if0 _ _).trans (feq hc390).2) (by decide) (by decide) ?_
    show Steps p.tables e below (s₁.setTop (mkF m 488 #[.val (.int kd), .val (.int vr), .val (.int cc)] [])) _
    refine XS.iloadN X0.here hx rfl (hb hby d1_488) rfl ?_
    show Steps p.tables e below (s₁.setTop (mkF m 489 #[.val (.int kd), .val (.int vr), .val (.int cc)] [(.int vr)])) _
    refine XS.iconst X0.here hx rfl (hb hby d1_489) ?_
    show Steps p.tables e below (s₁.setTop (mkF m 490 #[.val (.int kd), .val (.int vr), .val (.int cc)] [(.int (1 : Int32)), (.int vr)])) _
    refine XS.icmpNo X0.here hx rfl (hb hby d1_490) rfl (teq hc490).2 ?_
    show Steps p.tables e below (s₁.setTop (mkF m 493 #[.val (.int kd), .val (.int vr), .val (.int cc)] [])) _
    refine XS.bipush X0.here hx rfl (hb hby d1_493) ?_
    show Steps p.tables e below (s₁.setTop (mkF m 495 #[.val (.int kd), .val (.int vr), .val (.int cc)] [(.int (17 : Int32))])) _
    refine st1 _ ?_
    show Steps p.tables e below (T1.setTop (mkF m 497 #[.val (.int kd), .val (.int vr), .val (.int cc)] [(.ref b1)])) _
    refine XS.dup X1.here hx rfl (hb hby d1_497) rfl rfl ?_
    show Steps p.tables e below (T1.setTop (mkF m 498 #[.val (.int kd), .val (.int vr), .val (.int cc)] [(.ref b1), (.ref b1)])) _
    refine XS.iconst X1.here hx rfl (hb hby d1_498) ?_
    show Steps p.tables e below (T1.setTop (mkF m 499 #[.val (.int kd), .val (.int vr), .val (.int cc)] [(.int (0 : Int32)), (.ref b1), (.ref b1)])) _
    refine XS.bipush X1.here hx rfl (hb hby d1_499) ?_
    show Steps p.tables e below (T1.setTop (mkF m 501 #[.val (.int kd), .val (.int vr), .val (.int cc)] [(.int (66 : Int32)), (.int (0 : Int32)), (.ref b1), (.ref b1)])) _
    refine st2 _ ?_
    show Steps p.tables e below (T2.setTop (mkF m 502 #[.val (.int kd), .val (.int vr), .val (.int cc)] [(.ref b1)])) _
    refine XS.dup X2.here hx rfl (hb hby d1_502) rfl rfl ?_
    show Steps p.tables e below (T2.setTop (mkF m 503 #[.val (.int kd), .val (.int vr), .val (.int cc)] [(.ref b1), (.ref b1)])) _
    refine XS.iconst X2.here hx rfl (hb hby d1_503) ?_
    show Steps p.tables e below (T2.setTop (mkF m 504 #[.val (.int kd), .val (.int vr), .val (.int cc)] [(.int (1 : Int32)), (.ref b1), (.ref b1)])) _
    refine XS.bipush X2.here hx rfl (hb hby d1_504) ?_
    show Steps p.tables e below (T2.setTop (mkF m 506 #[.val (.int kd), .val (.int vr), .val (.int cc)] [(.int (79 : Int32)), (.int (1 : Int32)), (.ref b1), (.ref b1)])) _
    refine st3 _ ?_
    show Steps p.tables e below (T3.setTop (mkF m 507 #[.val (.int kd), .val (.int vr), .val (.int cc)] [(.ref b1)])) _
    refine XS.dup X3.here hx rfl (hb hby d1_507) rfl rfl ?_
    show Steps p.tables e below (T3.setTop (mkF m 508 #[.val (.int kd), .val (.int vr), .val (.int cc)] [(.ref b1), (.ref b1)])) _
    refine XS.iconst X3.here hx rfl (hb hby d1_508) ?_
    show Steps p.tables e below (T3.setTop (mkF m 509 #[.val (.int kd), .val (.int vr), .val (.int cc)] [(.int (2 : Int32)), (.ref b1), (.ref b1)])) _
    refine XS.bipush X3.here hx rfl (hb hby d1_509) ?_
    show Steps p.tables e below (T3.setTop (mkF m 511 #[.val (.int kd), .val (.int vr), .val (.int cc)] [(.int (82 : Int32)), (.int (2 : Int32)), (.ref b1), (.ref b1)])) _
    refine st4 _ ?_
    show Steps p.tables e below (T4.setTop (mkF m 512 #[.val (.int kd), .val (.int vr), .val (.int cc)] [(.ref b1)])) _
    refine XS.dup X4.here hx rfl (hb hby d1_512) rfl rfl ?_
    show Steps p.tables e below (T4.setTop (mkF m 513 #[.val (.int kd), .val (.int vr), .val (.int cc)] [(.ref b1), (.ref b1)])) _
    refine XS.iconst X4.here hx rfl (hb hby d1_513) ?_
    show Steps p.tables e below (T4.setTop (mkF m 514 #[.val (.int kd), .val (.int vr), .val (.int cc)] [(.int (3 : Int32)), (.ref b1), (.ref b1)])) _
    refine XS.bipush X4.here hx rfl (hb hby d1_514) ?_
    show Steps p.tables e below (T4.setTop (mkF m 516 #[.val (.int kd), .val (.int vr), .val (.int cc)] [(.int (82 : Int32)), (.int (3 : Int32)), (.ref b1), (.ref b1)])) _
    refine st5 _ ?_
    show Steps p.tables e below (T5.setTop (mkF m 517 #[.val (.int kd), .val (.int vr), .val (.int cc)] [(.ref b1)])) _
    refine XS.dup X5.here hx rfl (hb hby d1_517) rfl rfl ?_
    show Steps p.tables e below (T5.setTop (mkF m 518 #[.val (.int kd), .val (.int vr), .val (.int cc)] [(.ref b1), (.ref b1)])) _
    refine XS.iconst X5.here hx rfl (hb hby d1_518) ?_
    show Steps p.tables e below (T5.setTop (mkF m 519 #[.val (.int kd), .val (.int vr), .val (.int cc)] [(.int (4 : Int32)), (.ref b1), (.ref b1)])) _
    refine XS.bipush X5.here hx rfl (hb hby d1_519) ?_
    show Steps p.tables e below (T5.setTop (mkF m 521 #[.val (.int kd), .val (.int vr), .val (.int cc)] [(.int (79 : Int32)), (.int (4 : Int32)), (.ref b1), (.ref b1)])) _
    refine st6 _ ?_
    show Steps p.tables e below (T6.setTop (mkF m 522 #[.val (.int kd), .val (.int vr), .val (.int cc)] [(.ref b1)])) _
    refine XS.dup X6.here hx rfl (hb hby d1_522) rfl rfl ?_
    show Steps p.tables e below (T6.setTop (mkF m 523 #[.val (.int kd), .val (.int vr), .val (.int cc)] [(.ref b1), (.ref b1)])) _
    refine XS.iconst X6.here hx rfl (hb hby d1_523) ?_
    show Steps p.tables e below (T6.setTop (mkF m 524 #[.val (.int kd), .val (.int vr), .val (.int cc)] [(.int (5 : Int32)), (.ref b1), (.ref b1)])) _
    refine XS.bipush X6.here hx rfl (hb hby d1_524) ?_
    show Steps p.tables e below (T6.setTop (mkF m 526 #[.val (.int kd), .val (.int vr), .val (.int cc)] [(.int (87 : Int32)), (.int (5 : Int32)), (.ref b1), (.ref b1)])) _
    refine st7 _ ?_
    show Steps p.tables e below (T7.setTop (mkF m 527 #[.val (.int kd), .val (.int vr), .val (.int cc)] [(.ref b1)])) _
    refine XS.dup X7.here hx rfl (hb hby d1_527) rfl rfl ?_
    show Steps p.tables e below (T7.setTop (mkF m 528 #[.val (.int kd), .val (.int vr), .val (.int cc)] [(.ref b1), (.ref b1)])) _
    refine XS.bipush X7.here hx rfl (hb hby d1_528) ?_
    show Steps p.tables e below (T7.setTop (mkF m 530 #[.val (.int kd), .val (.int vr), .val (.int cc)] [(.int (6 : Int32)), (.ref b1), (.ref b1)])) _
    refine XS.bipush X7.here hx rfl (hb hby d1_530) ?_
    show Steps p.tables e below (T7.setTop (mkF m 532 #[.val (.int kd), .val (.int vr), .val (.int cc)] [(.int (73 : Int32)), (.int (6 : Int32)), (.ref b1), (.ref b1)])) _
    refine st8 _ ?_
    show Steps p.tables e below (T8.setTop (mkF m 533 #[.val (.int kd), .val (.int vr), .val (.int cc)] [(.ref b1)])) _
    refine XS.dup X8.here hx rfl (hb hby d1_533) rfl rfl ?_
    show Steps p.tables e below (T8.setTop (mkF m 534 #[.val (.int kd), .val (.int vr), .val (.int cc)] [(.ref b1), (.ref b1)])) _
    refine XS.bipush X8.here hx rfl (hb hby d1_534) ?_
    show Steps p.tables e below (T8.setTop (mkF m 536 #[.val (.int kd), .val (.int vr), .val (.int cc)] [(.int (7 : Int32)), (.ref b1), (.ref b1)])) _
    refine XS.bipush X8.here hx rfl (hb hby d1_536) ?_
    show Steps p.tables e below (T8.setTop (mkF m 538 #[.val (.int kd), .val (.int vr), .val (.int cc)] [(.int (78 : Int32)), (.int (7 : Int32)), (.ref b1), (.ref b1)])) _
    refine st9 _ ?_
    show Steps p.tables e below (T9.setTop (mkF m 539 #[.val (.int kd), .val (.int vr), .val (.int cc)] [(.ref b1)])) _
    refine XS.dup X9.here hx rfl (hb hby d1_539) rfl rfl ?_
    show Steps p.tables e below (T9.setTop (mkF m 540 #[.val (.int kd), .val (.int vr), .val (.int cc)] [(.ref b1), (.ref b1)])) _
    refine XS.bipush X9.here hx rfl (hb hby d1_540) ?_
    show Steps p.tables e below (T9.setTop (mkF m 542 #[.val (.int kd), .val (.int vr), .val (.int cc)] [(.int (8 : Int32)), (.ref b1), (.ref b1)])) _
    refine XS.bipush X9.here hx rfl (hb hby d1_542) ?_
    show Steps p.tables e below (T9.setTop (mkF m 544 #[.val (.int kd), .val (.int vr), .val (.int cc)] [(.int (71 : Int32)), (.int (8 : Int32)), (.ref b1), (.ref b1)])) _
    refine st10 _ ?_
    show Steps p.tables e below (T10.setTop (mkF m 545 #[.val (.int kd), .val (.int vr), .val (.int cc)] [(.ref b1)])) _
    refine XS.dup X10.here hx rfl (hb hby d1_545) rfl rfl ?_
    show Steps p.tables e below (T10.setTop (mkF m 546 #[.val (.int kd), .val (.int vr), .val (.int cc)] [(.ref b1), (.ref b1)])) _
    refine XS.bipush X10.here hx rfl (hb hby d1_546) ?_
    show Steps p.tables e below (T10.setTop (mkF m 548 #[.val (.int kd), .val (.int vr), .val (.int cc)] [(.int (9 : Int32)), (.ref b1), (.ref b1)])) _
    refine XS.bipush X10.here hx rfl (hb hby d1_548) ?_
    show Steps p.tables e below (T10.setTop (mkF m 550 #[.val (.int kd), .val (.int vr), .val (.int cc)] [(.int (45 : Int32)), (.int (9 : Int32)), (.ref b1), (.ref b1)])) _
    refine st11 _ ?_
    show Steps p.tables e below (T11.setTop (mkF m 551 #[.val (.int kd), .val (.int vr), .val (.int cc)] [(.ref b1)])) _
    refine XS.dup X11.here hx rfl (hb hby d1_551) rfl rfl ?_
    show Steps p.tables e below (T11.setTop (mkF m 552 #[.val (.int kd), .val (.int vr), .val (.int cc)] [(.ref b1), (.ref b1)])) _
    refine XS.bipush X11.here hx rfl (hb hby d1_552) ?_
    show Steps p.tables e below (T11.setTop (mkF m 554 #[.val (.int kd), .val (.int vr), .val (.int cc)] [(.int (10 : Int32)), (.ref b1), (.ref b1)])) _
    refine XS.bipush X11.here hx rfl (hb hby d1_554) ?_
    show Steps p.tables e below (T11.setTop (mkF m 556 #[.val (.int kd), .val (.int vr), .val (.int cc)] [(.int (80 : Int32)), (.int (10 : Int32)), (.ref b1), (.ref b1)])) _
    refine st12 _ ?_
    show Steps p.tables e below (T12.setTop (mkF m 557 #[.val (.int kd), .val (.int vr), .val (.int cc)] [(.ref b1)])) _
    refine XS.dup X12.here hx rfl (hb hby d1_557) rfl rfl ?_
    show Steps p.tables e below (T12.setTop (mkF m 558 #[.val (.int kd), .val (.int vr), .val (.int cc)] [(.ref b1), (.ref b1)])) _
    refine XS.bipush X12.here hx rfl (hb hby d1_558) ?_
    show Steps p.tables e below (T12.setTop (mkF m 560 #[.val (.int kd), .val (.int vr), .val (.int cc)] [(.int (11 : Int32)), (.ref b1), (.ref b1)])) _
    refine XS.bipush X12.here hx rfl (hb hby d1_560) ?_
    show Steps p.tables e below (T12.setTop (mkF m 562 #[.val (.int kd), .val (.int vr), .val (.int cc)] [(.int (73 : Int32)), (.int (11 : Int32)), (.ref b1), (.ref b1)])) _
    refine st13 _ ?_
    show Steps p.tables e below (T13.setTop (mkF m 563 #[.val (.int kd), .val (.int vr), .val (.int cc)] [(.ref b1)])) _
    refine XS.dup X13.here hx rfl (hb hby d1_563) rfl rfl ?_
    show Steps p.tables e below (T13.setTop (mkF m 564 #[.val (.int kd), .val (.int vr), .val (.int cc)] [(.ref b1), (.ref b1)])) _
    refine XS.bipush X13.here hx rfl (hb hby d1_564) ?_
    show Steps p.tables e below (T13.setTop (mkF m 566 #[.val (.int kd), .val (.int vr), .val (.int cc)] [(.int (12 : Int32)), (.ref b1), (.ref b1)])) _
    refine XS.bipush X13.here hx rfl (hb hby d1_566) ?_
    show Steps p.tables e below (T13.setTop (mkF m 568 #[.val (.int kd), .val (.int vr), .val (.int cc)] [(.int (67 : Int32)), (.int (12 : Int32)), (.ref b1), (.ref b1)])) _
    refine st14 _ ?_
    show Steps p.tables e below (T14.setTop (mkF m 569 #[.val (.int kd), .val (.int vr), .val (.int cc)] [(.ref b1)])) _
    refine XS.dup X14.here hx rfl (hb hby d1_569) rfl rfl ?_
    show Steps p.tables e below (T14.setTop (mkF m 570 #[.val (.int kd), .val (.int vr), .val (.int cc)] [(.ref b1), (.ref b1)])) _
    refine XS.bipush X14.here hx rfl (hb hby d1_570) ?_
    show Steps p.tables e below (T14.setTop (mkF m 572 #[.val (.int kd), .val (.int vr), .val (.int cc)] [(.int (13 : Int32)), (.ref b1), (.ref b1)])) _
    refine XS.bipush X14.here hx rfl (hb hby d1_572) ?_
    show Steps p.tables e below (T14.setTop (mkF m 574 #[.val (.int kd), .val (.int vr), .val (.int cc)] [(.int (75 : Int32)), (.int (13 : Int32)), (.ref b1), (.ref b1)])) _
    refine st15 _ ?_
    show Steps p.tables e below (T15.setTop (mkF m 575 #[.val (.int kd), .val (.int vr), .val (.int cc)] [(.ref b1)])) _
    refine XS.dup X15.here hx rfl (hb hby d1_575) rfl rfl ?_
    show Steps p.tables e below (T15.setTop (mkF m 576 #[.val (.int kd), .val (.int vr), .val (.int cc)] [(.ref b1), (.ref b1)])) _
    refine XS.bipush X15.here hx rfl (hb hby d1_576) ?_
    show Steps p.tables e below (T15.setTop (mkF m 578 #[.val (.int kd), .val (.int vr), .val (.int cc)] [(.int (14 : Int32)), (.ref b1), (.ref b1)])) _
    refine XS.bipush X15.here hx rfl (hb hby d1_578) ?_
    show Steps p.tables e below (T15.setTop (mkF m 580 #[.val (.int kd), .val (.int vr), .val (.int cc)] [(.int (85 : Int32)), (.int (14 : Int32)), (.ref b1), (.ref b1)])) _
    refine st16 _ ?_
    show Steps p.tables e below (T16.setTop (mkF m 581 #[.val (.int kd), .val (.int vr), .val (.int cc)] [(.ref b1)])) _
    refine XS.dup X16.here hx rfl (hb hby d1_581) rfl rfl ?_
    show Steps p.tables e below (T16.setTop (mkF m 582 #[.val (.int kd), .val (.int vr), .val (.int cc)] [(.ref b1), (.ref b1)])) _
    refine XS.bipush X16.here hx rfl (hb hby d1_582) ?_
    show Steps p.tables e below (T16.setTop (mkF m 584 #[.val (.int kd), .val (.int vr), .val (.int cc)] [(.int (15 : Int32)), (.ref b1), (.ref b1)])) _
    refine XS.bipush X16.here hx rfl (hb hby d1_584) ?_
    show Steps p.tables e below (T16.setTop (mkF m 586 #[.val (.int kd), .val (.int vr), .val (.int cc)] [(.int (80 : Int32)), (.int (15 : Int32)), (.ref b1), (.ref b1)])) _
    refine st17 _ ?_
    show Steps p.tables e below (T17.setTop (mkF m 587 #[.val (.int kd), .val (.int vr), .val (.int cc)] [(.ref b1)])) _
    refine XS.dup X17.here hx rfl (hb hby d1_587) rfl rfl ?_
    show Steps p.tables e below (T17.setTop (mkF m 588 #[.val (.int kd), .val (.int vr), .val (.int cc)] [(.ref b1), (.ref b1)])) _
    refine XS.bipush X17.here hx rfl (hb hby d1_588) ?_
    show Steps p.tables e below (T17.setTop (mkF m 590 #[.val (.int kd), .val (.int vr), .val (.int cc)] [(.int (16 : Int32)), (.ref b1), (.ref b1)])) _
    refine XS.iloadN X17.here hx rfl (hb hby d1_590) rfl ?_
    show Steps p.tables e below (T17.setTop (mkF m 591 #[.val (.int kd), .val (.int vr), .val (.int cc)] [(.int cc), (.int (16 : Int32)), (.ref b1), (.ref b1)])) _
    refine st18 _ ?_
    show Steps p.tables e below (T18.setTop (mkF m 592 #[.val (.int kd), .val (.int vr), .val (.int cc)] [(.ref b1)])) _
    exact retOut X18 hx Bd.returns rfl (Or.inr (Or.inr (Or.inr (Or.inr ⟨rfl, rfl, rfl⟩)))) (hb hby d1_592) hr
  · show Qd10 Z kd vr cc h0 n0 _ T18.heap _
    rw [e18]
    exact ⟨b1, k1, ([(nar .char (66 : Int32)), (nar .char (79 : Int32)), (nar .char (82 : Int32)), (nar .char (82 : Int32)), (nar .char (79 : Int32)), (nar .char (87 : Int32)), (nar .char (73 : Int32)), (nar .char (78 : Int32)), (nar .char (71 : Int32)), (nar .char (45 : Int32)), (nar .char (80 : Int32)), (nar .char (73 : Int32)), (nar .char (67 : Int32)), (nar .char (75 : Int32)), (nar .char (85 : Int32)), (nar .char (80 : Int32)), (nar .char cc)] : List Int32), rfl, N18, K18, g_b1, V18, hgood, Nat.succ_ne_zero _⟩
theorem d1_593 : decode method_5_code 593 = .ok (.bipush 15, 2) := by decide +kernel
theorem d1_595 : decode method_5_code 595 = .ok (.newarray .char, 2) := by decide +kernel
theorem d1_597 : decode method_5_code 597 = .ok (.dup, 1) := by decide +kernel
theorem d1_598 : decode method_5_code 598 = .ok (.iconst 0, 1) := by decide +kernel
theorem d1_599 : decode method_5_code 599 = .ok (.bipush 66, 2) := by decide +kernel
theorem d1_601 : decode method_5_code 601 = .ok (.castore, 1) := by decide +kernel
theorem d1_602 : decode method_5_code 602 = .ok (.dup, 1) := by decide +kernel
theorem d1_603 : decode method_5_code 603 = .ok (.iconst 1, 1) := by decide +kernel
theorem d1_604 : decode method_5_code 604 = .ok (.bipush 79, 2) := by decide +kernel
theorem d1_606 : decode method_5_code 606 = .ok (.castore, 1) := by decide +kernel
theorem d1_607 : decode method_5_code 607 = .ok (.dup, 1) := by decide +kernel
theorem d1_608 : decode method_5_code 608 = .ok (.iconst 2, 1) := by decide +kernel
theorem d1_609 : decode method_5_code 609 = .ok (.bipush 82, 2) := by decide +kernel
theorem d1_611 : decode method_5_code 611 = .ok (.castore, 1) := by decide +kernel
theorem d1_612 : decode method_5_code 612 = .ok (.dup, 1) := by decide +kernel
theorem d1_613 : decode method_5_code 613 = .ok (.iconst 3, 1) := by decide +kernel
theorem d1_614 : decode method_5_code 614 = .ok (.bipush 82, 2) := by decide +kernel
theorem d1_616 : decode method_5_code 616 = .ok (.castore, 1) := by decide +kernel
theorem d1_617 : decode method_5_code 617 = .ok (.dup, 1) := by decide +kernel
theorem d1_618 : decode method_5_code 618 = .ok (.iconst 4, 1) := by decide +kernel
theorem d1_619 : decode method_5_code 619 = .ok (.bipush 79, 2) := by decide +kernel
theorem d1_621 : decode method_5_code 621 = .ok (.castore, 1) := by decide +kernel
theorem d1_622 : decode method_5_code 622 = .ok (.dup, 1) := by decide +kernel
theorem d1_623 : decode method_5_code 623 = .ok (.iconst 5, 1) := by decide +kernel
theorem d1_624 : decode method_5_code 624 = .ok (.bipush 87, 2) := by decide +kernel
theorem d1_626 : decode method_5_code 626 = .ok (.castore, 1) := by decide +kernel
theorem d1_627 : decode method_5_code 627 = .ok (.dup, 1) := by decide +kernel
theorem d1_628 : decode method_5_code 628 = .ok (.bipush 6, 2) := by decide +kernel
theorem d1_630 : decode method_5_code 630 = .ok (.bipush 73, 2) := by decide +kernel
theorem d1_632 : decode method_5_code 632 = .ok (.castore, 1) := by decide +kernel
theorem d1_633 : decode method_5_code 633 = .ok (.dup, 1) := by decide +kernel
theorem d1_634 : decode method_5_code 634 = .ok (.bipush 7, 2) := by decide +kernel
theorem d1_636 : decode method_5_code 636 = .ok (.bipush 78, 2) := by decide +kernel
theorem d1_638 : decode method_5_code 638 = .ok (.castore, 1) := by decide +kernel
theorem d1_639 : decode method_5_code 639 = .ok (.dup, 1) := by decide +kernel
theorem d1_640 : decode method_5_code 640 = .ok (.bipush 8, 2) := by decide +kernel
theorem d1_642 : decode method_5_code 642 = .ok (.bipush 71, 2) := by decide +kernel
theorem d1_644 : decode method_5_code 644 = .ok (.castore, 1) := by decide +kernel
theorem d1_645 : decode method_5_code 645 = .ok (.dup, 1) := by decide +kernel
theorem d1_646 : decode method_5_code 646 = .ok (.bipush 9, 2) := by decide +kernel
theorem d1_648 : decode method_5_code 648 = .ok (.bipush 45, 2) := by decide +kernel
theorem d1_650 : decode method_5_code 650 = .ok (.castore, 1) := by decide +kernel
theorem d1_651 : decode method_5_code 651 = .ok (.dup, 1) := by decide +kernel
theorem d1_652 : decode method_5_code 652 = .ok (.bipush 10, 2) := by decide +kernel
theorem d1_654 : decode method_5_code 654 = .ok (.bipush 80, 2) := by decide +kernel
theorem d1_656 : decode method_5_code 656 = .ok (.castore, 1) := by decide +kernel
theorem d1_657 : decode method_5_code 657 = .ok (.dup, 1) := by decide +kernel
theorem d1_658 : decode method_5_code 658 = .ok (.bipush 11, 2) := by decide +kernel
theorem d1_660 : decode method_5_code 660 = .ok (.bipush 73, 2) := by decide +kernel
theorem d1_662 : decode method_5_code 662 = .ok (.castore, 1) := by decide +kernel
theorem d1_663 : decode method_5_code 663 = .ok (.dup, 1) := by decide +kernel
theorem d1_664 : decode method_5_code 664 = .ok (.bipush 12, 2) := by decide +kernel
theorem d1_666 : decode method_5_code 666 = .ok (.bipush 67, 2) := by decide +kernel
theorem d1_668 : decode method_5_code 668 = .ok (.castore, 1) := by decide +kernel
theorem d1_669 : decode method_5_code 669 = .ok (.dup, 1) := by decide +kernel
theorem d1_670 : decode method_5_code 670 = .ok (.bipush 13, 2) := by decide +kernel
theorem d1_672 : decode method_5_code 672 = .ok (.bipush 75, 2) := by decide +kernel
theorem d1_674 : decode method_5_code 674 = .ok (.castore, 1) := by decide +kernel
theorem d1_675 : decode method_5_code 675 = .ok (.dup, 1) := by decide +kernel
theorem d1_676 : decode method_5_code 676 = .ok (.bipush 14, 2) := by decide +kernel
theorem d1_678 : decode method_5_code 678 = .ok (.bipush 85, 2) := by decide +kernel
theorem d1_680 : decode method_5_code 680 = .ok (.castore, 1) := by decide +kernel
theorem d1_681 : decode method_5_code 681 = .ok (.areturn, 1) := by decide +kernel
set_option maxRecDepth 65536 in
set_option maxHeartbeats 40000000 in
theorem rmN32 (l : Launch) (Z : State) (a0 : Array Value) (hw : ∀ d ∈ tables_1, d.before a0 Z = true) (ws : List Jvm.Cond) (kd vr cc : Int32) (h0 : Heap) (n0 : Nat) (O0 : Old Z n0 h0) (hcc : ¬ nar .char cc < 0 ∧ ¬ (255 : Int32) < nar .char cc) (hc1 : ¬ (kd = (0 : Int32))) (hc119 : ¬ (kd = (1 : Int32))) (hc273 : ¬ (kd = (2 : Int32))) (hc390 : ¬ (vr = (0 : Int32))) (hc490 : ¬ (vr = (1 : Int32))) :
    MetFree l (⟨"com/example/lendloop/lendloop/core/TransactionRoleFromWireNamePinLaw", "named", "(IIC)[C"⟩ : MethodName) (head1 (Jvm.Cond.code (⟨"com/example/lendloop/lendloop/core/TransactionRoleFromWireNamePinLaw", "named", "(IIC)[C"⟩ : MethodName) method_5_code 3 (some (.array .char)) :: ws) ({ frames := 0, cells := 1, slots := 17, locals := 0 } : Room)) (fun qq U => qq = #[(.int kd), (.int vr), (.int cc)] ∧ Z.Warmed39 U.vm ∧ U.heap = h0) (fun _ _ _ _ _ => True) (fun _ UU oo UU' => ∃ vv LL, oo = .returned vv ∧ Qd10 Z kd vr cc h0 n0 vv UU'.heap LL ∧ FrameEnd UU oo UU' LL ({ frames := 0, cells := 1, slots := 17, locals := 0 } : Room).cells ({ frames := 0, cells := 1, slots := 17, locals := 0 } : Room).slots) := by
  refine MetFree.of_bodySF (plainFor_of_name pn_1) hisR ?_
  intro p e s m args below meth c s₁ Bd hml0 hP hK
  obtain ⟨rfl, hZ, hh⟩ := hP
  have hx := Bd.exec
  have hby := Bd.bytes
  have hml : c.maxLocals = 3 := hml0
  have hown : s.vm.findClass "com/example/lendloop/lendloop/core/TransactionRoleFromWireNamePinLaw" = some m.cls := findClass_of_methodNamed Bd.named
  have hnm := (name_of_methodNamed Bd.named Bd.method).1
  have X0 : Stand p l e ({ frames := 0, cells := 1, slots := 17, locals := 0 } : Room) s m #[(.int kd), (.int vr), (.int cc)] below meth c s₁ [] 0 0 := Stand.of_body Bd
  have e0 : s₁.heap = h0 := by rw [← hh, Bd.state]; rfl
  have N0 := Fr.nil n0
  have pre0 : ∀ tgt, Steps p.tables e below (s₁.setTop (mkF m 0 #[.val (.int kd), .val (.int vr), .val (.int cc)] [])) tgt → Steps p.tables e below (s₁.setTop (entryFrame m #[(.int kd), (.int vr), (.int cc)] 3)) tgt := fun tt kk => castTop (ef_1 m kd vr cc) kk
  obtain ⟨T1, h1, k1, X1, e1, E1, A1, st1⟩ := newP X0 hx hZ (ww hw 4 rfl) e0 (g := (mkF m 595 #[.val (.int kd), .val (.int vr), .val (.int cc)] [(.int (15 : Int32))])) rfl (hb hby d1_595) rfl (by decide) (cap := 15) (by decide) (by decide) (by decide) (by decide)
  obtain ⟨b1, q1⟩ : ∃ z, z = h0.size := ⟨_, rfl⟩
  rw [← q1] at A1 st1
  have g_b1 : n0 ≤ b1 := by rw [q1]; exact (O0).1 ▸ (O0).2.1
  have sz_b1 : h0.size ≤ b1 := by rw [q1]; exact ((Keep.refl h0 [])).1
  have O1 := Old.ext O0 E1
  have K1 := Keep.ext (Keep.refl h0 []) E1
  have V1 : Arv Z h1 b1 k1 .char (15 : Int32) [] (.int (0 : Int32)) := Arv.new A1 (by decide)
  obtain ⟨T2, h2, X2, e2, W2, V2, st2⟩ := own_putC X1 hx hZ e1 V1 (j := (0 : Int32)) rfl (by decide) (Nat.le_of_ble_eq_true rfl) (g := (mkF m 601 #[.val (.int kd), .val (.int vr), .val (.int cc)] [(.int (66 : Int32)), (.int (0 : Int32)), (.ref b1), (.ref b1)])) rfl rfl (hb hby d1_601)
  have N2 := Fr.snoc X2 N0 g_b1
  have O2 := Old.wr O1 W2 g_b1
  have K2 := Keep.wr K1 W2 (Or.inr sz_b1)
  obtain ⟨T3, h3, X3, e3, W3, V3, st3⟩ := own_putC X2 hx hZ e2 V2 (j := (1 : Int32)) rfl (by decide) (Nat.le_of_ble_eq_true rfl) (g := (mkF m 606 #[.val (.int kd), .val (.int vr), .val (.int cc)] [(.int (79 : Int32)), (.int (1 : Int32)), (.ref b1), (.ref b1)])) rfl rfl (hb hby d1_606)
  have N3 := Fr.snoc X3 N2 g_b1
  have O3 := Old.wr O2 W3 g_b1
  have K3 := Keep.wr K2 W3 (Or.inr sz_b1)
  obtain ⟨T4, h4, X4, e4, W4, V4, st4⟩ := own_putC X3 hx hZ e3 V3 (j := (2 : Int32)) rfl (by decide) (Nat.le_of_ble_eq_true rfl) (g := (mkF m 611 #[.val (.int kd), .val (.int vr), .val (.int cc)] [(.int (82 : Int32)), (.int (2 : Int32)), (.ref b1), (.ref b1)])) rfl rfl (hb hby d1_611)
  have N4 := Fr.snoc X4 N3 g_b1
  have O4 := Old.wr O3 W4 g_b1
  have K4 := Keep.wr K3 W4 (Or.inr sz_b1)
  obtain ⟨T5, h5, X5, e5, W5, V5, st5⟩ := own_putC X4 hx hZ e4 V4 (j := (3 : Int32)) rfl (by decide) (Nat.le_of_ble_eq_true rfl) (g := (mkF m 616 #[.val (.int kd), .val (.int vr), .val (.int cc)] [(.int (82 : Int32)), (.int (3 : Int32)), (.ref b1), (.ref b1)])) rfl rfl (hb hby d1_616)
  have N5 := Fr.snoc X5 N4 g_b1
  have O5 := Old.wr O4 W5 g_b1
  have K5 := Keep.wr K4 W5 (Or.inr sz_b1)
  obtain ⟨T6, h6, X6, e6, W6, V6, st6⟩ := own_putC X5 hx hZ e5 V5 (j := (4 : Int32)) rfl (by decide) (Nat.le_of_ble_eq_true rfl) (g := (mkF m 621 #[.val (.int kd), .val (.int vr), .val (.int cc)] [(.int (79 : Int32)), (.int (4 : Int32)), (.ref b1), (.ref b1)])) rfl rfl (hb hby d1_621)
  have N6 := Fr.snoc X6 N5 g_b1
  have O6 := Old.wr O5 W6 g_b1
  have K6 := Keep.wr K5 W6 (Or.inr sz_b1)
  obtain ⟨T7, h7, X7, e7, W7, V7, st7⟩ := own_putC X6 hx hZ e6 V6 (j := (5 : Int32)) rfl (by decide) (Nat.le_of_ble_eq_true rfl) (g := (mkF m 626 #[.val (.int kd), .val (.int vr), .val (.int cc)] [(.int (87 : Int32)), (.int (5 : Int32)), (.ref b1), (.ref b1)])) rfl rfl (hb hby d1_626)
  have N7 := Fr.snoc X7 N6 g_b1
  have O7 := Old.wr O6 W7 g_b1
  have K7 := Keep.wr K6 W7 (Or.inr sz_b1)
  obtain ⟨T8, h8, X8, e8, W8, V8, st8⟩ := own_putC X7 hx hZ e7 V7 (j := (6 : Int32)) rfl (by decide) (Nat.le_of_ble_eq_true rfl) (g := (mkF m 632 #[.val (.int kd), .val (.int vr), .val (.int cc)] [(.int (73 : Int32)), (.int (6 : Int32)), (.ref b1), (.ref b1)])) rfl rfl (hb hby d1_632)
  have N8 := Fr.snoc X8 N7 g_b1
  have O8 := Old.wr O7 W8 g_b1
  have K8 := Keep.wr K7 W8 (Or.inr sz_b1)
  obtain ⟨T9, h9, X9, e9, W9, V9, st9⟩ := own_putC X8 hx hZ e8 V8 (j := (7 : Int32)) rfl (by decide) (Nat.le_of_ble_eq_true rfl) (g := (mkF m 638 #[.val (.int kd), .val (.int vr), .val (.int cc)] [(.int (78 : Int32)), (.int (7 : Int32)), (.ref b1), (.ref b1)])) rfl rfl (hb hby d1_638)
  have N9 := Fr.snoc X9 N8 g_b1
  have O9 := Old.wr O8 W9 g_b1
  have K9 := Keep.wr K8 W9 (Or.inr sz_b1)
  obtain ⟨T10, h10, X10, e10, W10, V10, st10⟩ := own_putC X9 hx hZ e9 V9 (j := (8 : Int32)) rfl (by decide) (Nat.le_of_ble_eq_true rfl) (g := (mkF m 644 #[.val (.int kd), .val (.int vr), .val (.int cc)] [(.int (71 : Int32)), (.int (8 : Int32)), (.ref b1), (.ref b1)])) rfl rfl (hb hby d1_644)
  have N10 := Fr.snoc X10 N9 g_b1
  have O10 := Old.wr O9 W10 g_b1
  have K10 := Keep.wr K9 W10 (Or.inr sz_b1)
  obtain ⟨T11, h11, X11, e11, W11, V11, st11⟩ := own_putC X10 hx hZ e10 V10 (j := (9 : Int32)) rfl (by decide) (Nat.le_of_ble_eq_true rfl) (g := (mkF m 650 #[.val (.int kd), .val (.int vr), .val (.int cc)] [(.int (45 : Int32)), (.int (9 : Int32)), (.ref b1), (.ref b1)])) rfl rfl (hb hby d1_650)
  have N11 := Fr.snoc X11 N10 g_b1
  have O11 := Old.wr O10 W11 g_b1
  have K11 := Keep.wr K10 W11 (Or.inr sz_b1)
  obtain ⟨T12, h12, X12, e12, W12, V12, st12⟩ := own_putC X11 hx hZ e11 V11 (j := (10 : Int32)) rfl (by decide) (Nat.le_of_ble_eq_true rfl) (g := (mkF m 656 #[.val (.int kd), .val (.int vr), .val (.int cc)] [(.int (80 : Int32)), (.int (10 : Int32)), (.ref b1), (.ref b1)])) rfl rfl (hb hby d1_656)
  have N12 := Fr.snoc X12 N11 g_b1
  have O12 := Old.wr O11 W12 g_b1
  have K12 := Keep.wr K11 W12 (Or.inr sz_b1)
  obtain ⟨T13, h13, X13, e13, W13, V13, st13⟩ := own_putC X12 hx hZ e12 V12 (j := (11 : Int32)) rfl (by decide) (Nat.le_of_ble_eq_true rfl) (g := (mkF m 662 #[.val (.int kd), .val (.int vr), .val (.int cc)] [(.int (73 : Int32)), (.int (11 : Int32)), (.ref b1), (.ref b1)])) rfl rfl (hb hby d1_662)
  have N13 := Fr.snoc X13 N12 g_b1
  have O13 := Old.wr O12 W13 g_b1
  have K13 := Keep.wr K12 W13 (Or.inr sz_b1)
  obtain ⟨T14, h14, X14, e14, W14, V14, st14⟩ := own_putC X13 hx hZ e13 V13 (j := (12 : Int32)) rfl (by decide) (Nat.le_of_ble_eq_true rfl) (g := (mkF m 668 #[.val (.int kd), .val (.int vr), .val (.int cc)] [(.int (67 : Int32)), (.int (12 : Int32)), (.ref b1), (.ref b1)])) rfl rfl (hb hby d1_668)
  have N14 := Fr.snoc X14 N13 g_b1
  have O14 := Old.wr O13 W14 g_b1
  have K14 := Keep.wr K13 W14 (Or.inr sz_b1)
  obtain ⟨T15, h15, X15, e15, W15, V15, st15⟩ := own_putC X14 hx hZ e14 V14 (j := (13 : Int32)) rfl (by decide) (Nat.le_of_ble_eq_true rfl) (g := (mkF m 674 #[.val (.int kd), .val (.int vr), .val (.int cc)] [(.int (75 : Int32)), (.int (13 : Int32)), (.ref b1), (.ref b1)])) rfl rfl (hb hby d1_674)
  have N15 := Fr.snoc X15 N14 g_b1
  have O15 := Old.wr O14 W15 g_b1
  have K15 := Keep.wr K14 W15 (Or.inr sz_b1)
  obtain ⟨T16, h16, X16, e16, W16, V16, st16⟩ := own_putC X15 hx hZ e15 V15 (j := (14 : Int32)) rfl (by decide) (Nat.le_of_ble_eq_true rfl) (g := (mkF m 680 #[.val (.int kd), .val (.int vr), .val (.int cc)] [(.int (85 : Int32)), (.int (14 : Int32)), (.ref b1), (.ref b1)])) rfl rfl (hb hby d1_680)
  have N16 := Fr.snoc X16 N15 g_b1
  have O16 := Old.wr O15 W16 g_b1
  have K16 := Keep.wr K15 W16 (Or.inr sz_b1)
  have hgood : own_good ([(nar .char (66 : Int32)), (nar .char (79 : Int32)), (nar .char (82 : Int32)), (nar .char (82 : Int32)), (nar .char (79 : Int32)), (nar .char (87 : Int32)), (nar .char (73 : Int32)), (nar .char (78 : Int32)), (nar .char (71 : Int32)), (nar .char (45 : Int32)), (nar .char (80 : Int32)), (nar .char (73 : Int32)), (nar .char (67 : Int32)), (nar .char (75 : Int32)), (nar .char (85 : Int32))] : List Int32) := ⟨Nat.le_of_ble_eq_true rfl, by
    intro x hx
    simp only [List.mem_cons, List.not_mem_nil, or_false] at hx
    rcases hx with rfl | rfl | rfl | rfl | rfl | rfl | rfl | rfl | rfl | rfl | rfl | rfl | rfl | rfl | rfl
    all_goals first | exact hcc | decide⟩
  obtain ⟨fs, hr, hrun, hended, hW, hsame⟩ := X16.leave (v := some (.ref b1)) (fun h => by rw [Bd.returns] at h; cases h)
  refine ⟨_, _, pre0 _ ?_, hrun, hended, _, _, rfl, ?_, ⟨_, rfl⟩, hW, hsame.mono (by decide) (by decide)⟩
  · show Steps p.tables e below (s₁.setTop (mkF m 0 #[.val (.int kd), .val (.int vr), .val (.int cc)] [])) _
    refine XS.iloadN X0.here hx rfl (hb hby d1_0) rfl ?_
    show Steps p.tables e below (s₁.setTop (mkF m 1 #[.val (.int kd), .val (.int vr), .val (.int cc)] [(.int kd)])) _
    refine XS.ifYes X0.here hx rfl (pc0 := 1) (pc' := 117) rfl (hb hby d1_1) rfl ((if0 _ _).trans (feq hc1).2) (by decide) (by decide) ?_
    show Steps p.tables e below (s₁.setTop (mkF m 117 #[.val (.int kd), .val (.int vr), .val (.int cc)] [])) _
    refine XS.iloadN X0.here hx rfl (hb hby d1_117) rfl ?_
    show Steps p.tables e below (s₁.setTop (mkF m 118 #[.val (.int kd), .val (.int vr), .val (.int cc)] [(.int kd)])) _
    refine XS.iconst X0.here hx rfl (hb hby d1_118) ?_
    show Steps p.tables e below (s₁.setTop (mkF m 119 #[.val (.int kd), .val (.int vr), .val (.int cc)] [(.int (1 : Int32)), (.int kd)])) _
    refine XS.icmpYes X0.here hx rfl (pc0 := 119) (pc' := 271) rfl (hb hby d1_119) rfl (feq hc119).2 (by decide) (by decide) ?_
    show Steps p.tables e below (s₁.setTop (mkF m 271 #[.val (.int kd), .val (.int vr), .val (.int cc)] [])) _
    refine XS.iloadN X0.here hx rfl (hb hby d1_271) rfl ?_
    show Steps p.tables e below (s₁.setTop (mkF m 272 #[.val (.int kd), .val (.int vr), .val (.int cc)] [(.int kd)])) _
    refine XS.iconst X0.here hx rfl (hb hby d1_272) ?_
    show Steps p.tables e below (s₁.setTop (mkF m 273 #[.val (.int kd), .val (.int vr), .val (.int cc)] [(.int (2 : Int32)), (.int kd)])) _
    refine XS.icmpYes X0.here hx rfl (pc0 := 273) (pc' := 389) rfl (hb hby d1_273) rfl (feq hc273).2 (by decide) (by decide) ?_
    show Steps p.tables e below (s₁.setTop (mkF m 389 #[.val (.int kd), .val (.int vr), .val (.int cc)] [])) _
    refine XS.iloadN X0.here hx rfl (hb hby d1_389) rfl ?_
    show Steps p.tables e below (s₁.setTop (mkF m 390 #[.val (.int kd), .val (.int vr), .val (.int cc)] [(.int vr)])) _
    refine XS.ifYes X0.here hx rfl (pc0 := 390) (pc' := 488) rfl (hb hby d1_390) rfl ((if0 _ _).trans (feq hc390).2) (by decide) (by decide) ?_
    show Steps p.tables e below (s₁.setTop (mkF m 488 #[.val (.int kd), .val (.int vr), .val (.int cc)] [])) _
    refine XS.iloadN X0.here hx rfl (hb hby d1_488) rfl ?_
    show Steps p.tables e below (s₁.setTop (mkF m 489 #[.val (.int kd), .val (.int vr), .val (.int cc)] [(.int vr)])) _
    refine XS.iconst X0.here hx rfl (hb hby d1_489) ?_
    show Steps p.tables e below (s₁.setTop (mkF m 490 #[.val (.int kd), .val (.int vr), .val (.int cc)] [(.int (1 : Int32)), (.int vr)])) _
    refine XS.icmpYes X0.here hx rfl (pc0 := 490) (pc' := 593) rfl (hb hby d1_490) rfl (feq hc490).2 (by decide) (by decide) ?_
    show Steps p.tables e below (s₁.setTop (mkF m 593 #[.val (.int kd), .val (.int vr), .val (.int cc)] [])) _
    refine XS.bipush X0.here hx rfl (hb hby d1_593) ?_
    show Steps p.tables e below (s₁.setTop (mkF m 595 #[.val (.int kd), .val (.int vr), .val (.int cc)] [(.int (15 : Int32))])) _
    refine st1 _ ?_
    show Steps p.tables e below (T1.setTop (mkF m 597 #[.val (.int kd), .val (.int vr), .val (.int cc)] [(.ref b1)])) _
    refine XS.dup X1.here hx rfl (hb hby d1_597) rfl rfl ?_
    show Steps p.tables e below (T1.setTop (mkF m 598 #[.val (.int kd), .val (.int vr), .val (.int cc)] [(.ref b1), (.ref b1)])) _
    refine XS.iconst X1.here hx rfl (hb hby d1_598) ?_
    show Steps p.tables e below (T1.setTop (mkF m 599 #[.val (.int kd), .val (.int vr), .val (.int cc)] [(.int (0 : Int32)), (.ref b1), (.ref b1)])) _
    refine XS.bipush X1.here hx rfl (hb hby d1_599) ?_
    show Steps p.tables e below (T1.setTop (mkF m 601 #[.val (.int kd), .val (.int vr), .val (.int cc)] [(.int (66 : Int32)), (.int (0 : Int32)), (.ref b1), (.ref b1)])) _
    refine st2 _ ?_
    show Steps p.tables e below (T2.setTop (mkF m 602 #[.val (.int kd), .val (.int vr), .val (.int cc)] [(.ref b1)])) _
    refine XS.dup X2.here hx rfl (hb hby d1_602) rfl rfl ?_
    show Steps p.tables e below (T2.setTop (mkF m 603 #[.val (.int kd), .val (.int vr), .val (.int cc)] [(.ref b1), (.ref b1)])) _
    refine XS.iconst X2.here hx rfl (hb hby d1_603) ?_
    show Steps p.tables e below (T2.setTop (mkF m 604 #[.val (.int kd), .val (.int vr), .val (.int cc)] [(.int (1 : Int32)), (.ref b1), (.ref b1)])) _
    refine XS.bipush X2.here hx rfl (hb hby d1_604) ?_
    show Steps p.tables e below (T2.setTop (mkF m 606 #[.val (.int kd), .val (.int vr), .val (.int cc)] [(.int (79 : Int32)), (.int (1 : Int32)), (.ref b1), (.ref b1)])) _
    refine st3 _ ?_
    show Steps p.tables e below (T3.setTop (mkF m 607 #[.val (.int kd), .val (.int vr), .val (.int cc)] [(.ref b1)])) _
    refine XS.dup X3.here hx rfl (hb hby d1_607) rfl rfl ?_
    show Steps p.tables e below (T3.setTop (mkF m 608 #[.val (.int kd), .val (.int vr), .val (.int cc)] [(.ref b1), (.ref b1)])) _
    refine XS.iconst X3.here hx rfl (hb hby d1_608) ?_
    show Steps p.tables e below (T3.setTop (mkF m 609 #[.val (.int kd), .val (.int vr), .val (.int cc)] [(.int (2 : Int32)), (.ref b1), (.ref b1)])) _
    refine XS.bipush X3.here hx rfl (hb hby d1_609) ?_
    show Steps p.tables e below (T3.setTop (mkF m 611 #[.val (.int kd), .val (.int vr), .val (.int cc)] [(.int (82 : Int32)), (.int (2 : Int32)), (.ref b1), (.ref b1)])) _
    refine st4 _ ?_
    show Steps p.tables e below (T4.setTop (mkF m 612 #[.val (.int kd), .val (.int vr), .val (.int cc)] [(.ref b1)])) _
    refine XS.dup X4.here hx rfl (hb hby d1_612) rfl rfl ?_
    show Steps p.tables e below (T4.setTop (mkF m 613 #[.val (.int kd), .val (.int vr), .val (.int cc)] [(.ref b1), (.ref b1)])) _
    refine XS.iconst X4.here hx rfl (hb hby d1_613) ?_
    show Steps p.tables e below (T4.setTop (mkF m 614 #[.val (.int kd), .val (.int vr), .val (.int cc)] [(.int (3 : Int32)), (.ref b1), (.ref b1)])) _
    refine XS.bipush X4.here hx rfl (hb hby d1_614) ?_
    show Steps p.tables e below (T4.setTop (mkF m 616 #[.val (.int kd), .val (.int vr), .val (.int cc)] [(.int (82 : Int32)), (.int (3 : Int32)), (.ref b1), (.ref b1)])) _
    refine st5 _ ?_
    show Steps p.tables e below (T5.setTop (mkF m 617 #[.val (.int kd), .val (.int vr), .val (.int cc)] [(.ref b1)])) _
    refine XS.dup X5.here hx rfl (hb hby d1_617) rfl rfl ?_
    show Steps p.tables e below (T5.setTop (mkF m 618 #[.val (.int kd), .val (.int vr), .val (.int cc)] [(.ref b1), (.ref b1)])) _
    refine XS.iconst X5.here hx rfl (hb hby d1_618) ?_
    show Steps p.tables e below (T5.setTop (mkF m 619 #[.val (.int kd), .val (.int vr), .val (.int cc)] [(.int (4 : Int32)), (.ref b1), (.ref b1)])) _
    refine XS.bipush X5.here hx rfl (hb hby d1_619) ?_
    show Steps p.tables e below (T5.setTop (mkF m 621 #[.val (.int kd), .val (.int vr), .val (.int cc)] [(.int (79 : Int32)), (.int (4 : Int32)), (.ref b1), (.ref b1)])) _
    refine st6 _ ?_
    show Steps p.tables e below (T6.setTop (mkF m 622 #[.val (.int kd), .val (.int vr), .val (.int cc)] [(.ref b1)])) _
    refine XS.dup X6.here hx rfl (hb hby d1_622) rfl rfl ?_
    show Steps p.tables e below (T6.setTop (mkF m 623 #[.val (.int kd), .val (.int vr), .val (.int cc)] [(.ref b1), (.ref b1)])) _
    refine XS.iconst X6.here hx rfl (hb hby d1_623) ?_
    show Steps p.tables e below (T6.setTop (mkF m 624 #[.val (.int kd), .val (.int vr), .val (.int cc)] [(.int (5 : Int32)), (.ref b1), (.ref b1)])) _
    refine XS.bipush X6.here hx rfl (hb hby d1_624) ?_
    show Steps p.tables e below (T6.setTop (mkF m 626 #[.val (.int kd), .val (.int vr), .val (.int cc)] [(.int (87 : Int32)), (.int (5 : Int32)), (.ref b1), (.ref b1)])) _
    refine st7 _ ?_
    show Steps p.tables e below (T7.setTop (mkF m 627 #[.val (.int kd), .val (.int vr), .val (.int cc)] [(.ref b1)])) _
    refine XS.dup X7.here hx rfl (hb hby d1_627) rfl rfl ?_
    show Steps p.tables e below (T7.setTop (mkF m 628 #[.val (.int kd), .val (.int vr), .val (.int cc)] [(.ref b1), (.ref b1)])) _
    refine XS.bipush X7.here hx rfl (hb hby d1_628) ?_
    show Steps p.tables e below (T7.setTop (mkF m 630 #[.val (.int kd), .val (.int vr), .val (.int cc)] [(.int (6 : Int32)), (.ref b1), (.ref b1)])) _
    refine XS.bipush X7.here hx rfl (hb hby d1_630) ?_
    show Steps p.tables e below (T7.setTop (mkF m 632 #[.val (.int kd), .val (.int vr), .val (.int cc)] [(.int (73 : Int32)), (.int (6 : Int32)), (.ref b1), (.ref b1)])) _
    refine st8 _ ?_
    show Steps p.tables e below (T8.setTop (mkF m 633 #[.val (.int kd), .val (.int vr), .val (.int cc)] [(.ref b1)])) _
    refine XS.dup X8.here hx rfl (hb hby d1_633) rfl rfl ?_
    show Steps p.tables e below (T8.setTop (mkF m 634 #[.val (.int kd), .val (.int vr), .val (.int cc)] [(.ref b1), (.ref b1)])) _
    refine XS.bipush X8.here hx rfl (hb hby d1_634) ?_
    show Steps p.tables e below (T8.setTop (mkF m 636 #[.val (.int kd), .val (.int vr), .val (.int cc)] [(.int (7 : Int32)), (.ref b1), (.ref b1)])) _
    refine XS.bipush X8.here hx rfl (hb hby d1_636) ?_
    show Steps p.tables e below (T8.setTop (mkF m 638 #[.val (.int kd), .val (.int vr), .val (.int cc)] [(.int (78 : Int32)), (.int (7 : Int32)), (.ref b1), (.ref b1)])) _
    refine st9 _ ?_
    show Steps p.tables e below (T9.setTop (mkF m 639 #[.val (.int kd), .val (.int vr), .val (.int cc)] [(.ref b1)])) _
    refine XS.dup X9.here hx rfl (hb hby d1_639) rfl rfl ?_
    show Steps p.tables e below (T9.setTop (mkF m 640 #[.val (.int kd), .val (.int vr), .val (.int cc)] [(.ref b1), (.ref b1)])) _
    refine XS.bipush X9.here hx rfl (hb hby d1_640) ?_
    show Steps p.tables e below (T9.setTop (mkF m 642 #[.val (.int kd), .val (.int vr), .val (.int cc)] [(.int (8 : Int32)), (.ref b1), (.ref b1)])) _
    refine XS.bipush X9.here hx rfl (hb hby d1_642) ?_
    show Steps p.tables e below (T9.setTop (mkF m 644 #[.val (.int kd), .val (.int vr), .val (.int cc)] [(.int (71 : Int32)), (.int (8 : Int32)), (.ref b1), (.ref b1)])) _
    refine st10 _ ?_
    show Steps p.tables e below (T10.setTop (mkF m 645 #[.val (.int kd), .val (.int vr), .val (.int cc)] [(.ref b1)])) _
    refine XS.dup X10.here hx rfl (hb hby d1_645) rfl rfl ?_
    show Steps p.tables e below (T10.setTop (mkF m 646 #[.val (.int kd), .val (.int vr), .val (.int cc)] [(.ref b1), (.ref b1)])) _
    refine XS.bipush X10.here hx rfl (hb hby d1_646) ?_
    show Steps p.tables e below (T10.setTop (mkF m 648 #[.val (.int kd), .val (.int vr), .val (.int cc)] [(.int (9 : Int32)), (.ref b1), (.ref b1)])) _
    refine XS.bipush X10.here hx rfl (hb hby d1_648) ?_
    show Steps p.tables e below (T10.setTop (mkF m 650 #[.val (.int kd), .val (.int vr), .val (.int cc)] [(.int (45 : Int32)), (.int (9 : Int32)), (.ref b1), (.ref b1)])) _
    refine st11 _ ?_
    show Steps p.tables e below (T11.setTop (mkF m 651 #[.val (.int kd), .val (.int vr), .val (.int cc)] [(.ref b1)])) _
    refine XS.dup X11.here hx rfl (hb hby d1_651) rfl rfl ?_
    show Steps p.tables e below (T11.setTop (mkF m 652 #[.val (.int kd), .val (.int vr), .val (.int cc)] [(.ref b1), (.ref b1)])) _
    refine XS.bipush X11.here hx rfl (hb hby d1_652) ?_
    show Steps p.tables e below (T11.setTop (mkF m 654 #[.val (.int kd), .val (.int vr), .val (.int cc)] [(.int (10 : Int32)), (.ref b1), (.ref b1)])) _
    refine XS.bipush X11.here hx rfl (hb hby d1_654) ?_
    show Steps p.tables e below (T11.setTop (mkF m 656 #[.val (.int kd), .val (.int vr), .val (.int cc)] [(.int (80 : Int32)), (.int (10 : Int32)), (.ref b1), (.ref b1)])) _
    refine st12 _ ?_
    show Steps p.tables e below (T12.setTop (mkF m 657 #[.val (.int kd), .val (.int vr), .val (.int cc)] [(.ref b1)])) _
    refine XS.dup X12.here hx rfl (hb hby d1_657) rfl rfl ?_
    show Steps p.tables e below (T12.setTop (mkF m 658 #[.val (.int kd), .val (.int vr), .val (.int cc)] [(.ref b1), (.ref b1)])) _
    refine XS.bipush X12.here hx rfl (hb hby d1_658) ?_
    show Steps p.tables e below (T12.setTop (mkF m 660 #[.val (.int kd), .val (.int vr), .val (.int cc)] [(.int (11 : Int32)), (.ref b1), (.ref b1)])) _
    refine XS.bipush X12.here hx rfl (hb hby d1_660) ?_
    show Steps p.tables e below (T12.setTop (mkF m 662 #[.val (.int kd), .val (.int vr), .val (.int cc)] [(.int (73 : Int32)), (.int (11 : Int32)), (.ref b1), (.ref b1)])) _
    refine st13 _ ?_
    show Steps p.tables e below (T13.setTop (mkF m 663 #[.val (.int kd), .val (.int vr), .val (.int cc)] [(.ref b1)])) _
    refine XS.dup X13.here hx rfl (hb hby d1_663) rfl rfl ?_
    show Steps p.tables e below (T13.setTop (mkF m 664 #[.val (.int kd), .val (.int vr), .val (.int cc)] [(.ref b1), (.ref b1)])) _
    refine XS.bipush X13.here hx rfl (hb hby d1_664) ?_
    show Steps p.tables e below (T13.setTop (mkF m 666 #[.val (.int kd), .val (.int vr), .val (.int cc)] [(.int (12 : Int32)), (.ref b1), (.ref b1)])) _
    refine XS.bipush X13.here hx rfl (hb hby d1_666) ?_
    show Steps p.tables e below (T13.setTop (mkF m 668 #[.val (.int kd), .val (.int vr), .val (.int cc)] [(.int (67 : Int32)), (.int (12 : Int32)), (.ref b1), (.ref b1)])) _
    refine st14 _ ?_
    show Steps p.tables e below (T14.setTop (mkF m 669 #[.val (.int kd), .val (.int vr), .val (.int cc)] [(.ref b1)])) _
    refine XS.dup X14.here hx rfl (hb hby d1_669) rfl rfl ?_
    show Steps p.tables e below (T14.setTop (mkF m 670 #[.val (.int kd), .val (.int vr), .val (.int cc)] [(.ref b1), (.ref b1)])) _
    refine XS.bipush X14.here hx rfl (hb hby d1_670) ?_
    show Steps p.tables e below (T14.setTop (mkF m 672 #[.val (.int kd), .val (.int vr), .val (.int cc)] [(.int (13 : Int32)), (.ref b1), (.ref b1)])) _
    refine XS.bipush X14.here hx rfl (hb hby d1_672) ?_
    show Steps p.tables e below (T14.setTop (mkF m 674 #[.val (.int kd), .val (.int vr), .val (.int cc)] [(.int (75 : Int32)), (.int (13 : Int32)), (.ref b1), (.ref b1)])) _
    refine st15 _ ?_
    show Steps p.tables e below (T15.setTop (mkF m 675 #[.val (.int kd), .val (.int vr), .val (.int cc)] [(.ref b1)])) _
    refine XS.dup X15.here hx rfl (hb hby d1_675) rfl rfl ?_
    show Steps p.tables e below (T15.setTop (mkF m 676 #[.val (.int kd), .val (.int vr), .val (.int cc)] [(.ref b1), (.ref b1)])) _
    refine XS.bipush X15.here hx rfl (hb hby d1_676) ?_
    show Steps p.tables e below (T15.setTop (mkF m 678 #[.val (.int kd), .val (.int vr), .val (.int cc)] [(.int (14 : Int32)), (.ref b1), (.ref b1)])) _
    refine XS.bipush X15.here hx rfl (hb hby d1_678) ?_
    show Steps p.tables e below (T15.setTop (mkF m 680 #[.val (.int kd), .val (.int vr), .val (.int cc)] [(.int (85 : Int32)), (.int (14 : Int32)), (.ref b1), (.ref b1)])) _
    refine st16 _ ?_
    show Steps p.tables e below (T16.setTop (mkF m 681 #[.val (.int kd), .val (.int vr), .val (.int cc)] [(.ref b1)])) _
    exact retOut X16 hx Bd.returns rfl (Or.inr (Or.inr (Or.inr (Or.inr ⟨rfl, rfl, rfl⟩)))) (hb hby d1_681) hr
  · show Qd10 Z kd vr cc h0 n0 _ T16.heap _
    rw [e16]
    exact ⟨b1, k1, ([(nar .char (66 : Int32)), (nar .char (79 : Int32)), (nar .char (82 : Int32)), (nar .char (82 : Int32)), (nar .char (79 : Int32)), (nar .char (87 : Int32)), (nar .char (73 : Int32)), (nar .char (78 : Int32)), (nar .char (71 : Int32)), (nar .char (45 : Int32)), (nar .char (80 : Int32)), (nar .char (73 : Int32)), (nar .char (67 : Int32)), (nar .char (75 : Int32)), (nar .char (85 : Int32))] : List Int32), rfl, N16, K16, g_b1, V16, hgood, Nat.succ_ne_zero _⟩
theorem rmN (l : Launch) (Z : State) (a0 : Array Value) (hw : ∀ d ∈ tables_1, d.before a0 Z = true) (ws : List Jvm.Cond) (kd vr cc : Int32) (h0 : Heap) (n0 : Nat) (O0 : Old Z n0 h0) (hcc : ¬ nar .char cc < 0 ∧ ¬ (255 : Int32) < nar .char cc) :
    MetFree l (⟨"com/example/lendloop/lendloop/core/TransactionRoleFromWireNamePinLaw", "named", "(IIC)[C"⟩ : MethodName) (head1 (Jvm.Cond.code (⟨"com/example/lendloop/lendloop/core/TransactionRoleFromWireNamePinLaw", "named", "(IIC)[C"⟩ : MethodName) method_5_code 3 (some (.array .char)) :: ws) ({ frames := 0, cells := 1, slots := 17, locals := 0 } : Room)) (fun qq U => qq = #[(.int kd), (.int vr), (.int cc)] ∧ Z.Warmed39 U.vm ∧ U.heap = h0) (fun _ _ _ _ _ => True) (fun _ UU oo UU' => ∃ vv LL, oo = .returned vv ∧ Qd10 Z kd vr cc h0 n0 vv UU'.heap LL ∧ FrameEnd UU oo UU' LL ({ frames := 0, cells := 1, slots := 17, locals := 0 } : Room).cells ({ frames := 0, cells := 1, slots := 17, locals := 0 } : Room).slots) := by
  by_cases k0 : kd = (0 : Int32)
  · skip
    by_cases v0 : vr = (0 : Int32)
    · exact rmN00 l Z a0 hw ws kd vr cc h0 n0 O0 hcc k0 v0
    by_cases v1 : vr = (1 : Int32)
    · exact rmN01 l Z a0 hw ws kd vr cc h0 n0 O0 hcc k0 v0 v1
    · exact rmN02 l Z a0 hw ws kd vr cc h0 n0 O0 hcc k0 v0 v1
  by_cases k1 : kd = (1 : Int32)
  · skip
    by_cases v0 : vr = (0 : Int32)
    · exact rmN10 l Z a0 hw ws kd vr cc h0 n0 O0 hcc k0 k1 v0
    by_cases v1 : vr = (1 : Int32)
    · exact rmN11 l Z a0 hw ws kd vr cc h0 n0 O0 hcc k0 k1 v0 v1
    · exact rmN12 l Z a0 hw ws kd vr cc h0 n0 O0 hcc k0 k1 v0 v1
  by_cases k2 : kd = (2 : Int32)
  · skip
    by_cases v0 : vr = (0 : Int32)
    · exact rmN20 l Z a0 hw ws kd vr cc h0 n0 O0 hcc k0 k1 k2 v0
    by_cases v1 : vr = (1 : Int32)
    · exact rmN21 l Z a0 hw ws kd vr cc h0 n0 O0 hcc k0 k1 k2 v0 v1
    · exact rmN22 l Z a0 hw ws kd vr cc h0 n0 O0 hcc k0 k1 k2 v0 v1
  by_cases v0 : vr = (0 : Int32)
  · exact rmN30 l Z a0 hw ws kd vr cc h0 n0 O0 hcc k0 k1 k2 v0
  by_cases v1 : vr = (1 : Int32)
  · exact rmN31 l Z a0 hw ws kd vr cc h0 n0 O0 hcc k0 k1 k2 v0 v1
  · exact rmN32 l Z a0 hw ws kd vr cc h0 n0 O0 hcc k0 k1 k2 v0 v1
theorem d17_0 : decode method_4_code 0 = .ok (.iload_n 0, 1) := by decide +kernel
theorem d17_1 : decode method_4_code 1 = .ok (.ifCond .ne 7, 3) := by decide +kernel
theorem d17_4 : decode method_4_code 4 = .ok (.iconst 0, 1) := by decide +kernel
theorem d17_5 : decode method_4_code 5 = .ok (.newarray .char, 2) := by decide +kernel
theorem d17_7 : decode method_4_code 7 = .ok (.areturn, 1) := by decide +kernel
theorem ef_17 (m : MethodId) (x0 : Int32) (x1 : Int32) (x2 : Int32) : entryFrame m #[(.int x0), (.int x1), (.int x2)] 3 = mkF m 0 #[.val (.int x0), .val (.int x1), .val (.int x2)] [] := by first | (simp [entryFrame, mkF, argsToLocals, Value.category]; done) | rfl
theorem pn_17 : plainName "com/example/lendloop/lendloop/core/TransactionRoleFromWireNamePinLaw" = true := by first | (simp [plainName, overriddenIn]; done) | decide +kernel
def Qd11 (Z : State) (ln ca cb : Int32) (h0 : Heap) (n0 : Nat) (v : Option Value) (h : Heap) (L : List Loc) : Prop := ∃ b kC, v = some (.ref b) ∧ Fr n0 L ∧ Keep h0 h [] ∧ n0 ≤ b ∧ Arv Z h b kC .char (0 : Int32) [] (.int 0)
set_option maxRecDepth 65536 in
set_option maxHeartbeats 40000000 in
theorem rmS0 (l : Launch) (Z : State) (a0 : Array Value) (hw : ∀ d ∈ tables_1, d.before a0 Z = true) (ws : List Jvm.Cond) (ln ca cb : Int32) (h0 : Heap) (n0 : Nat) (O0 : Old Z n0 h0) (hca : ¬ nar .char ca < 0 ∧ ¬ (255 : Int32) < nar .char ca) (hcb : ¬ nar .char cb < 0 ∧ ¬ (255 : Int32) < nar .char cb) (hc1 : ln = (0 : Int32)) :
    MetFree l (⟨"com/example/lendloop/lendloop/core/TransactionRoleFromWireNamePinLaw", "shortOne", "(ICC)[C"⟩ : MethodName) (head1 (Jvm.Cond.code (⟨"com/example/lendloop/lendloop/core/TransactionRoleFromWireNamePinLaw", "shortOne", "(ICC)[C"⟩ : MethodName) method_4_code 3 (some (.array .char)) :: ws) ({ frames := 0, cells := 1, slots := 17, locals := 0 } : Room)) (fun qq U => qq = #[(.int ln), (.int ca), (.int cb)] ∧ Z.Warmed39 U.vm ∧ U.heap = h0) (fun _ _ _ _ _ => True) (fun _ UU oo UU' => ∃ vv LL, oo = .returned vv ∧ Qd11 Z ln ca cb h0 n0 vv UU'.heap LL ∧ FrameEnd UU oo UU' LL ({ frames := 0, cells := 1, slots := 17, locals := 0 } : Room).cells ({ frames := 0, cells := 1, slots := 17, locals := 0 } : Room).slots) := by
  refine MetFree.of_bodySF (plainFor_of_name pn_17) hisR ?_
  intro p e s m args below meth c s₁ Bd hml0 hP hK
  obtain ⟨rfl, hZ, hh⟩ := hP
  have hx := Bd.exec
  have hby := Bd.bytes
  have hml : c.maxLocals = 3 := hml0
  have hown : s.vm.findClass "com/example/lendloop/lendloop/core/TransactionRoleFromWireNamePinLaw" = some m.cls := findClass_of_methodNamed Bd.named
  have hnm := (name_of_methodNamed Bd.named Bd.method).1
  have X0 : Stand p l e ({ frames := 0, cells := 1, slots := 17, locals := 0 } : Room) s m #[(.int ln), (.int ca), (.int cb)] below meth c s₁ [] 0 0 := Stand.of_body Bd
  have e0 : s₁.heap = h0 := by rw [← hh, Bd.state]; rfl
  have N0 := Fr.nil n0
  have pre0 : ∀ tgt, Steps p.tables e below (s₁.setTop (mkF m 0 #[.val (.int ln), .val (.int ca), .val (.int cb)] [])) tgt → Steps p.tables e below (s₁.setTop (entryFrame m #[(.int ln), (.int ca), (.int cb)] 3)) tgt := fun tt kk => castTop (ef_17 m ln ca cb) kk
  obtain ⟨T1, h1, k1, X1, e1, E1, A1, st1⟩ := newP X0 hx hZ (ww hw 4 rfl) e0 (g := (mkF m 5 #[.val (.int ln), .val (.int ca), .val (.int cb)] [(.int (0 : Int32))])) rfl (hb hby d17_5) rfl (by decide) (cap := 0) (by decide) (by decide) (by decide) (by decide)
  obtain ⟨b1, q1⟩ : ∃ z, z = h0.size := ⟨_, rfl⟩
  rw [← q1] at A1 st1
  have g_b1 : n0 ≤ b1 := by rw [q1]; exact (O0).1 ▸ (O0).2.1
  have sz_b1 : h0.size ≤ b1 := by rw [q1]; exact ((Keep.refl h0 [])).1
  have O1 := Old.ext O0 E1
  have K1 := Keep.ext (Keep.refl h0 []) E1
  have V1 : Arv Z h1 b1 k1 .char (0 : Int32) [] (.int (0 : Int32)) := Arv.new A1 (by decide)
  obtain ⟨fs, hr, hrun, hended, hW, hsame⟩ := X1.leave (v := some (.ref b1)) (fun h => by rw [Bd.returns] at h; cases h)
  refine ⟨_, _, pre0 _ ?_, hrun, hended, _, _, rfl, ?_, ⟨_, rfl⟩, hW, hsame.mono (by decide) (by decide)⟩
  · show Steps p.tables e below (s₁.setTop (mkF m 0 #[.val (.int ln), .val (.int ca), .val (.int cb)] [])) _
    refine XS.iloadN X0.here hx rfl (hb hby d17_0) rfl ?_
    show Steps p.tables e below (s₁.setTop (mkF m 1 #[.val (.int ln), .val (.int ca), .val (.int cb)] [(.int ln)])) _
    refine XS.ifNo X0.here hx rfl (hb hby d17_1) rfl ((if0 _ _).trans (teq hc1).2) ?_
    show Steps p.tables e below (s₁.setTop (mkF m 4 #[.val (.int ln), .val (.int ca), .val (.int cb)] [])) _
    refine XS.iconst X0.here hx rfl (hb hby d17_4) ?_
    show Steps p.tables e below (s₁.setTop (mkF m 5 #[.val (.int ln), .val (.int ca), .val (.int cb)] [(.int (0 : Int32))])) _
    refine st1 _ ?_
    show Steps p.tables e below (T1.setTop (mkF m 7 #[.val (.int ln), .val (.int ca), .val (.int cb)] [(.ref b1)])) _
    exact retOut X1 hx Bd.returns rfl (Or.inr (Or.inr (Or.inr (Or.inr ⟨rfl, rfl, rfl⟩)))) (hb hby d17_7) hr
  · show Qd11 Z ln ca cb h0 n0 _ T1.heap _
    rw [e1]
    exact ⟨b1, k1, rfl, N0, K1, g_b1, V1⟩
theorem d17_8 : decode method_4_code 8 = .ok (.iload_n 0, 1) := by decide +kernel
theorem d17_9 : decode method_4_code 9 = .ok (.iconst 1, 1) := by decide +kernel
theorem d17_10 : decode method_4_code 10 = .ok (.if_icmp .ne 11, 3) := by decide +kernel
theorem d17_13 : decode method_4_code 13 = .ok (.iconst 1, 1) := by decide +kernel
theorem d17_14 : decode method_4_code 14 = .ok (.newarray .char, 2) := by decide +kernel
theorem d17_16 : decode method_4_code 16 = .ok (.dup, 1) := by decide +kernel
theorem d17_17 : decode method_4_code 17 = .ok (.iconst 0, 1) := by decide +kernel
theorem d17_18 : decode method_4_code 18 = .ok (.iload_n 1, 1) := by decide +kernel
theorem d17_19 : decode method_4_code 19 = .ok (.castore, 1) := by decide +kernel
theorem d17_20 : decode method_4_code 20 = .ok (.areturn, 1) := by decide +kernel
def Qd12 (Z : State) (ln ca cb : Int32) (h0 : Heap) (n0 : Nat) (v : Option Value) (h : Heap) (L : List Loc) : Prop := ∃ b kC cs, v = some (.ref b) ∧ Fr n0 L ∧ Keep h0 h [] ∧ n0 ≤ b ∧ Arv Z h b kC .char (Int32.ofNat (cs : List Int32).length) (cs.map Value.int) (.int 0) ∧ own_good cs ∧ cs.length ≠ 0
set_option maxRecDepth 65536 in
set_option maxHeartbeats 40000000 in
theorem rmS1 (l : Launch) (Z : State) (a0 : Array Value) (hw : ∀ d ∈ tables_1, d.before a0 Z = true) (ws : List Jvm.Cond) (ln ca cb : Int32) (h0 : Heap) (n0 : Nat) (O0 : Old Z n0 h0) (hca : ¬ nar .char ca < 0 ∧ ¬ (255 : Int32) < nar .char ca) (hcb : ¬ nar .char cb < 0 ∧ ¬ (255 : Int32) < nar .char cb) (hc1 : ¬ (ln = (0 : Int32))) (hc10 : ln = (1 : Int32)) :
    MetFree l (⟨"com/example/lendloop/lendloop/core/TransactionRoleFromWireNamePinLaw", "shortOne", "(ICC)[C"⟩ : MethodName) (head1 (Jvm.Cond.code (⟨"com/example/lendloop/lendloop/core/TransactionRoleFromWireNamePinLaw", "shortOne", "(ICC)[C"⟩ : MethodName) method_4_code 3 (some (.array .char)) :: ws) ({ frames := 0, cells := 1, slots := 17, locals := 0 } : Room)) (fun qq U => qq = #[(.int ln), (.int ca), (.int cb)] ∧ Z.Warmed39 U.vm ∧ U.heap = h0) (fun _ _ _ _ _ => True) (fun _ UU oo UU' => ∃ vv LL, oo = .returned vv ∧ Qd12 Z ln ca cb h0 n0 vv UU'.heap LL ∧ FrameEnd UU oo UU' LL ({ frames := 0, cells := 1, slots := 17, locals := 0 } : Room).cells ({ frames := 0, cells := 1, slots := 17, locals := 0 } : Room).slots) := by
  refine MetFree.of_bodySF (plainFor_of_name pn_17) hisR ?_
  intro p e s m args below meth c s₁ Bd hml0 hP hK
  obtain ⟨rfl, hZ, hh⟩ := hP
  have hx := Bd.exec
  have hby := Bd.bytes
  have hml : c.maxLocals = 3 := hml0
  have hown : s.vm.findClass "com/example/lendloop/lendloop/core/TransactionRoleFromWireNamePinLaw" = some m.cls := findClass_of_methodNamed Bd.named
  have hnm := (name_of_methodNamed Bd.named Bd.method).1
  have X0 : Stand p l e ({ frames := 0, cells := 1, slots := 17, locals := 0 } : Room) s m #[(.int ln), (.int ca), (.int cb)] below meth c s₁ [] 0 0 := Stand.of_body Bd
  have e0 : s₁.heap = h0 := by rw [← hh, Bd.state]; rfl
  have N0 := Fr.nil n0
  have pre0 : ∀ tgt, Steps p.tables e below (s₁.setTop (mkF m 0 #[.val (.int ln), .val (.int ca), .val (.int cb)] [])) tgt → Steps p.tables e below (s₁.setTop (entryFrame m #[(.int ln), (.int ca), (.int cb)] 3)) tgt := fun tt kk => castTop (ef_17 m ln ca cb) kk
  obtain ⟨T1, h1, k1, X1, e1, E1, A1, st1⟩ := newP X0 hx hZ (ww hw 4 rfl) e0 (g := (mkF m 14 #[.val (.int ln), .val (.int ca), .val (.int cb)] [(.int (1 : Int32))])) rfl (hb hby d17_14) rfl (by decide) (cap := 1) (by decide) (by decide) (by decide) (by decide)
  obtain ⟨b1, q1⟩ : ∃ z, z = h0.size := ⟨_, rfl⟩
  rw [← q1] at A1 st1
  have g_b1 : n0 ≤ b1 := by rw [q1]; exact (O0).1 ▸ (O0).2.1
  have sz_b1 : h0.size ≤ b1 := by rw [q1]; exact ((Keep.refl h0 [])).1
  have O1 := Old.ext O0 E1
  have K1 := Keep.ext (Keep.refl h0 []) E1
  have V1 : Arv Z h1 b1 k1 .char (1 : Int32) [] (.int (0 : Int32)) := Arv.new A1 (by decide)
  obtain ⟨T2, h2, X2, e2, W2, V2, st2⟩ := own_putC X1 hx hZ e1 V1 (j := (0 : Int32)) rfl (by decide) (Nat.le_of_ble_eq_true rfl) (g := (mkF m 19 #[.val (.int ln), .val (.int ca), .val (.int cb)] [(.int ca), (.int (0 : Int32)), (.ref b1), (.ref b1)])) rfl rfl (hb hby d17_19)
  have N2 := Fr.snoc X2 N0 g_b1
  have O2 := Old.wr O1 W2 g_b1
  have K2 := Keep.wr K1 W2 (Or.inr sz_b1)
  have hgood : own_good ([(nar .char ca)] : List Int32) := ⟨Nat.le_of_ble_eq_true rfl, by
    intro x hx
    simp only [List.mem_cons, List.not_mem_nil, or_false] at hx
    rcases hx with rfl
    all_goals first | exact hca | exact hcb | decide⟩
  obtain ⟨fs, hr, hrun, hended, hW, hsame⟩ := X2.leave (v := some (.ref b1)) (fun h => by rw [Bd.returns] at h; cases h)
  refine ⟨_, _, pre0 _ ?_, hrun, hended, _, _, rfl, ?_, ⟨_, rfl⟩, hW, hsame.mono (by decide) (by decide)⟩
  · show Steps p.tables e below (s₁.setTop (mkF m 0 #[.val (.int ln), .val (.int ca), .val (.int cb)] [])) _
    refine XS.iloadN X0.here hx rfl (hb hby d17_0) rfl ?_
    show Steps p.tables e below (s₁.setTop (mkF m 1 #[.val (.int ln), .val (.int ca), .val (.int cb)] [(.int ln)])) _
    refine XS.ifYes X0.here hx rfl (pc0 := 1) (pc' := 8) rfl (hb hby d17_1) rfl ((if0 _ _).trans (feq hc1).2) (by decide) (by decide) ?_
    show Steps p.tables e below (s₁.setTop (mkF m 8 #[.val (.int ln), .val (.int ca), .val (.int cb)] [])) _
    refine XS.iloadN X0.here hx rfl (hb hby d17_8) rfl ?_
    show Steps p.tables e below (s₁.setTop (mkF m 9 #[.val (.int ln), .val (.int ca), .val (.int cb)] [(.int ln)])) _
    refine XS.iconst X0.here hx rfl (hb hby d17_9) ?_
    show Steps p.tables e below (s₁.setTop (mkF m 10 #[.val (.int ln), .val (.int ca), .val (.int cb)] [(.int (1 : Int32)), (.int ln)])) _
    refine XS.icmpNo X0.here hx rfl (hb hby d17_10) rfl (teq hc10).2 ?_
    show Steps p.tables e below (s₁.setTop (mkF m 13 #[.val (.int ln), .val (.int ca), .val (.int cb)] [])) _
    refine XS.iconst X0.here hx rfl (hb hby d17_13) ?_
    show Steps p.tables e below (s₁.setTop (mkF m 14 #[.val (.int ln), .val (.int ca), .val (.int cb)] [(.int (1 : Int32))])) _
    refine st1 _ ?_
    show Steps p.tables e below (T1.setTop (mkF m 16 #[.val (.int ln), .val (.int ca), .val (.int cb)] [(.ref b1)])) _
    refine XS.dup X1.here hx rfl (hb hby d17_16) rfl rfl ?_
    show Steps p.tables e below (T1.setTop (mkF m 17 #[.val (.int ln), .val (.int ca), .val (.int cb)] [(.ref b1), (.ref b1)])) _
    refine XS.iconst X1.here hx rfl (hb hby d17_17) ?_
    show Steps p.tables e below (T1.setTop (mkF m 18 #[.val (.int ln), .val (.int ca), .val (.int cb)] [(.int (0 : Int32)), (.ref b1), (.ref b1)])) _
    refine XS.iloadN X1.here hx rfl (hb hby d17_18) rfl ?_
    show Steps p.tables e below (T1.setTop (mkF m 19 #[.val (.int ln), .val (.int ca), .val (.int cb)] [(.int ca), (.int (0 : Int32)), (.ref b1), (.ref b1)])) _
    refine st2 _ ?_
    show Steps p.tables e below (T2.setTop (mkF m 20 #[.val (.int ln), .val (.int ca), .val (.int cb)] [(.ref b1)])) _
    exact retOut X2 hx Bd.returns rfl (Or.inr (Or.inr (Or.inr (Or.inr ⟨rfl, rfl, rfl⟩)))) (hb hby d17_20) hr
  · show Qd12 Z ln ca cb h0 n0 _ T2.heap _
    rw [e2]
    exact ⟨b1, k1, ([(nar .char ca)] : List Int32), rfl, N2, K2, g_b1, V2, hgood, Nat.succ_ne_zero _⟩
theorem d17_21 : decode method_4_code 21 = .ok (.iload_n 0, 1) := by decide +kernel
theorem d17_22 : decode method_4_code 22 = .ok (.iconst 2, 1) := by decide +kernel
theorem d17_23 : decode method_4_code 23 = .ok (.if_icmp .ne 15, 3) := by decide +kernel
theorem d17_26 : decode method_4_code 26 = .ok (.iconst 2, 1) := by decide +kernel
theorem d17_27 : decode method_4_code 27 = .ok (.newarray .char, 2) := by decide +kernel
theorem d17_29 : decode method_4_code 29 = .ok (.dup, 1) := by decide +kernel
theorem d17_30 : decode method_4_code 30 = .ok (.iconst 0, 1) := by decide +kernel
theorem d17_31 : decode method_4_code 31 = .ok (.iload_n 1, 1) := by decide +kernel
theorem d17_32 : decode method_4_code 32 = .ok (.castore, 1) := by decide +kernel
theorem d17_33 : decode method_4_code 33 = .ok (.dup, 1) := by decide +kernel
theorem d17_34 : decode method_4_code 34 = .ok (.iconst 1, 1) := by decide +kernel
theorem d17_35 : decode method_4_code 35 = .ok (.iload_n 2, 1) := by decide +kernel
theorem d17_36 : decode method_4_code 36 = .ok (.castore, 1) := by decide +kernel
theorem d17_37 : decode method_4_code 37 = .ok (.areturn, 1) := by decide +kernel
set_option maxRecDepth 65536 in
set_option maxHeartbeats 40000000 in
theorem rmS2 (l : Launch) (Z : State) (a0 : Array Value) (hw : ∀ d ∈ tables_1, d.before a0 Z = true) (ws : List Jvm.Cond) (ln ca cb : Int32) (h0 : Heap) (n0 : Nat) (O0 : Old Z n0 h0) (hca : ¬ nar .char ca < 0 ∧ ¬ (255 : Int32) < nar .char ca) (hcb : ¬ nar .char cb < 0 ∧ ¬ (255 : Int32) < nar .char cb) (hc1 : ¬ (ln = (0 : Int32))) (hc10 : ¬ (ln = (1 : Int32))) (hc23 : ln = (2 : Int32)) :
    MetFree l (⟨"com/example/lendloop/lendloop/core/TransactionRoleFromWireNamePinLaw", "shortOne", "(ICC)[C"⟩ : MethodName) (head1 (Jvm.Cond.code (⟨"com/example/lendloop/lendloop/core/TransactionRoleFromWireNamePinLaw", "shortOne", "(ICC)[C"⟩ : MethodName) method_4_code 3 (some (.array .char)) :: ws) ({ frames := 0, cells := 1, slots := 17, locals := 0 } : Room)) (fun qq U => qq = #[(.int ln), (.int ca), (.int cb)] ∧ Z.Warmed39 U.vm ∧ U.heap = h0) (fun _ _ _ _ _ => True) (fun _ UU oo UU' => ∃ vv LL, oo = .returned vv ∧ Qd12 Z ln ca cb h0 n0 vv UU'.heap LL ∧ FrameEnd UU oo UU' LL ({ frames := 0, cells := 1, slots := 17, locals := 0 } : Room).cells ({ frames := 0, cells := 1, slots := 17, locals := 0 } : Room).slots) := by
  refine MetFree.of_bodySF (plainFor_of_name pn_17) hisR ?_
  intro p e s m args below meth c s₁ Bd hml0 hP hK
  obtain ⟨rfl, hZ, hh⟩ := hP
  have hx := Bd.exec
  have hby := Bd.bytes
  have hml : c.maxLocals = 3 := hml0
  have hown : s.vm.findClass "com/example/lendloop/lendloop/core/TransactionRoleFromWireNamePinLaw" = some m.cls := findClass_of_methodNamed Bd.named
  have hnm := (name_of_methodNamed Bd.named Bd.method).1
  have X0 : Stand p l e ({ frames := 0, cells := 1, slots := 17, locals := 0 } : Room) s m #[(.int ln), (.int ca), (.int cb)] below meth c s₁ [] 0 0 := Stand.of_body Bd
  have e0 : s₁.heap = h0 := by rw [← hh, Bd.state]; rfl
  have N0 := Fr.nil n0
  have pre0 : ∀ tgt, Steps p.tables e below (s₁.setTop (mkF m 0 #[.val (.int ln), .val (.int ca), .val (.int cb)] [])) tgt → Steps p.tables e below (s₁.setTop (entryFrame m #[(.int ln), (.int ca), (.int cb)] 3)) tgt := fun tt kk => castTop (ef_17 m ln ca cb) kk
  obtain ⟨T1, h1, k1, X1, e1, E1, A1, st1⟩ := newP X0 hx hZ (ww hw 4 rfl) e0 (g := (mkF m 27 #[.val (.int ln), .val (.int ca), .val (.int cb)] [(.int (2 : Int32))])) rfl (hb hby d17_27) rfl (by decide) (cap := 2) (by decide) (by decide) (by decide) (by decide)
  obtain ⟨b1, q1⟩ : ∃ z, z = h0.size := ⟨_, rfl⟩
  rw [← q1] at A1 st1
  have g_b1 : n0 ≤ b1 := by rw [q1]; exact (O0).1 ▸ (O0).2.1
  have sz_b1 : h0.size ≤ b1 := by rw [q1]; exact ((Keep.refl h0 [])).1
  have O1 := Old.ext O0 E1
  have K1 := Keep.ext (Keep.refl h0 []) E1
  have V1 : Arv Z h1 b1 k1 .char (2 : Int32) [] (.int (0 : Int32)) := Arv.new A1 (by decide)
  obtain ⟨T2, h2, X2, e2, W2, V2, st2⟩ := own_putC X1 hx hZ e1 V1 (j := (0 : Int32)) rfl (by decide) (Nat.le_of_ble_eq_true rfl) (g := (mkF m 32 #[.val (.int ln), .val (.int ca), .val (.int cb)] [(.int ca), (.int (0 : Int32)), (.ref b1), (.ref b1)])) rfl rfl (hb hby d17_32)
  have N2 := Fr.snoc X2 N0 g_b1
  have O2 := Old.wr O1 W2 g_b1
  have K2 := Keep.wr K1 W2 (Or.inr sz_b1)
  obtain ⟨T3, h3, X3, e3, W3, V3, st3⟩ := own_putC X2 hx hZ e2 V2 (j := (1 : Int32)) rfl (by decide) (Nat.le_of_ble_eq_true rfl) (g := (mkF m 36 #[.val (.int ln), .val (.int ca), .val (.int cb)] [(.int cb), (.int (1 : Int32)), (.ref b1), (.ref b1)])) rfl rfl (hb hby d17_36)
  have N3 := Fr.snoc X3 N2 g_b1
  have O3 := Old.wr O2 W3 g_b1
  have K3 := Keep.wr K2 W3 (Or.inr sz_b1)
  have hgood : own_good ([(nar .char ca), (nar .char cb)] : List Int32) := ⟨Nat.le_of_ble_eq_true rfl, by
    intro x hx
    simp only [List.mem_cons, List.not_mem_nil, or_false] at hx
    rcases hx with rfl | rfl
    all_goals first | exact hca | exact hcb | decide⟩
  obtain ⟨fs, hr, hrun, hended, hW, hsame⟩ := X3.leave (v := some (.ref b1)) (fun h => by rw [Bd.returns] at h; cases h)
  refine ⟨_, _, pre0 _ ?_, hrun, hended, _, _, rfl, ?_, ⟨_, rfl⟩, hW, hsame.mono (by decide) (by decide)⟩
  · show Steps p.tables e below (s₁.setTop (mkF m 0 #[.val (.int ln), .val (.int ca), .val (.int cb)] [])) _
    refine XS.iloadN X0.here hx rfl (hb hby d17_0) rfl ?_
    show Steps p.tables e below (s₁.setTop (mkF m 1 #[.val (.int ln), .val (.int ca), .val (.int cb)] [(.int ln)])) _
    refine XS.ifYes X0.here hx rfl (pc0 := 1) (pc' := 8) rfl (hb hby d17_1) rfl ((if0 _ _).trans (feq hc1).2) (by decide) (by decide) ?_
    show Steps p.tables e below (s₁.setTop (mkF m 8 #[.val (.int ln), .val (.int ca), .val (.int cb)] [])) _
    refine XS.iloadN X0.here hx rfl (hb hby d17_8) rfl ?_
    show Steps p.tables e below (s₁.setTop (mkF m 9 #[.val (.int ln), .val (.int ca), .val (.int cb)] [(.int ln)])) _
    refine XS.iconst X0.here hx rfl (hb hby d17_9) ?_
    show Steps p.tables e below (s₁.setTop (mkF m 10 #[.val (.int ln), .val (.int ca), .val (.int cb)] [(.int (1 : Int32)), (.int ln)])) _
    refine XS.icmpYes X0.here hx rfl (pc0 := 10) (pc' := 21) rfl (hb hby d17_10) rfl (feq hc10).2 (by decide) (by decide) ?_
    show Steps p.tables e below (s₁.setTop (mkF m 21 #[.val (.int ln), .val (.int ca), .val (.int cb)] [])) _
    refine XS.iloadN X0.here hx rfl (hb hby d17_21) rfl ?_
    show Steps p.tables e below (s₁.setTop (mkF m 22 #[.val (.int ln), .val (.int ca), .val (.int cb)] [(.int ln)])) _
    refine XS.iconst X0.here hx rfl (hb hby d17_22) ?_
    show Steps p.tables e below (s₁.setTop (mkF m 23 #[.val (.int ln), .val (.int ca), .val (.int cb)] [(.int (2 : Int32)), (.int ln)])) _
    refine XS.icmpNo X0.here hx rfl (hb hby d17_23) rfl (teq hc23).2 ?_
    show Steps p.tables e below (s₁.setTop (mkF m 26 #[.val (.int ln), .val (.int ca), .val (.int cb)] [])) _
    refine XS.iconst X0.here hx rfl (hb hby d17_26) ?_
    show Steps p.tables e below (s₁.setTop (mkF m 27 #[.val (.int ln), .val (.int ca), .val (.int cb)] [(.int (2 : Int32))])) _
    refine st1 _ ?_
    show Steps p.tables e below (T1.setTop (mkF m 29 #[.val (.int ln), .val (.int ca), .val (.int cb)] [(.ref b1)])) _
    refine XS.dup X1.here hx rfl (hb hby d17_29) rfl rfl ?_
    show Steps p.tables e below (T1.setTop (mkF m 30 #[.val (.int ln), .val (.int ca), .val (.int cb)] [(.ref b1), (.ref b1)])) _
    refine XS.iconst X1.here hx rfl (hb hby d17_30) ?_
    show Steps p.tables e below (T1.setTop (mkF m 31 #[.val (.int ln), .val (.int ca), .val (.int cb)] [(.int (0 : Int32)), (.ref b1), (.ref b1)])) _
    refine XS.iloadN X1.here hx rfl (hb hby d17_31) rfl ?_
    show Steps p.tables e below (T1.setTop (mkF m 32 #[.val (.int ln), .val (.int ca), .val (.int cb)] [(.int ca), (.int (0 : Int32)), (.ref b1), (.ref b1)])) _
    refine st2 _ ?_
    show Steps p.tables e below (T2.setTop (mkF m 33 #[.val (.int ln), .val (.int ca), .val (.int cb)] [(.ref b1)])) _
    refine XS.dup X2.here hx rfl (hb hby d17_33) rfl rfl ?_
    show Steps p.tables e below (T2.setTop (mkF m 34 #[.val (.int ln), .val (.int ca), .val (.int cb)] [(.ref b1), (.ref b1)])) _
    refine XS.iconst X2.here hx rfl (hb hby d17_34) ?_
    show Steps p.tables e below (T2.setTop (mkF m 35 #[.val (.int ln), .val (.int ca), .val (.int cb)] [(.int (1 : Int32)), (.ref b1), (.ref b1)])) _
    refine XS.iloadN X2.here hx rfl (hb hby d17_35) rfl ?_
    show Steps p.tables e below (T2.setTop (mkF m 36 #[.val (.int ln), .val (.int ca), .val (.int cb)] [(.int cb), (.int (1 : Int32)), (.ref b1), (.ref b1)])) _
    refine st3 _ ?_
    show Steps p.tables e below (T3.setTop (mkF m 37 #[.val (.int ln), .val (.int ca), .val (.int cb)] [(.ref b1)])) _
    exact retOut X3 hx Bd.returns rfl (Or.inr (Or.inr (Or.inr (Or.inr ⟨rfl, rfl, rfl⟩)))) (hb hby d17_37) hr
  · show Qd12 Z ln ca cb h0 n0 _ T3.heap _
    rw [e3]
    exact ⟨b1, k1, ([(nar .char ca), (nar .char cb)] : List Int32), rfl, N3, K3, g_b1, V3, hgood, Nat.succ_ne_zero _⟩
theorem d17_38 : decode method_4_code 38 = .ok (.iconst 3, 1) := by decide +kernel
theorem d17_39 : decode method_4_code 39 = .ok (.newarray .char, 2) := by decide +kernel
theorem d17_41 : decode method_4_code 41 = .ok (.dup, 1) := by decide +kernel
theorem d17_42 : decode method_4_code 42 = .ok (.iconst 0, 1) := by decide +kernel
theorem d17_43 : decode method_4_code 43 = .ok (.iload_n 1, 1) := by decide +kernel
theorem d17_44 : decode method_4_code 44 = .ok (.castore, 1) := by decide +kernel
theorem d17_45 : decode method_4_code 45 = .ok (.dup, 1) := by decide +kernel
theorem d17_46 : decode method_4_code 46 = .ok (.iconst 1, 1) := by decide +kernel
theorem d17_47 : decode method_4_code 47 = .ok (.iload_n 2, 1) := by decide +kernel
theorem d17_48 : decode method_4_code 48 = .ok (.castore, 1) := by decide +kernel
theorem d17_49 : decode method_4_code 49 = .ok (.dup, 1) := by decide +kernel
theorem d17_50 : decode method_4_code 50 = .ok (.iconst 2, 1) := by decide +kernel
theorem d17_51 : decode method_4_code 51 = .ok (.iload_n 1, 1) := by decide +kernel
theorem d17_52 : decode method_4_code 52 = .ok (.castore, 1) := by decide +kernel
theorem d17_53 : decode method_4_code 53 = .ok (.areturn, 1) := by decide +kernel
set_option maxRecDepth 65536 in
set_option maxHeartbeats 40000000 in
theorem rmS3 (l : Launch) (Z : State) (a0 : Array Value) (hw : ∀ d ∈ tables_1, d.before a0 Z = true) (ws : List Jvm.Cond) (ln ca cb : Int32) (h0 : Heap) (n0 : Nat) (O0 : Old Z n0 h0) (hca : ¬ nar .char ca < 0 ∧ ¬ (255 : Int32) < nar .char ca) (hcb : ¬ nar .char cb < 0 ∧ ¬ (255 : Int32) < nar .char cb) (hc1 : ¬ (ln = (0 : Int32))) (hc10 : ¬ (ln = (1 : Int32))) (hc23 : ¬ (ln = (2 : Int32))) :
    MetFree l (⟨"com/example/lendloop/lendloop/core/TransactionRoleFromWireNamePinLaw", "shortOne", "(ICC)[C"⟩ : MethodName) (head1 (Jvm.Cond.code (⟨"com/example/lendloop/lendloop/core/TransactionRoleFromWireNamePinLaw", "shortOne", "(ICC)[C"⟩ : MethodName) method_4_code 3 (some (.array .char)) :: ws) ({ frames := 0, cells := 1, slots := 17, locals := 0 } : Room)) (fun qq U => qq = #[(.int ln), (.int ca), (.int cb)] ∧ Z.Warmed39 U.vm ∧ U.heap = h0) (fun _ _ _ _ _ => True) (fun _ UU oo UU' => ∃ vv LL, oo = .returned vv ∧ Qd12 Z ln ca cb h0 n0 vv UU'.heap LL ∧ FrameEnd UU oo UU' LL ({ frames := 0, cells := 1, slots := 17, locals := 0 } : Room).cells ({ frames := 0, cells := 1, slots := 17, locals := 0 } : Room).slots) := by
  refine MetFree.of_bodySF (plainFor_of_name pn_17) hisR ?_
  intro p e s m args below meth c s₁ Bd hml0 hP hK
  obtain ⟨rfl, hZ, hh⟩ := hP
  have hx := Bd.exec
  have hby := Bd.bytes
  have hml : c.maxLocals = 3 := hml0
  have hown : s.vm.findClass "com/example/lendloop/lendloop/core/TransactionRoleFromWireNamePinLaw" = some m.cls := findClass_of_methodNamed Bd.named
  have hnm := (name_of_methodNamed Bd.named Bd.method).1
  have X0 : Stand p l e ({ frames := 0, cells := 1, slots := 17, locals := 0 } : Room) s m #[(.int ln), (.int ca), (.int cb)] below meth c s₁ [] 0 0 := Stand.of_body Bd
  have e0 : s₁.heap = h0 := by rw [← hh, Bd.state]; rfl
  have N0 := Fr.nil n0
  have pre0 : ∀ tgt, Steps p.tables e below (s₁.setTop (mkF m 0 #[.val (.int ln), .val (.int ca), .val (.int cb)] [])) tgt → Steps p.tables e below (s₁.setTop (entryFrame m #[(.int ln), (.int ca), (.int cb)] 3)) tgt := fun tt kk => castTop (ef_17 m ln ca cb) kk
  obtain ⟨T1, h1, k1, X1, e1, E1, A1, st1⟩ := newP X0 hx hZ (ww hw 4 rfl) e0 (g := (mkF m 39 #[.val (.int ln), .val (.int ca), .val (.int cb)] [(.int (3 : Int32))])) rfl (hb hby d17_39) rfl (by decide) (cap := 3) (by decide) (by decide) (by decide) (by decide)
  obtain ⟨b1, q1⟩ : ∃ z, z = h0.size := ⟨_, rfl⟩
  rw [← q1] at A1 st1
  have g_b1 : n0 ≤ b1 := by rw [q1]; exact (O0).1 ▸ (O0).2.1
  have sz_b1 : h0.size ≤ b1 := by rw [q1]; exact ((Keep.refl h0 [])).1
  have O1 := Old.ext O0 E1
  have K1 := Keep.ext (Keep.refl h0 []) E1
  have V1 : Arv Z h1 b1 k1 .char (3 : Int32) [] (.int (0 : Int32)) := Arv.new A1 (by decide)
  obtain ⟨T2, h2, X2, e2, W2, V2, st2⟩ := own_putC X1 hx hZ e1 V1 (j := (0 : Int32)) rfl (by decide) (Nat.le_of_ble_eq_true rfl) (g := (mkF m 44 #[.val (.int ln), .val (.int ca), .val (.int cb)] [(.int ca), (.int (0 : Int32)), (.ref b1), (.ref b1)])) rfl rfl (hb hby d17_44)
  have N2 := Fr.snoc X2 N0 g_b1
  have O2 := Old.wr O1 W2 g_b1
  have K2 := Keep.wr K1 W2 (Or.inr sz_b1)
  obtain ⟨T3, h3, X3, e3, W3, V3, st3⟩ := own_putC X2 hx hZ e2 V2 (j := (1 : Int32)) rfl (by decide) (Nat.le_of_ble_eq_true rfl) (g := (mkF m 48 #[.val (.int ln), .val (.int ca), .val (.int cb)] [(.int cb), (.int (1 : Int32)), (.ref b1), (.ref b1)])) rfl rfl (hb hby d17_48)
  have N3 := Fr.snoc X3 N2 g_b1
  have O3 := Old.wr O2 W3 g_b1
  have K3 := Keep.wr K2 W3 (Or.inr sz_b1)
  obtain ⟨T4, h4, X4, e4, W4, V4, st4⟩ := own_putC X3 hx hZ e3 V3 (j := (2 : Int32)) rfl (by decide) (Nat.le_of_ble_eq_true rfl) (g := (mkF m 52 #[.val (.int ln), .val (.int ca), .val (.int cb)] [(.int ca), (.int (2 : Int32)), (.ref b1), (.ref b1)])) rfl rfl (hb hby d17_52)
  have N4 := Fr.snoc X4 N3 g_b1
  have O4 := Old.wr O3 W4 g_b1
  have K4 := Keep.wr K3 W4 (Or.inr sz_b1)
  have hgood : own_good ([(nar .char ca), (nar .char cb), (nar .char ca)] : List Int32) := ⟨Nat.le_of_ble_eq_true rfl, by
    intro x hx
    simp only [List.mem_cons, List.not_mem_nil, or_false] at hx
    rcases hx with rfl | rfl | rfl
    all_goals first | exact hca | exact hcb | decide⟩
  obtain ⟨fs, hr, hrun, hended, hW, hsame⟩ := X4.leave (v := some (.ref b1)) (fun h => by rw [Bd.returns] at h; cases h)
  refine ⟨_, _, pre0 _ ?_, hrun, hended, _, _, rfl, ?_, ⟨_, rfl⟩, hW, hsame.mono (by decide) (by decide)⟩
  · show Steps p.tables e below (s₁.setTop (mkF m 0 #[.val (.int ln), .val (.int ca), .val (.int cb)] [])) _
    refine XS.iloadN X0.here hx rfl (hb hby d17_0) rfl ?_
    show Steps p.tables e below (s₁.setTop (mkF m 1 #[.val (.int ln), .val (.int ca), .val (.int cb)] [(.int ln)])) _
    refine XS.ifYes X0.here hx rfl (pc0 := 1) (pc' := 8) rfl (hb hby d17_1) rfl ((if0 _ _).trans (feq hc1).2) (by decide) (by decide) ?_
    show Steps p.tables e below (s₁.setTop (mkF m 8 #[.val (.int ln), .val (.int ca), .val (.int cb)] [])) _
    refine XS.iloadN X0.here hx rfl (hb hby d17_8) rfl ?_
    show Steps p.tables e below (s₁.setTop (mkF m 9 #[.val (.int ln), .val (.int ca), .val (.int cb)] [(.int ln)])) _
    refine XS.iconst X0.here hx rfl (hb hby d17_9) ?_
    show Steps p.tables e below (s₁.setTop (mkF m 10 #[.val (.int ln), .val (.int ca), .val (.int cb)] [(.int (1 : Int32)), (.int ln)])) _
    refine XS.icmpYes X0.here hx rfl (pc0 := 10) (pc' := 21) rfl (hb hby d17_10) rfl (feq hc10).2 (by decide) (by decide) ?_
    show Steps p.tables e below (s₁.setTop (mkF m 21 #[.val (.int ln), .val (.int ca), .val (.int cb)] [])) _
    refine XS.iloadN X0.here hx rfl (hb hby d17_21) rfl ?_
    show Steps p.tables e below (s₁.setTop (mkF m 22 #[.val (.int ln), .val (.int ca), .val (.int cb)] [(.int ln)])) _
    refine XS.iconst X0.here hx rfl (hb hby d17_22) ?_
    show Steps p.tables e below (s₁.setTop (mkF m 23 #[.val (.int ln), .val (.int ca), .val (.int cb)] [(.int (2 : Int32)), (.int ln)])) _
    refine XS.icmpYes X0.here hx rfl (pc0 := 23) (pc' := 38) rfl (hb hby d17_23) rfl (feq hc23).2 (by decide) (by decide) ?_
    show Steps p.tables e below (s₁.setTop (mkF m 38 #[.val (.int ln), .val (.int ca), .val (.int cb)] [])) _
    refine XS.iconst X0.here hx rfl (hb hby d17_38) ?_
    show Steps p.tables e below (s₁.setTop (mkF m 39 #[.val (.int ln), .val (.int ca), .val (.int cb)] [(.int (3 : Int32))])) _
    refine st1 _ ?_
    show Steps p.tables e below (T1.setTop (mkF m 41 #[.val (.int ln), .val (.int ca), .val (.int cb)] [(.ref b1)])) _
    refine XS.dup X1.here hx rfl (hb hby d17_41) rfl rfl ?_
    show Steps p.tables e below (T1.setTop (mkF m 42 #[.val (.int ln), .val (.int ca), .val (.int cb)] [(.ref b1), (.ref b1)])) _
    refine XS.iconst X1.here hx rfl (hb hby d17_42) ?_
    show Steps p.tables e below (T1.setTop (mkF m 43 #[.val (.int ln), .val (.int ca), .val (.int cb)] [(.int (0 : Int32)), (.ref b1), (.ref b1)])) _
    refine XS.iloadN X1.here hx rfl (hb hby d17_43) rfl ?_
    show Steps p.tables e below (T1.setTop (mkF m 44 #[.val (.int ln), .val (.int ca), .val (.int cb)] [(.int ca), (.int (0 : Int32)), (.ref b1), (.ref b1)])) _
    refine st2 _ ?_
    show Steps p.tables e below (T2.setTop (mkF m 45 #[.val (.int ln), .val (.int ca), .val (.int cb)] [(.ref b1)])) _
    refine XS.dup X2.here hx rfl (hb hby d17_45) rfl rfl ?_
    show Steps p.tables e below (T2.setTop (mkF m 46 #[.val (.int ln), .val (.int ca), .val (.int cb)] [(.ref b1), (.ref b1)])) _
    refine XS.iconst X2.here hx rfl (hb hby d17_46) ?_
    show Steps p.tables e below (T2.setTop (mkF m 47 #[.val (.int ln), .val (.int ca), .val (.int cb)] [(.int (1 : Int32)), (.ref b1), (.ref b1)])) _
    refine XS.iloadN X2.here hx rfl (hb hby d17_47) rfl ?_
    show Steps p.tables e below (T2.setTop (mkF m 48 #[.val (.int ln), .val (.int ca), .val (.int cb)] [(.int cb), (.int (1 : Int32)), (.ref b1), (.ref b1)])) _
    refine st3 _ ?_
    show Steps p.tables e below (T3.setTop (mkF m 49 #[.val (.int ln), .val (.int ca), .val (.int cb)] [(.ref b1)])) _
    refine XS.dup X3.here hx rfl (hb hby d17_49) rfl rfl ?_
    show Steps p.tables e below (T3.setTop (mkF m 50 #[.val (.int ln), .val (.int ca), .val (.int cb)] [(.ref b1), (.ref b1)])) _
    refine XS.iconst X3.here hx rfl (hb hby d17_50) ?_
    show Steps p.tables e below (T3.setTop (mkF m 51 #[.val (.int ln), .val (.int ca), .val (.int cb)] [(.int (2 : Int32)), (.ref b1), (.ref b1)])) _
    refine XS.iloadN X3.here hx rfl (hb hby d17_51) rfl ?_
    show Steps p.tables e below (T3.setTop (mkF m 52 #[.val (.int ln), .val (.int ca), .val (.int cb)] [(.int ca), (.int (2 : Int32)), (.ref b1), (.ref b1)])) _
    refine st4 _ ?_
    show Steps p.tables e below (T4.setTop (mkF m 53 #[.val (.int ln), .val (.int ca), .val (.int cb)] [(.ref b1)])) _
    exact retOut X4 hx Bd.returns rfl (Or.inr (Or.inr (Or.inr (Or.inr ⟨rfl, rfl, rfl⟩)))) (hb hby d17_53) hr
  · show Qd12 Z ln ca cb h0 n0 _ T4.heap _
    rw [e4]
    exact ⟨b1, k1, ([(nar .char ca), (nar .char cb), (nar .char ca)] : List Int32), rfl, N4, K4, g_b1, V4, hgood, Nat.succ_ne_zero _⟩
theorem rmSn (l : Launch) (Z : State) (a0 : Array Value) (hw : ∀ d ∈ tables_1, d.before a0 Z = true) (ws : List Jvm.Cond) (ln ca cb : Int32) (h0 : Heap) (n0 : Nat) (O0 : Old Z n0 h0) (hca : ¬ nar .char ca < 0 ∧ ¬ (255 : Int32) < nar .char ca) (hcb : ¬ nar .char cb < 0 ∧ ¬ (255 : Int32) < nar .char cb) (hln : ¬ (ln = (0 : Int32))) :
    MetFree l (⟨"com/example/lendloop/lendloop/core/TransactionRoleFromWireNamePinLaw", "shortOne", "(ICC)[C"⟩ : MethodName) (head1 (Jvm.Cond.code (⟨"com/example/lendloop/lendloop/core/TransactionRoleFromWireNamePinLaw", "shortOne", "(ICC)[C"⟩ : MethodName) method_4_code 3 (some (.array .char)) :: ws) ({ frames := 0, cells := 1, slots := 17, locals := 0 } : Room)) (fun qq U => qq = #[(.int ln), (.int ca), (.int cb)] ∧ Z.Warmed39 U.vm ∧ U.heap = h0) (fun _ _ _ _ _ => True) (fun _ UU oo UU' => ∃ vv LL, oo = .returned vv ∧ Qd12 Z ln ca cb h0 n0 vv UU'.heap LL ∧ FrameEnd UU oo UU' LL ({ frames := 0, cells := 1, slots := 17, locals := 0 } : Room).cells ({ frames := 0, cells := 1, slots := 17, locals := 0 } : Room).slots) := by
  by_cases q1 : ln = (1 : Int32)
  · exact rmS1 l Z a0 hw ws ln ca cb h0 n0 O0 hca hcb hln q1
  by_cases q2 : ln = (2 : Int32)
  · exact rmS2 l Z a0 hw ws ln ca cb h0 n0 O0 hca hcb hln q1 q2
  · exact rmS3 l Z a0 hw ws ln ca cb h0 n0 O0 hca hcb hln q1 q2
theorem d3_0 : decode jdk_42_method_149_code 0 = .ok (.aload_n 0, 1) := by decide +kernel
theorem d3_1 : decode jdk_42_method_149_code 1 = .ok (.invokespecial 1, 3) := by decide +kernel
theorem d3_4 : decode jdk_42_method_149_code 4 = .ok (.iload_n 3, 1) := by decide +kernel
theorem d3_5 : decode jdk_42_method_149_code 5 = .ok (.ifCond .ne 22, 3) := by decide +kernel
theorem d3_8 : decode jdk_42_method_149_code 8 = .ok (.aload_n 0, 1) := by decide +kernel
theorem d3_9 : decode jdk_42_method_149_code 9 = .ok (.ldc 7, 2) := by decide +kernel
theorem d3_11 : decode jdk_42_method_149_code 11 = .ok (.getfield 9, 3) := by decide +kernel
theorem d3_14 : decode jdk_42_method_149_code 14 = .ok (.putfield 9, 3) := by decide +kernel
theorem d3_17 : decode jdk_42_method_149_code 17 = .ok (.aload_n 0, 1) := by decide +kernel
theorem d3_18 : decode jdk_42_method_149_code 18 = .ok (.ldc 7, 2) := by decide +kernel
theorem d3_20 : decode jdk_42_method_149_code 20 = .ok (.getfield 15, 3) := by decide +kernel
theorem d3_23 : decode jdk_42_method_149_code 23 = .ok (.putfield 15, 3) := by decide +kernel
theorem d3_26 : decode jdk_42_method_149_code 26 = .ok (.return_, 1) := by decide +kernel
theorem ef_3n (m : MethodId) (x0 : Addr) (x1 : Addr) (x2 : Int32) (x3 : Int32) : entryFrame m #[(.ref x0), (.ref x1), (.int x2), (.int x3), .null] 6 = mkF m 0 #[.val (.ref x0), .val (.ref x1), .val (.int x2), .val (.int x3), .val .null, .unset] [] := by first | (simp [entryFrame, mkF, argsToLocals, Value.category]; done) | rfl
theorem pn_3 : plainName "java/lang/String" = true := by first | (simp [plainName, overriddenIn]; done) | decide +kernel
def Qd13 (Z : State) (xs ca : Addr) (h0 : Heap) (n0 : Nat) (v : Option Value) (h : Heap) (L : List Loc) : Prop := ∃ tt kb, v = none ∧ Fr n0 L ∧ Keep h0 h [xs] ∧ Exa Z h xs "java/lang/String" ∧ Fld Z h xs "java/lang/String" "value" "[B" (.ref tt) ∧ Fld Z h xs "java/lang/String" "coder" "B" (.int 0) ∧ Arv Z h tt kb .byte (Int32.ofNat (([] : List Int32)).length) (((([] : List Int32)).map StrChars.lo8).map Value.int) (.int 0)
set_option maxRecDepth 65536 in
set_option maxHeartbeats 40000000 in
theorem rmI0 (l : Launch) (Z : State) (a0 : Array Value) (hw : ∀ d ∈ tables_1, d.before a0 Z = true) (ws : List Jvm.Cond) (xs ca : Addr) (h0 : Heap) (n0 : Nat) (O0 : Old Z n0 h0) (gx : n0 ≤ xs) (Ex : Exa Z h0 xs "java/lang/String") (Fv : Fld Z h0 xs "java/lang/String" "value" "[B" .null) (Fc : Fld Z h0 xs "java/lang/String" "coder" "B" (.int (0 : Int32))) :
    MetFree l (⟨"java/lang/String", "<init>", "([CIILjava/lang/Void;)V"⟩ : MethodName) (head1 (Jvm.Cond.code (⟨"java/lang/String", "<init>", "([CIILjava/lang/Void;)V"⟩ : MethodName) jdk_42_method_149_code 6 none :: ws) ({ frames := 1, cells := 4, slots := 8, locals := 12 } : Room)) (fun qq U => qq = #[(.ref xs), (.ref ca), (.int (0 : Int32)), (.int (0 : Int32)), .null] ∧ Z.Warmed39 U.vm ∧ U.heap = h0 ∧ CHv Z consts_1 U.vm h0) (fun _ _ _ _ _ => True) (fun _ UU oo UU' => ∃ vv LL, oo = .returned vv ∧ Qd13 Z xs ca h0 n0 vv UU'.heap LL ∧ CHr Z consts_1 UU.vm UU.heap UU'.vm UU'.heap ∧ ReturnedEndW UU oo UU' LL ({ frames := 1, cells := 4, slots := 8, locals := 12 } : Room).cells ({ frames := 1, cells := 4, slots := 8, locals := 12 } : Room).slots) := by
  refine MetFree.of_bodySF (plainFor_of_name pn_3) hisR ?_
  intro p e s m args below meth c s₁ Bd hml0 hP hK
  obtain ⟨rfl, hZ, hh, hC0⟩ := hP
  have hZ : Z.Warmed39 (s.setVm s.vm).vm := hZ
  have CR0 := CHr.refl hC0
  have hx := Bd.exec
  have hby := Bd.bytes
  have hml : c.maxLocals = 6 := hml0
  have hown : (s.setVm s.vm).vm.findClass "java/lang/String" = some m.cls := findClass_of_methodNamed Bd.named
  have hnm := (name_of_methodNamed Bd.named Bd.method).1
  have X0 : Stand p l e ({ frames := 1, cells := 4, slots := 8, locals := 12 } : Room) (s.setVm s.vm) m #[(.ref xs), (.ref ca), (.int (0 : Int32)), (.int (0 : Int32)), .null] below meth c s₁ [] 0 0 := Stand.of_body Bd
  have e0 : s₁.heap = h0 := by rw [← hh, Bd.state]; rfl
  have N0 := Fr.nil n0
  have pre0 : ∀ tgt, Steps p.tables e below (s₁.setTop (mkF m 0 #[.val (.ref xs), .val (.ref ca), .val (.int (0 : Int32)), .val (.int (0 : Int32)), .val .null, .unset] [])) tgt → Steps p.tables e below (s₁.setTop (entryFrame m #[(.ref xs), (.ref ca), (.int (0 : Int32)), (.int (0 : Int32)), .null] 6)) tgt := fun tt kk => castTop (ef_3n m xs ca (0 : Int32) (0 : Int32)) kk
  have SX0 := own_safeN (EL := consts_1) hZ.alike Ex Fv
  obtain ⟨T1, X1, e1, st1⟩ := initO X0 hx hZ hown (ww hw 15 rfl) (ww hw 16 rfl) (ww hw 17 rfl) e0 (g := (mkF m 1 #[.val (.ref xs), .val (.ref ca), .val (.int (0 : Int32)), .val (.int (0 : Int32)), .val .null, .unset] [(.ref xs)])) rfl (by rw [hml]; rfl) rfl (hb hby d3_1) (by decide) (W := 0) (by show 2 * 0 + _ ≤ _; exact Nat.le_of_eq rfl) (by decide)
  obtain ⟨a2, T2, h2, k2, b2, kc2, X2, e2, E2, S2, sw2, hZ2, hown2, Le2, Lc2, Lv2, La2, -, -, CC2, -, -, st2⟩ := ldcCH (s := s) (vm0 := s.vm) X1 hx hZ hown (ww hw 104 rfl) (own_atoms hw) e1 (State.WarmedH.since (State.WarmedH.refl s) 0) (Nat.zero_le _) (own_EW hw) (EL := consts_1) (List.mem_of_getElem? (i := 4) rfl) CR0.1 (vs := ((([] : List Int32).map StrChars.lo8).map Value.int)) (z := Int32.ofNat (([] : List Int32)).length) ⟨by decide +kernel, by decide +kernel⟩ (by decide +kernel) (by decide +kernel) (g := (mkF m 9 #[.val (.ref xs), .val (.ref ca), .val (.int (0 : Int32)), .val (.int (0 : Int32)), .val .null, .unset] [(.ref xs)])) rfl (hb hby d3_9) (n := 0) (by decide +kernel) (by decide) (by decide) (by decide)
  have SC2 := CC2
  have CR2 := CHr.trans CR0 SC2
  have SF2_xs := CHr.safe SC2 (Ex.lt) SX0
  have O2 := Old.ext O0 E2
  have K2 := Keep.ext (Keep.refl h0 [xs]) E2
  have neXB : xs ≠ b2 := Exa.neArv (Exa.ext E2 Ex) La2 (ww hw 6 rfl)
  obtain ⟨T3, X3, e3, st3⟩ := getF X2 hx hZ2 hown2 (host := "") (Or.inl (ww hw 32 rfl)) Via.refl e2 Lv2 (g := (mkF m 11 #[.val (.ref xs), .val (.ref ca), .val (.int (0 : Int32)), .val (.int (0 : Int32)), .val .null, .unset] [(.ref a2), (.ref xs)])) rfl rfl (hb hby d3_11)
  obtain ⟨T4, h4, X4, e4, W4, st4⟩ := putF X3 hx hZ2 hown2 (host := "") (Or.inl (ww hw 32 rfl)) Via.refl e3 (Fld.ext E2 Fv) (Exa.ext E2 Ex) (Or.inr ⟨(ww hw 33 rfl), rfl, hnm⟩) (ww hw 6 rfl) (ty := (.array .byte)) (by decide) rfl rfl (g := (mkF m 14 #[.val (.ref xs), .val (.ref ca), .val (.int (0 : Int32)), .val (.int (0 : Int32)), .val .null, .unset] [(.ref b2), (.ref xs)])) rfl rfl (hb hby d3_14)
  have Fw4 := Fld.same W4 (Fld.ext E2 Fv)
  have SC4 := CHr.wr W4 SF2_xs CR2.1
  have CR4 := CHr.trans CR2 SC4
  have SF4_xs := CHr.safe SC4 ((Exa.ext E2 Ex).lt) SF2_xs
  have sz4 := Nat.le_trans sw2 (Nat.le_of_eq W4.size.symm)
  have N4 := Fr.snoc X4 N0 gx
  have O4 := Old.wr O2 W4 gx
  have K4 := Keep.wr K2 W4 (Or.inl (List.mem_of_getElem? (i := 0) rfl))
  obtain ⟨a5, T5, h5, k5, b5, kc5, X5, e5, E5, S5, sw5, hZ5, hown5, Le5, Lc5, Lv5, La5, -, -, CC5, -, -, st5⟩ := ldcCH (s := s) (vm0 := T2.vm) X4 hx hZ2 hown2 (ww hw 104 rfl) (own_atoms hw) e4 S2 sz4 (own_EW hw) (EL := consts_1) (List.mem_of_getElem? (i := 4) rfl) CR4.1 (vs := ((([] : List Int32).map StrChars.lo8).map Value.int)) (z := Int32.ofNat (([] : List Int32)).length) ⟨by decide +kernel, by decide +kernel⟩ (by decide +kernel) (by decide +kernel) (g := (mkF m 18 #[.val (.ref xs), .val (.ref ca), .val (.int (0 : Int32)), .val (.int (0 : Int32)), .val .null, .unset] [(.ref xs)])) rfl (hb hby d3_18) (n := 0) (by decide +kernel) (by decide) (by decide) (by decide)
  have SC5 := CC5
  have CR5 := CHr.trans CR4 SC5
  have SF5_xs := CHr.safe SC5 ((Exa.wr W4 (Exa.ext E2 Ex)).lt) SF4_xs
  have O5 := Old.ext O4 E5
  have K5 := Keep.ext K4 E5
  obtain ⟨T6, X6, e6, st6⟩ := getF X5 hx hZ5 hown5 (host := "") (Or.inl (ww hw 30 rfl)) Via.refl e5 Lc5 (g := (mkF m 20 #[.val (.ref xs), .val (.ref ca), .val (.int (0 : Int32)), .val (.int (0 : Int32)), .val .null, .unset] [(.ref a5), (.ref xs)])) rfl rfl (hb hby d3_20)
  have c7 := (Fld.ext E5 (Fld.other W4 (Fld.ext E2 Fc) (Or.inr (slot_ne (a0 := a0) (Or.inr (ww hw 31 rfl)) (Or.inr (ww hw 33 rfl)) (by decide) (t := .byte) (t' := (.array .byte)) (by decide) (by decide)))))
  obtain ⟨T8, h8, X8, e8, W8, st8⟩ := putFN X6 hx hZ5 hown5 (ww hw 30 rfl) Via.refl e6 c7 (Exa.ext E5 (Exa.wr W4 (Exa.ext E2 Ex))) (Or.inr ⟨(ww hw 31 rfl), rfl, hnm⟩) (ww hw 6 rfl) (ty := .byte) (v' := (.int (0 : Int32))) (by decide) rfl rfl (g := (mkF m 23 #[.val (.ref xs), .val (.ref ca), .val (.int (0 : Int32)), .val (.int (0 : Int32)), .val .null, .unset] [(.int (0 : Int32)), (.ref xs)])) rfl rfl (hb hby d3_23)
  have Fw8 := Fld.same W8 c7
  have SC8 := CHr.wr W8 SF5_xs CR5.1
  have CR8 := CHr.trans CR5 SC8
  have SF8_xs := CHr.safe SC8 ((Exa.ext E5 (Exa.wr W4 (Exa.ext E2 Ex))).lt) SF5_xs
  have sz8 := Nat.le_trans sw5 (Nat.le_of_eq W8.size.symm)
  have N8 := Fr.snoc X8 N4 gx
  have O8 := Old.wr O5 W8 gx
  have K8 := Keep.wr K5 W8 (Or.inl (List.mem_of_getElem? (i := 0) rfl))
  have c9 := (Fld.other W8 (Fld.ext E5 Fw4) (Or.inr (slot_ne (a0 := a0) (Or.inr (ww hw 33 rfl)) (Or.inr (ww hw 31 rfl)) (by decide) (t := (.array .byte)) (t' := .byte) (by decide) (by decide))))
  have c10 := (((La2.other W4 (Ne.symm neXB)).ext E5).other W8 (Ne.symm neXB))
  obtain ⟨fs, hr, hrun, hended, hE⟩ := X8.leaveW (s := s) (vm₁ := T5.vm) S5 (by rw [e8]; exact sz8) (v := none) (fun _ => rfl)
  have CE : CHr Z consts_1 s.vm s.heap T8.vm T8.heap := by
    rw [hh, e8]
    exact CHr.trans CR8 (CHv.at X8 hZ5 (own_EW hw) CR8.1)
  refine ⟨_, _, pre0 _ ?_, hrun, hended, _, _, rfl, ?_, CE, hE.1, hE.2.1, hE.2.2.1, hE.2.2.2.mono (by decide) (by decide)⟩
  · show Steps p.tables e below (s₁.setTop (mkF m 0 #[.val (.ref xs), .val (.ref ca), .val (.int (0 : Int32)), .val (.int (0 : Int32)), .val .null, .unset] [])) _
    refine XS.aloadN X0.here hx rfl (hb hby d3_0) rfl rfl ?_
    show Steps p.tables e below (s₁.setTop (mkF m 1 #[.val (.ref xs), .val (.ref ca), .val (.int (0 : Int32)), .val (.int (0 : Int32)), .val .null, .unset] [(.ref xs)])) _
    refine st1 _ ?_
    show Steps p.tables e below (T1.setTop (mkF m 4 #[.val (.ref xs), .val (.ref ca), .val (.int (0 : Int32)), .val (.int (0 : Int32)), .val .null, .unset] [])) _
    refine XS.iloadN X1.here hx rfl (hb hby d3_4) rfl ?_
    show Steps p.tables e below (T1.setTop (mkF m 5 #[.val (.ref xs), .val (.ref ca), .val (.int (0 : Int32)), .val (.int (0 : Int32)), .val .null, .unset] [(.int (0 : Int32))])) _
    refine XS.ifNo X1.here hx rfl (hb hby d3_5) rfl ((if0 _ _).trans (teq (rfl : (0 : Int32) = (0 : Int32))).2) ?_
    show Steps p.tables e below (T1.setTop (mkF m 8 #[.val (.ref xs), .val (.ref ca), .val (.int (0 : Int32)), .val (.int (0 : Int32)), .val .null, .unset] [])) _
    refine XS.aloadN X1.here hx rfl (hb hby d3_8) rfl rfl ?_
    show Steps p.tables e below (T1.setTop (mkF m 9 #[.val (.ref xs), .val (.ref ca), .val (.int (0 : Int32)), .val (.int (0 : Int32)), .val .null, .unset] [(.ref xs)])) _
    refine st2 _ ?_
    show Steps p.tables e below (T2.setTop (mkF m 11 #[.val (.ref xs), .val (.ref ca), .val (.int (0 : Int32)), .val (.int (0 : Int32)), .val .null, .unset] [(.ref a2), (.ref xs)])) _
    refine st3 _ ?_
    show Steps p.tables e below (T3.setTop (mkF m 14 #[.val (.ref xs), .val (.ref ca), .val (.int (0 : Int32)), .val (.int (0 : Int32)), .val .null, .unset] [(.ref b2), (.ref xs)])) _
    refine st4 _ ?_
    show Steps p.tables e below (T4.setTop (mkF m 17 #[.val (.ref xs), .val (.ref ca), .val (.int (0 : Int32)), .val (.int (0 : Int32)), .val .null, .unset] [])) _
    refine XS.aloadN X4.here hx rfl (hb hby d3_17) rfl rfl ?_
    show Steps p.tables e below (T4.setTop (mkF m 18 #[.val (.ref xs), .val (.ref ca), .val (.int (0 : Int32)), .val (.int (0 : Int32)), .val .null, .unset] [(.ref xs)])) _
    refine st5 _ ?_
    show Steps p.tables e below (T5.setTop (mkF m 20 #[.val (.ref xs), .val (.ref ca), .val (.int (0 : Int32)), .val (.int (0 : Int32)), .val .null, .unset] [(.ref a5), (.ref xs)])) _
    refine st6 _ ?_
    show Steps p.tables e below (T6.setTop (mkF m 23 #[.val (.ref xs), .val (.ref ca), .val (.int (0 : Int32)), .val (.int (0 : Int32)), .val .null, .unset] [(.int (0 : Int32)), (.ref xs)])) _
    refine st8 _ ?_
    show Steps p.tables e below (T8.setTop (mkF m 26 #[.val (.ref xs), .val (.ref ca), .val (.int (0 : Int32)), .val (.int (0 : Int32)), .val .null, .unset] [])) _
    exact X8.returnOut hx Bd.returns (hb hby d3_26) hr
  · show Qd13 Z xs ca h0 n0 _ T8.heap _
    rw [e8]
    exact ⟨b2, kc2, rfl, N8, K8, (Exa.wr W8 (Exa.ext E5 (Exa.wr W4 (Exa.ext E2 Ex)))), c9, Fw8, c10⟩
theorem d2_0 : decode jdk_42_method_3_code 0 = .ok (.aload_n 0, 1) := by decide +kernel
theorem d2_1 : decode jdk_42_method_3_code 1 = .ok (.aload_n 1, 1) := by decide +kernel
theorem d2_2 : decode jdk_42_method_3_code 2 = .ok (.iconst 0, 1) := by decide +kernel
theorem d2_3 : decode jdk_42_method_3_code 3 = .ok (.aload_n 1, 1) := by decide +kernel
theorem d2_4 : decode jdk_42_method_3_code 4 = .ok (.arraylength, 1) := by decide +kernel
theorem d2_5 : decode jdk_42_method_3_code 5 = .ok (.aconst_null, 1) := by decide +kernel
theorem d2_6 : decode jdk_42_method_3_code 6 = .ok (.invokespecial 27, 3) := by decide +kernel
theorem own_pd6 : parseMethodDescriptor "([CIILjava/lang/Void;)V" = some ⟨[(.array .char), .int, .int, (.object "java/lang/Void")], none⟩ := by decide +kernel
theorem d2_9 : decode jdk_42_method_3_code 9 = .ok (.return_, 1) := by decide +kernel
theorem ef_2 (m : MethodId) (x0 : Addr) (x1 : Addr) : entryFrame m #[(.ref x0), (.ref x1)] 2 = mkF m 0 #[.val (.ref x0), .val (.ref x1)] [] := by first | (simp [entryFrame, mkF, argsToLocals, Value.category]; done) | rfl
theorem pn_2 : plainName "java/lang/String" = true := by first | (simp [plainName, overriddenIn]; done) | decide +kernel
def Qd14 (Z : State) (xs ca : Addr) (kC : ClassId) (h0 : Heap) (n0 : Nat) (v : Option Value) (h : Heap) (L : List Loc) : Prop := ∃ tt kb, v = none ∧ Fr n0 L ∧ Keep h0 h [xs] ∧ Exa Z h xs "java/lang/String" ∧ Fld Z h xs "java/lang/String" "value" "[B" (.ref tt) ∧ Fld Z h xs "java/lang/String" "coder" "B" (.int 0) ∧ Arv Z h tt kb .byte (Int32.ofNat (([] : List Int32)).length) (((([] : List Int32)).map StrChars.lo8).map Value.int) (.int 0)
set_option maxRecDepth 65536 in
set_option maxHeartbeats 40000000 in
theorem rmI (l : Launch) (Z : State) (a0 : Array Value) (hw : ∀ d ∈ tables_1, d.before a0 Z = true) (ws : List Jvm.Cond) (xs ca : Addr) (kC : ClassId) (h0 : Heap) (n0 : Nat) (O0 : Old Z n0 h0) (gx : n0 ≤ xs) (Ex : Exa Z h0 xs "java/lang/String") (Fv : Fld Z h0 xs "java/lang/String" "value" "[B" .null) (Fc : Fld Z h0 xs "java/lang/String" "coder" "B" (.int (0 : Int32))) (VC : Arv Z h0 ca kC .char (0 : Int32) [] (.int 0)) :
    MetFree l (⟨"java/lang/String", "<init>", "([C)V"⟩ : MethodName) (head1 (Jvm.Cond.code (⟨"java/lang/String", "<init>", "([C)V"⟩ : MethodName) jdk_42_method_3_code 2 none :: ws) ({ frames := 2, cells := 4, slots := 8, locals := 29 } : Room)) (fun qq U => qq = #[(.ref xs), (.ref ca)] ∧ Z.Warmed39 U.vm ∧ U.heap = h0 ∧ CHv Z consts_1 U.vm h0) (fun _ _ _ _ _ => True) (fun _ UU oo UU' => ∃ vv LL, oo = .returned vv ∧ Qd14 Z xs ca kC h0 n0 vv UU'.heap LL ∧ CHr Z consts_1 UU.vm UU.heap UU'.vm UU'.heap ∧ ReturnedEndW UU oo UU' LL ({ frames := 2, cells := 4, slots := 8, locals := 29 } : Room).cells ({ frames := 2, cells := 4, slots := 8, locals := 29 } : Room).slots) := by
  refine MetFree.of_bodySF (plainFor_of_name pn_2) hisR ?_
  intro p e s m args below meth c s₁ Bd hml0 hP hK
  obtain ⟨rfl, hZ, hh, hC0⟩ := hP
  have hZ : Z.Warmed39 (s.setVm s.vm).vm := hZ
  have CR0 := CHr.refl hC0
  have hx := Bd.exec
  have hby := Bd.bytes
  have hml : c.maxLocals = 2 := hml0
  have hown : (s.setVm s.vm).vm.findClass "java/lang/String" = some m.cls := findClass_of_methodNamed Bd.named
  have hnm := (name_of_methodNamed Bd.named Bd.method).1
  have X0 : Stand p l e ({ frames := 2, cells := 4, slots := 8, locals := 29 } : Room) (s.setVm s.vm) m #[(.ref xs), (.ref ca)] below meth c s₁ [] 0 0 := Stand.of_body Bd
  have e0 : s₁.heap = h0 := by rw [← hh, Bd.state]; rfl
  have N0 := Fr.nil n0
  have pre0 : ∀ tgt, Steps p.tables e below (s₁.setTop (mkF m 0 #[.val (.ref xs), .val (.ref ca)] [])) tgt → Steps p.tables e below (s₁.setTop (entryFrame m #[(.ref xs), (.ref ca)] 2)) tgt := fun tt kk => castTop (ef_2 m xs ca) kk
  obtain ⟨cl, Ar, qk, Sz, Mz, Hz, Uz⟩ := id VC
  obtain ⟨_, _, ⟨T1, L1, k1, n1⟩, -, X1, Sq1, gq1, ⟨Lc1, hQ1, l1, y1, z1, CC1⟩, st1⟩ := X0.specialBackS hx (y := (⟨"java/lang/String", "<init>", "([CIILjava/lang/Void;)V"⟩ : MethodName)) rfl hown (mvT hZ (ww hw 11 rfl)) (mvT hZ (ww hw 12 rfl)) (mvT hZ (ww hw 14 rfl)) (by decide) (backOfSH (W := 0) (rmI0 l Z a0 hw [] xs ca h0 n0 O0 gx Ex Fv Fc) hZ (ww hw 14 rfl) (ww hw 7 rfl) (by decide) (by decide) (own_EW hw) CR0.1) (g := (mkF m 6 #[.val (.ref xs), .val (.ref ca)] [.null, (.int (0 : Int32)), (.int (0 : Int32)), (.ref ca), (.ref xs)])) rfl (by rw [hml]; rfl) (Steps.refl _) (a := xs) (argsL := [(.ref ca), (.int (0 : Int32)), (.int (0 : Int32)), .null]) (rest := []) (lenOf own_pd6 rfl) rfl (by show 2 * 0 + _ ≤ _; exact Nat.le_of_eq rfl) (hb hby d2_6) (fun _ _ => ⟨rfl, e0, (by decide : 0 + 4 ≤ _), (by decide : 0 + 8 ≤ _)⟩)
  dsimp only [Pt.U, Pt.locs, Pt.cells, Pt.slots] at X1 l1 y1 z1 st1 hQ1 Sq1 gq1 CC1
  subst l1 y1 z1
  obtain ⟨X1, S1, hZ1, hown1⟩ := rebS (n1 := s₁.heap.size) (State.WarmedH.since (State.WarmedH.refl s) 0) (by rw [e0]; exact (Nat.zero_le _)) X1 Sq1 gq1 hZ hown
  obtain ⟨tt, kb, rfl, N1q, KK1, f1_0, f1_1, f1_2, f1_3⟩ := hQ1
  have N1 := Fr.app N0 N1q
  have SC1 := CC1
  have CR1 := CHr.trans CR0 SC1
  have O1 := Old.keep O0 KK1 (allS gx all0)
  have K1 := Keep.trans (Keep.refl h0 [xs]) KK1 (allS (Or.inl (List.mem_of_getElem? (i := 0) rfl)) all0)
  obtain ⟨fs, hr, hrun, hended, hE⟩ := X1.leaveW (s := s) (vm₁ := T1.vm) S1 ((Nat.le_refl _)) (v := none) (fun _ => rfl)
  have CE : CHr Z consts_1 s.vm s.heap T1.vm T1.heap := by
    rw [hh]
    exact CHr.trans CR1 (CHv.at X1 hZ1 (own_EW hw) CR1.1)
  refine ⟨_, _, pre0 _ ?_, hrun, hended, _, _, rfl, ?_, CE, hE.1, hE.2.1, hE.2.2.1, hE.2.2.2.mono (by decide) (by decide)⟩
  · show Steps p.tables e below (s₁.setTop (mkF m 0 #[.val (.ref xs), .val (.ref ca)] [])) _
    refine XS.aloadN X0.here hx rfl (hb hby d2_0) rfl rfl ?_
    show Steps p.tables e below (s₁.setTop (mkF m 1 #[.val (.ref xs), .val (.ref ca)] [(.ref xs)])) _
    refine XS.aloadN X0.here hx rfl (hb hby d2_1) rfl rfl ?_
    show Steps p.tables e below (s₁.setTop (mkF m 2 #[.val (.ref xs), .val (.ref ca)] [(.ref ca), (.ref xs)])) _
    refine XS.iconst X0.here hx rfl (hb hby d2_2) ?_
    show Steps p.tables e below (s₁.setTop (mkF m 3 #[.val (.ref xs), .val (.ref ca)] [(.int (0 : Int32)), (.ref ca), (.ref xs)])) _
    refine XS.aloadN X0.here hx rfl (hb hby d2_3) rfl rfl ?_
    show Steps p.tables e below (s₁.setTop (mkF m 4 #[.val (.ref xs), .val (.ref ca)] [(.ref ca), (.int (0 : Int32)), (.ref ca), (.ref xs)])) _
    refine X0.arraylength hx (by rw [e0]; exact Ar.1) (State.isArrayOf_alike hZ.alike Ar.2.1) (g := (mkF m 4 #[.val (.ref xs), .val (.ref ca)] [(.ref ca), (.int (0 : Int32)), (.ref ca), (.ref xs)])) rfl rfl (hb hby d2_4) _ ?_
    rw [len_of Sz Mz]
    show Steps p.tables e below (s₁.setTop (mkF m 5 #[.val (.ref xs), .val (.ref ca)] [(.int (0 : Int32)), (.int (0 : Int32)), (.ref ca), (.ref xs)])) _
    refine XS.aconstNull X0.here hx rfl (hb hby d2_5) ?_
    show Steps p.tables e below (s₁.setTop (mkF m 6 #[.val (.ref xs), .val (.ref ca)] [.null, (.int (0 : Int32)), (.int (0 : Int32)), (.ref ca), (.ref xs)])) _
    refine st1.trans ?_
    show Steps p.tables e below (T1.setTop (mkF m 9 #[.val (.ref xs), .val (.ref ca)] [])) _
    exact X1.returnOut hx Bd.returns (hb hby d2_9) hr
  · show Qd14 Z xs ca kC h0 n0 _ T1.heap _
    exact ⟨tt, kb, rfl, N1, K1, f1_0, f1_1, f1_2, f1_3⟩
set_option maxRecDepth 65536 in
set_option maxHeartbeats 40000000 in
theorem lp0 {p : Program} {l : Launch} {e : Env} {R : Room} {s : State} {m : MethodId} {args : Array Value} {below : List Frame} {meth : Method} {c : Code} {T0 : State} {locs : List Loc} {cells slots : Nat} {Z : State} {a0 : Array Value} {h0 : Heap} (X0 : Stand p l e R s m args below meth c T0 locs cells slots) (hx : p.tables.exec = Jvm.exec) (hZ : Z.Warmed39 s.vm) (hw : ∀ d ∈ tables_1, d.before a0 Z = true) (hby : c.code = code) (hown : s.vm.findClass "com/example/lendloop/lendloop/core/TransactionRoleFromWireNamePinLaw" = some m.cls) (e0 : T0.heap = h0) {p0 p1 p2 p3 : Int32} (hc34 : ((p0 >>> ((6 : Int32) &&& 31)) &&& (1 : Int32)) = (0 : Int32)) :
    ∀ target, Steps p.tables e below (T0.setTop (mkF m 44 #[.val (.int p0), .val (.int p1), .val (.int p2), .val (.int p3), .val (.int ((p2 &&& (255 : Int32)).toUInt32.toUInt16.toUInt32.toInt32)), .val (.int ((p3 &&& (255 : Int32)).toUInt32.toUInt16.toUInt32.toInt32)), .val (.int (p0 &&& (3 : Int32))), .val (.int ((p0 >>> ((2 : Int32) &&& 31)) &&& (3 : Int32))), .val (.int (0 : Int32)), .unset, .unset, .unset, .unset] [])) target → Steps p.tables e below (T0.setTop (mkF m 0 #[.val (.int p0), .val (.int p1), .val (.int p2), .val (.int p3), .unset, .unset, .unset, .unset, .unset, .unset, .unset, .unset, .unset] [])) target := by
  intro target kt
  show Steps p.tables e below (T0.setTop (mkF m 0 #[.val (.int p0), .val (.int p1), .val (.int p2), .val (.int p3), .unset, .unset, .unset, .unset, .unset, .unset, .unset, .unset, .unset] [])) _
  refine XS.iloadN X0.here hx rfl (hb hby at_0) rfl ?_
  show Steps p.tables e below (T0.setTop (mkF m 1 #[.val (.int p0), .val (.int p1), .val (.int p2), .val (.int p3), .unset, .unset, .unset, .unset, .unset, .unset, .unset, .unset, .unset] [(.int p2)])) _
  refine XS.sipush X0.here hx rfl (hb hby at_1) ?_
  show Steps p.tables e below (T0.setTop (mkF m 4 #[.val (.int p0), .val (.int p1), .val (.int p2), .val (.int p3), .unset, .unset, .unset, .unset, .unset, .unset, .unset, .unset, .unset] [(.int (255 : Int32)), (.int p2)])) _
  refine XS.iand X0.here hx rfl (hb hby at_4) rfl ?_
  show Steps p.tables e below (T0.setTop (mkF m 5 #[.val (.int p0), .val (.int p1), .val (.int p2), .val (.int p3), .unset, .unset, .unset, .unset, .unset, .unset, .unset, .unset, .unset] [(.int (p2 &&& (255 : Int32)))])) _
  refine XS.i2c X0.here hx rfl (hb hby at_5) rfl ?_
  show Steps p.tables e below (T0.setTop (mkF m 6 #[.val (.int p0), .val (.int p1), .val (.int p2), .val (.int p3), .unset, .unset, .unset, .unset, .unset, .unset, .unset, .unset, .unset] [(.int ((p2 &&& (255 : Int32)).toUInt32.toUInt16.toUInt32.toInt32))])) _
  refine XS.istore X0.here hx rfl (hb hby at_6) rfl (l' := #[.val (.int p0), .val (.int p1), .val (.int p2), .val (.int p3), .val (.int ((p2 &&& (255 : Int32)).toUInt32.toUInt16.toUInt32.toInt32)), .unset, .unset, .unset, .unset, .unset, .unset, .unset, .unset]) rfl ?_
  show Steps p.tables e below (T0.setTop (mkF m 8 #[.val (.int p0), .val (.int p1), .val (.int p2), .val (.int p3), .val (.int ((p2 &&& (255 : Int32)).toUInt32.toUInt16.toUInt32.toInt32)), .unset, .unset, .unset, .unset, .unset, .unset, .unset, .unset] [])) _
  refine XS.iloadN X0.here hx rfl (hb hby at_8) rfl ?_
  show Steps p.tables e below (T0.setTop (mkF m 9 #[.val (.int p0), .val (.int p1), .val (.int p2), .val (.int p3), .val (.int ((p2 &&& (255 : Int32)).toUInt32.toUInt16.toUInt32.toInt32)), .unset, .unset, .unset, .unset, .unset, .unset, .unset, .unset] [(.int p3)])) _
  refine XS.sipush X0.here hx rfl (hb hby at_9) ?_
  show Steps p.tables e below (T0.setTop (mkF m 12 #[.val (.int p0), .val (.int p1), .val (.int p2), .val (.int p3), .val (.int ((p2 &&& (255 : Int32)).toUInt32.toUInt16.toUInt32.toInt32)), .unset, .unset, .unset, .unset, .unset, .unset, .unset, .unset] [(.int (255 : Int32)), (.int p3)])) _
  refine XS.iand X0.here hx rfl (hb hby at_12) rfl ?_
  show Steps p.tables e below (T0.setTop (mkF m 13 #[.val (.int p0), .val (.int p1), .val (.int p2), .val (.int p3), .val (.int ((p2 &&& (255 : Int32)).toUInt32.toUInt16.toUInt32.toInt32)), .unset, .unset, .unset, .unset, .unset, .unset, .unset, .unset] [(.int (p3 &&& (255 : Int32)))])) _
  refine XS.i2c X0.here hx rfl (hb hby at_13) rfl ?_
  show Steps p.tables e below (T0.setTop (mkF m 14 #[.val (.int p0), .val (.int p1), .val (.int p2), .val (.int p3), .val (.int ((p2 &&& (255 : Int32)).toUInt32.toUInt16.toUInt32.toInt32)), .unset, .unset, .unset, .unset, .unset, .unset, .unset, .unset] [(.int ((p3 &&& (255 : Int32)).toUInt32.toUInt16.toUInt32.toInt32))])) _
  refine XS.istore X0.here hx rfl (hb hby at_14) rfl (l' := #[.val (.int p0), .val (.int p1), .val (.int p2), .val (.int p3), .val (.int ((p2 &&& (255 : Int32)).toUInt32.toUInt16.toUInt32.toInt32)), .val (.int ((p3 &&& (255 : Int32)).toUInt32.toUInt16.toUInt32.toInt32)), .unset, .unset, .unset, .unset, .unset, .unset, .unset]) rfl ?_
  show Steps p.tables e below (T0.setTop (mkF m 16 #[.val (.int p0), .val (.int p1), .val (.int p2), .val (.int p3), .val (.int ((p2 &&& (255 : Int32)).toUInt32.toUInt16.toUInt32.toInt32)), .val (.int ((p3 &&& (255 : Int32)).toUInt32.toUInt16.toUInt32.toInt32)), .unset, .unset, .unset, .unset, .unset, .unset, .unset] [])) _
  refine XS.iloadN X0.here hx rfl (hb hby at_16) rfl ?_
  show Steps p.tables e below (T0.setTop (mkF m 17 #[.val (.int p0), .val (.int p1), .val (.int p2), .val (.int p3), .val (.int ((p2 &&& (255 : Int32)).toUInt32.toUInt16.toUInt32.toInt32)), .val (.int ((p3 &&& (255 : Int32)).toUInt32.toUInt16.toUInt32.toInt32)), .unset, .unset, .unset, .unset, .unset, .unset, .unset] [(.int p0)])) _
  refine XS.iconst X0.here hx rfl (hb hby at_17) ?_
  show Steps p.tables e below (T0.setTop (mkF m 18 #[.val (.int p0), .val (.int p1), .val (.int p2), .val (.int p3), .val (.int ((p2 &&& (255 : Int32)).toUInt32.toUInt16.toUInt32.toInt32)), .val (.int ((p3 &&& (255 : Int32)).toUInt32.toUInt16.toUInt32.toInt32)), .unset, .unset, .unset, .unset, .unset, .unset, .unset] [(.int (3 : Int32)), (.int p0)])) _
  refine XS.iand X0.here hx rfl (hb hby at_18) rfl ?_
  show Steps p.tables e below (T0.setTop (mkF m 19 #[.val (.int p0), .val (.int p1), .val (.int p2), .val (.int p3), .val (.int ((p2 &&& (255 : Int32)).toUInt32.toUInt16.toUInt32.toInt32)), .val (.int ((p3 &&& (255 : Int32)).toUInt32.toUInt16.toUInt32.toInt32)), .unset, .unset, .unset, .unset, .unset, .unset, .unset] [(.int (p0 &&& (3 : Int32)))])) _
  refine XS.istore X0.here hx rfl (hb hby at_19) rfl (l' := #[.val (.int p0), .val (.int p1), .val (.int p2), .val (.int p3), .val (.int ((p2 &&& (255 : Int32)).toUInt32.toUInt16.toUInt32.toInt32)), .val (.int ((p3 &&& (255 : Int32)).toUInt32.toUInt16.toUInt32.toInt32)), .val (.int (p0 &&& (3 : Int32))), .unset, .unset, .unset, .unset, .unset, .unset]) rfl ?_
  show Steps p.tables e below (T0.setTop (mkF m 21 #[.val (.int p0), .val (.int p1), .val (.int p2), .val (.int p3), .val (.int ((p2 &&& (255 : Int32)).toUInt32.toUInt16.toUInt32.toInt32)), .val (.int ((p3 &&& (255 : Int32)).toUInt32.toUInt16.toUInt32.toInt32)), .val (.int (p0 &&& (3 : Int32))), .unset, .unset, .unset, .unset, .unset, .unset] [])) _
  refine XS.iloadN X0.here hx rfl (hb hby at_21) rfl ?_
  show Steps p.tables e below (T0.setTop (mkF m 22 #[.val (.int p0), .val (.int p1), .val (.int p2), .val (.int p3), .val (.int ((p2 &&& (255 : Int32)).toUInt32.toUInt16.toUInt32.toInt32)), .val (.int ((p3 &&& (255 : Int32)).toUInt32.toUInt16.toUInt32.toInt32)), .val (.int (p0 &&& (3 : Int32))), .unset, .unset, .unset, .unset, .unset, .unset] [(.int p0)])) _
  refine XS.iconst X0.here hx rfl (hb hby at_22) ?_
  show Steps p.tables e below (T0.setTop (mkF m 23 #[.val (.int p0), .val (.int p1), .val (.int p2), .val (.int p3), .val (.int ((p2 &&& (255 : Int32)).toUInt32.toUInt16.toUInt32.toInt32)), .val (.int ((p3 &&& (255 : Int32)).toUInt32.toUInt16.toUInt32.toInt32)), .val (.int (p0 &&& (3 : Int32))), .unset, .unset, .unset, .unset, .unset, .unset] [(.int (2 : Int32)), (.int p0)])) _
  refine XS.ishr X0.here hx rfl (hb hby at_23) rfl ?_
  show Steps p.tables e below (T0.setTop (mkF m 24 #[.val (.int p0), .val (.int p1), .val (.int p2), .val (.int p3), .val (.int ((p2 &&& (255 : Int32)).toUInt32.toUInt16.toUInt32.toInt32)), .val (.int ((p3 &&& (255 : Int32)).toUInt32.toUInt16.toUInt32.toInt32)), .val (.int (p0 &&& (3 : Int32))), .unset, .unset, .unset, .unset, .unset, .unset] [(.int (p0 >>> ((2 : Int32) &&& 31)))])) _
  refine XS.iconst X0.here hx rfl (hb hby at_24) ?_
  show Steps p.tables e below (T0.setTop (mkF m 25 #[.val (.int p0), .val (.int p1), .val (.int p2), .val (.int p3), .val (.int ((p2 &&& (255 : Int32)).toUInt32.toUInt16.toUInt32.toInt32)), .val (.int ((p3 &&& (255 : Int32)).toUInt32.toUInt16.toUInt32.toInt32)), .val (.int (p0 &&& (3 : Int32))), .unset, .unset, .unset, .unset, .unset, .unset] [(.int (3 : Int32)), (.int (p0 >>> ((2 : Int32) &&& 31)))])) _
  refine XS.iand X0.here hx rfl (hb hby at_25) rfl ?_
  show Steps p.tables e below (T0.setTop (mkF m 26 #[.val (.int p0), .val (.int p1), .val (.int p2), .val (.int p3), .val (.int ((p2 &&& (255 : Int32)).toUInt32.toUInt16.toUInt32.toInt32)), .val (.int ((p3 &&& (255 : Int32)).toUInt32.toUInt16.toUInt32.toInt32)), .val (.int (p0 &&& (3 : Int32))), .unset, .unset, .unset, .unset, .unset, .unset] [(.int ((p0 >>> ((2 : Int32) &&& 31)) &&& (3 : Int32)))])) _
  refine XS.istore X0.here hx rfl (hb hby at_26) rfl (l' := #[.val (.int p0), .val (.int p1), .val (.int p2), .val (.int p3), .val (.int ((p2 &&& (255 : Int32)).toUInt32.toUInt16.toUInt32.toInt32)), .val (.int ((p3 &&& (255 : Int32)).toUInt32.toUInt16.toUInt32.toInt32)), .val (.int (p0 &&& (3 : Int32))), .val (.int ((p0 >>> ((2 : Int32) &&& 31)) &&& (3 : Int32))), .unset, .unset, .unset, .unset, .unset]) rfl ?_
  show Steps p.tables e below (T0.setTop (mkF m 28 #[.val (.int p0), .val (.int p1), .val (.int p2), .val (.int p3), .val (.int ((p2 &&& (255 : Int32)).toUInt32.toUInt16.toUInt32.toInt32)), .val (.int ((p3 &&& (255 : Int32)).toUInt32.toUInt16.toUInt32.toInt32)), .val (.int (p0 &&& (3 : Int32))), .val (.int ((p0 >>> ((2 : Int32) &&& 31)) &&& (3 : Int32))), .unset, .unset, .unset, .unset, .unset] [])) _
  refine XS.iloadN X0.here hx rfl (hb hby at_28) rfl ?_
  show Steps p.tables e below (T0.setTop (mkF m 29 #[.val (.int p0), .val (.int p1), .val (.int p2), .val (.int p3), .val (.int ((p2 &&& (255 : Int32)).toUInt32.toUInt16.toUInt32.toInt32)), .val (.int ((p3 &&& (255 : Int32)).toUInt32.toUInt16.toUInt32.toInt32)), .val (.int (p0 &&& (3 : Int32))), .val (.int ((p0 >>> ((2 : Int32) &&& 31)) &&& (3 : Int32))), .unset, .unset, .unset, .unset, .unset] [(.int p0)])) _
  refine XS.bipush X0.here hx rfl (hb hby at_29) ?_
  show Steps p.tables e below (T0.setTop (mkF m 31 #[.val (.int p0), .val (.int p1), .val (.int p2), .val (.int p3), .val (.int ((p2 &&& (255 : Int32)).toUInt32.toUInt16.toUInt32.toInt32)), .val (.int ((p3 &&& (255 : Int32)).toUInt32.toUInt16.toUInt32.toInt32)), .val (.int (p0 &&& (3 : Int32))), .val (.int ((p0 >>> ((2 : Int32) &&& 31)) &&& (3 : Int32))), .unset, .unset, .unset, .unset, .unset] [(.int (6 : Int32)), (.int p0)])) _
  refine XS.ishr X0.here hx rfl (hb hby at_31) rfl ?_
  show Steps p.tables e below (T0.setTop (mkF m 32 #[.val (.int p0), .val (.int p1), .val (.int p2), .val (.int p3), .val (.int ((p2 &&& (255 : Int32)).toUInt32.toUInt16.toUInt32.toInt32)), .val (.int ((p3 &&& (255 : Int32)).toUInt32.toUInt16.toUInt32.toInt32)), .val (.int (p0 &&& (3 : Int32))), .val (.int ((p0 >>> ((2 : Int32) &&& 31)) &&& (3 : Int32))), .unset, .unset, .unset, .unset, .unset] [(.int (p0 >>> ((6 : Int32) &&& 31)))])) _
  refine XS.iconst X0.here hx rfl (hb hby at_32) ?_
  show Steps p.tables e below (T0.setTop (mkF m 33 #[.val (.int p0), .val (.int p1), .val (.int p2), .val (.int p3), .val (.int ((p2 &&& (255 : Int32)).toUInt32.toUInt16.toUInt32.toInt32)), .val (.int ((p3 &&& (255 : Int32)).toUInt32.toUInt16.toUInt32.toInt32)), .val (.int (p0 &&& (3 : Int32))), .val (.int ((p0 >>> ((2 : Int32) &&& 31)) &&& (3 : Int32))), .unset, .unset, .unset, .unset, .unset] [(.int (1 : Int32)), (.int (p0 >>> ((6 : Int32) &&& 31)))])) _
  refine XS.iand X0.here hx rfl (hb hby at_33) rfl ?_
  show Steps p.tables e below (T0.setTop (mkF m 34 #[.val (.int p0), .val (.int p1), .val (.int p2), .val (.int p3), .val (.int ((p2 &&& (255 : Int32)).toUInt32.toUInt16.toUInt32.toInt32)), .val (.int ((p3 &&& (255 : Int32)).toUInt32.toUInt16.toUInt32.toInt32)), .val (.int (p0 &&& (3 : Int32))), .val (.int ((p0 >>> ((2 : Int32) &&& 31)) &&& (3 : Int32))), .unset, .unset, .unset, .unset, .unset] [(.int ((p0 >>> ((6 : Int32) &&& 31)) &&& (1 : Int32)))])) _
  refine XS.ifYes X0.here hx rfl (pc0 := 34) (pc' := 41) rfl (hb hby at_34) rfl ((if0 _ _).trans (teq hc34).1) (by decide) (by decide) ?_
  show Steps p.tables e below (T0.setTop (mkF m 41 #[.val (.int p0), .val (.int p1), .val (.int p2), .val (.int p3), .val (.int ((p2 &&& (255 : Int32)).toUInt32.toUInt16.toUInt32.toInt32)), .val (.int ((p3 &&& (255 : Int32)).toUInt32.toUInt16.toUInt32.toInt32)), .val (.int (p0 &&& (3 : Int32))), .val (.int ((p0 >>> ((2 : Int32) &&& 31)) &&& (3 : Int32))), .unset, .unset, .unset, .unset, .unset] [])) _
  refine XS.iconst X0.here hx rfl (hb hby at_41) ?_
  show Steps p.tables e below (T0.setTop (mkF m 42 #[.val (.int p0), .val (.int p1), .val (.int p2), .val (.int p3), .val (.int ((p2 &&& (255 : Int32)).toUInt32.toUInt16.toUInt32.toInt32)), .val (.int ((p3 &&& (255 : Int32)).toUInt32.toUInt16.toUInt32.toInt32)), .val (.int (p0 &&& (3 : Int32))), .val (.int ((p0 >>> ((2 : Int32) &&& 31)) &&& (3 : Int32))), .unset, .unset, .unset, .unset, .unset] [(.int (0 : Int32))])) _
  refine XS.istore X0.here hx rfl (hb hby at_42) rfl (l' := #[.val (.int p0), .val (.int p1), .val (.int p2), .val (.int p3), .val (.int ((p2 &&& (255 : Int32)).toUInt32.toUInt16.toUInt32.toInt32)), .val (.int ((p3 &&& (255 : Int32)).toUInt32.toUInt16.toUInt32.toInt32)), .val (.int (p0 &&& (3 : Int32))), .val (.int ((p0 >>> ((2 : Int32) &&& 31)) &&& (3 : Int32))), .val (.int (0 : Int32)), .unset, .unset, .unset, .unset]) rfl ?_
  exact kt
set_option maxRecDepth 65536 in
set_option maxHeartbeats 40000000 in
theorem lp1 {p : Program} {l : Launch} {e : Env} {R : Room} {s : State} {m : MethodId} {args : Array Value} {below : List Frame} {meth : Method} {c : Code} {T0 : State} {locs : List Loc} {cells slots : Nat} {Z : State} {a0 : Array Value} {h0 : Heap} (X0 : Stand p l e R s m args below meth c T0 locs cells slots) (hx : p.tables.exec = Jvm.exec) (hZ : Z.Warmed39 s.vm) (hw : ∀ d ∈ tables_1, d.before a0 Z = true) (hby : c.code = code) (hown : s.vm.findClass "com/example/lendloop/lendloop/core/TransactionRoleFromWireNamePinLaw" = some m.cls) (e0 : T0.heap = h0) {p0 p1 p2 p3 : Int32} (hc34 : ¬ (((p0 >>> ((6 : Int32) &&& 31)) &&& (1 : Int32)) = (0 : Int32))) :
    ∀ target, Steps p.tables e below (T0.setTop (mkF m 44 #[.val (.int p0), .val (.int p1), .val (.int p2), .val (.int p3), .val (.int ((p2 &&& (255 : Int32)).toUInt32.toUInt16.toUInt32.toInt32)), .val (.int ((p3 &&& (255 : Int32)).toUInt32.toUInt16.toUInt32.toInt32)), .val (.int (p0 &&& (3 : Int32))), .val (.int ((p0 >>> ((2 : Int32) &&& 31)) &&& (3 : Int32))), .val (.int (1 : Int32)), .unset, .unset, .unset, .unset] [])) target → Steps p.tables e below (T0.setTop (mkF m 0 #[.val (.int p0), .val (.int p1), .val (.int p2), .val (.int p3), .unset, .unset, .unset, .unset, .unset, .unset, .unset, .unset, .unset] [])) target := by
  intro target kt
  show Steps p.tables e below (T0.setTop (mkF m 0 #[.val (.int p0), .val (.int p1), .val (.int p2), .val (.int p3), .unset, .unset, .unset, .unset, .unset, .unset, .unset, .unset, .unset] [])) _
  refine XS.iloadN X0.here hx rfl (hb hby at_0) rfl ?_
  show Steps p.tables e below (T0.setTop (mkF m 1 #[.val (.int p0), .val (.int p1), .val (.int p2), .val (.int p3), .unset, .unset, .unset, .unset, .unset, .unset, .unset, .unset, .unset] [(.int p2)])) _
  refine XS.sipush X0.here hx rfl (hb hby at_1) ?_
  show Steps p.tables e below (T0.setTop (mkF m 4 #[.val (.int p0), .val (.int p1), .val (.int p2), .val (.int p3), .unset, .unset, .unset, .unset, .unset, .unset, .unset, .unset, .unset] [(.int (255 : Int32)), (.int p2)])) _
  refine XS.iand X0.here hx rfl (hb hby at_4) rfl ?_
  show Steps p.tables e below (T0.setTop (mkF m 5 #[.val (.int p0), .val (.int p1), .val (.int p2), .val (.int p3), .unset, .unset, .unset, .unset, .unset, .unset, .unset, .unset, .unset] [(.int (p2 &&& (255 : Int32)))])) _
  refine XS.i2c X0.here hx rfl (hb hby at_5) rfl ?_
  show Steps p.tables e below (T0.setTop (mkF m 6 #[.val (.int p0), .val (.int p1), .val (.int p2), .val (.int p3), .unset, .unset, .unset, .unset, .unset, .unset, .unset, .unset, .unset] [(.int ((p2 &&& (255 : Int32)).toUInt32.toUInt16.toUInt32.toInt32))])) _
  refine XS.istore X0.here hx rfl (hb hby at_6) rfl (l' := #[.val (.int p0), .val (.int p1), .val (.int p2), .val (.int p3), .val (.int ((p2 &&& (255 : Int32)).toUInt32.toUInt16.toUInt32.toInt32)), .unset, .unset, .unset, .unset, .unset, .unset, .unset, .unset]) rfl ?_
  show Steps p.tables e below (T0.setTop (mkF m 8 #[.val (.int p0), .val (.int p1), .val (.int p2), .val (.int p3), .val (.int ((p2 &&& (255 : Int32)).toUInt32.toUInt16.toUInt32.toInt32)), .unset, .unset, .unset, .unset, .unset, .unset, .unset, .unset] [])) _
  refine XS.iloadN X0.here hx rfl (hb hby at_8) rfl ?_
  show Steps p.tables e below (T0.setTop (mkF m 9 #[.val (.int p0), .val (.int p1), .val (.int p2), .val (.int p3), .val (.int ((p2 &&& (255 : Int32)).toUInt32.toUInt16.toUInt32.toInt32)), .unset, .unset, .unset, .unset, .unset, .unset, .unset, .unset] [(.int p3)])) _
  refine XS.sipush X0.here hx rfl (hb hby at_9) ?_
  show Steps p.tables e below (T0.setTop (mkF m 12 #[.val (.int p0), .val (.int p1), .val (.int p2), .val (.int p3), .val (.int ((p2 &&& (255 : Int32)).toUInt32.toUInt16.toUInt32.toInt32)), .unset, .unset, .unset, .unset, .unset, .unset, .unset, .unset] [(.int (255 : Int32)), (.int p3)])) _
  refine XS.iand X0.here hx rfl (hb hby at_12) rfl ?_
  show Steps p.tables e below (T0.setTop (mkF m 13 #[.val (.int p0), .val (.int p1), .val (.int p2), .val (.int p3), .val (.int ((p2 &&& (255 : Int32)).toUInt32.toUInt16.toUInt32.toInt32)), .unset, .unset, .unset, .unset, .unset, .unset, .unset, .unset] [(.int (p3 &&& (255 : Int32)))])) _
  refine XS.i2c X0.here hx rfl (hb hby at_13) rfl ?_
  show Steps p.tables e below (T0.setTop (mkF m 14 #[.val (.int p0), .val (.int p1), .val (.int p2), .val (.int p3), .val (.int ((p2 &&& (255 : Int32)).toUInt32.toUInt16.toUInt32.toInt32)), .unset, .unset, .unset, .unset, .unset, .unset, .unset, .unset] [(.int ((p3 &&& (255 : Int32)).toUInt32.toUInt16.toUInt32.toInt32))])) _
  refine XS.istore X0.here hx rfl (hb hby at_14) rfl (l' := #[.val (.int p0), .val (.int p1), .val (.int p2), .val (.int p3), .val (.int ((p2 &&& (255 : Int32)).toUInt32.toUInt16.toUInt32.toInt32)), .val (.int ((p3 &&& (255 : Int32)).toUInt32.toUInt16.toUInt32.toInt32)), .unset, .unset, .unset, .unset, .unset, .unset, .unset]) rfl ?_
  show Steps p.tables e below (T0.setTop (mkF m 16 #[.val (.int p0), .val (.int p1), .val (.int p2), .val (.int p3), .val (.int ((p2 &&& (255 : Int32)).toUInt32.toUInt16.toUInt32.toInt32)), .val (.int ((p3 &&& (255 : Int32)).toUInt32.toUInt16.toUInt32.toInt32)), .unset, .unset, .unset, .unset, .unset, .unset, .unset] [])) _
  refine XS.iloadN X0.here hx rfl (hb hby at_16) rfl ?_
  show Steps p.tables e below (T0.setTop (mkF m 17 #[.val (.int p0), .val (.int p1), .val (.int p2), .val (.int p3), .val (.int ((p2 &&& (255 : Int32)).toUInt32.toUInt16.toUInt32.toInt32)), .val (.int ((p3 &&& (255 : Int32)).toUInt32.toUInt16.toUInt32.toInt32)), .unset, .unset, .unset, .unset, .unset, .unset, .unset] [(.int p0)])) _
  refine XS.iconst X0.here hx rfl (hb hby at_17) ?_
  show Steps p.tables e below (T0.setTop (mkF m 18 #[.val (.int p0), .val (.int p1), .val (.int p2), .val (.int p3), .val (.int ((p2 &&& (255 : Int32)).toUInt32.toUInt16.toUInt32.toInt32)), .val (.int ((p3 &&& (255 : Int32)).toUInt32.toUInt16.toUInt32.toInt32)), .unset, .unset, .unset, .unset, .unset, .unset, .unset] [(.int (3 : Int32)), (.int p0)])) _
  refine XS.iand X0.here hx rfl (hb hby at_18) rfl ?_
  show Steps p.tables e below (T0.setTop (mkF m 19 #[.val (.int p0), .val (.int p1), .val (.int p2), .val (.int p3), .val (.int ((p2 &&& (255 : Int32)).toUInt32.toUInt16.toUInt32.toInt32)), .val (.int ((p3 &&& (255 : Int32)).toUInt32.toUInt16.toUInt32.toInt32)), .unset, .unset, .unset, .unset, .unset, .unset, .unset] [(.int (p0 &&& (3 : Int32)))])) _
  refine XS.istore X0.here hx rfl (hb hby at_19) rfl (l' := #[.val (.int p0), .val (.int p1), .val (.int p2), .val (.int p3), .val (.int ((p2 &&& (255 : Int32)).toUInt32.toUInt16.toUInt32.toInt32)), .val (.int ((p3 &&& (255 : Int32)).toUInt32.toUInt16.toUInt32.toInt32)), .val (.int (p0 &&& (3 : Int32))), .unset, .unset, .unset, .unset, .unset, .unset]) rfl ?_
  show Steps p.tables e below (T0.setTop (mkF m 21 #[.val (.int p0), .val (.int p1), .val (.int p2), .val (.int p3), .val (.int ((p2 &&& (255 : Int32)).toUInt32.toUInt16.toUInt32.toInt32)), .val (.int ((p3 &&& (255 : Int32)).toUInt32.toUInt16.toUInt32.toInt32)), .val (.int (p0 &&& (3 : Int32))), .unset, .unset, .unset, .unset, .unset, .unset] [])) _
  refine XS.iloadN X0.here hx rfl (hb hby at_21) rfl ?_
  show Steps p.tables e below (T0.setTop (mkF m 22 #[.val (.int p0), .val (.int p1), .val (.int p2), .val (.int p3), .val (.int ((p2 &&& (255 : Int32)).toUInt32.toUInt16.toUInt32.toInt32)), .val (.int ((p3 &&& (255 : Int32)).toUInt32.toUInt16.toUInt32.toInt32)), .val (.int (p0 &&& (3 : Int32))), .unset, .unset, .unset, .unset, .unset, .unset] [(.int p0)])) _
  refine XS.iconst X0.here hx rfl (hb hby at_22) ?_
  show Steps p.tables e below (T0.setTop (mkF m 23 #[.val (.int p0), .val (.int p1), .val (.int p2), .val (.int p3), .val (.int ((p2 &&& (255 : Int32)).toUInt32.toUInt16.toUInt32.toInt32)), .val (.int ((p3 &&& (255 : Int32)).toUInt32.toUInt16.toUInt32.toInt32)), .val (.int (p0 &&& (3 : Int32))), .unset, .unset, .unset, .unset, .unset, .unset] [(.int (2 : Int32)), (.int p0)])) _
  refine XS.ishr X0.here hx rfl (hb hby at_23) rfl ?_
  show Steps p.tables e below (T0.setTop (mkF m 24 #[.val (.int p0), .val (.int p1), .val (.int p2), .val (.int p3), .val (.int ((p2 &&& (255 : Int32)).toUInt32.toUInt16.toUInt32.toInt32)), .val (.int ((p3 &&& (255 : Int32)).toUInt32.toUInt16.toUInt32.toInt32)), .val (.int (p0 &&& (3 : Int32))), .unset, .unset, .unset, .unset, .unset, .unset] [(.int (p0 >>> ((2 : Int32) &&& 31)))])) _
  refine XS.iconst X0.here hx rfl (hb hby at_24) ?_
  show Steps p.tables e below (T0.setTop (mkF m 25 #[.val (.int p0), .val (.int p1), .val (.int p2), .val (.int p3), .val (.int ((p2 &&& (255 : Int32)).toUInt32.toUInt16.toUInt32.toInt32)), .val (.int ((p3 &&& (255 : Int32)).toUInt32.toUInt16.toUInt32.toInt32)), .val (.int (p0 &&& (3 : Int32))), .unset, .unset, .unset, .unset, .unset, .unset] [(.int (3 : Int32)), (.int (p0 >>> ((2 : Int32) &&& 31)))])) _
  refine XS.iand X0.here hx rfl (hb hby at_25) rfl ?_
  show Steps p.tables e below (T0.setTop (mkF m 26 #[.val (.int p0), .val (.int p1), .val (.int p2), .val (.int p3), .val (.int ((p2 &&& (255 : Int32)).toUInt32.toUInt16.toUInt32.toInt32)), .val (.int ((p3 &&& (255 : Int32)).toUInt32.toUInt16.toUInt32.toInt32)), .val (.int (p0 &&& (3 : Int32))), .unset, .unset, .unset, .unset, .unset, .unset] [(.int ((p0 >>> ((2 : Int32) &&& 31)) &&& (3 : Int32)))])) _
  refine XS.istore X0.here hx rfl (hb hby at_26) rfl (l' := #[.val (.int p0), .val (.int p1), .val (.int p2), .val (.int p3), .val (.int ((p2 &&& (255 : Int32)).toUInt32.toUInt16.toUInt32.toInt32)), .val (.int ((p3 &&& (255 : Int32)).toUInt32.toUInt16.toUInt32.toInt32)), .val (.int (p0 &&& (3 : Int32))), .val (.int ((p0 >>> ((2 : Int32) &&& 31)) &&& (3 : Int32))), .unset, .unset, .unset, .unset, .unset]) rfl ?_
  show Steps p.tables e below (T0.setTop (mkF m 28 #[.val (.int p0), .val (.int p1), .val (.int p2), .val (.int p3), .val (.int ((p2 &&& (255 : Int32)).toUInt32.toUInt16.toUInt32.toInt32)), .val (.int ((p3 &&& (255 : Int32)).toUInt32.toUInt16.toUInt32.toInt32)), .val (.int (p0 &&& (3 : Int32))), .val (.int ((p0 >>> ((2 : Int32) &&& 31)) &&& (3 : Int32))), .unset, .unset, .unset, .unset, .unset] [])) _
  refine XS.iloadN X0.here hx rfl (hb hby at_28) rfl ?_
  show Steps p.tables e below (T0.setTop (mkF m 29 #[.val (.int p0), .val (.int p1), .val (.int p2), .val (.int p3), .val (.int ((p2 &&& (255 : Int32)).toUInt32.toUInt16.toUInt32.toInt32)), .val (.int ((p3 &&& (255 : Int32)).toUInt32.toUInt16.toUInt32.toInt32)), .val (.int (p0 &&& (3 : Int32))), .val (.int ((p0 >>> ((2 : Int32) &&& 31)) &&& (3 : Int32))), .unset, .unset, .unset, .unset, .unset] [(.int p0)])) _
  refine XS.bipush X0.here hx rfl (hb hby at_29) ?_
  show Steps p.tables e below (T0.setTop (mkF m 31 #[.val (.int p0), .val (.int p1), .val (.int p2), .val (.int p3), .val (.int ((p2 &&& (255 : Int32)).toUInt32.toUInt16.toUInt32.toInt32)), .val (.int ((p3 &&& (255 : Int32)).toUInt32.toUInt16.toUInt32.toInt32)), .val (.int (p0 &&& (3 : Int32))), .val (.int ((p0 >>> ((2 : Int32) &&& 31)) &&& (3 : Int32))), .unset, .unset, .unset, .unset, .unset] [(.int (6 : Int32)), (.int p0)])) _
  refine XS.ishr X0.here hx rfl (hb hby at_31) rfl ?_
  show Steps p.tables e below (T0.setTop (mkF m 32 #[.val (.int p0), .val (.int p1), .val (.int p2), .val (.int p3), .val (.int ((p2 &&& (255 : Int32)).toUInt32.toUInt16.toUInt32.toInt32)), .val (.int ((p3 &&& (255 : Int32)).toUInt32.toUInt16.toUInt32.toInt32)), .val (.int (p0 &&& (3 : Int32))), .val (.int ((p0 >>> ((2 : Int32) &&& 31)) &&& (3 : Int32))), .unset, .unset, .unset, .unset, .unset] [(.int (p0 >>> ((6 : Int32) &&& 31)))])) _
  refine XS.iconst X0.here hx rfl (hb hby at_32) ?_
  show Steps p.tables e below (T0.setTop (mkF m 33 #[.val (.int p0), .val (.int p1), .val (.int p2), .val (.int p3), .val (.int ((p2 &&& (255 : Int32)).toUInt32.toUInt16.toUInt32.toInt32)), .val (.int ((p3 &&& (255 : Int32)).toUInt32.toUInt16.toUInt32.toInt32)), .val (.int (p0 &&& (3 : Int32))), .val (.int ((p0 >>> ((2 : Int32) &&& 31)) &&& (3 : Int32))), .unset, .unset, .unset, .unset, .unset] [(.int (1 : Int32)), (.int (p0 >>> ((6 : Int32) &&& 31)))])) _
  refine XS.iand X0.here hx rfl (hb hby at_33) rfl ?_
  show Steps p.tables e below (T0.setTop (mkF m 34 #[.val (.int p0), .val (.int p1), .val (.int p2), .val (.int p3), .val (.int ((p2 &&& (255 : Int32)).toUInt32.toUInt16.toUInt32.toInt32)), .val (.int ((p3 &&& (255 : Int32)).toUInt32.toUInt16.toUInt32.toInt32)), .val (.int (p0 &&& (3 : Int32))), .val (.int ((p0 >>> ((2 : Int32) &&& 31)) &&& (3 : Int32))), .unset, .unset, .unset, .unset, .unset] [(.int ((p0 >>> ((6 : Int32) &&& 31)) &&& (1 : Int32)))])) _
  refine XS.ifNo X0.here hx rfl (hb hby at_34) rfl ((if0 _ _).trans (feq hc34).1) ?_
  show Steps p.tables e below (T0.setTop (mkF m 37 #[.val (.int p0), .val (.int p1), .val (.int p2), .val (.int p3), .val (.int ((p2 &&& (255 : Int32)).toUInt32.toUInt16.toUInt32.toInt32)), .val (.int ((p3 &&& (255 : Int32)).toUInt32.toUInt16.toUInt32.toInt32)), .val (.int (p0 &&& (3 : Int32))), .val (.int ((p0 >>> ((2 : Int32) &&& 31)) &&& (3 : Int32))), .unset, .unset, .unset, .unset, .unset] [])) _
  refine XS.iconst X0.here hx rfl (hb hby at_37) ?_
  show Steps p.tables e below (T0.setTop (mkF m 38 #[.val (.int p0), .val (.int p1), .val (.int p2), .val (.int p3), .val (.int ((p2 &&& (255 : Int32)).toUInt32.toUInt16.toUInt32.toInt32)), .val (.int ((p3 &&& (255 : Int32)).toUInt32.toUInt16.toUInt32.toInt32)), .val (.int (p0 &&& (3 : Int32))), .val (.int ((p0 >>> ((2 : Int32) &&& 31)) &&& (3 : Int32))), .unset, .unset, .unset, .unset, .unset] [(.int (1 : Int32))])) _
  refine XS.goto X0.here hx rfl (pc0 := 38) (pc' := 42) rfl (hb hby at_38) (by decide) (by decide) ?_
  show Steps p.tables e below (T0.setTop (mkF m 42 #[.val (.int p0), .val (.int p1), .val (.int p2), .val (.int p3), .val (.int ((p2 &&& (255 : Int32)).toUInt32.toUInt16.toUInt32.toInt32)), .val (.int ((p3 &&& (255 : Int32)).toUInt32.toUInt16.toUInt32.toInt32)), .val (.int (p0 &&& (3 : Int32))), .val (.int ((p0 >>> ((2 : Int32) &&& 31)) &&& (3 : Int32))), .unset, .unset, .unset, .unset, .unset] [(.int (1 : Int32))])) _
  refine XS.istore X0.here hx rfl (hb hby at_42) rfl (l' := #[.val (.int p0), .val (.int p1), .val (.int p2), .val (.int p3), .val (.int ((p2 &&& (255 : Int32)).toUInt32.toUInt16.toUInt32.toInt32)), .val (.int ((p3 &&& (255 : Int32)).toUInt32.toUInt16.toUInt32.toInt32)), .val (.int (p0 &&& (3 : Int32))), .val (.int ((p0 >>> ((2 : Int32) &&& 31)) &&& (3 : Int32))), .val (.int (1 : Int32)), .unset, .unset, .unset, .unset]) rfl ?_
  exact kt
theorem lawpre {p : Program} {l : Launch} {e : Env} {R : Room} {s : State} {m : MethodId} {args : Array Value} {below : List Frame} {meth : Method} {c : Code} {T0 : State} {locs : List Loc} {cells slots : Nat} {Z : State} {a0 : Array Value} {h0 : Heap} (X0 : Stand p l e R s m args below meth c T0 locs cells slots) (hx : p.tables.exec = Jvm.exec) (hZ : Z.Warmed39 s.vm) (hw : ∀ d ∈ tables_1, d.before a0 Z = true) (hby : c.code = code) (hown : s.vm.findClass "com/example/lendloop/lendloop/core/TransactionRoleFromWireNamePinLaw" = some m.cls) (e0 : T0.heap = h0) {p0 p1 p2 p3 : Int32} : ∃ xa xb kd vr mb : Int32, ((¬ nar .char xa < 0 ∧ ¬ (255 : Int32) < nar .char xa) ∧ (¬ nar .char xb < 0 ∧ ¬ (255 : Int32) < nar .char xb) ∧ vr = ((p0 >>> ((2 : Int32) &&& 31)) &&& (3 : Int32)) ∧ mb = (if ((p0 >>> ((6 : Int32) &&& 31)) &&& (1 : Int32)) = 0 then (0 : Int32) else 1)) ∧ ∀ target, Steps p.tables e below (T0.setTop (mkF m 44 #[.val (.int p0), .val (.int p1), .val (.int p2), .val (.int p3), .val (.int xa), .val (.int xb), .val (.int kd), .val (.int vr), .val (.int mb), .unset, .unset, .unset, .unset] [])) target → Steps p.tables e below (T0.setTop (mkF m 0 #[.val (.int p0), .val (.int p1), .val (.int p2), .val (.int p3), .unset, .unset, .unset, .unset, .unset, .unset, .unset, .unset, .unset] [])) target := by
  by_cases q : ((p0 >>> ((6 : Int32) &&& 31)) &&& (1 : Int32)) = 0
  · exact ⟨((p2 &&& (255 : Int32)).toUInt32.toUInt16.toUInt32.toInt32), ((p3 &&& (255 : Int32)).toUInt32.toUInt16.toUInt32.toInt32), (p0 &&& (3 : Int32)), ((p0 >>> ((2 : Int32) &&& 31)) &&& (3 : Int32)), 0, ⟨own_and255 _, own_and255 _, rfl, by rw [if_pos q]⟩, lp0 X0 hx hZ hw hby hown e0 q⟩
  · exact ⟨((p2 &&& (255 : Int32)).toUInt32.toUInt16.toUInt32.toInt32), ((p3 &&& (255 : Int32)).toUInt32.toUInt16.toUInt32.toInt32), (p0 &&& (3 : Int32)), ((p0 >>> ((2 : Int32) &&& 31)) &&& (3 : Int32)), 1, ⟨own_and255 _, own_and255 _, rfl, by rw [if_neg q]⟩, lp1 X0 hx hZ hw hby hown e0 q⟩
theorem own_pd7 : parseMethodDescriptor "(ICC)[C" = some ⟨[.int, .char, .char], some (.array .char)⟩ := by decide +kernel
theorem own_pd8 : parseMethodDescriptor "([C)V" = some ⟨[(.array .char)], none⟩ := by decide +kernel
theorem own_pd9 : parseMethodDescriptor "(Ljava/lang/String;)Lcom/example/lendloop/lendloop/core/TransactionRole;" = some ⟨[(.object "java/lang/String")], some (.object "com/example/lendloop/lendloop/core/TransactionRole")⟩ := by decide +kernel
theorem own_pd10 : parseMethodDescriptor "(Ljava/lang/String;)Ljava/util/Optional;" = some ⟨[(.object "java/lang/String")], some (.object "java/util/Optional")⟩ := by decide +kernel
theorem ef_0 (m : MethodId) (x0 : Int32) (x1 : Int32) (x2 : Int32) (x3 : Int32) : entryFrame m #[(.int x0), (.int x1), (.int x2), (.int x3)] maxLocals = mkF m 0 #[.val (.int x0), .val (.int x1), .val (.int x2), .val (.int x3), .unset, .unset, .unset, .unset, .unset, .unset, .unset, .unset, .unset] [] := by first | (simp [entryFrame, mkF, argsToLocals, Value.category, maxLocals]; done) | rfl
theorem pn_0 : plainName "com/example/lendloop/lendloop/core/TransactionRoleFromWireNamePinLaw" = true := by first | (simp [plainName, overriddenIn]; done) | decide +kernel
def Qd15 (Z : State) (p0 p1 p2 p3 : Int32) (em vA w0 w1 w2 w3 s0 s1 s2 s3 t0 t1 t2 t3 : Addr) (kA kb0 kb1 kb2 kb3 : ClassId) (z : Int32) (h0 : Heap) (n0 : Nat) (v : Option Value) (h : Heap) (L : List Loc) : Prop := v = some (.int 1) ∧ Fr n0 L
set_option maxRecDepth 65536 in
set_option maxHeartbeats 40000000 in
theorem rm0a (l : Launch) (Z : State) (a0 : Array Value) (hw : ∀ d ∈ tables_1, d.before a0 Z = true) (ws : List Jvm.Cond) (p0 p1 p2 p3 : Int32) (em vA w0 w1 w2 w3 s0 s1 s2 s3 t0 t1 t2 t3 : Addr) (kA kb0 kb1 kb2 kb3 : ClassId) (z : Int32) (h0 : Heap) (n0 : Nat) (O0 : Old Z n0 h0) (SC : Sta Z Z.heap "java/lang/String" "COMPACT_STRINGS" "Z" (.int z)) (hz : ¬ z = 0) (SR0 : Sta Z Z.heap "com/example/lendloop/lendloop/core/TransactionRole" "LENDER" "Lcom/example/lendloop/lendloop/core/TransactionRole;" (.ref w0)) (SR1 : Sta Z Z.heap "com/example/lendloop/lendloop/core/TransactionRole" "BORROWER" "Lcom/example/lendloop/lendloop/core/TransactionRole;" (.ref w1)) (SR2 : Sta Z Z.heap "com/example/lendloop/lendloop/core/TransactionRole" "PICKUP" "Lcom/example/lendloop/lendloop/core/TransactionRole;" (.ref w2)) (SR3 : Sta Z Z.heap "com/example/lendloop/lendloop/core/TransactionRole" "BORROWING_PICKUP" "Lcom/example/lendloop/lendloop/core/TransactionRole;" (.ref w3)) (SV : Sta Z Z.heap "com/example/lendloop/lendloop/core/TransactionRole" "$VALUES" "[Lcom/example/lendloop/lendloop/core/TransactionRole;" (.ref vA)) (VV : Arv Z Z.heap vA kA (.object "com/example/lendloop/lendloop/core/TransactionRole") (4 : Int32) [.ref w0, .ref w1, .ref w2, .ref w3] .null) (EV : Exa Z Z.heap vA "[Lcom/example/lendloop/lendloop/core/TransactionRole;") (SM : Sta Z Z.heap "java/util/Optional" "EMPTY" "Ljava/util/Optional;" (.ref em)) (EE : Exa Z Z.heap em "java/util/Optional") (FE : Fld Z Z.heap em "java/util/Optional" "value" "Ljava/lang/Object;" .null) (E0 : Exa Z Z.heap w0 "com/example/lendloop/lendloop/core/TransactionRole") (G0 : Fld Z Z.heap w0 "com/example/lendloop/lendloop/core/TransactionRole" "wireName" "Ljava/lang/String;" (.ref s0)) (Ex0 : Exa Z Z.heap s0 "java/lang/String") (Vx0 : Fld Z Z.heap s0 "java/lang/String" "value" "[B" (.ref t0)) (Cx0 : Fld Z Z.heap s0 "java/lang/String" "coder" "B" (.int 0)) (Kx0 : Arv Z Z.heap t0 kb0 .byte (Int32.ofNat (own_d0).length) (((own_d0).map StrChars.lo8).map Value.int) (.int 0)) (E1 : Exa Z Z.heap w1 "com/example/lendloop/lendloop/core/TransactionRole") (G1 : Fld Z Z.heap w1 "com/example/lendloop/lendloop/core/TransactionRole" "wireName" "Ljava/lang/String;" (.ref s1)) (Ex1 : Exa Z Z.heap s1 "java/lang/String") (Vx1 : Fld Z Z.heap s1 "java/lang/String" "value" "[B" (.ref t1)) (Cx1 : Fld Z Z.heap s1 "java/lang/String" "coder" "B" (.int 0)) (Kx1 : Arv Z Z.heap t1 kb1 .byte (Int32.ofNat (own_d1).length) (((own_d1).map StrChars.lo8).map Value.int) (.int 0)) (E2 : Exa Z Z.heap w2 "com/example/lendloop/lendloop/core/TransactionRole") (G2 : Fld Z Z.heap w2 "com/example/lendloop/lendloop/core/TransactionRole" "wireName" "Ljava/lang/String;" (.ref s2)) (Ex2 : Exa Z Z.heap s2 "java/lang/String") (Vx2 : Fld Z Z.heap s2 "java/lang/String" "value" "[B" (.ref t2)) (Cx2 : Fld Z Z.heap s2 "java/lang/String" "coder" "B" (.int 0)) (Kx2 : Arv Z Z.heap t2 kb2 .byte (Int32.ofNat (own_d2).length) (((own_d2).map StrChars.lo8).map Value.int) (.int 0)) (E3 : Exa Z Z.heap w3 "com/example/lendloop/lendloop/core/TransactionRole") (G3 : Fld Z Z.heap w3 "com/example/lendloop/lendloop/core/TransactionRole" "wireName" "Ljava/lang/String;" (.ref s3)) (Ex3 : Exa Z Z.heap s3 "java/lang/String") (Vx3 : Fld Z Z.heap s3 "java/lang/String" "value" "[B" (.ref t3)) (Cx3 : Fld Z Z.heap s3 "java/lang/String" "coder" "B" (.int 0)) (Kx3 : Arv Z Z.heap t3 kb3 .byte (Int32.ofNat (own_d3).length) (((own_d3).map StrChars.lo8).map Value.int) (.int 0)) (hln : ((p0 >>> ((4 : Int32) &&& 31)) &&& (3 : Int32)) = (0 : Int32)) (hv : ((p0 >>> ((2 : Int32) &&& 31)) &&& (3 : Int32)) = (3 : Int32)) :
    MetFree l x (head1 (Jvm.Cond.code x code maxLocals ret :: ws) room_1) (fun qq U => qq = #[(.int p0), (.int p1), (.int p2), (.int p3)] ∧ Z.Warmed39 U.vm ∧ U.heap = h0 ∧ CHv Z consts_1 U.vm h0) (fun _ _ _ _ _ => True) (fun _ UU oo UU' => ∃ vv LL, oo = .returned vv ∧ Qd15 Z p0 p1 p2 p3 em vA w0 w1 w2 w3 s0 s1 s2 s3 t0 t1 t2 t3 kA kb0 kb1 kb2 kb3 z h0 n0 vv UU'.heap LL ∧ CHr Z consts_1 UU.vm UU.heap UU'.vm UU'.heap ∧ ReturnedEndW UU oo UU' LL room_1.cells room_1.slots) := by
  refine MetFree.of_bodySF (plainFor_of_name pn_0) hisR ?_
  intro p e s m args below meth c s₁ Bd hml0 hP hK
  obtain ⟨rfl, hZ, hh, hC0⟩ := hP
  have hZ : Z.Warmed39 (s.setVm s.vm).vm := hZ
  have CR0 := CHr.refl hC0
  have hx := Bd.exec
  have hby := Bd.bytes
  have hml : c.maxLocals = 13 := hml0
  have hown : (s.setVm s.vm).vm.findClass "com/example/lendloop/lendloop/core/TransactionRoleFromWireNamePinLaw" = some m.cls := findClass_of_methodNamed Bd.named
  have hnm := (name_of_methodNamed Bd.named Bd.method).1
  have X0 : Stand p l e room_1 (s.setVm s.vm) m #[(.int p0), (.int p1), (.int p2), (.int p3)] below meth c s₁ [] 0 0 := Stand.of_body Bd
  have e0 : s₁.heap = h0 := by rw [← hh, Bd.state]; rfl
  have N0 := Fr.nil n0
  have pre0 : ∀ tgt, Steps p.tables e below (s₁.setTop (mkF m 0 #[.val (.int p0), .val (.int p1), .val (.int p2), .val (.int p3), .unset, .unset, .unset, .unset, .unset, .unset, .unset, .unset, .unset] [])) tgt → Steps p.tables e below (s₁.setTop (entryFrame m #[(.int p0), (.int p1), (.int p2), (.int p3)] maxLocals)) tgt := fun tt kk => castTop (ef_0 m p0 p1 p2 p3) kk
  obtain ⟨xa, xb, kd, vr, mb, ⟨hxa, hxb, hvr, hmb⟩, stA⟩ := lawpre (p0 := p0) (p1 := p1) (p2 := p2) (p3 := p3) X0 hx hZ hw hby hown e0
  obtain ⟨_, _, ⟨T1q, L1q, k1q, n1q⟩, -, X1q, ⟨Lc1q, hQ1q, l1q, y1q, z1q⟩, st1q⟩ := Jvm.LawKit.callS X0 hx (y := (⟨"com/example/lendloop/lendloop/core/TransactionRoleFromWireNamePinLaw", "shortOne", "(ICC)[C"⟩ : MethodName)) hown (mvT hZ (ww hw 101 rfl)) (mvT hZ (ww hw 102 rfl)) (mvT hZ (ww hw 2 rfl)) (mvT hZ (ww hw 103 rfl)) (by decide) (backOf (W := 0) (rmS0 l Z a0 hw [] ((p0 >>> ((4 : Int32) &&& 31)) &&& (3 : Int32)) xa xb h0 n0 O0 hxa hxb hln) hZ (ww hw 103 rfl) (ww hw 2 rfl) (by decide) (by decide)) (g := (mkF m 59 #[.val (.int p0), .val (.int p1), .val (.int p2), .val (.int p3), .val (.int xa), .val (.int xb), .val (.int kd), .val (.int vr), .val (.int mb), .unset, .unset, .unset, .unset] [(.int xb), (.int xa), (.int ((p0 >>> ((4 : Int32) &&& 31)) &&& (3 : Int32)))])) rfl (by rw [hml]; rfl) (argsL := [(.int ((p0 >>> ((4 : Int32) &&& 31)) &&& (3 : Int32))), (.int xa), (.int xb)]) (rest := []) (lenOf own_pd7 rfl) rfl (by show 2 * 0 + _ ≤ _; exact Nat.le_of_eq rfl) (hb hby at_59) (fun _ _ => ⟨rfl, e0, (by decide : 0 + 1 ≤ _), (by decide : 0 + 17 ≤ _)⟩)
  dsimp only [Pt.U, Pt.locs, Pt.cells, Pt.slots] at X1q l1q y1q z1q st1q hQ1q
  subst l1q y1q z1q
  obtain ⟨ca, kC, rfl, N1qq, KK1q, g_ca, VCA⟩ := hQ1q
  have N1q := Fr.app N0 N1qq
  have SC1q := CHr.keep KK1q sf0 CR0.1
  have CR1q := CHr.trans CR0 SC1q
  have O1q := Old.keep O0 KK1q all0
  obtain ⟨T2q, h2q, X2q, e2q, E2q, A2q, D2q, -, st2q⟩ := newO X1q hx hZ hown (ww hw 5 rfl) (ww hw 6 rfl) (ww hw 7 rfl) rfl (g := (mkF m 96 #[.val (.int p0), .val (.int p1), .val (.int p2), .val (.int p3), .val (.int xa), .val (.int xb), .val (.int kd), .val (.int vr), .val (.int mb), .val (.ref ca), .unset, .unset, .unset] [])) rfl (hb hby at_96) (by decide) (by decide)
  obtain ⟨b2q, q2q⟩ : ∃ z, z = T1q.heap.size := ⟨_, rfl⟩
  rw [← q2q] at A2q D2q st2q
  have g_b2q : n0 ≤ b2q := by rw [q2q]; exact (O1q).1 ▸ (O1q).2.1
  have ne_ca_b2q : ca ≠ b2q := by rw [q2q]; exact Nat.ne_of_lt VCA.lt
  have SC2q := CHr.ext E2q CR1q.1
  have CR2q := CHr.trans CR1q SC2q
  have O2q := Old.ext O1q E2q
  have SN2q := Safe.ext E2q CR1q.1 (Safe.new (Nat.le_of_eq q2q.symm))
  have F2q_coder : Fld Z h2q b2q "java/lang/String" "coder" "B" (.int (0 : Int32)) := D2q (Or.inr (ww hw 31 rfl)) (ty := .byte) (by decide)
  have F2q_value : Fld Z h2q b2q "java/lang/String" "value" "[B" .null := D2q (Or.inr (ww hw 33 rfl)) (ty := (.array .byte)) (by decide)
  obtain ⟨_, _, ⟨T3q, L3q, k3q, n3q⟩, -, X3q, Sq3q, gq3q, ⟨Lc3q, hQ3q, l3q, y3q, z3q, CC3q⟩, st3q⟩ := X2q.specialBackS hx (y := (⟨"java/lang/String", "<init>", "([C)V"⟩ : MethodName)) rfl hown (mvT hZ (ww hw 8 rfl)) (mvT hZ (ww hw 9 rfl)) (mvT hZ (ww hw 10 rfl)) (by decide) (backOfSH (W := 1) (rmI l Z a0 hw [] b2q ca kC h2q n0 O2q g_b2q A2q F2q_value F2q_coder (VCA.ext E2q)) hZ (ww hw 10 rfl) (ww hw 7 rfl) (by decide) (by decide) (own_EW hw) CR2q.1) (g := (mkF m 102 #[.val (.int p0), .val (.int p1), .val (.int p2), .val (.int p3), .val (.int xa), .val (.int xb), .val (.int kd), .val (.int vr), .val (.int mb), .val (.ref ca), .unset, .unset, .unset] [(.ref ca), (.ref b2q), (.ref b2q)])) rfl (by rw [hml]; rfl) (Steps.refl _) (a := b2q) (argsL := [(.ref ca)]) (rest := [(.ref b2q)]) (lenOf own_pd8 rfl) rfl (by show 2 * 0 + _ ≤ _; exact Nat.le_of_eq rfl) (hb hby at_102) (fun _ _ => ⟨rfl, e2q, (by decide : 2 + 4 ≤ _), (by decide : 21 + 8 ≤ _)⟩)
  dsimp only [Pt.U, Pt.locs, Pt.cells, Pt.slots] at X3q l3q y3q z3q st3q hQ3q Sq3q gq3q CC3q
  subst l3q y3q z3q
  obtain ⟨X3q, S3q, hZ3q, hown3q⟩ := rebS (n1 := T2q.heap.size) (State.WarmedH.since (State.WarmedH.refl s) 0) (by rw [e2q]; exact (Nat.zero_le _)) X3q Sq3q gq3q hZ hown
  obtain ⟨tt, kx, rfl, N3qq, KK3q, f3q_0, f3q_1, f3q_2, f3q_3⟩ := hQ3q
  have N3q := Fr.app N1q N3qq
  have SC3q := CC3q
  have CR3q := CHr.trans CR2q SC3q
  have SF3q_b2q := CHr.safe SC3q (A2q.lt) SN2q
  have O3q := Old.keep O2q KK3q (allS g_b2q all0)
  obtain ⟨_, _, ⟨T4q, L4q, k4q, n4q⟩, -, X4q, Sq4q, gq4q, ⟨Lc4q, hQ4q, l4q, y4q, z4q, CC4q⟩, st4q⟩ := callSS X3q hx (y := (⟨"com/example/lendloop/lendloop/core/TransactionRoleFromWireNamePinLaw", "reference", "(Ljava/lang/String;)Lcom/example/lendloop/lendloop/core/TransactionRole;"⟩ : MethodName)) hown3q (mvT hZ3q (ww hw 34 rfl)) (mvT hZ3q (ww hw 35 rfl)) (mvT hZ3q (ww hw 2 rfl)) (mvT hZ3q (ww hw 36 rfl)) (by decide) (backOfSH (W := 0) (rmF l Z a0 hw [] b2q tt w0 w1 w2 w3 kx ([] : List Int32) z T3q.heap n0 O3q f3q_0 f3q_1 f3q_2 f3q_3 SC hz SR0 SR1 SR2 SR3 (⟨Nat.zero_le _, fun _ q => nomatch q⟩ : own_good ([] : List Int32))) hZ3q (ww hw 36 rfl) (ww hw 2 rfl) (by decide) (by decide) (own_EW hw) CR3q.1) (g := (mkF m 109 #[.val (.int p0), .val (.int p1), .val (.int p2), .val (.int p3), .val (.int xa), .val (.int xb), .val (.int kd), .val (.int vr), .val (.int mb), .val (.ref ca), .val (.ref b2q), .unset, .unset] [(.ref b2q)])) rfl (by rw [hml]; rfl) (argsL := [(.ref b2q)]) (rest := []) (lenOf own_pd9 rfl) rfl (by show 2 * 0 + _ ≤ _; exact Nat.le_of_eq rfl) (hb hby at_109) (fun _ _ => ⟨rfl, rfl, (by decide : 6 + 8 ≤ _), (by decide : 29 + 160 ≤ _)⟩)
  dsimp only [Pt.U, Pt.locs, Pt.cells, Pt.slots] at X4q l4q y4q z4q st4q hQ4q Sq4q gq4q CC4q
  subst l4q y4q z4q
  obtain ⟨X4q, S4q, hZ4q, hown4q⟩ := rebS (n1 := T3q.heap.size) S3q ((Nat.le_refl _)) X4q Sq4q gq4q hZ3q hown3q
  obtain ⟨rfl, N4qq, KK4q⟩ := hQ4q
  have N4q := Fr.app N3q N4qq
  have SC4q := CC4q
  have CR4q := CHr.trans CR3q SC4q
  have SF4q_b2q := CHr.safe SC4q (f3q_0.lt) SF3q_b2q
  have O4q := Old.keep O3q KK4q all0
  obtain ⟨_, _, ⟨T5q, L5q, k5q, n5q⟩, -, X5q, ⟨Lc5q, hQ5q, l5q, y5q, z5q⟩, st5q⟩ := Jvm.LawKit.callS X4q hx (y := (⟨"com/example/lendloop/lendloop/core/TransactionRole", "fromWireName", "(Ljava/lang/String;)Ljava/util/Optional;"⟩ : MethodName)) hown4q (mvT hZ4q (ww hw 53 rfl)) (mvT hZ4q (ww hw 54 rfl)) (mvT hZ4q (ww hw 51 rfl)) (mvT hZ4q (ww hw 55 rfl)) (by decide) (backOf (W := 0) (rmW l Z a0 hw [] b2q tt em vA w0 w1 w2 w3 s0 s1 s2 s3 t0 t1 t2 t3 kx kA kb0 kb1 kb2 kb3 ([] : List Int32) z T4q.heap n0 O4q (f3q_0.keep KK4q) (f3q_1.keep KK4q nin0) (f3q_2.keep KK4q nin0) (f3q_3.keep KK4q nin0) SC hz SV VV EV SM EE FE E0 G0 Ex0 Vx0 Cx0 Kx0 E1 G1 Ex1 Vx1 Cx1 Kx1 E2 G2 Ex2 Vx2 Cx2 Kx2 E3 G3 Ex3 Vx3 Cx3 Kx3 (⟨Nat.zero_le _, fun _ q => nomatch q⟩ : own_good ([] : List Int32))) hZ4q (ww hw 55 rfl) (ww hw 51 rfl) (by decide) (by decide)) (g := (mkF m 116 #[.val (.int p0), .val (.int p1), .val (.int p2), .val (.int p3), .val (.int xa), .val (.int xb), .val (.int kd), .val (.int vr), .val (.int mb), .val (.ref ca), .val (.ref b2q), .val (own_role ([] : List Int32) w0 w1 w2 w3), .unset] [(.ref b2q)])) rfl (by rw [hml]; rfl) (argsL := [(.ref b2q)]) (rest := []) (lenOf own_pd10 rfl) rfl (by show 2 * 0 + _ ≤ _; exact Nat.le_of_eq rfl) (hb hby at_116) (fun _ _ => ⟨rfl, rfl, (by decide : 14 + 2 ≤ _), (by decide : 189 + 5 ≤ _)⟩)
  dsimp only [Pt.U, Pt.locs, Pt.cells, Pt.slots] at X5q l5q y5q z5q st5q hQ5q
  subst l5q y5q z5q
  obtain ⟨oo, rfl, N5qq, KK5q, f5q_0, f5q_1⟩ := hQ5q
  have N5q := Fr.app N4q N5qq
  have SC5q := CHr.keep KK5q sf0 CR4q.1
  have CR5q := CHr.trans CR4q SC5q
  have SF5q_b2q := CHr.safe SC5q ((f3q_0.keep KK4q).lt) SF4q_b2q
  have sz5q := Nat.le_trans (Nat.le_refl _) (KK5q.1)
  have O5q := Old.keep O4q KK5q all0
  obtain ⟨cq6q, kq6q, q6qa, q6qb, q6qc⟩ := isOf hZ4q rfl f5q_0
  obtain ⟨_, _, ⟨T6q, L6q, k6q, n6q⟩, -, X6q, ⟨Lc6q, hQ6q, l6q, y6q, z6q⟩, st6q⟩ := X5q.virtualBack hx (y := (⟨"java/util/Optional", "orElse", "(Ljava/lang/Object;)Ljava/lang/Object;"⟩ : MethodName)) (z := (⟨"java/util/Optional", "orElse", "(Ljava/lang/Object;)Ljava/lang/Object;"⟩ : MethodName)) hown4q (mvT hZ4q (ww hw 94 rfl)) (mvT hZ4q (ww hw 95 rfl)) (notFace_of_selects (args := #[]) (mvT hZ4q (ww hw 97 rfl))) (mvT hZ4q (ww hw 97 rfl)) (mvT hZ4q (ww hw 96 rfl)) (by decide) (backOf (W := 0) (rmL l Z a0 hw [] oo (own_role ([] : List Int32) w0 w1 w2 w3) T5q.heap n0 (own_rr _ _ _ _ _) f5q_1) hZ4q (ww hw 98 rfl) (ww hw 79 rfl) (by decide) (by decide)) q6qa q6qc (g := (mkF m 120 #[.val (.int p0), .val (.int p1), .val (.int p2), .val (.int p3), .val (.int xa), .val (.int xb), .val (.int kd), .val (.int vr), .val (.int mb), .val (.ref ca), .val (.ref b2q), .val (own_role ([] : List Int32) w0 w1 w2 w3), .unset] [.null, (.ref oo)])) rfl (by rw [hml]; rfl) (Steps.refl _) (argsL := [.null]) (rest := []) (lenOf own_pd1 rfl) rfl (by show 2 * 0 + _ ≤ _; exact Nat.le_of_eq rfl) (hb hby at_120) (fun _ _ => ⟨rfl, rfl, (by decide : 16 + 0 ≤ _), (by decide : 194 + 0 ≤ _)⟩)
  dsimp only [Pt.U, Pt.locs, Pt.cells, Pt.slots] at X6q l6q y6q z6q st6q hQ6q
  subst l6q y6q z6q
  obtain ⟨rfl, N6qq, e6q⟩ := hQ6q
  have N6q := Fr.app N5q N6qq
  obtain ⟨T7q, X7q, e7q, st7q⟩ := own_castV X6q hx hZ4q hown4q (ww hw 99 rfl) e6q (own_rc (E0.ext O5q.2) (E1.ext O5q.2) (E2.ext O5q.2) (E3.ext O5q.2) _) (g := (mkF m 123 #[.val (.int p0), .val (.int p1), .val (.int p2), .val (.int p3), .val (.int xa), .val (.int xb), .val (.int kd), .val (.int vr), .val (.int mb), .val (.ref ca), .val (.ref b2q), .val (own_role ([] : List Int32) w0 w1 w2 w3), .unset] [(own_role ([] : List Int32) w0 w1 w2 w3)])) rfl rfl (hb hby at_123)
  obtain ⟨fs, hr, hrun, hended, hE⟩ := X7q.leaveW (s := s) (vm₁ := T4q.vm) S4q (by rw [e7q]; exact sz5q) (v := some (.int (1 : Int32))) (fun h => by rw [Bd.returns] at h; cases h)
  have CE : CHr Z consts_1 s.vm s.heap T7q.vm T7q.heap := by
    rw [hh, e7q]
    exact CHr.trans CR5q (CHv.at X7q hZ4q (own_EW hw) CR5q.1)
  refine ⟨_, _, pre0 _ ?_, hrun, hended, _, _, rfl, ?_, CE, hE.1, hE.2.1, hE.2.2.1, hE.2.2.2.mono (by decide) (by decide)⟩
  · show Steps p.tables e below (s₁.setTop (mkF m 0 #[.val (.int p0), .val (.int p1), .val (.int p2), .val (.int p3), .unset, .unset, .unset, .unset, .unset, .unset, .unset, .unset, .unset] [])) _
    refine stA _ ?_
    show Steps p.tables e below (s₁.setTop (mkF m 44 #[.val (.int p0), .val (.int p1), .val (.int p2), .val (.int p3), .val (.int xa), .val (.int xb), .val (.int kd), .val (.int vr), .val (.int mb), .unset, .unset, .unset, .unset] [])) _
    refine XS.iload X0.here hx rfl (hb hby at_44) rfl ?_
    show Steps p.tables e below (s₁.setTop (mkF m 46 #[.val (.int p0), .val (.int p1), .val (.int p2), .val (.int p3), .val (.int xa), .val (.int xb), .val (.int kd), .val (.int vr), .val (.int mb), .unset, .unset, .unset, .unset] [(.int vr)])) _
    refine XS.iconst X0.here hx rfl (hb hby at_46) ?_
    show Steps p.tables e below (s₁.setTop (mkF m 47 #[.val (.int p0), .val (.int p1), .val (.int p2), .val (.int p3), .val (.int xa), .val (.int xb), .val (.int kd), .val (.int vr), .val (.int mb), .unset, .unset, .unset, .unset] [(.int (3 : Int32)), (.int vr)])) _
    refine XS.icmpNo X0.here hx rfl (hb hby at_47) rfl (teq (by rw [hvr]; exact hv : vr = (3 : Int32))).2 ?_
    show Steps p.tables e below (s₁.setTop (mkF m 50 #[.val (.int p0), .val (.int p1), .val (.int p2), .val (.int p3), .val (.int xa), .val (.int xb), .val (.int kd), .val (.int vr), .val (.int mb), .unset, .unset, .unset, .unset] [])) _
    refine XS.iloadN X0.here hx rfl (hb hby at_50) rfl ?_
    show Steps p.tables e below (s₁.setTop (mkF m 51 #[.val (.int p0), .val (.int p1), .val (.int p2), .val (.int p3), .val (.int xa), .val (.int xb), .val (.int kd), .val (.int vr), .val (.int mb), .unset, .unset, .unset, .unset] [(.int p0)])) _
    refine XS.iconst X0.here hx rfl (hb hby at_51) ?_
    show Steps p.tables e below (s₁.setTop (mkF m 52 #[.val (.int p0), .val (.int p1), .val (.int p2), .val (.int p3), .val (.int xa), .val (.int xb), .val (.int kd), .val (.int vr), .val (.int mb), .unset, .unset, .unset, .unset] [(.int (4 : Int32)), (.int p0)])) _
    refine XS.ishr X0.here hx rfl (hb hby at_52) rfl ?_
    show Steps p.tables e below (s₁.setTop (mkF m 53 #[.val (.int p0), .val (.int p1), .val (.int p2), .val (.int p3), .val (.int xa), .val (.int xb), .val (.int kd), .val (.int vr), .val (.int mb), .unset, .unset, .unset, .unset] [(.int (p0 >>> ((4 : Int32) &&& 31)))])) _
    refine XS.iconst X0.here hx rfl (hb hby at_53) ?_
    show Steps p.tables e below (s₁.setTop (mkF m 54 #[.val (.int p0), .val (.int p1), .val (.int p2), .val (.int p3), .val (.int xa), .val (.int xb), .val (.int kd), .val (.int vr), .val (.int mb), .unset, .unset, .unset, .unset] [(.int (3 : Int32)), (.int (p0 >>> ((4 : Int32) &&& 31)))])) _
    refine XS.iand X0.here hx rfl (hb hby at_54) rfl ?_
    show Steps p.tables e below (s₁.setTop (mkF m 55 #[.val (.int p0), .val (.int p1), .val (.int p2), .val (.int p3), .val (.int xa), .val (.int xb), .val (.int kd), .val (.int vr), .val (.int mb), .unset, .unset, .unset, .unset] [(.int ((p0 >>> ((4 : Int32) &&& 31)) &&& (3 : Int32)))])) _
    refine XS.iload X0.here hx rfl (hb hby at_55) rfl ?_
    show Steps p.tables e below (s₁.setTop (mkF m 57 #[.val (.int p0), .val (.int p1), .val (.int p2), .val (.int p3), .val (.int xa), .val (.int xb), .val (.int kd), .val (.int vr), .val (.int mb), .unset, .unset, .unset, .unset] [(.int xa), (.int ((p0 >>> ((4 : Int32) &&& 31)) &&& (3 : Int32)))])) _
    refine XS.iload X0.here hx rfl (hb hby at_57) rfl ?_
    show Steps p.tables e below (s₁.setTop (mkF m 59 #[.val (.int p0), .val (.int p1), .val (.int p2), .val (.int p3), .val (.int xa), .val (.int xb), .val (.int kd), .val (.int vr), .val (.int mb), .unset, .unset, .unset, .unset] [(.int xb), (.int xa), (.int ((p0 >>> ((4 : Int32) &&& 31)) &&& (3 : Int32)))])) _
    refine st1q _ ?_
    show Steps p.tables e below (T1q.setTop (mkF m 62 #[.val (.int p0), .val (.int p1), .val (.int p2), .val (.int p3), .val (.int xa), .val (.int xb), .val (.int kd), .val (.int vr), .val (.int mb), .unset, .unset, .unset, .unset] [(.ref ca)])) _
    refine XS.astore X1q.here hx rfl (hb hby at_62) rfl rfl (l' := #[.val (.int p0), .val (.int p1), .val (.int p2), .val (.int p3), .val (.int xa), .val (.int xb), .val (.int kd), .val (.int vr), .val (.int mb), .val (.ref ca), .unset, .unset, .unset]) rfl ?_
    show Steps p.tables e below (T1q.setTop (mkF m 64 #[.val (.int p0), .val (.int p1), .val (.int p2), .val (.int p3), .val (.int xa), .val (.int xb), .val (.int kd), .val (.int vr), .val (.int mb), .val (.ref ca), .unset, .unset, .unset] [])) _
    refine XS.goto X1q.here hx rfl (pc0 := 64) (pc' := 96) rfl (hb hby at_64) (by decide) (by decide) ?_
    show Steps p.tables e below (T1q.setTop (mkF m 96 #[.val (.int p0), .val (.int p1), .val (.int p2), .val (.int p3), .val (.int xa), .val (.int xb), .val (.int kd), .val (.int vr), .val (.int mb), .val (.ref ca), .unset, .unset, .unset] [])) _
    refine st2q _ ?_
    show Steps p.tables e below (T2q.setTop (mkF m 99 #[.val (.int p0), .val (.int p1), .val (.int p2), .val (.int p3), .val (.int xa), .val (.int xb), .val (.int kd), .val (.int vr), .val (.int mb), .val (.ref ca), .unset, .unset, .unset] [(.ref b2q)])) _
    refine XS.dup X2q.here hx rfl (hb hby at_99) rfl rfl ?_
    show Steps p.tables e below (T2q.setTop (mkF m 100 #[.val (.int p0), .val (.int p1), .val (.int p2), .val (.int p3), .val (.int xa), .val (.int xb), .val (.int kd), .val (.int vr), .val (.int mb), .val (.ref ca), .unset, .unset, .unset] [(.ref b2q), (.ref b2q)])) _
    refine XS.aload X2q.here hx rfl (hb hby at_100) rfl rfl ?_
    show Steps p.tables e below (T2q.setTop (mkF m 102 #[.val (.int p0), .val (.int p1), .val (.int p2), .val (.int p3), .val (.int xa), .val (.int xb), .val (.int kd), .val (.int vr), .val (.int mb), .val (.ref ca), .unset, .unset, .unset] [(.ref ca), (.ref b2q), (.ref b2q)])) _
    refine st3q.trans ?_
    show Steps p.tables e below (T3q.setTop (mkF m 105 #[.val (.int p0), .val (.int p1), .val (.int p2), .val (.int p3), .val (.int xa), .val (.int xb), .val (.int kd), .val (.int vr), .val (.int mb), .val (.ref ca), .unset, .unset, .unset] [(.ref b2q)])) _
    refine XS.astore X3q.here hx rfl (hb hby at_105) rfl rfl (l' := #[.val (.int p0), .val (.int p1), .val (.int p2), .val (.int p3), .val (.int xa), .val (.int xb), .val (.int kd), .val (.int vr), .val (.int mb), .val (.ref ca), .val (.ref b2q), .unset, .unset]) rfl ?_
    show Steps p.tables e below (T3q.setTop (mkF m 107 #[.val (.int p0), .val (.int p1), .val (.int p2), .val (.int p3), .val (.int xa), .val (.int xb), .val (.int kd), .val (.int vr), .val (.int mb), .val (.ref ca), .val (.ref b2q), .unset, .unset] [])) _
    refine XS.aload X3q.here hx rfl (hb hby at_107) rfl rfl ?_
    show Steps p.tables e below (T3q.setTop (mkF m 109 #[.val (.int p0), .val (.int p1), .val (.int p2), .val (.int p3), .val (.int xa), .val (.int xb), .val (.int kd), .val (.int vr), .val (.int mb), .val (.ref ca), .val (.ref b2q), .unset, .unset] [(.ref b2q)])) _
    refine st4q.trans ?_
    show Steps p.tables e below (T4q.setTop (mkF m 112 #[.val (.int p0), .val (.int p1), .val (.int p2), .val (.int p3), .val (.int xa), .val (.int xb), .val (.int kd), .val (.int vr), .val (.int mb), .val (.ref ca), .val (.ref b2q), .unset, .unset] [(own_role ([] : List Int32) w0 w1 w2 w3)])) _
    refine XS.astore X4q.here hx rfl (hb hby at_112) rfl (own_rr _ _ _ _ _) (l' := #[.val (.int p0), .val (.int p1), .val (.int p2), .val (.int p3), .val (.int xa), .val (.int xb), .val (.int kd), .val (.int vr), .val (.int mb), .val (.ref ca), .val (.ref b2q), .val (own_role ([] : List Int32) w0 w1 w2 w3), .unset]) (by rcases ref_cases (own_rr ([] : List Int32) w0 w1 w2 w3) with q | ⟨u, q⟩ <;> rw [q] <;> rfl) ?_
    show Steps p.tables e below (T4q.setTop (mkF m 114 #[.val (.int p0), .val (.int p1), .val (.int p2), .val (.int p3), .val (.int xa), .val (.int xb), .val (.int kd), .val (.int vr), .val (.int mb), .val (.ref ca), .val (.ref b2q), .val (own_role ([] : List Int32) w0 w1 w2 w3), .unset] [])) _
    refine XS.aload X4q.here hx rfl (hb hby at_114) rfl rfl ?_
    show Steps p.tables e below (T4q.setTop (mkF m 116 #[.val (.int p0), .val (.int p1), .val (.int p2), .val (.int p3), .val (.int xa), .val (.int xb), .val (.int kd), .val (.int vr), .val (.int mb), .val (.ref ca), .val (.ref b2q), .val (own_role ([] : List Int32) w0 w1 w2 w3), .unset] [(.ref b2q)])) _
    refine st5q _ ?_
    show Steps p.tables e below (T5q.setTop (mkF m 119 #[.val (.int p0), .val (.int p1), .val (.int p2), .val (.int p3), .val (.int xa), .val (.int xb), .val (.int kd), .val (.int vr), .val (.int mb), .val (.ref ca), .val (.ref b2q), .val (own_role ([] : List Int32) w0 w1 w2 w3), .unset] [(.ref oo)])) _
    refine XS.aconstNull X5q.here hx rfl (hb hby at_119) ?_
    show Steps p.tables e below (T5q.setTop (mkF m 120 #[.val (.int p0), .val (.int p1), .val (.int p2), .val (.int p3), .val (.int xa), .val (.int xb), .val (.int kd), .val (.int vr), .val (.int mb), .val (.ref ca), .val (.ref b2q), .val (own_role ([] : List Int32) w0 w1 w2 w3), .unset] [.null, (.ref oo)])) _
    refine st6q.trans ?_
    show Steps p.tables e below (T6q.setTop (mkF m 123 #[.val (.int p0), .val (.int p1), .val (.int p2), .val (.int p3), .val (.int xa), .val (.int xb), .val (.int kd), .val (.int vr), .val (.int mb), .val (.ref ca), .val (.ref b2q), .val (own_role ([] : List Int32) w0 w1 w2 w3), .unset] [(own_role ([] : List Int32) w0 w1 w2 w3)])) _
    refine st7q _ ?_
    show Steps p.tables e below (T7q.setTop (mkF m 126 #[.val (.int p0), .val (.int p1), .val (.int p2), .val (.int p3), .val (.int xa), .val (.int xb), .val (.int kd), .val (.int vr), .val (.int mb), .val (.ref ca), .val (.ref b2q), .val (own_role ([] : List Int32) w0 w1 w2 w3), .unset] [(own_role ([] : List Int32) w0 w1 w2 w3)])) _
    refine XS.astore X7q.here hx rfl (hb hby at_126) rfl (own_rr _ _ _ _ _) (l' := #[.val (.int p0), .val (.int p1), .val (.int p2), .val (.int p3), .val (.int xa), .val (.int xb), .val (.int kd), .val (.int vr), .val (.int mb), .val (.ref ca), .val (.ref b2q), .val (own_role ([] : List Int32) w0 w1 w2 w3), .val (own_role ([] : List Int32) w0 w1 w2 w3)]) (by rcases ref_cases (own_rr ([] : List Int32) w0 w1 w2 w3) with q | ⟨u, q⟩ <;> rw [q] <;> rfl) ?_
    show Steps p.tables e below (T7q.setTop (mkF m 128 #[.val (.int p0), .val (.int p1), .val (.int p2), .val (.int p3), .val (.int xa), .val (.int xb), .val (.int kd), .val (.int vr), .val (.int mb), .val (.ref ca), .val (.ref b2q), .val (own_role ([] : List Int32) w0 w1 w2 w3), .val (own_role ([] : List Int32) w0 w1 w2 w3)] [])) _
    refine XS.aload X7q.here hx rfl (hb hby at_128) rfl (own_rr _ _ _ _ _) ?_
    show Steps p.tables e below (T7q.setTop (mkF m 130 #[.val (.int p0), .val (.int p1), .val (.int p2), .val (.int p3), .val (.int xa), .val (.int xb), .val (.int kd), .val (.int vr), .val (.int mb), .val (.ref ca), .val (.ref b2q), .val (own_role ([] : List Int32) w0 w1 w2 w3), .val (own_role ([] : List Int32) w0 w1 w2 w3)] [(own_role ([] : List Int32) w0 w1 w2 w3)])) _
    refine XS.aload X7q.here hx rfl (hb hby at_130) rfl (own_rr _ _ _ _ _) ?_
    show Steps p.tables e below (T7q.setTop (mkF m 132 #[.val (.int p0), .val (.int p1), .val (.int p2), .val (.int p3), .val (.int xa), .val (.int xb), .val (.int kd), .val (.int vr), .val (.int mb), .val (.ref ca), .val (.ref b2q), .val (own_role ([] : List Int32) w0 w1 w2 w3), .val (own_role ([] : List Int32) w0 w1 w2 w3)] [(own_role ([] : List Int32) w0 w1 w2 w3), (own_role ([] : List Int32) w0 w1 w2 w3)])) _
    refine Jvm.RoadKit.acmp (g := (mkF m 132 #[.val (.int p0), .val (.int p1), .val (.int p2), .val (.int p3), .val (.int xa), .val (.int xb), .val (.int kd), .val (.int vr), .val (.int mb), .val (.ref ca), .val (.ref b2q), .val (own_role ([] : List Int32) w0 w1 w2 w3), .val (own_role ([] : List Int32) w0 w1 w2 w3)] [(own_role ([] : List Int32) w0 w1 w2 w3), (own_role ([] : List Int32) w0 w1 w2 w3)])) X7q hx rfl (own_rr _ _ _ _ _) (own_rr _ _ _ _ _) (pc0 := 132) (pc' := 135) (same := true) rfl (hb hby at_132) rfl (decide_eq_true rfl) (by decide) (by decide) ?_
    show Steps p.tables e below (T7q.setTop (mkF m 135 #[.val (.int p0), .val (.int p1), .val (.int p2), .val (.int p3), .val (.int xa), .val (.int xb), .val (.int kd), .val (.int vr), .val (.int mb), .val (.ref ca), .val (.ref b2q), .val (own_role ([] : List Int32) w0 w1 w2 w3), .val (own_role ([] : List Int32) w0 w1 w2 w3)] [])) _
    refine XS.iconst X7q.here hx rfl (hb hby at_135) ?_
    show Steps p.tables e below (T7q.setTop (mkF m 136 #[.val (.int p0), .val (.int p1), .val (.int p2), .val (.int p3), .val (.int xa), .val (.int xb), .val (.int kd), .val (.int vr), .val (.int mb), .val (.ref ca), .val (.ref b2q), .val (own_role ([] : List Int32) w0 w1 w2 w3), .val (own_role ([] : List Int32) w0 w1 w2 w3)] [(.int (1 : Int32))])) _
    refine XS.goto X7q.here hx rfl (pc0 := 136) (pc' := 140) rfl (hb hby at_136) (by decide) (by decide) ?_
    show Steps p.tables e below (T7q.setTop (mkF m 140 #[.val (.int p0), .val (.int p1), .val (.int p2), .val (.int p3), .val (.int xa), .val (.int xb), .val (.int kd), .val (.int vr), .val (.int mb), .val (.ref ca), .val (.ref b2q), .val (own_role ([] : List Int32) w0 w1 w2 w3), .val (own_role ([] : List Int32) w0 w1 w2 w3)] [(.int (1 : Int32))])) _
    exact retN X7q hx (t := .boolean) Bd.returns (by simp) (hb hby at_140) hr
  · show Qd15 Z p0 p1 p2 p3 em vA w0 w1 w2 w3 s0 s1 s2 s3 t0 t1 t2 t3 kA kb0 kb1 kb2 kb3 z h0 n0 _ T7q.heap _
    rw [e7q]
    exact ⟨rfl, N6q⟩
set_option maxRecDepth 65536 in
set_option maxHeartbeats 40000000 in
theorem rm0c (l : Launch) (Z : State) (a0 : Array Value) (hw : ∀ d ∈ tables_1, d.before a0 Z = true) (ws : List Jvm.Cond) (p0 p1 p2 p3 : Int32) (em vA w0 w1 w2 w3 s0 s1 s2 s3 t0 t1 t2 t3 : Addr) (kA kb0 kb1 kb2 kb3 : ClassId) (z : Int32) (h0 : Heap) (n0 : Nat) (O0 : Old Z n0 h0) (SC : Sta Z Z.heap "java/lang/String" "COMPACT_STRINGS" "Z" (.int z)) (hz : ¬ z = 0) (SR0 : Sta Z Z.heap "com/example/lendloop/lendloop/core/TransactionRole" "LENDER" "Lcom/example/lendloop/lendloop/core/TransactionRole;" (.ref w0)) (SR1 : Sta Z Z.heap "com/example/lendloop/lendloop/core/TransactionRole" "BORROWER" "Lcom/example/lendloop/lendloop/core/TransactionRole;" (.ref w1)) (SR2 : Sta Z Z.heap "com/example/lendloop/lendloop/core/TransactionRole" "PICKUP" "Lcom/example/lendloop/lendloop/core/TransactionRole;" (.ref w2)) (SR3 : Sta Z Z.heap "com/example/lendloop/lendloop/core/TransactionRole" "BORROWING_PICKUP" "Lcom/example/lendloop/lendloop/core/TransactionRole;" (.ref w3)) (SV : Sta Z Z.heap "com/example/lendloop/lendloop/core/TransactionRole" "$VALUES" "[Lcom/example/lendloop/lendloop/core/TransactionRole;" (.ref vA)) (VV : Arv Z Z.heap vA kA (.object "com/example/lendloop/lendloop/core/TransactionRole") (4 : Int32) [.ref w0, .ref w1, .ref w2, .ref w3] .null) (EV : Exa Z Z.heap vA "[Lcom/example/lendloop/lendloop/core/TransactionRole;") (SM : Sta Z Z.heap "java/util/Optional" "EMPTY" "Ljava/util/Optional;" (.ref em)) (EE : Exa Z Z.heap em "java/util/Optional") (FE : Fld Z Z.heap em "java/util/Optional" "value" "Ljava/lang/Object;" .null) (E0 : Exa Z Z.heap w0 "com/example/lendloop/lendloop/core/TransactionRole") (G0 : Fld Z Z.heap w0 "com/example/lendloop/lendloop/core/TransactionRole" "wireName" "Ljava/lang/String;" (.ref s0)) (Ex0 : Exa Z Z.heap s0 "java/lang/String") (Vx0 : Fld Z Z.heap s0 "java/lang/String" "value" "[B" (.ref t0)) (Cx0 : Fld Z Z.heap s0 "java/lang/String" "coder" "B" (.int 0)) (Kx0 : Arv Z Z.heap t0 kb0 .byte (Int32.ofNat (own_d0).length) (((own_d0).map StrChars.lo8).map Value.int) (.int 0)) (E1 : Exa Z Z.heap w1 "com/example/lendloop/lendloop/core/TransactionRole") (G1 : Fld Z Z.heap w1 "com/example/lendloop/lendloop/core/TransactionRole" "wireName" "Ljava/lang/String;" (.ref s1)) (Ex1 : Exa Z Z.heap s1 "java/lang/String") (Vx1 : Fld Z Z.heap s1 "java/lang/String" "value" "[B" (.ref t1)) (Cx1 : Fld Z Z.heap s1 "java/lang/String" "coder" "B" (.int 0)) (Kx1 : Arv Z Z.heap t1 kb1 .byte (Int32.ofNat (own_d1).length) (((own_d1).map StrChars.lo8).map Value.int) (.int 0)) (E2 : Exa Z Z.heap w2 "com/example/lendloop/lendloop/core/TransactionRole") (G2 : Fld Z Z.heap w2 "com/example/lendloop/lendloop/core/TransactionRole" "wireName" "Ljava/lang/String;" (.ref s2)) (Ex2 : Exa Z Z.heap s2 "java/lang/String") (Vx2 : Fld Z Z.heap s2 "java/lang/String" "value" "[B" (.ref t2)) (Cx2 : Fld Z Z.heap s2 "java/lang/String" "coder" "B" (.int 0)) (Kx2 : Arv Z Z.heap t2 kb2 .byte (Int32.ofNat (own_d2).length) (((own_d2).map StrChars.lo8).map Value.int) (.int 0)) (E3 : Exa Z Z.heap w3 "com/example/lendloop/lendloop/core/TransactionRole") (G3 : Fld Z Z.heap w3 "com/example/lendloop/lendloop/core/TransactionRole" "wireName" "Ljava/lang/String;" (.ref s3)) (Ex3 : Exa Z Z.heap s3 "java/lang/String") (Vx3 : Fld Z Z.heap s3 "java/lang/String" "value" "[B" (.ref t3)) (Cx3 : Fld Z Z.heap s3 "java/lang/String" "coder" "B" (.int 0)) (Kx3 : Arv Z Z.heap t3 kb3 .byte (Int32.ofNat (own_d3).length) (((own_d3).map StrChars.lo8).map Value.int) (.int 0)) (hln : ¬ (((p0 >>> ((4 : Int32) &&& 31)) &&& (3 : Int32)) = (0 : Int32))) (hv : ((p0 >>> ((2 : Int32) &&& 31)) &&& (3 : Int32)) = (3 : Int32)) :
    MetFree l x (head1 (Jvm.Cond.code x code maxLocals ret :: ws) room_1) (fun qq U => qq = #[(.int p0), (.int p1), (.int p2), (.int p3)] ∧ Z.Warmed39 U.vm ∧ U.heap = h0 ∧ CHv Z consts_1 U.vm h0) (fun _ _ _ _ _ => True) (fun _ UU oo UU' => ∃ vv LL, oo = .returned vv ∧ Qd15 Z p0 p1 p2 p3 em vA w0 w1 w2 w3 s0 s1 s2 s3 t0 t1 t2 t3 kA kb0 kb1 kb2 kb3 z h0 n0 vv UU'.heap LL ∧ CHr Z consts_1 UU.vm UU.heap UU'.vm UU'.heap ∧ ReturnedEndW UU oo UU' LL room_1.cells room_1.slots) := by
  refine MetFree.of_bodySF (plainFor_of_name pn_0) hisR ?_
  intro p e s m args below meth c s₁ Bd hml0 hP hK
  obtain ⟨rfl, hZ, hh, hC0⟩ := hP
  have hZ : Z.Warmed39 (s.setVm s.vm).vm := hZ
  have CR0 := CHr.refl hC0
  have hx := Bd.exec
  have hby := Bd.bytes
  have hml : c.maxLocals = 13 := hml0
  have hown : (s.setVm s.vm).vm.findClass "com/example/lendloop/lendloop/core/TransactionRoleFromWireNamePinLaw" = some m.cls := findClass_of_methodNamed Bd.named
  have hnm := (name_of_methodNamed Bd.named Bd.method).1
  have X0 : Stand p l e room_1 (s.setVm s.vm) m #[(.int p0), (.int p1), (.int p2), (.int p3)] below meth c s₁ [] 0 0 := Stand.of_body Bd
  have e0 : s₁.heap = h0 := by rw [← hh, Bd.state]; rfl
  have N0 := Fr.nil n0
  have pre0 : ∀ tgt, Steps p.tables e below (s₁.setTop (mkF m 0 #[.val (.int p0), .val (.int p1), .val (.int p2), .val (.int p3), .unset, .unset, .unset, .unset, .unset, .unset, .unset, .unset, .unset] [])) tgt → Steps p.tables e below (s₁.setTop (entryFrame m #[(.int p0), (.int p1), (.int p2), (.int p3)] maxLocals)) tgt := fun tt kk => castTop (ef_0 m p0 p1 p2 p3) kk
  obtain ⟨xa, xb, kd, vr, mb, ⟨hxa, hxb, hvr, hmb⟩, stA⟩ := lawpre (p0 := p0) (p1 := p1) (p2 := p2) (p3 := p3) X0 hx hZ hw hby hown e0
  obtain ⟨_, _, ⟨T1q, L1q, k1q, n1q⟩, -, X1q, ⟨Lc1q, hQ1q, l1q, y1q, z1q⟩, st1q⟩ := Jvm.LawKit.callS X0 hx (y := (⟨"com/example/lendloop/lendloop/core/TransactionRoleFromWireNamePinLaw", "shortOne", "(ICC)[C"⟩ : MethodName)) hown (mvT hZ (ww hw 101 rfl)) (mvT hZ (ww hw 102 rfl)) (mvT hZ (ww hw 2 rfl)) (mvT hZ (ww hw 103 rfl)) (by decide) (backOf (W := 0) (rmSn l Z a0 hw [] ((p0 >>> ((4 : Int32) &&& 31)) &&& (3 : Int32)) xa xb h0 n0 O0 hxa hxb hln) hZ (ww hw 103 rfl) (ww hw 2 rfl) (by decide) (by decide)) (g := (mkF m 59 #[.val (.int p0), .val (.int p1), .val (.int p2), .val (.int p3), .val (.int xa), .val (.int xb), .val (.int kd), .val (.int vr), .val (.int mb), .unset, .unset, .unset, .unset] [(.int xb), (.int xa), (.int ((p0 >>> ((4 : Int32) &&& 31)) &&& (3 : Int32)))])) rfl (by rw [hml]; rfl) (argsL := [(.int ((p0 >>> ((4 : Int32) &&& 31)) &&& (3 : Int32))), (.int xa), (.int xb)]) (rest := []) (lenOf own_pd7 rfl) rfl (by show 2 * 0 + _ ≤ _; exact Nat.le_of_eq rfl) (hb hby at_59) (fun _ _ => ⟨rfl, e0, (by decide : 0 + 1 ≤ _), (by decide : 0 + 17 ≤ _)⟩)
  dsimp only [Pt.U, Pt.locs, Pt.cells, Pt.slots] at X1q l1q y1q z1q st1q hQ1q
  subst l1q y1q z1q
  obtain ⟨ca, kC, cs, rfl, N1qq, KK1q, g_ca, VCA, hg, hne⟩ := hQ1q
  have N1q := Fr.app N0 N1qq
  have SC1q := CHr.keep KK1q sf0 CR0.1
  have CR1q := CHr.trans CR0 SC1q
  have O1q := Old.keep O0 KK1q all0
  obtain ⟨T2q, h2q, X2q, e2q, E2q, A2q, D2q, -, st2q⟩ := newO X1q hx hZ hown (ww hw 5 rfl) (ww hw 6 rfl) (ww hw 7 rfl) rfl (g := (mkF m 96 #[.val (.int p0), .val (.int p1), .val (.int p2), .val (.int p3), .val (.int xa), .val (.int xb), .val (.int kd), .val (.int vr), .val (.int mb), .val (.ref ca), .unset, .unset, .unset] [])) rfl (hb hby at_96) (by decide) (by decide)
  obtain ⟨b2q, q2q⟩ : ∃ z, z = T1q.heap.size := ⟨_, rfl⟩
  rw [← q2q] at A2q D2q st2q
  have g_b2q : n0 ≤ b2q := by rw [q2q]; exact (O1q).1 ▸ (O1q).2.1
  have ne_ca_b2q : ca ≠ b2q := by rw [q2q]; exact Nat.ne_of_lt VCA.lt
  have SC2q := CHr.ext E2q CR1q.1
  have CR2q := CHr.trans CR1q SC2q
  have O2q := Old.ext O1q E2q
  have SN2q := Safe.ext E2q CR1q.1 (Safe.new (Nat.le_of_eq q2q.symm))
  have F2q_coder : Fld Z h2q b2q "java/lang/String" "coder" "B" (.int (0 : Int32)) := D2q (Or.inr (ww hw 31 rfl)) (ty := .byte) (by decide)
  have F2q_value : Fld Z h2q b2q "java/lang/String" "value" "[B" .null := D2q (Or.inr (ww hw 33 rfl)) (ty := (.array .byte)) (by decide)
  have Vq := (VCA.ext E2q)
  obtain ⟨_, _, ⟨T3q, L3q, k3q, n3q⟩, -, X3q, ⟨Lc3q, hQ3q, l3q, y3q, z3q⟩, st3q⟩ := X2q.specialBack hx (y := (⟨"java/lang/String", "<init>", "([C)V"⟩ : MethodName)) rfl hown (mvT hZ (ww hw 8 rfl)) (mvT hZ (ww hw 9 rfl)) (mvT hZ (ww hw 10 rfl)) (by decide) (own_wide (N := 17) hg.1 (StrChars.Road.backV (W := 1) hZ (own_wB hw) (kI := 4) (ww hw 6 rfl) (cs := cs) (bs := (cs).map StrChars.lo8) (n := (cs).length) (n0 := n0) g_b2q (show n0 ≤ h2q.size from (O2q).1 ▸ (O2q).2.1) A2q F2q_value F2q_coder Vq (Sta.ext O2q.2 SC) hz rfl rfl (Nat.pos_of_ne_zero hne) (Nat.le_trans hg.1 (by decide)) hg.2 rfl (by decide) (by decide))) (g := (mkF m 102 #[.val (.int p0), .val (.int p1), .val (.int p2), .val (.int p3), .val (.int xa), .val (.int xb), .val (.int kd), .val (.int vr), .val (.int mb), .val (.ref ca), .unset, .unset, .unset] [(.ref ca), (.ref b2q), (.ref b2q)])) rfl (by rw [hml]; rfl) (Steps.refl _) (a := b2q) (argsL := [(.ref ca)]) (rest := [(.ref b2q)]) (lenOf own_pd8 rfl) rfl (by show 2 * 0 + _ ≤ _; exact Nat.le_of_eq rfl) (hb hby at_102) (fun _ _ => ⟨rfl, e2q, (by decide : 2 + 1 ≤ _), (by decide : 21 + 17 ≤ _)⟩)
  dsimp only [Pt.U, Pt.locs, Pt.cells, Pt.slots] at X3q l3q y3q z3q st3q hQ3q
  subst l3q y3q z3q
  obtain ⟨rfl, N3qq, KK3q, fE, fC, tt, kx, _, _, _, fV, fK⟩ := hQ3q
  have N3q := Fr.app N1q N3qq
  have SC3q := CHr.keep KK3q (sfS SN2q sf0) CR2q.1
  have CR3q := CHr.trans CR2q SC3q
  have SF3q_b2q := CHr.safe SC3q (A2q.lt) SN2q
  have O3q := Old.keep O2q KK3q (allS g_b2q all0)
  obtain ⟨_, _, ⟨T4q, L4q, k4q, n4q⟩, -, X4q, Sq4q, gq4q, ⟨Lc4q, hQ4q, l4q, y4q, z4q, CC4q⟩, st4q⟩ := callSS X3q hx (y := (⟨"com/example/lendloop/lendloop/core/TransactionRoleFromWireNamePinLaw", "reference", "(Ljava/lang/String;)Lcom/example/lendloop/lendloop/core/TransactionRole;"⟩ : MethodName)) hown (mvT hZ (ww hw 34 rfl)) (mvT hZ (ww hw 35 rfl)) (mvT hZ (ww hw 2 rfl)) (mvT hZ (ww hw 36 rfl)) (by decide) (backOfSH (W := 0) (rmF l Z a0 hw [] b2q tt w0 w1 w2 w3 kx cs z T3q.heap n0 O3q fE fV fC fK SC hz SR0 SR1 SR2 SR3 hg) hZ (ww hw 36 rfl) (ww hw 2 rfl) (by decide) (by decide) (own_EW hw) CR3q.1) (g := (mkF m 109 #[.val (.int p0), .val (.int p1), .val (.int p2), .val (.int p3), .val (.int xa), .val (.int xb), .val (.int kd), .val (.int vr), .val (.int mb), .val (.ref ca), .val (.ref b2q), .unset, .unset] [(.ref b2q)])) rfl (by rw [hml]; rfl) (argsL := [(.ref b2q)]) (rest := []) (lenOf own_pd9 rfl) rfl (by show 2 * 0 + _ ≤ _; exact Nat.le_of_eq rfl) (hb hby at_109) (fun _ _ => ⟨rfl, rfl, (by decide : 3 + 8 ≤ _), (by decide : 38 + 160 ≤ _)⟩)
  dsimp only [Pt.U, Pt.locs, Pt.cells, Pt.slots] at X4q l4q y4q z4q st4q hQ4q Sq4q gq4q CC4q
  subst l4q y4q z4q
  obtain ⟨X4q, S4q, hZ4q, hown4q⟩ := rebS (n1 := T3q.heap.size) (State.WarmedH.since (State.WarmedH.refl s) 0) ((Nat.zero_le _)) X4q Sq4q gq4q hZ hown
  obtain ⟨rfl, N4qq, KK4q⟩ := hQ4q
  have N4q := Fr.app N3q N4qq
  have SC4q := CC4q
  have CR4q := CHr.trans CR3q SC4q
  have SF4q_b2q := CHr.safe SC4q (fE.lt) SF3q_b2q
  have O4q := Old.keep O3q KK4q all0
  obtain ⟨_, _, ⟨T5q, L5q, k5q, n5q⟩, -, X5q, ⟨Lc5q, hQ5q, l5q, y5q, z5q⟩, st5q⟩ := Jvm.LawKit.callS X4q hx (y := (⟨"com/example/lendloop/lendloop/core/TransactionRole", "fromWireName", "(Ljava/lang/String;)Ljava/util/Optional;"⟩ : MethodName)) hown4q (mvT hZ4q (ww hw 53 rfl)) (mvT hZ4q (ww hw 54 rfl)) (mvT hZ4q (ww hw 51 rfl)) (mvT hZ4q (ww hw 55 rfl)) (by decide) (backOf (W := 0) (rmW l Z a0 hw [] b2q tt em vA w0 w1 w2 w3 s0 s1 s2 s3 t0 t1 t2 t3 kx kA kb0 kb1 kb2 kb3 cs z T4q.heap n0 O4q (fE.keep KK4q) (fV.keep KK4q nin0) (fC.keep KK4q nin0) (fK.keep KK4q nin0) SC hz SV VV EV SM EE FE E0 G0 Ex0 Vx0 Cx0 Kx0 E1 G1 Ex1 Vx1 Cx1 Kx1 E2 G2 Ex2 Vx2 Cx2 Kx2 E3 G3 Ex3 Vx3 Cx3 Kx3 hg) hZ4q (ww hw 55 rfl) (ww hw 51 rfl) (by decide) (by decide)) (g := (mkF m 116 #[.val (.int p0), .val (.int p1), .val (.int p2), .val (.int p3), .val (.int xa), .val (.int xb), .val (.int kd), .val (.int vr), .val (.int mb), .val (.ref ca), .val (.ref b2q), .val (own_role cs w0 w1 w2 w3), .unset] [(.ref b2q)])) rfl (by rw [hml]; rfl) (argsL := [(.ref b2q)]) (rest := []) (lenOf own_pd10 rfl) rfl (by show 2 * 0 + _ ≤ _; exact Nat.le_of_eq rfl) (hb hby at_116) (fun _ _ => ⟨rfl, rfl, (by decide : 11 + 2 ≤ _), (by decide : 198 + 5 ≤ _)⟩)
  dsimp only [Pt.U, Pt.locs, Pt.cells, Pt.slots] at X5q l5q y5q z5q st5q hQ5q
  subst l5q y5q z5q
  obtain ⟨oo, rfl, N5qq, KK5q, f5q_0, f5q_1⟩ := hQ5q
  have N5q := Fr.app N4q N5qq
  have SC5q := CHr.keep KK5q sf0 CR4q.1
  have CR5q := CHr.trans CR4q SC5q
  have SF5q_b2q := CHr.safe SC5q ((fE.keep KK4q).lt) SF4q_b2q
  have sz5q := Nat.le_trans (Nat.le_refl _) (KK5q.1)
  have O5q := Old.keep O4q KK5q all0
  obtain ⟨cq6q, kq6q, q6qa, q6qb, q6qc⟩ := isOf hZ4q rfl f5q_0
  obtain ⟨_, _, ⟨T6q, L6q, k6q, n6q⟩, -, X6q, ⟨Lc6q, hQ6q, l6q, y6q, z6q⟩, st6q⟩ := X5q.virtualBack hx (y := (⟨"java/util/Optional", "orElse", "(Ljava/lang/Object;)Ljava/lang/Object;"⟩ : MethodName)) (z := (⟨"java/util/Optional", "orElse", "(Ljava/lang/Object;)Ljava/lang/Object;"⟩ : MethodName)) hown4q (mvT hZ4q (ww hw 94 rfl)) (mvT hZ4q (ww hw 95 rfl)) (notFace_of_selects (args := #[]) (mvT hZ4q (ww hw 97 rfl))) (mvT hZ4q (ww hw 97 rfl)) (mvT hZ4q (ww hw 96 rfl)) (by decide) (backOf (W := 0) (rmL l Z a0 hw [] oo (own_role cs w0 w1 w2 w3) T5q.heap n0 (own_rr _ _ _ _ _) f5q_1) hZ4q (ww hw 98 rfl) (ww hw 79 rfl) (by decide) (by decide)) q6qa q6qc (g := (mkF m 120 #[.val (.int p0), .val (.int p1), .val (.int p2), .val (.int p3), .val (.int xa), .val (.int xb), .val (.int kd), .val (.int vr), .val (.int mb), .val (.ref ca), .val (.ref b2q), .val (own_role cs w0 w1 w2 w3), .unset] [.null, (.ref oo)])) rfl (by rw [hml]; rfl) (Steps.refl _) (argsL := [.null]) (rest := []) (lenOf own_pd1 rfl) rfl (by show 2 * 0 + _ ≤ _; exact Nat.le_of_eq rfl) (hb hby at_120) (fun _ _ => ⟨rfl, rfl, (by decide : 13 + 0 ≤ _), (by decide : 203 + 0 ≤ _)⟩)
  dsimp only [Pt.U, Pt.locs, Pt.cells, Pt.slots] at X6q l6q y6q z6q st6q hQ6q
  subst l6q y6q z6q
  obtain ⟨rfl, N6qq, e6q⟩ := hQ6q
  have N6q := Fr.app N5q N6qq
  obtain ⟨T7q, X7q, e7q, st7q⟩ := own_castV X6q hx hZ4q hown4q (ww hw 99 rfl) e6q (own_rc (E0.ext O5q.2) (E1.ext O5q.2) (E2.ext O5q.2) (E3.ext O5q.2) _) (g := (mkF m 123 #[.val (.int p0), .val (.int p1), .val (.int p2), .val (.int p3), .val (.int xa), .val (.int xb), .val (.int kd), .val (.int vr), .val (.int mb), .val (.ref ca), .val (.ref b2q), .val (own_role cs w0 w1 w2 w3), .unset] [(own_role cs w0 w1 w2 w3)])) rfl rfl (hb hby at_123)
  obtain ⟨fs, hr, hrun, hended, hE⟩ := X7q.leaveW (s := s) (vm₁ := T4q.vm) S4q (by rw [e7q]; exact sz5q) (v := some (.int (1 : Int32))) (fun h => by rw [Bd.returns] at h; cases h)
  have CE : CHr Z consts_1 s.vm s.heap T7q.vm T7q.heap := by
    rw [hh, e7q]
    exact CHr.trans CR5q (CHv.at X7q hZ4q (own_EW hw) CR5q.1)
  refine ⟨_, _, pre0 _ ?_, hrun, hended, _, _, rfl, ?_, CE, hE.1, hE.2.1, hE.2.2.1, hE.2.2.2.mono (by decide) (by decide)⟩
  · show Steps p.tables e below (s₁.setTop (mkF m 0 #[.val (.int p0), .val (.int p1), .val (.int p2), .val (.int p3), .unset, .unset, .unset, .unset, .unset, .unset, .unset, .unset, .unset] [])) _
    refine stA _ ?_
    show Steps p.tables e below (s₁.setTop (mkF m 44 #[.val (.int p0), .val (.int p1), .val (.int p2), .val (.int p3), .val (.int xa), .val (.int xb), .val (.int kd), .val (.int vr), .val (.int mb), .unset, .unset, .unset, .unset] [])) _
    refine XS.iload X0.here hx rfl (hb hby at_44) rfl ?_
    show Steps p.tables e below (s₁.setTop (mkF m 46 #[.val (.int p0), .val (.int p1), .val (.int p2), .val (.int p3), .val (.int xa), .val (.int xb), .val (.int kd), .val (.int vr), .val (.int mb), .unset, .unset, .unset, .unset] [(.int vr)])) _
    refine XS.iconst X0.here hx rfl (hb hby at_46) ?_
    show Steps p.tables e below (s₁.setTop (mkF m 47 #[.val (.int p0), .val (.int p1), .val (.int p2), .val (.int p3), .val (.int xa), .val (.int xb), .val (.int kd), .val (.int vr), .val (.int mb), .unset, .unset, .unset, .unset] [(.int (3 : Int32)), (.int vr)])) _
    refine XS.icmpNo X0.here hx rfl (hb hby at_47) rfl (teq (by rw [hvr]; exact hv : vr = (3 : Int32))).2 ?_
    show Steps p.tables e below (s₁.setTop (mkF m 50 #[.val (.int p0), .val (.int p1), .val (.int p2), .val (.int p3), .val (.int xa), .val (.int xb), .val (.int kd), .val (.int vr), .val (.int mb), .unset, .unset, .unset, .unset] [])) _
    refine XS.iloadN X0.here hx rfl (hb hby at_50) rfl ?_
    show Steps p.tables e below (s₁.setTop (mkF m 51 #[.val (.int p0), .val (.int p1), .val (.int p2), .val (.int p3), .val (.int xa), .val (.int xb), .val (.int kd), .val (.int vr), .val (.int mb), .unset, .unset, .unset, .unset] [(.int p0)])) _
    refine XS.iconst X0.here hx rfl (hb hby at_51) ?_
    show Steps p.tables e below (s₁.setTop (mkF m 52 #[.val (.int p0), .val (.int p1), .val (.int p2), .val (.int p3), .val (.int xa), .val (.int xb), .val (.int kd), .val (.int vr), .val (.int mb), .unset, .unset, .unset, .unset] [(.int (4 : Int32)), (.int p0)])) _
    refine XS.ishr X0.here hx rfl (hb hby at_52) rfl ?_
    show Steps p.tables e below (s₁.setTop (mkF m 53 #[.val (.int p0), .val (.int p1), .val (.int p2), .val (.int p3), .val (.int xa), .val (.int xb), .val (.int kd), .val (.int vr), .val (.int mb), .unset, .unset, .unset, .unset] [(.int (p0 >>> ((4 : Int32) &&& 31)))])) _
    refine XS.iconst X0.here hx rfl (hb hby at_53) ?_
    show Steps p.tables e below (s₁.setTop (mkF m 54 #[.val (.int p0), .val (.int p1), .val (.int p2), .val (.int p3), .val (.int xa), .val (.int xb), .val (.int kd), .val (.int vr), .val (.int mb), .unset, .unset, .unset, .unset] [(.int (3 : Int32)), (.int (p0 >>> ((4 : Int32) &&& 31)))])) _
    refine XS.iand X0.here hx rfl (hb hby at_54) rfl ?_
    show Steps p.tables e below (s₁.setTop (mkF m 55 #[.val (.int p0), .val (.int p1), .val (.int p2), .val (.int p3), .val (.int xa), .val (.int xb), .val (.int kd), .val (.int vr), .val (.int mb), .unset, .unset, .unset, .unset] [(.int ((p0 >>> ((4 : Int32) &&& 31)) &&& (3 : Int32)))])) _
    refine XS.iload X0.here hx rfl (hb hby at_55) rfl ?_
    show Steps p.tables e below (s₁.setTop (mkF m 57 #[.val (.int p0), .val (.int p1), .val (.int p2), .val (.int p3), .val (.int xa), .val (.int xb), .val (.int kd), .val (.int vr), .val (.int mb), .unset, .unset, .unset, .unset] [(.int xa), (.int ((p0 >>> ((4 : Int32) &&& 31)) &&& (3 : Int32)))])) _
    refine XS.iload X0.here hx rfl (hb hby at_57) rfl ?_
    show Steps p.tables e below (s₁.setTop (mkF m 59 #[.val (.int p0), .val (.int p1), .val (.int p2), .val (.int p3), .val (.int xa), .val (.int xb), .val (.int kd), .val (.int vr), .val (.int mb), .unset, .unset, .unset, .unset] [(.int xb), (.int xa), (.int ((p0 >>> ((4 : Int32) &&& 31)) &&& (3 : Int32)))])) _
    refine st1q _ ?_
    show Steps p.tables e below (T1q.setTop (mkF m 62 #[.val (.int p0), .val (.int p1), .val (.int p2), .val (.int p3), .val (.int xa), .val (.int xb), .val (.int kd), .val (.int vr), .val (.int mb), .unset, .unset, .unset, .unset] [(.ref ca)])) _
    refine XS.astore X1q.here hx rfl (hb hby at_62) rfl rfl (l' := #[.val (.int p0), .val (.int p1), .val (.int p2), .val (.int p3), .val (.int xa), .val (.int xb), .val (.int kd), .val (.int vr), .val (.int mb), .val (.ref ca), .unset, .unset, .unset]) rfl ?_
    show Steps p.tables e below (T1q.setTop (mkF m 64 #[.val (.int p0), .val (.int p1), .val (.int p2), .val (.int p3), .val (.int xa), .val (.int xb), .val (.int kd), .val (.int vr), .val (.int mb), .val (.ref ca), .unset, .unset, .unset] [])) _
    refine XS.goto X1q.here hx rfl (pc0 := 64) (pc' := 96) rfl (hb hby at_64) (by decide) (by decide) ?_
    show Steps p.tables e below (T1q.setTop (mkF m 96 #[.val (.int p0), .val (.int p1), .val (.int p2), .val (.int p3), .val (.int xa), .val (.int xb), .val (.int kd), .val (.int vr), .val (.int mb), .val (.ref ca), .unset, .unset, .unset] [])) _
    refine st2q _ ?_
    show Steps p.tables e below (T2q.setTop (mkF m 99 #[.val (.int p0), .val (.int p1), .val (.int p2), .val (.int p3), .val (.int xa), .val (.int xb), .val (.int kd), .val (.int vr), .val (.int mb), .val (.ref ca), .unset, .unset, .unset] [(.ref b2q)])) _
    refine XS.dup X2q.here hx rfl (hb hby at_99) rfl rfl ?_
    show Steps p.tables e below (T2q.setTop (mkF m 100 #[.val (.int p0), .val (.int p1), .val (.int p2), .val (.int p3), .val (.int xa), .val (.int xb), .val (.int kd), .val (.int vr), .val (.int mb), .val (.ref ca), .unset, .unset, .unset] [(.ref b2q), (.ref b2q)])) _
    refine XS.aload X2q.here hx rfl (hb hby at_100) rfl rfl ?_
    show Steps p.tables e below (T2q.setTop (mkF m 102 #[.val (.int p0), .val (.int p1), .val (.int p2), .val (.int p3), .val (.int xa), .val (.int xb), .val (.int kd), .val (.int vr), .val (.int mb), .val (.ref ca), .unset, .unset, .unset] [(.ref ca), (.ref b2q), (.ref b2q)])) _
    refine st3q.trans ?_
    show Steps p.tables e below (T3q.setTop (mkF m 105 #[.val (.int p0), .val (.int p1), .val (.int p2), .val (.int p3), .val (.int xa), .val (.int xb), .val (.int kd), .val (.int vr), .val (.int mb), .val (.ref ca), .unset, .unset, .unset] [(.ref b2q)])) _
    refine XS.astore X3q.here hx rfl (hb hby at_105) rfl rfl (l' := #[.val (.int p0), .val (.int p1), .val (.int p2), .val (.int p3), .val (.int xa), .val (.int xb), .val (.int kd), .val (.int vr), .val (.int mb), .val (.ref ca), .val (.ref b2q), .unset, .unset]) rfl ?_
    show Steps p.tables e below (T3q.setTop (mkF m 107 #[.val (.int p0), .val (.int p1), .val (.int p2), .val (.int p3), .val (.int xa), .val (.int xb), .val (.int kd), .val (.int vr), .val (.int mb), .val (.ref ca), .val (.ref b2q), .unset, .unset] [])) _
    refine XS.aload X3q.here hx rfl (hb hby at_107) rfl rfl ?_
    show Steps p.tables e below (T3q.setTop (mkF m 109 #[.val (.int p0), .val (.int p1), .val (.int p2), .val (.int p3), .val (.int xa), .val (.int xb), .val (.int kd), .val (.int vr), .val (.int mb), .val (.ref ca), .val (.ref b2q), .unset, .unset] [(.ref b2q)])) _
    refine st4q.trans ?_
    show Steps p.tables e below (T4q.setTop (mkF m 112 #[.val (.int p0), .val (.int p1), .val (.int p2), .val (.int p3), .val (.int xa), .val (.int xb), .val (.int kd), .val (.int vr), .val (.int mb), .val (.ref ca), .val (.ref b2q), .unset, .unset] [(own_role cs w0 w1 w2 w3)])) _
    refine XS.astore X4q.here hx rfl (hb hby at_112) rfl (own_rr _ _ _ _ _) (l' := #[.val (.int p0), .val (.int p1), .val (.int p2), .val (.int p3), .val (.int xa), .val (.int xb), .val (.int kd), .val (.int vr), .val (.int mb), .val (.ref ca), .val (.ref b2q), .val (own_role cs w0 w1 w2 w3), .unset]) (by rcases ref_cases (own_rr cs w0 w1 w2 w3) with q | ⟨u, q⟩ <;> rw [q] <;> rfl) ?_
    show Steps p.tables e below (T4q.setTop (mkF m 114 #[.val (.int p0), .val (.int p1), .val (.int p2), .val (.int p3), .val (.int xa), .val (.int xb), .val (.int kd), .val (.int vr), .val (.int mb), .val (.ref ca), .val (.ref b2q), .val (own_role cs w0 w1 w2 w3), .unset] [])) _
    refine XS.aload X4q.here hx rfl (hb hby at_114) rfl rfl ?_
    show Steps p.tables e below (T4q.setTop (mkF m 116 #[.val (.int p0), .val (.int p1), .val (.int p2), .val (.int p3), .val (.int xa), .val (.int xb), .val (.int kd), .val (.int vr), .val (.int mb), .val (.ref ca), .val (.ref b2q), .val (own_role cs w0 w1 w2 w3), .unset] [(.ref b2q)])) _
    refine st5q _ ?_
    show Steps p.tables e below (T5q.setTop (mkF m 119 #[.val (.int p0), .val (.int p1), .val (.int p2), .val (.int p3), .val (.int xa), .val (.int xb), .val (.int kd), .val (.int vr), .val (.int mb), .val (.ref ca), .val (.ref b2q), .val (own_role cs w0 w1 w2 w3), .unset] [(.ref oo)])) _
    refine XS.aconstNull X5q.here hx rfl (hb hby at_119) ?_
    show Steps p.tables e below (T5q.setTop (mkF m 120 #[.val (.int p0), .val (.int p1), .val (.int p2), .val (.int p3), .val (.int xa), .val (.int xb), .val (.int kd), .val (.int vr), .val (.int mb), .val (.ref ca), .val (.ref b2q), .val (own_role cs w0 w1 w2 w3), .unset] [.null, (.ref oo)])) _
    refine st6q.trans ?_
    show Steps p.tables e below (T6q.setTop (mkF m 123 #[.val (.int p0), .val (.int p1), .val (.int p2), .val (.int p3), .val (.int xa), .val (.int xb), .val (.int kd), .val (.int vr), .val (.int mb), .val (.ref ca), .val (.ref b2q), .val (own_role cs w0 w1 w2 w3), .unset] [(own_role cs w0 w1 w2 w3)])) _
    refine st7q _ ?_
    show Steps p.tables e below (T7q.setTop (mkF m 126 #[.val (.int p0), .val (.int p1), .val (.int p2), .val (.int p3), .val (.int xa), .val (.int xb), .val (.int kd), .val (.int vr), .val (.int mb), .val (.ref ca), .val (.ref b2q), .val (own_role cs w0 w1 w2 w3), .unset] [(own_role cs w0 w1 w2 w3)])) _
    refine XS.astore X7q.here hx rfl (hb hby at_126) rfl (own_rr _ _ _ _ _) (l' := #[.val (.int p0), .val (.int p1), .val (.int p2), .val (.int p3), .val (.int xa), .val (.int xb), .val (.int kd), .val (.int vr), .val (.int mb), .val (.ref ca), .val (.ref b2q), .val (own_role cs w0 w1 w2 w3), .val (own_role cs w0 w1 w2 w3)]) (by rcases ref_cases (own_rr cs w0 w1 w2 w3) with q | ⟨u, q⟩ <;> rw [q] <;> rfl) ?_
    show Steps p.tables e below (T7q.setTop (mkF m 128 #[.val (.int p0), .val (.int p1), .val (.int p2), .val (.int p3), .val (.int xa), .val (.int xb), .val (.int kd), .val (.int vr), .val (.int mb), .val (.ref ca), .val (.ref b2q), .val (own_role cs w0 w1 w2 w3), .val (own_role cs w0 w1 w2 w3)] [])) _
    refine XS.aload X7q.here hx rfl (hb hby at_128) rfl (own_rr _ _ _ _ _) ?_
    show Steps p.tables e below (T7q.setTop (mkF m 130 #[.val (.int p0), .val (.int p1), .val (.int p2), .val (.int p3), .val (.int xa), .val (.int xb), .val (.int kd), .val (.int vr), .val (.int mb), .val (.ref ca), .val (.ref b2q), .val (own_role cs w0 w1 w2 w3), .val (own_role cs w0 w1 w2 w3)] [(own_role cs w0 w1 w2 w3)])) _
    refine XS.aload X7q.here hx rfl (hb hby at_130) rfl (own_rr _ _ _ _ _) ?_
    show Steps p.tables e below (T7q.setTop (mkF m 132 #[.val (.int p0), .val (.int p1), .val (.int p2), .val (.int p3), .val (.int xa), .val (.int xb), .val (.int kd), .val (.int vr), .val (.int mb), .val (.ref ca), .val (.ref b2q), .val (own_role cs w0 w1 w2 w3), .val (own_role cs w0 w1 w2 w3)] [(own_role cs w0 w1 w2 w3), (own_role cs w0 w1 w2 w3)])) _
    refine Jvm.RoadKit.acmp (g := (mkF m 132 #[.val (.int p0), .val (.int p1), .val (.int p2), .val (.int p3), .val (.int xa), .val (.int xb), .val (.int kd), .val (.int vr), .val (.int mb), .val (.ref ca), .val (.ref b2q), .val (own_role cs w0 w1 w2 w3), .val (own_role cs w0 w1 w2 w3)] [(own_role cs w0 w1 w2 w3), (own_role cs w0 w1 w2 w3)])) X7q hx rfl (own_rr _ _ _ _ _) (own_rr _ _ _ _ _) (pc0 := 132) (pc' := 135) (same := true) rfl (hb hby at_132) rfl (decide_eq_true rfl) (by decide) (by decide) ?_
    show Steps p.tables e below (T7q.setTop (mkF m 135 #[.val (.int p0), .val (.int p1), .val (.int p2), .val (.int p3), .val (.int xa), .val (.int xb), .val (.int kd), .val (.int vr), .val (.int mb), .val (.ref ca), .val (.ref b2q), .val (own_role cs w0 w1 w2 w3), .val (own_role cs w0 w1 w2 w3)] [])) _
    refine XS.iconst X7q.here hx rfl (hb hby at_135) ?_
    show Steps p.tables e below (T7q.setTop (mkF m 136 #[.val (.int p0), .val (.int p1), .val (.int p2), .val (.int p3), .val (.int xa), .val (.int xb), .val (.int kd), .val (.int vr), .val (.int mb), .val (.ref ca), .val (.ref b2q), .val (own_role cs w0 w1 w2 w3), .val (own_role cs w0 w1 w2 w3)] [(.int (1 : Int32))])) _
    refine XS.goto X7q.here hx rfl (pc0 := 136) (pc' := 140) rfl (hb hby at_136) (by decide) (by decide) ?_
    show Steps p.tables e below (T7q.setTop (mkF m 140 #[.val (.int p0), .val (.int p1), .val (.int p2), .val (.int p3), .val (.int xa), .val (.int xb), .val (.int kd), .val (.int vr), .val (.int mb), .val (.ref ca), .val (.ref b2q), .val (own_role cs w0 w1 w2 w3), .val (own_role cs w0 w1 w2 w3)] [(.int (1 : Int32))])) _
    exact retN X7q hx (t := .boolean) Bd.returns (by simp) (hb hby at_140) hr
  · show Qd15 Z p0 p1 p2 p3 em vA w0 w1 w2 w3 s0 s1 s2 s3 t0 t1 t2 t3 kA kb0 kb1 kb2 kb3 z h0 n0 _ T7q.heap _
    rw [e7q]
    exact ⟨rfl, N6q⟩
theorem own_pd11 : parseMethodDescriptor "(IIC)[C" = some ⟨[.int, .int, .char], some (.array .char)⟩ := by decide +kernel
set_option maxRecDepth 65536 in
set_option maxHeartbeats 40000000 in
theorem rm0e (l : Launch) (Z : State) (a0 : Array Value) (hw : ∀ d ∈ tables_1, d.before a0 Z = true) (ws : List Jvm.Cond) (p0 p1 p2 p3 : Int32) (em vA w0 w1 w2 w3 s0 s1 s2 s3 t0 t1 t2 t3 : Addr) (kA kb0 kb1 kb2 kb3 : ClassId) (z : Int32) (h0 : Heap) (n0 : Nat) (O0 : Old Z n0 h0) (SC : Sta Z Z.heap "java/lang/String" "COMPACT_STRINGS" "Z" (.int z)) (hz : ¬ z = 0) (SR0 : Sta Z Z.heap "com/example/lendloop/lendloop/core/TransactionRole" "LENDER" "Lcom/example/lendloop/lendloop/core/TransactionRole;" (.ref w0)) (SR1 : Sta Z Z.heap "com/example/lendloop/lendloop/core/TransactionRole" "BORROWER" "Lcom/example/lendloop/lendloop/core/TransactionRole;" (.ref w1)) (SR2 : Sta Z Z.heap "com/example/lendloop/lendloop/core/TransactionRole" "PICKUP" "Lcom/example/lendloop/lendloop/core/TransactionRole;" (.ref w2)) (SR3 : Sta Z Z.heap "com/example/lendloop/lendloop/core/TransactionRole" "BORROWING_PICKUP" "Lcom/example/lendloop/lendloop/core/TransactionRole;" (.ref w3)) (SV : Sta Z Z.heap "com/example/lendloop/lendloop/core/TransactionRole" "$VALUES" "[Lcom/example/lendloop/lendloop/core/TransactionRole;" (.ref vA)) (VV : Arv Z Z.heap vA kA (.object "com/example/lendloop/lendloop/core/TransactionRole") (4 : Int32) [.ref w0, .ref w1, .ref w2, .ref w3] .null) (EV : Exa Z Z.heap vA "[Lcom/example/lendloop/lendloop/core/TransactionRole;") (SM : Sta Z Z.heap "java/util/Optional" "EMPTY" "Ljava/util/Optional;" (.ref em)) (EE : Exa Z Z.heap em "java/util/Optional") (FE : Fld Z Z.heap em "java/util/Optional" "value" "Ljava/lang/Object;" .null) (E0 : Exa Z Z.heap w0 "com/example/lendloop/lendloop/core/TransactionRole") (G0 : Fld Z Z.heap w0 "com/example/lendloop/lendloop/core/TransactionRole" "wireName" "Ljava/lang/String;" (.ref s0)) (Ex0 : Exa Z Z.heap s0 "java/lang/String") (Vx0 : Fld Z Z.heap s0 "java/lang/String" "value" "[B" (.ref t0)) (Cx0 : Fld Z Z.heap s0 "java/lang/String" "coder" "B" (.int 0)) (Kx0 : Arv Z Z.heap t0 kb0 .byte (Int32.ofNat (own_d0).length) (((own_d0).map StrChars.lo8).map Value.int) (.int 0)) (E1 : Exa Z Z.heap w1 "com/example/lendloop/lendloop/core/TransactionRole") (G1 : Fld Z Z.heap w1 "com/example/lendloop/lendloop/core/TransactionRole" "wireName" "Ljava/lang/String;" (.ref s1)) (Ex1 : Exa Z Z.heap s1 "java/lang/String") (Vx1 : Fld Z Z.heap s1 "java/lang/String" "value" "[B" (.ref t1)) (Cx1 : Fld Z Z.heap s1 "java/lang/String" "coder" "B" (.int 0)) (Kx1 : Arv Z Z.heap t1 kb1 .byte (Int32.ofNat (own_d1).length) (((own_d1).map StrChars.lo8).map Value.int) (.int 0)) (E2 : Exa Z Z.heap w2 "com/example/lendloop/lendloop/core/TransactionRole") (G2 : Fld Z Z.heap w2 "com/example/lendloop/lendloop/core/TransactionRole" "wireName" "Ljava/lang/String;" (.ref s2)) (Ex2 : Exa Z Z.heap s2 "java/lang/String") (Vx2 : Fld Z Z.heap s2 "java/lang/String" "value" "[B" (.ref t2)) (Cx2 : Fld Z Z.heap s2 "java/lang/String" "coder" "B" (.int 0)) (Kx2 : Arv Z Z.heap t2 kb2 .byte (Int32.ofNat (own_d2).length) (((own_d2).map StrChars.lo8).map Value.int) (.int 0)) (E3 : Exa Z Z.heap w3 "com/example/lendloop/lendloop/core/TransactionRole") (G3 : Fld Z Z.heap w3 "com/example/lendloop/lendloop/core/TransactionRole" "wireName" "Ljava/lang/String;" (.ref s3)) (Ex3 : Exa Z Z.heap s3 "java/lang/String") (Vx3 : Fld Z Z.heap s3 "java/lang/String" "value" "[B" (.ref t3)) (Cx3 : Fld Z Z.heap s3 "java/lang/String" "coder" "B" (.int 0)) (Kx3 : Arv Z Z.heap t3 kb3 .byte (Int32.ofNat (own_d3).length) (((own_d3).map StrChars.lo8).map Value.int) (.int 0)) (hv : ¬ (((p0 >>> ((2 : Int32) &&& 31)) &&& (3 : Int32)) = (3 : Int32))) (hm : ((p0 >>> ((6 : Int32) &&& 31)) &&& (1 : Int32)) = 0) :
    MetFree l x (head1 (Jvm.Cond.code x code maxLocals ret :: ws) room_1) (fun qq U => qq = #[(.int p0), (.int p1), (.int p2), (.int p3)] ∧ Z.Warmed39 U.vm ∧ U.heap = h0 ∧ CHv Z consts_1 U.vm h0) (fun _ _ _ _ _ => True) (fun _ UU oo UU' => ∃ vv LL, oo = .returned vv ∧ Qd15 Z p0 p1 p2 p3 em vA w0 w1 w2 w3 s0 s1 s2 s3 t0 t1 t2 t3 kA kb0 kb1 kb2 kb3 z h0 n0 vv UU'.heap LL ∧ CHr Z consts_1 UU.vm UU.heap UU'.vm UU'.heap ∧ ReturnedEndW UU oo UU' LL room_1.cells room_1.slots) := by
  refine MetFree.of_bodySF (plainFor_of_name pn_0) hisR ?_
  intro p e s m args below meth c s₁ Bd hml0 hP hK
  obtain ⟨rfl, hZ, hh, hC0⟩ := hP
  have hZ : Z.Warmed39 (s.setVm s.vm).vm := hZ
  have CR0 := CHr.refl hC0
  have hx := Bd.exec
  have hby := Bd.bytes
  have hml : c.maxLocals = 13 := hml0
  have hown : (s.setVm s.vm).vm.findClass "com/example/lendloop/lendloop/core/TransactionRoleFromWireNamePinLaw" = some m.cls := findClass_of_methodNamed Bd.named
  have hnm := (name_of_methodNamed Bd.named Bd.method).1
  have X0 : Stand p l e room_1 (s.setVm s.vm) m #[(.int p0), (.int p1), (.int p2), (.int p3)] below meth c s₁ [] 0 0 := Stand.of_body Bd
  have e0 : s₁.heap = h0 := by rw [← hh, Bd.state]; rfl
  have N0 := Fr.nil n0
  have pre0 : ∀ tgt, Steps p.tables e below (s₁.setTop (mkF m 0 #[.val (.int p0), .val (.int p1), .val (.int p2), .val (.int p3), .unset, .unset, .unset, .unset, .unset, .unset, .unset, .unset, .unset] [])) tgt → Steps p.tables e below (s₁.setTop (entryFrame m #[(.int p0), (.int p1), (.int p2), (.int p3)] maxLocals)) tgt := fun tt kk => castTop (ef_0 m p0 p1 p2 p3) kk
  obtain ⟨xa, xb, kd, vr, mb, ⟨hxa, hxb, hvr, hmb⟩, stA⟩ := lawpre (p0 := p0) (p1 := p1) (p2 := p2) (p3 := p3) X0 hx hZ hw hby hown e0
  obtain ⟨_, _, ⟨T1q, L1q, k1q, n1q⟩, -, X1q, ⟨Lc1q, hQ1q, l1q, y1q, z1q⟩, st1q⟩ := Jvm.LawKit.callS X0 hx (y := (⟨"com/example/lendloop/lendloop/core/TransactionRoleFromWireNamePinLaw", "named", "(IIC)[C"⟩ : MethodName)) hown (mvT hZ (ww hw 0 rfl)) (mvT hZ (ww hw 1 rfl)) (mvT hZ (ww hw 2 rfl)) (mvT hZ (ww hw 3 rfl)) (by decide) (backOf (W := 0) (rmN l Z a0 hw [] kd vr xa h0 n0 O0 hxa) hZ (ww hw 3 rfl) (ww hw 2 rfl) (by decide) (by decide)) (g := (mkF m 73 #[.val (.int p0), .val (.int p1), .val (.int p2), .val (.int p3), .val (.int xa), .val (.int xb), .val (.int kd), .val (.int vr), .val (.int mb), .unset, .unset, .unset, .unset] [(.int xa), (.int vr), (.int kd)])) rfl (by rw [hml]; rfl) (argsL := [(.int kd), (.int vr), (.int xa)]) (rest := []) (lenOf own_pd11 rfl) rfl (by show 2 * 0 + _ ≤ _; exact Nat.le_of_eq rfl) (hb hby at_73) (fun _ _ => ⟨rfl, e0, (by decide : 0 + 1 ≤ _), (by decide : 0 + 17 ≤ _)⟩)
  dsimp only [Pt.U, Pt.locs, Pt.cells, Pt.slots] at X1q l1q y1q z1q st1q hQ1q
  subst l1q y1q z1q
  obtain ⟨ca, kC, cs, rfl, N1qq, KK1q, g_ca, VCA, hg, hne⟩ := hQ1q
  have N1q := Fr.app N0 N1qq
  have SC1q := CHr.keep KK1q sf0 CR0.1
  have CR1q := CHr.trans CR0 SC1q
  have O1q := Old.keep O0 KK1q all0
  obtain ⟨T2q, h2q, X2q, e2q, E2q, A2q, D2q, -, st2q⟩ := newO X1q hx hZ hown (ww hw 5 rfl) (ww hw 6 rfl) (ww hw 7 rfl) rfl (g := (mkF m 96 #[.val (.int p0), .val (.int p1), .val (.int p2), .val (.int p3), .val (.int xa), .val (.int xb), .val (.int kd), .val (.int vr), .val (.int mb), .val (.ref ca), .unset, .unset, .unset] [])) rfl (hb hby at_96) (by decide) (by decide)
  obtain ⟨b2q, q2q⟩ : ∃ z, z = T1q.heap.size := ⟨_, rfl⟩
  rw [← q2q] at A2q D2q st2q
  have g_b2q : n0 ≤ b2q := by rw [q2q]; exact (O1q).1 ▸ (O1q).2.1
  have ne_ca_b2q : ca ≠ b2q := by rw [q2q]; exact Nat.ne_of_lt VCA.lt
  have SC2q := CHr.ext E2q CR1q.1
  have CR2q := CHr.trans CR1q SC2q
  have O2q := Old.ext O1q E2q
  have SN2q := Safe.ext E2q CR1q.1 (Safe.new (Nat.le_of_eq q2q.symm))
  have F2q_coder : Fld Z h2q b2q "java/lang/String" "coder" "B" (.int (0 : Int32)) := D2q (Or.inr (ww hw 31 rfl)) (ty := .byte) (by decide)
  have F2q_value : Fld Z h2q b2q "java/lang/String" "value" "[B" .null := D2q (Or.inr (ww hw 33 rfl)) (ty := (.array .byte)) (by decide)
  have Vq := (VCA.ext E2q)
  obtain ⟨_, _, ⟨T3q, L3q, k3q, n3q⟩, -, X3q, ⟨Lc3q, hQ3q, l3q, y3q, z3q⟩, st3q⟩ := X2q.specialBack hx (y := (⟨"java/lang/String", "<init>", "([C)V"⟩ : MethodName)) rfl hown (mvT hZ (ww hw 8 rfl)) (mvT hZ (ww hw 9 rfl)) (mvT hZ (ww hw 10 rfl)) (by decide) (own_wide (N := 17) hg.1 (StrChars.Road.backV (W := 1) hZ (own_wB hw) (kI := 4) (ww hw 6 rfl) (cs := cs) (bs := (cs).map StrChars.lo8) (n := (cs).length) (n0 := n0) g_b2q (show n0 ≤ h2q.size from (O2q).1 ▸ (O2q).2.1) A2q F2q_value F2q_coder Vq (Sta.ext O2q.2 SC) hz rfl rfl (Nat.pos_of_ne_zero hne) (Nat.le_trans hg.1 (by decide)) hg.2 rfl (by decide) (by decide))) (g := (mkF m 102 #[.val (.int p0), .val (.int p1), .val (.int p2), .val (.int p3), .val (.int xa), .val (.int xb), .val (.int kd), .val (.int vr), .val (.int mb), .val (.ref ca), .unset, .unset, .unset] [(.ref ca), (.ref b2q), (.ref b2q)])) rfl (by rw [hml]; rfl) (Steps.refl _) (a := b2q) (argsL := [(.ref ca)]) (rest := [(.ref b2q)]) (lenOf own_pd8 rfl) rfl (by show 2 * 0 + _ ≤ _; exact Nat.le_of_eq rfl) (hb hby at_102) (fun _ _ => ⟨rfl, e2q, (by decide : 2 + 1 ≤ _), (by decide : 21 + 17 ≤ _)⟩)
  dsimp only [Pt.U, Pt.locs, Pt.cells, Pt.slots] at X3q l3q y3q z3q st3q hQ3q
  subst l3q y3q z3q
  obtain ⟨rfl, N3qq, KK3q, fE, fC, tt, kx, _, _, _, fV, fK⟩ := hQ3q
  have N3q := Fr.app N1q N3qq
  have SC3q := CHr.keep KK3q (sfS SN2q sf0) CR2q.1
  have CR3q := CHr.trans CR2q SC3q
  have SF3q_b2q := CHr.safe SC3q (A2q.lt) SN2q
  have O3q := Old.keep O2q KK3q (allS g_b2q all0)
  obtain ⟨_, _, ⟨T4q, L4q, k4q, n4q⟩, -, X4q, Sq4q, gq4q, ⟨Lc4q, hQ4q, l4q, y4q, z4q, CC4q⟩, st4q⟩ := callSS X3q hx (y := (⟨"com/example/lendloop/lendloop/core/TransactionRoleFromWireNamePinLaw", "reference", "(Ljava/lang/String;)Lcom/example/lendloop/lendloop/core/TransactionRole;"⟩ : MethodName)) hown (mvT hZ (ww hw 34 rfl)) (mvT hZ (ww hw 35 rfl)) (mvT hZ (ww hw 2 rfl)) (mvT hZ (ww hw 36 rfl)) (by decide) (backOfSH (W := 0) (rmF l Z a0 hw [] b2q tt w0 w1 w2 w3 kx cs z T3q.heap n0 O3q fE fV fC fK SC hz SR0 SR1 SR2 SR3 hg) hZ (ww hw 36 rfl) (ww hw 2 rfl) (by decide) (by decide) (own_EW hw) CR3q.1) (g := (mkF m 109 #[.val (.int p0), .val (.int p1), .val (.int p2), .val (.int p3), .val (.int xa), .val (.int xb), .val (.int kd), .val (.int vr), .val (.int mb), .val (.ref ca), .val (.ref b2q), .unset, .unset] [(.ref b2q)])) rfl (by rw [hml]; rfl) (argsL := [(.ref b2q)]) (rest := []) (lenOf own_pd9 rfl) rfl (by show 2 * 0 + _ ≤ _; exact Nat.le_of_eq rfl) (hb hby at_109) (fun _ _ => ⟨rfl, rfl, (by decide : 3 + 8 ≤ _), (by decide : 38 + 160 ≤ _)⟩)
  dsimp only [Pt.U, Pt.locs, Pt.cells, Pt.slots] at X4q l4q y4q z4q st4q hQ4q Sq4q gq4q CC4q
  subst l4q y4q z4q
  obtain ⟨X4q, S4q, hZ4q, hown4q⟩ := rebS (n1 := T3q.heap.size) (State.WarmedH.since (State.WarmedH.refl s) 0) ((Nat.zero_le _)) X4q Sq4q gq4q hZ hown
  obtain ⟨rfl, N4qq, KK4q⟩ := hQ4q
  have N4q := Fr.app N3q N4qq
  have SC4q := CC4q
  have CR4q := CHr.trans CR3q SC4q
  have SF4q_b2q := CHr.safe SC4q (fE.lt) SF3q_b2q
  have O4q := Old.keep O3q KK4q all0
  obtain ⟨_, _, ⟨T5q, L5q, k5q, n5q⟩, -, X5q, ⟨Lc5q, hQ5q, l5q, y5q, z5q⟩, st5q⟩ := Jvm.LawKit.callS X4q hx (y := (⟨"com/example/lendloop/lendloop/core/TransactionRole", "fromWireName", "(Ljava/lang/String;)Ljava/util/Optional;"⟩ : MethodName)) hown4q (mvT hZ4q (ww hw 53 rfl)) (mvT hZ4q (ww hw 54 rfl)) (mvT hZ4q (ww hw 51 rfl)) (mvT hZ4q (ww hw 55 rfl)) (by decide) (backOf (W := 0) (rmW l Z a0 hw [] b2q tt em vA w0 w1 w2 w3 s0 s1 s2 s3 t0 t1 t2 t3 kx kA kb0 kb1 kb2 kb3 cs z T4q.heap n0 O4q (fE.keep KK4q) (fV.keep KK4q nin0) (fC.keep KK4q nin0) (fK.keep KK4q nin0) SC hz SV VV EV SM EE FE E0 G0 Ex0 Vx0 Cx0 Kx0 E1 G1 Ex1 Vx1 Cx1 Kx1 E2 G2 Ex2 Vx2 Cx2 Kx2 E3 G3 Ex3 Vx3 Cx3 Kx3 hg) hZ4q (ww hw 55 rfl) (ww hw 51 rfl) (by decide) (by decide)) (g := (mkF m 116 #[.val (.int p0), .val (.int p1), .val (.int p2), .val (.int p3), .val (.int xa), .val (.int xb), .val (.int kd), .val (.int vr), .val (.int mb), .val (.ref ca), .val (.ref b2q), .val (own_role cs w0 w1 w2 w3), .unset] [(.ref b2q)])) rfl (by rw [hml]; rfl) (argsL := [(.ref b2q)]) (rest := []) (lenOf own_pd10 rfl) rfl (by show 2 * 0 + _ ≤ _; exact Nat.le_of_eq rfl) (hb hby at_116) (fun _ _ => ⟨rfl, rfl, (by decide : 11 + 2 ≤ _), (by decide : 198 + 5 ≤ _)⟩)
  dsimp only [Pt.U, Pt.locs, Pt.cells, Pt.slots] at X5q l5q y5q z5q st5q hQ5q
  subst l5q y5q z5q
  obtain ⟨oo, rfl, N5qq, KK5q, f5q_0, f5q_1⟩ := hQ5q
  have N5q := Fr.app N4q N5qq
  have SC5q := CHr.keep KK5q sf0 CR4q.1
  have CR5q := CHr.trans CR4q SC5q
  have SF5q_b2q := CHr.safe SC5q ((fE.keep KK4q).lt) SF4q_b2q
  have sz5q := Nat.le_trans (Nat.le_refl _) (KK5q.1)
  have O5q := Old.keep O4q KK5q all0
  obtain ⟨cq6q, kq6q, q6qa, q6qb, q6qc⟩ := isOf hZ4q rfl f5q_0
  obtain ⟨_, _, ⟨T6q, L6q, k6q, n6q⟩, -, X6q, ⟨Lc6q, hQ6q, l6q, y6q, z6q⟩, st6q⟩ := X5q.virtualBack hx (y := (⟨"java/util/Optional", "orElse", "(Ljava/lang/Object;)Ljava/lang/Object;"⟩ : MethodName)) (z := (⟨"java/util/Optional", "orElse", "(Ljava/lang/Object;)Ljava/lang/Object;"⟩ : MethodName)) hown4q (mvT hZ4q (ww hw 94 rfl)) (mvT hZ4q (ww hw 95 rfl)) (notFace_of_selects (args := #[]) (mvT hZ4q (ww hw 97 rfl))) (mvT hZ4q (ww hw 97 rfl)) (mvT hZ4q (ww hw 96 rfl)) (by decide) (backOf (W := 0) (rmL l Z a0 hw [] oo (own_role cs w0 w1 w2 w3) T5q.heap n0 (own_rr _ _ _ _ _) f5q_1) hZ4q (ww hw 98 rfl) (ww hw 79 rfl) (by decide) (by decide)) q6qa q6qc (g := (mkF m 120 #[.val (.int p0), .val (.int p1), .val (.int p2), .val (.int p3), .val (.int xa), .val (.int xb), .val (.int kd), .val (.int vr), .val (.int mb), .val (.ref ca), .val (.ref b2q), .val (own_role cs w0 w1 w2 w3), .unset] [.null, (.ref oo)])) rfl (by rw [hml]; rfl) (Steps.refl _) (argsL := [.null]) (rest := []) (lenOf own_pd1 rfl) rfl (by show 2 * 0 + _ ≤ _; exact Nat.le_of_eq rfl) (hb hby at_120) (fun _ _ => ⟨rfl, rfl, (by decide : 13 + 0 ≤ _), (by decide : 203 + 0 ≤ _)⟩)
  dsimp only [Pt.U, Pt.locs, Pt.cells, Pt.slots] at X6q l6q y6q z6q st6q hQ6q
  subst l6q y6q z6q
  obtain ⟨rfl, N6qq, e6q⟩ := hQ6q
  have N6q := Fr.app N5q N6qq
  obtain ⟨T7q, X7q, e7q, st7q⟩ := own_castV X6q hx hZ4q hown4q (ww hw 99 rfl) e6q (own_rc (E0.ext O5q.2) (E1.ext O5q.2) (E2.ext O5q.2) (E3.ext O5q.2) _) (g := (mkF m 123 #[.val (.int p0), .val (.int p1), .val (.int p2), .val (.int p3), .val (.int xa), .val (.int xb), .val (.int kd), .val (.int vr), .val (.int mb), .val (.ref ca), .val (.ref b2q), .val (own_role cs w0 w1 w2 w3), .unset] [(own_role cs w0 w1 w2 w3)])) rfl rfl (hb hby at_123)
  obtain ⟨fs, hr, hrun, hended, hE⟩ := X7q.leaveW (s := s) (vm₁ := T4q.vm) S4q (by rw [e7q]; exact sz5q) (v := some (.int (1 : Int32))) (fun h => by rw [Bd.returns] at h; cases h)
  have CE : CHr Z consts_1 s.vm s.heap T7q.vm T7q.heap := by
    rw [hh, e7q]
    exact CHr.trans CR5q (CHv.at X7q hZ4q (own_EW hw) CR5q.1)
  refine ⟨_, _, pre0 _ ?_, hrun, hended, _, _, rfl, ?_, CE, hE.1, hE.2.1, hE.2.2.1, hE.2.2.2.mono (by decide) (by decide)⟩
  · show Steps p.tables e below (s₁.setTop (mkF m 0 #[.val (.int p0), .val (.int p1), .val (.int p2), .val (.int p3), .unset, .unset, .unset, .unset, .unset, .unset, .unset, .unset, .unset] [])) _
    refine stA _ ?_
    show Steps p.tables e below (s₁.setTop (mkF m 44 #[.val (.int p0), .val (.int p1), .val (.int p2), .val (.int p3), .val (.int xa), .val (.int xb), .val (.int kd), .val (.int vr), .val (.int mb), .unset, .unset, .unset, .unset] [])) _
    refine XS.iload X0.here hx rfl (hb hby at_44) rfl ?_
    show Steps p.tables e below (s₁.setTop (mkF m 46 #[.val (.int p0), .val (.int p1), .val (.int p2), .val (.int p3), .val (.int xa), .val (.int xb), .val (.int kd), .val (.int vr), .val (.int mb), .unset, .unset, .unset, .unset] [(.int vr)])) _
    refine XS.iconst X0.here hx rfl (hb hby at_46) ?_
    show Steps p.tables e below (s₁.setTop (mkF m 47 #[.val (.int p0), .val (.int p1), .val (.int p2), .val (.int p3), .val (.int xa), .val (.int xb), .val (.int kd), .val (.int vr), .val (.int mb), .unset, .unset, .unset, .unset] [(.int (3 : Int32)), (.int vr)])) _
    refine XS.icmpYes X0.here hx rfl (pc0 := 47) (pc' := 67) rfl (hb hby at_47) rfl (feq (by rw [hvr]; exact hv : ¬ (vr = (3 : Int32)))).2 (by decide) (by decide) ?_
    show Steps p.tables e below (s₁.setTop (mkF m 67 #[.val (.int p0), .val (.int p1), .val (.int p2), .val (.int p3), .val (.int xa), .val (.int xb), .val (.int kd), .val (.int vr), .val (.int mb), .unset, .unset, .unset, .unset] [])) _
    refine XS.iload X0.here hx rfl (hb hby at_67) rfl ?_
    show Steps p.tables e below (s₁.setTop (mkF m 69 #[.val (.int p0), .val (.int p1), .val (.int p2), .val (.int p3), .val (.int xa), .val (.int xb), .val (.int kd), .val (.int vr), .val (.int mb), .unset, .unset, .unset, .unset] [(.int kd)])) _
    refine XS.iload X0.here hx rfl (hb hby at_69) rfl ?_
    show Steps p.tables e below (s₁.setTop (mkF m 71 #[.val (.int p0), .val (.int p1), .val (.int p2), .val (.int p3), .val (.int xa), .val (.int xb), .val (.int kd), .val (.int vr), .val (.int mb), .unset, .unset, .unset, .unset] [(.int vr), (.int kd)])) _
    refine XS.iload X0.here hx rfl (hb hby at_71) rfl ?_
    show Steps p.tables e below (s₁.setTop (mkF m 73 #[.val (.int p0), .val (.int p1), .val (.int p2), .val (.int p3), .val (.int xa), .val (.int xb), .val (.int kd), .val (.int vr), .val (.int mb), .unset, .unset, .unset, .unset] [(.int xa), (.int vr), (.int kd)])) _
    refine st1q _ ?_
    show Steps p.tables e below (T1q.setTop (mkF m 76 #[.val (.int p0), .val (.int p1), .val (.int p2), .val (.int p3), .val (.int xa), .val (.int xb), .val (.int kd), .val (.int vr), .val (.int mb), .unset, .unset, .unset, .unset] [(.ref ca)])) _
    refine XS.astore X1q.here hx rfl (hb hby at_76) rfl rfl (l' := #[.val (.int p0), .val (.int p1), .val (.int p2), .val (.int p3), .val (.int xa), .val (.int xb), .val (.int kd), .val (.int vr), .val (.int mb), .val (.ref ca), .unset, .unset, .unset]) rfl ?_
    show Steps p.tables e below (T1q.setTop (mkF m 78 #[.val (.int p0), .val (.int p1), .val (.int p2), .val (.int p3), .val (.int xa), .val (.int xb), .val (.int kd), .val (.int vr), .val (.int mb), .val (.ref ca), .unset, .unset, .unset] [])) _
    refine XS.iload X1q.here hx rfl (hb hby at_78) rfl ?_
    show Steps p.tables e below (T1q.setTop (mkF m 80 #[.val (.int p0), .val (.int p1), .val (.int p2), .val (.int p3), .val (.int xa), .val (.int xb), .val (.int kd), .val (.int vr), .val (.int mb), .val (.ref ca), .unset, .unset, .unset] [(.int mb)])) _
    refine XS.ifYes X1q.here hx rfl (pc0 := 80) (pc' := 96) rfl (hb hby at_80) rfl ((if0 _ _).trans (teq (by rw [hmb, if_pos hm] : mb = (0 : Int32))).1) (by decide) (by decide) ?_
    show Steps p.tables e below (T1q.setTop (mkF m 96 #[.val (.int p0), .val (.int p1), .val (.int p2), .val (.int p3), .val (.int xa), .val (.int xb), .val (.int kd), .val (.int vr), .val (.int mb), .val (.ref ca), .unset, .unset, .unset] [])) _
    refine st2q _ ?_
    show Steps p.tables e below (T2q.setTop (mkF m 99 #[.val (.int p0), .val (.int p1), .val (.int p2), .val (.int p3), .val (.int xa), .val (.int xb), .val (.int kd), .val (.int vr), .val (.int mb), .val (.ref ca), .unset, .unset, .unset] [(.ref b2q)])) _
    refine XS.dup X2q.here hx rfl (hb hby at_99) rfl rfl ?_
    show Steps p.tables e below (T2q.setTop (mkF m 100 #[.val (.int p0), .val (.int p1), .val (.int p2), .val (.int p3), .val (.int xa), .val (.int xb), .val (.int kd), .val (.int vr), .val (.int mb), .val (.ref ca), .unset, .unset, .unset] [(.ref b2q), (.ref b2q)])) _
    refine XS.aload X2q.here hx rfl (hb hby at_100) rfl rfl ?_
    show Steps p.tables e below (T2q.setTop (mkF m 102 #[.val (.int p0), .val (.int p1), .val (.int p2), .val (.int p3), .val (.int xa), .val (.int xb), .val (.int kd), .val (.int vr), .val (.int mb), .val (.ref ca), .unset, .unset, .unset] [(.ref ca), (.ref b2q), (.ref b2q)])) _
    refine st3q.trans ?_
    show Steps p.tables e below (T3q.setTop (mkF m 105 #[.val (.int p0), .val (.int p1), .val (.int p2), .val (.int p3), .val (.int xa), .val (.int xb), .val (.int kd), .val (.int vr), .val (.int mb), .val (.ref ca), .unset, .unset, .unset] [(.ref b2q)])) _
    refine XS.astore X3q.here hx rfl (hb hby at_105) rfl rfl (l' := #[.val (.int p0), .val (.int p1), .val (.int p2), .val (.int p3), .val (.int xa), .val (.int xb), .val (.int kd), .val (.int vr), .val (.int mb), .val (.ref ca), .val (.ref b2q), .unset, .unset]) rfl ?_
    show Steps p.tables e below (T3q.setTop (mkF m 107 #[.val (.int p0), .val (.int p1), .val (.int p2), .val (.int p3), .val (.int xa), .val (.int xb), .val (.int kd), .val (.int vr), .val (.int mb), .val (.ref ca), .val (.ref b2q), .unset, .unset] [])) _
    refine XS.aload X3q.here hx rfl (hb hby at_107) rfl rfl ?_
    show Steps p.tables e below (T3q.setTop (mkF m 109 #[.val (.int p0), .val (.int p1), .val (.int p2), .val (.int p3), .val (.int xa), .val (.int xb), .val (.int kd), .val (.int vr), .val (.int mb), .val (.ref ca), .val (.ref b2q), .unset, .unset] [(.ref b2q)])) _
    refine st4q.trans ?_
    show Steps p.tables e below (T4q.setTop (mkF m 112 #[.val (.int p0), .val (.int p1), .val (.int p2), .val (.int p3), .val (.int xa), .val (.int xb), .val (.int kd), .val (.int vr), .val (.int mb), .val (.ref ca), .val (.ref b2q), .unset, .unset] [(own_role cs w0 w1 w2 w3)])) _
    refine XS.astore X4q.here hx rfl (hb hby at_112) rfl (own_rr _ _ _ _ _) (l' := #[.val (.int p0), .val (.int p1), .val (.int p2), .val (.int p3), .val (.int xa), .val (.int xb), .val (.int kd), .val (.int vr), .val (.int mb), .val (.ref ca), .val (.ref b2q), .val (own_role cs w0 w1 w2 w3), .unset]) (by rcases ref_cases (own_rr cs w0 w1 w2 w3) with q | ⟨u, q⟩ <;> rw [q] <;> rfl) ?_
    show Steps p.tables e below (T4q.setTop (mkF m 114 #[.val (.int p0), .val (.int p1), .val (.int p2), .val (.int p3), .val (.int xa), .val (.int xb), .val (.int kd), .val (.int vr), .val (.int mb), .val (.ref ca), .val (.ref b2q), .val (own_role cs w0 w1 w2 w3), .unset] [])) _
    refine XS.aload X4q.here hx rfl (hb hby at_114) rfl rfl ?_
    show Steps p.tables e below (T4q.setTop (mkF m 116 #[.val (.int p0), .val (.int p1), .val (.int p2), .val (.int p3), .val (.int xa), .val (.int xb), .val (.int kd), .val (.int vr), .val (.int mb), .val (.ref ca), .val (.ref b2q), .val (own_role cs w0 w1 w2 w3), .unset] [(.ref b2q)])) _
    refine st5q _ ?_
    show Steps p.tables e below (T5q.setTop (mkF m 119 #[.val (.int p0), .val (.int p1), .val (.int p2), .val (.int p3), .val (.int xa), .val (.int xb), .val (.int kd), .val (.int vr), .val (.int mb), .val (.ref ca), .val (.ref b2q), .val (own_role cs w0 w1 w2 w3), .unset] [(.ref oo)])) _
    refine XS.aconstNull X5q.here hx rfl (hb hby at_119) ?_
    show Steps p.tables e below (T5q.setTop (mkF m 120 #[.val (.int p0), .val (.int p1), .val (.int p2), .val (.int p3), .val (.int xa), .val (.int xb), .val (.int kd), .val (.int vr), .val (.int mb), .val (.ref ca), .val (.ref b2q), .val (own_role cs w0 w1 w2 w3), .unset] [.null, (.ref oo)])) _
    refine st6q.trans ?_
    show Steps p.tables e below (T6q.setTop (mkF m 123 #[.val (.int p0), .val (.int p1), .val (.int p2), .val (.int p3), .val (.int xa), .val (.int xb), .val (.int kd), .val (.int vr), .val (.int mb), .val (.ref ca), .val (.ref b2q), .val (own_role cs w0 w1 w2 w3), .unset] [(own_role cs w0 w1 w2 w3)])) _
    refine st7q _ ?_
    show Steps p.tables e below (T7q.setTop (mkF m 126 #[.val (.int p0), .val (.int p1), .val (.int p2), .val (.int p3), .val (.int xa), .val (.int xb), .val (.int kd), .val (.int vr), .val (.int mb), .val (.ref ca), .val (.ref b2q), .val (own_role cs w0 w1 w2 w3), .unset] [(own_role cs w0 w1 w2 w3)])) _
    refine XS.astore X7q.here hx rfl (hb hby at_126) rfl (own_rr _ _ _ _ _) (l' := #[.val (.int p0), .val (.int p1), .val (.int p2), .val (.int p3), .val (.int xa), .val (.int xb), .val (.int kd), .val (.int vr), .val (.int mb), .val (.ref ca), .val (.ref b2q), .val (own_role cs w0 w1 w2 w3), .val (own_role cs w0 w1 w2 w3)]) (by rcases ref_cases (own_rr cs w0 w1 w2 w3) with q | ⟨u, q⟩ <;> rw [q] <;> rfl) ?_
    show Steps p.tables e below (T7q.setTop (mkF m 128 #[.val (.int p0), .val (.int p1), .val (.int p2), .val (.int p3), .val (.int xa), .val (.int xb), .val (.int kd), .val (.int vr), .val (.int mb), .val (.ref ca), .val (.ref b2q), .val (own_role cs w0 w1 w2 w3), .val (own_role cs w0 w1 w2 w3)] [])) _
    refine XS.aload X7q.here hx rfl (hb hby at_128) rfl (own_rr _ _ _ _ _) ?_
    show Steps p.tables e below (T7q.setTop (mkF m 130 #[.val (.int p0), .val (.int p1), .val (.int p2), .val (.int p3), .val (.int xa), .val (.int xb), .val (.int kd), .val (.int vr), .val (.int mb), .val (.ref ca), .val (.ref b2q), .val (own_role cs w0 w1 w2 w3), .val (own_role cs w0 w1 w2 w3)] [(own_role cs w0 w1 w2 w3)])) _
    refine XS.aload X7q.here hx rfl (hb hby at_130) rfl (own_rr _ _ _ _ _) ?_
    show Steps p.tables e below (T7q.setTop (mkF m 132 #[.val (.int p0), .val (.int p1), .val (.int p2), .val (.int p3), .val (.int xa), .val (.int xb), .val (.int kd), .val (.int vr), .val (.int mb), .val (.ref ca), .val (.ref b2q), .val (own_role cs w0 w1 w2 w3), .val (own_role cs w0 w1 w2 w3)] [(own_role cs w0 w1 w2 w3), (own_role cs w0 w1 w2 w3)])) _
    refine Jvm.RoadKit.acmp (g := (mkF m 132 #[.val (.int p0), .val (.int p1), .val (.int p2), .val (.int p3), .val (.int xa), .val (.int xb), .val (.int kd), .val (.int vr), .val (.int mb), .val (.ref ca), .val (.ref b2q), .val (own_role cs w0 w1 w2 w3), .val (own_role cs w0 w1 w2 w3)] [(own_role cs w0 w1 w2 w3), (own_role cs w0 w1 w2 w3)])) X7q hx rfl (own_rr _ _ _ _ _) (own_rr _ _ _ _ _) (pc0 := 132) (pc' := 135) (same := true) rfl (hb hby at_132) rfl (decide_eq_true rfl) (by decide) (by decide) ?_
    show Steps p.tables e below (T7q.setTop (mkF m 135 #[.val (.int p0), .val (.int p1), .val (.int p2), .val (.int p3), .val (.int xa), .val (.int xb), .val (.int kd), .val (.int vr), .val (.int mb), .val (.ref ca), .val (.ref b2q), .val (own_role cs w0 w1 w2 w3), .val (own_role cs w0 w1 w2 w3)] [])) _
    refine XS.iconst X7q.here hx rfl (hb hby at_135) ?_
    show Steps p.tables e below (T7q.setTop (mkF m 136 #[.val (.int p0), .val (.int p1), .val (.int p2), .val (.int p3), .val (.int xa), .val (.int xb), .val (.int kd), .val (.int vr), .val (.int mb), .val (.ref ca), .val (.ref b2q), .val (own_role cs w0 w1 w2 w3), .val (own_role cs w0 w1 w2 w3)] [(.int (1 : Int32))])) _
    refine XS.goto X7q.here hx rfl (pc0 := 136) (pc' := 140) rfl (hb hby at_136) (by decide) (by decide) ?_
    show Steps p.tables e below (T7q.setTop (mkF m 140 #[.val (.int p0), .val (.int p1), .val (.int p2), .val (.int p3), .val (.int xa), .val (.int xb), .val (.int kd), .val (.int vr), .val (.int mb), .val (.ref ca), .val (.ref b2q), .val (own_role cs w0 w1 w2 w3), .val (own_role cs w0 w1 w2 w3)] [(.int (1 : Int32))])) _
    exact retN X7q hx (t := .boolean) Bd.returns (by simp) (hb hby at_140) hr
  · show Qd15 Z p0 p1 p2 p3 em vA w0 w1 w2 w3 s0 s1 s2 s3 t0 t1 t2 t3 kA kb0 kb1 kb2 kb3 z h0 n0 _ T7q.heap _
    rw [e7q]
    exact ⟨rfl, N6q⟩
set_option maxRecDepth 65536 in
set_option maxHeartbeats 40000000 in
theorem rm0f (l : Launch) (Z : State) (a0 : Array Value) (hw : ∀ d ∈ tables_1, d.before a0 Z = true) (ws : List Jvm.Cond) (p0 p1 p2 p3 : Int32) (em vA w0 w1 w2 w3 s0 s1 s2 s3 t0 t1 t2 t3 : Addr) (kA kb0 kb1 kb2 kb3 : ClassId) (z : Int32) (h0 : Heap) (n0 : Nat) (O0 : Old Z n0 h0) (SC : Sta Z Z.heap "java/lang/String" "COMPACT_STRINGS" "Z" (.int z)) (hz : ¬ z = 0) (SR0 : Sta Z Z.heap "com/example/lendloop/lendloop/core/TransactionRole" "LENDER" "Lcom/example/lendloop/lendloop/core/TransactionRole;" (.ref w0)) (SR1 : Sta Z Z.heap "com/example/lendloop/lendloop/core/TransactionRole" "BORROWER" "Lcom/example/lendloop/lendloop/core/TransactionRole;" (.ref w1)) (SR2 : Sta Z Z.heap "com/example/lendloop/lendloop/core/TransactionRole" "PICKUP" "Lcom/example/lendloop/lendloop/core/TransactionRole;" (.ref w2)) (SR3 : Sta Z Z.heap "com/example/lendloop/lendloop/core/TransactionRole" "BORROWING_PICKUP" "Lcom/example/lendloop/lendloop/core/TransactionRole;" (.ref w3)) (SV : Sta Z Z.heap "com/example/lendloop/lendloop/core/TransactionRole" "$VALUES" "[Lcom/example/lendloop/lendloop/core/TransactionRole;" (.ref vA)) (VV : Arv Z Z.heap vA kA (.object "com/example/lendloop/lendloop/core/TransactionRole") (4 : Int32) [.ref w0, .ref w1, .ref w2, .ref w3] .null) (EV : Exa Z Z.heap vA "[Lcom/example/lendloop/lendloop/core/TransactionRole;") (SM : Sta Z Z.heap "java/util/Optional" "EMPTY" "Ljava/util/Optional;" (.ref em)) (EE : Exa Z Z.heap em "java/util/Optional") (FE : Fld Z Z.heap em "java/util/Optional" "value" "Ljava/lang/Object;" .null) (E0 : Exa Z Z.heap w0 "com/example/lendloop/lendloop/core/TransactionRole") (G0 : Fld Z Z.heap w0 "com/example/lendloop/lendloop/core/TransactionRole" "wireName" "Ljava/lang/String;" (.ref s0)) (Ex0 : Exa Z Z.heap s0 "java/lang/String") (Vx0 : Fld Z Z.heap s0 "java/lang/String" "value" "[B" (.ref t0)) (Cx0 : Fld Z Z.heap s0 "java/lang/String" "coder" "B" (.int 0)) (Kx0 : Arv Z Z.heap t0 kb0 .byte (Int32.ofNat (own_d0).length) (((own_d0).map StrChars.lo8).map Value.int) (.int 0)) (E1 : Exa Z Z.heap w1 "com/example/lendloop/lendloop/core/TransactionRole") (G1 : Fld Z Z.heap w1 "com/example/lendloop/lendloop/core/TransactionRole" "wireName" "Ljava/lang/String;" (.ref s1)) (Ex1 : Exa Z Z.heap s1 "java/lang/String") (Vx1 : Fld Z Z.heap s1 "java/lang/String" "value" "[B" (.ref t1)) (Cx1 : Fld Z Z.heap s1 "java/lang/String" "coder" "B" (.int 0)) (Kx1 : Arv Z Z.heap t1 kb1 .byte (Int32.ofNat (own_d1).length) (((own_d1).map StrChars.lo8).map Value.int) (.int 0)) (E2 : Exa Z Z.heap w2 "com/example/lendloop/lendloop/core/TransactionRole") (G2 : Fld Z Z.heap w2 "com/example/lendloop/lendloop/core/TransactionRole" "wireName" "Ljava/lang/String;" (.ref s2)) (Ex2 : Exa Z Z.heap s2 "java/lang/String") (Vx2 : Fld Z Z.heap s2 "java/lang/String" "value" "[B" (.ref t2)) (Cx2 : Fld Z Z.heap s2 "java/lang/String" "coder" "B" (.int 0)) (Kx2 : Arv Z Z.heap t2 kb2 .byte (Int32.ofNat (own_d2).length) (((own_d2).map StrChars.lo8).map Value.int) (.int 0)) (E3 : Exa Z Z.heap w3 "com/example/lendloop/lendloop/core/TransactionRole") (G3 : Fld Z Z.heap w3 "com/example/lendloop/lendloop/core/TransactionRole" "wireName" "Ljava/lang/String;" (.ref s3)) (Ex3 : Exa Z Z.heap s3 "java/lang/String") (Vx3 : Fld Z Z.heap s3 "java/lang/String" "value" "[B" (.ref t3)) (Cx3 : Fld Z Z.heap s3 "java/lang/String" "coder" "B" (.int 0)) (Kx3 : Arv Z Z.heap t3 kb3 .byte (Int32.ofNat (own_d3).length) (((own_d3).map StrChars.lo8).map Value.int) (.int 0)) (hv : ¬ (((p0 >>> ((2 : Int32) &&& 31)) &&& (3 : Int32)) = (3 : Int32))) (hm : ¬ (((p0 >>> ((6 : Int32) &&& 31)) &&& (1 : Int32)) = 0)) :
    MetFree l x (head1 (Jvm.Cond.code x code maxLocals ret :: ws) room_1) (fun qq U => qq = #[(.int p0), (.int p1), (.int p2), (.int p3)] ∧ Z.Warmed39 U.vm ∧ U.heap = h0 ∧ CHv Z consts_1 U.vm h0) (fun _ _ _ _ _ => True) (fun _ UU oo UU' => ∃ vv LL, oo = .returned vv ∧ Qd15 Z p0 p1 p2 p3 em vA w0 w1 w2 w3 s0 s1 s2 s3 t0 t1 t2 t3 kA kb0 kb1 kb2 kb3 z h0 n0 vv UU'.heap LL ∧ CHr Z consts_1 UU.vm UU.heap UU'.vm UU'.heap ∧ ReturnedEndW UU oo UU' LL room_1.cells room_1.slots) := by
  refine MetFree.of_bodySF (plainFor_of_name pn_0) hisR ?_
  intro p e s m args below meth c s₁ Bd hml0 hP hK
  obtain ⟨rfl, hZ, hh, hC0⟩ := hP
  have hZ : Z.Warmed39 (s.setVm s.vm).vm := hZ
  have CR0 := CHr.refl hC0
  have hx := Bd.exec
  have hby := Bd.bytes
  have hml : c.maxLocals = 13 := hml0
  have hown : (s.setVm s.vm).vm.findClass "com/example/lendloop/lendloop/core/TransactionRoleFromWireNamePinLaw" = some m.cls := findClass_of_methodNamed Bd.named
  have hnm := (name_of_methodNamed Bd.named Bd.method).1
  have X0 : Stand p l e room_1 (s.setVm s.vm) m #[(.int p0), (.int p1), (.int p2), (.int p3)] below meth c s₁ [] 0 0 := Stand.of_body Bd
  have e0 : s₁.heap = h0 := by rw [← hh, Bd.state]; rfl
  have N0 := Fr.nil n0
  have pre0 : ∀ tgt, Steps p.tables e below (s₁.setTop (mkF m 0 #[.val (.int p0), .val (.int p1), .val (.int p2), .val (.int p3), .unset, .unset, .unset, .unset, .unset, .unset, .unset, .unset, .unset] [])) tgt → Steps p.tables e below (s₁.setTop (entryFrame m #[(.int p0), (.int p1), (.int p2), (.int p3)] maxLocals)) tgt := fun tt kk => castTop (ef_0 m p0 p1 p2 p3) kk
  obtain ⟨xa, xb, kd, vr, mb, ⟨hxa, hxb, hvr, hmb⟩, stA⟩ := lawpre (p0 := p0) (p1 := p1) (p2 := p2) (p3 := p3) X0 hx hZ hw hby hown e0
  obtain ⟨_, _, ⟨T1q, L1q, k1q, n1q⟩, -, X1q, ⟨Lc1q, hQ1q, l1q, y1q, z1q⟩, st1q⟩ := Jvm.LawKit.callS X0 hx (y := (⟨"com/example/lendloop/lendloop/core/TransactionRoleFromWireNamePinLaw", "named", "(IIC)[C"⟩ : MethodName)) hown (mvT hZ (ww hw 0 rfl)) (mvT hZ (ww hw 1 rfl)) (mvT hZ (ww hw 2 rfl)) (mvT hZ (ww hw 3 rfl)) (by decide) (backOf (W := 0) (rmN l Z a0 hw [] kd vr xa h0 n0 O0 hxa) hZ (ww hw 3 rfl) (ww hw 2 rfl) (by decide) (by decide)) (g := (mkF m 73 #[.val (.int p0), .val (.int p1), .val (.int p2), .val (.int p3), .val (.int xa), .val (.int xb), .val (.int kd), .val (.int vr), .val (.int mb), .unset, .unset, .unset, .unset] [(.int xa), (.int vr), (.int kd)])) rfl (by rw [hml]; rfl) (argsL := [(.int kd), (.int vr), (.int xa)]) (rest := []) (lenOf own_pd11 rfl) rfl (by show 2 * 0 + _ ≤ _; exact Nat.le_of_eq rfl) (hb hby at_73) (fun _ _ => ⟨rfl, e0, (by decide : 0 + 1 ≤ _), (by decide : 0 + 17 ≤ _)⟩)
  dsimp only [Pt.U, Pt.locs, Pt.cells, Pt.slots] at X1q l1q y1q z1q st1q hQ1q
  subst l1q y1q z1q
  obtain ⟨ca, kC, cs, rfl, N1qq, KK1q, g_ca, VCA, hg, hne⟩ := hQ1q
  have N1q := Fr.app N0 N1qq
  have SC1q := CHr.keep KK1q sf0 CR0.1
  have CR1q := CHr.trans CR0 SC1q
  have O1q := Old.keep O0 KK1q all0
  obtain ⟨cl, Ar, qk, Sz, Mz, Hz, Uz⟩ := id VCA
  obtain ⟨T2q, h2q, X2q, e2q, W2q, V2q, st2q⟩ := own_setC X1q hx hZ rfl VCA (own_ix p1 hne hg.1).2.1 (by rw [List.length_map]; exact (own_ix p1 hne hg.1).2.2) (by rw [List.length_map]; exact own_zn hg.1) (g := (mkF m 95 #[.val (.int p0), .val (.int p1), .val (.int p2), .val (.int p3), .val (.int xa), .val (.int xb), .val (.int kd), .val (.int vr), .val (.int mb), .val (.ref ca), .unset, .unset, .unset] [(.int xb), (.int ((p1 &&& (2147483647 : Int32)) % (Int32.ofNat cs.length))), (.ref ca)])) rfl rfl (hb hby at_95)
  have SC2q := CHr.wr W2q (Safe.arv hZ.alike VCA (by decide)) CR1q.1
  have CR2q := CHr.trans CR1q SC2q
  have N2q := Fr.snoc X2q N1q g_ca
  have O2q := Old.wr O1q W2q g_ca
  obtain ⟨T3q, h3q, X3q, e3q, E3q, A3q, D3q, -, st3q⟩ := newO X2q hx hZ hown (ww hw 5 rfl) (ww hw 6 rfl) (ww hw 7 rfl) e2q (g := (mkF m 96 #[.val (.int p0), .val (.int p1), .val (.int p2), .val (.int p3), .val (.int xa), .val (.int xb), .val (.int kd), .val (.int vr), .val (.int mb), .val (.ref ca), .unset, .unset, .unset] [])) rfl (hb hby at_96) (by decide) (by decide)
  obtain ⟨b3q, q3q⟩ : ∃ z, z = h2q.size := ⟨_, rfl⟩
  rw [← q3q] at A3q D3q st3q
  have g_b3q : n0 ≤ b3q := by rw [q3q]; exact (O2q).1 ▸ (O2q).2.1
  have ne_ca_b3q : ca ≠ b3q := by rw [q3q]; exact Nat.ne_of_lt V2q.lt
  have SC3q := CHr.ext E3q CR2q.1
  have CR3q := CHr.trans CR2q SC3q
  have O3q := Old.ext O2q E3q
  have SN3q := Safe.ext E3q CR2q.1 (Safe.new (Nat.le_of_eq q3q.symm))
  have F3q_coder : Fld Z h3q b3q "java/lang/String" "coder" "B" (.int (0 : Int32)) := D3q (Or.inr (ww hw 31 rfl)) (ty := .byte) (by decide)
  have F3q_value : Fld Z h3q b3q "java/lang/String" "value" "[B" .null := D3q (Or.inr (ww hw 33 rfl)) (ty := (.array .byte)) (by decide)
  have hgq : own_good (cs.set (((p1 &&& (2147483647 : Int32)) % (Int32.ofNat cs.length))).toNatClampNeg (nar .char xb)) := own_gset hg hxb
  have Vq : Arv Z h3q ca kC .char (Int32.ofNat (cs.set (((p1 &&& (2147483647 : Int32)) % (Int32.ofNat cs.length))).toNatClampNeg (nar .char xb)).length) ((cs.set (((p1 &&& (2147483647 : Int32)) % (Int32.ofNat cs.length))).toNatClampNeg (nar .char xb)).map Value.int) (.int 0) := by
    have q := (V2q.ext E3q)
    rw [List.length_set, List.map_set]
    exact q
  have hne2 : (cs.set (((p1 &&& (2147483647 : Int32)) % (Int32.ofNat cs.length))).toNatClampNeg (nar .char xb)).length ≠ 0 := by rw [List.length_set]; exact hne
  obtain ⟨_, _, ⟨T4q, L4q, k4q, n4q⟩, -, X4q, ⟨Lc4q, hQ4q, l4q, y4q, z4q⟩, st4q⟩ := X3q.specialBack hx (y := (⟨"java/lang/String", "<init>", "([C)V"⟩ : MethodName)) rfl hown (mvT hZ (ww hw 8 rfl)) (mvT hZ (ww hw 9 rfl)) (mvT hZ (ww hw 10 rfl)) (by decide) (own_wide (N := 17) hgq.1 (StrChars.Road.backV (W := 1) hZ (own_wB hw) (kI := 4) (ww hw 6 rfl) (cs := (cs.set (((p1 &&& (2147483647 : Int32)) % (Int32.ofNat cs.length))).toNatClampNeg (nar .char xb))) (bs := ((cs.set (((p1 &&& (2147483647 : Int32)) % (Int32.ofNat cs.length))).toNatClampNeg (nar .char xb))).map StrChars.lo8) (n := ((cs.set (((p1 &&& (2147483647 : Int32)) % (Int32.ofNat cs.length))).toNatClampNeg (nar .char xb))).length) (n0 := n0) g_b3q (show n0 ≤ h3q.size from (O3q).1 ▸ (O3q).2.1) A3q F3q_value F3q_coder Vq (Sta.ext O3q.2 SC) hz rfl rfl (Nat.pos_of_ne_zero hne2) (Nat.le_trans hgq.1 (by decide)) hgq.2 rfl (by decide) (by decide))) (g := (mkF m 102 #[.val (.int p0), .val (.int p1), .val (.int p2), .val (.int p3), .val (.int xa), .val (.int xb), .val (.int kd), .val (.int vr), .val (.int mb), .val (.ref ca), .unset, .unset, .unset] [(.ref ca), (.ref b3q), (.ref b3q)])) rfl (by rw [hml]; rfl) (Steps.refl _) (a := b3q) (argsL := [(.ref ca)]) (rest := [(.ref b3q)]) (lenOf own_pd8 rfl) rfl (by show 2 * 0 + _ ≤ _; exact Nat.le_of_eq rfl) (hb hby at_102) (fun _ _ => ⟨rfl, e3q, (by decide : 2 + 1 ≤ _), (by decide : 21 + 17 ≤ _)⟩)
  dsimp only [Pt.U, Pt.locs, Pt.cells, Pt.slots] at X4q l4q y4q z4q st4q hQ4q
  subst l4q y4q z4q
  obtain ⟨rfl, N4qq, KK4q, fE, fC, tt, kx, _, _, _, fV, fK⟩ := hQ4q
  have N4q := Fr.app N2q N4qq
  have SC4q := CHr.keep KK4q (sfS SN3q sf0) CR3q.1
  have CR4q := CHr.trans CR3q SC4q
  have SF4q_b3q := CHr.safe SC4q (A3q.lt) SN3q
  have O4q := Old.keep O3q KK4q (allS g_b3q all0)
  obtain ⟨_, _, ⟨T5q, L5q, k5q, n5q⟩, -, X5q, Sq5q, gq5q, ⟨Lc5q, hQ5q, l5q, y5q, z5q, CC5q⟩, st5q⟩ := callSS X4q hx (y := (⟨"com/example/lendloop/lendloop/core/TransactionRoleFromWireNamePinLaw", "reference", "(Ljava/lang/String;)Lcom/example/lendloop/lendloop/core/TransactionRole;"⟩ : MethodName)) hown (mvT hZ (ww hw 34 rfl)) (mvT hZ (ww hw 35 rfl)) (mvT hZ (ww hw 2 rfl)) (mvT hZ (ww hw 36 rfl)) (by decide) (backOfSH (W := 0) (rmF l Z a0 hw [] b3q tt w0 w1 w2 w3 kx (cs.set (((p1 &&& (2147483647 : Int32)) % (Int32.ofNat cs.length))).toNatClampNeg (nar .char xb)) z T4q.heap n0 O4q fE fV fC fK SC hz SR0 SR1 SR2 SR3 hgq) hZ (ww hw 36 rfl) (ww hw 2 rfl) (by decide) (by decide) (own_EW hw) CR4q.1) (g := (mkF m 109 #[.val (.int p0), .val (.int p1), .val (.int p2), .val (.int p3), .val (.int xa), .val (.int xb), .val (.int kd), .val (.int vr), .val (.int mb), .val (.ref ca), .val (.ref b3q), .unset, .unset] [(.ref b3q)])) rfl (by rw [hml]; rfl) (argsL := [(.ref b3q)]) (rest := []) (lenOf own_pd9 rfl) rfl (by show 2 * 0 + _ ≤ _; exact Nat.le_of_eq rfl) (hb hby at_109) (fun _ _ => ⟨rfl, rfl, (by decide : 3 + 8 ≤ _), (by decide : 38 + 160 ≤ _)⟩)
  dsimp only [Pt.U, Pt.locs, Pt.cells, Pt.slots] at X5q l5q y5q z5q st5q hQ5q Sq5q gq5q CC5q
  subst l5q y5q z5q
  obtain ⟨X5q, S5q, hZ5q, hown5q⟩ := rebS (n1 := T4q.heap.size) (State.WarmedH.since (State.WarmedH.refl s) 0) ((Nat.zero_le _)) X5q Sq5q gq5q hZ hown
  obtain ⟨rfl, N5qq, KK5q⟩ := hQ5q
  have N5q := Fr.app N4q N5qq
  have SC5q := CC5q
  have CR5q := CHr.trans CR4q SC5q
  have SF5q_b3q := CHr.safe SC5q (fE.lt) SF4q_b3q
  have O5q := Old.keep O4q KK5q all0
  obtain ⟨_, _, ⟨T6q, L6q, k6q, n6q⟩, -, X6q, ⟨Lc6q, hQ6q, l6q, y6q, z6q⟩, st6q⟩ := Jvm.LawKit.callS X5q hx (y := (⟨"com/example/lendloop/lendloop/core/TransactionRole", "fromWireName", "(Ljava/lang/String;)Ljava/util/Optional;"⟩ : MethodName)) hown5q (mvT hZ5q (ww hw 53 rfl)) (mvT hZ5q (ww hw 54 rfl)) (mvT hZ5q (ww hw 51 rfl)) (mvT hZ5q (ww hw 55 rfl)) (by decide) (backOf (W := 0) (rmW l Z a0 hw [] b3q tt em vA w0 w1 w2 w3 s0 s1 s2 s3 t0 t1 t2 t3 kx kA kb0 kb1 kb2 kb3 (cs.set (((p1 &&& (2147483647 : Int32)) % (Int32.ofNat cs.length))).toNatClampNeg (nar .char xb)) z T5q.heap n0 O5q (fE.keep KK5q) (fV.keep KK5q nin0) (fC.keep KK5q nin0) (fK.keep KK5q nin0) SC hz SV VV EV SM EE FE E0 G0 Ex0 Vx0 Cx0 Kx0 E1 G1 Ex1 Vx1 Cx1 Kx1 E2 G2 Ex2 Vx2 Cx2 Kx2 E3 G3 Ex3 Vx3 Cx3 Kx3 hgq) hZ5q (ww hw 55 rfl) (ww hw 51 rfl) (by decide) (by decide)) (g := (mkF m 116 #[.val (.int p0), .val (.int p1), .val (.int p2), .val (.int p3), .val (.int xa), .val (.int xb), .val (.int kd), .val (.int vr), .val (.int mb), .val (.ref ca), .val (.ref b3q), .val (own_role (cs.set (((p1 &&& (2147483647 : Int32)) % (Int32.ofNat cs.length))).toNatClampNeg (nar .char xb)) w0 w1 w2 w3), .unset] [(.ref b3q)])) rfl (by rw [hml]; rfl) (argsL := [(.ref b3q)]) (rest := []) (lenOf own_pd10 rfl) rfl (by show 2 * 0 + _ ≤ _; exact Nat.le_of_eq rfl) (hb hby at_116) (fun _ _ => ⟨rfl, rfl, (by decide : 11 + 2 ≤ _), (by decide : 198 + 5 ≤ _)⟩)
  dsimp only [Pt.U, Pt.locs, Pt.cells, Pt.slots] at X6q l6q y6q z6q st6q hQ6q
  subst l6q y6q z6q
  obtain ⟨oo, rfl, N6qq, KK6q, f6q_0, f6q_1⟩ := hQ6q
  have N6q := Fr.app N5q N6qq
  have SC6q := CHr.keep KK6q sf0 CR5q.1
  have CR6q := CHr.trans CR5q SC6q
  have SF6q_b3q := CHr.safe SC6q ((fE.keep KK5q).lt) SF5q_b3q
  have sz6q := Nat.le_trans (Nat.le_refl _) (KK6q.1)
  have O6q := Old.keep O5q KK6q all0
  obtain ⟨cq7q, kq7q, q7qa, q7qb, q7qc⟩ := isOf hZ5q rfl f6q_0
  obtain ⟨_, _, ⟨T7q, L7q, k7q, n7q⟩, -, X7q, ⟨Lc7q, hQ7q, l7q, y7q, z7q⟩, st7q⟩ := X6q.virtualBack hx (y := (⟨"java/util/Optional", "orElse", "(Ljava/lang/Object;)Ljava/lang/Object;"⟩ : MethodName)) (z := (⟨"java/util/Optional", "orElse", "(Ljava/lang/Object;)Ljava/lang/Object;"⟩ : MethodName)) hown5q (mvT hZ5q (ww hw 94 rfl)) (mvT hZ5q (ww hw 95 rfl)) (notFace_of_selects (args := #[]) (mvT hZ5q (ww hw 97 rfl))) (mvT hZ5q (ww hw 97 rfl)) (mvT hZ5q (ww hw 96 rfl)) (by decide) (backOf (W := 0) (rmL l Z a0 hw [] oo (own_role (cs.set (((p1 &&& (2147483647 : Int32)) % (Int32.ofNat cs.length))).toNatClampNeg (nar .char xb)) w0 w1 w2 w3) T6q.heap n0 (own_rr _ _ _ _ _) f6q_1) hZ5q (ww hw 98 rfl) (ww hw 79 rfl) (by decide) (by decide)) q7qa q7qc (g := (mkF m 120 #[.val (.int p0), .val (.int p1), .val (.int p2), .val (.int p3), .val (.int xa), .val (.int xb), .val (.int kd), .val (.int vr), .val (.int mb), .val (.ref ca), .val (.ref b3q), .val (own_role (cs.set (((p1 &&& (2147483647 : Int32)) % (Int32.ofNat cs.length))).toNatClampNeg (nar .char xb)) w0 w1 w2 w3), .unset] [.null, (.ref oo)])) rfl (by rw [hml]; rfl) (Steps.refl _) (argsL := [.null]) (rest := []) (lenOf own_pd1 rfl) rfl (by show 2 * 0 + _ ≤ _; exact Nat.le_of_eq rfl) (hb hby at_120) (fun _ _ => ⟨rfl, rfl, (by decide : 13 + 0 ≤ _), (by decide : 203 + 0 ≤ _)⟩)
  dsimp only [Pt.U, Pt.locs, Pt.cells, Pt.slots] at X7q l7q y7q z7q st7q hQ7q
  subst l7q y7q z7q
  obtain ⟨rfl, N7qq, e7q⟩ := hQ7q
  have N7q := Fr.app N6q N7qq
  obtain ⟨T8q, X8q, e8q, st8q⟩ := own_castV X7q hx hZ5q hown5q (ww hw 99 rfl) e7q (own_rc (E0.ext O6q.2) (E1.ext O6q.2) (E2.ext O6q.2) (E3.ext O6q.2) _) (g := (mkF m 123 #[.val (.int p0), .val (.int p1), .val (.int p2), .val (.int p3), .val (.int xa), .val (.int xb), .val (.int kd), .val (.int vr), .val (.int mb), .val (.ref ca), .val (.ref b3q), .val (own_role (cs.set (((p1 &&& (2147483647 : Int32)) % (Int32.ofNat cs.length))).toNatClampNeg (nar .char xb)) w0 w1 w2 w3), .unset] [(own_role (cs.set (((p1 &&& (2147483647 : Int32)) % (Int32.ofNat cs.length))).toNatClampNeg (nar .char xb)) w0 w1 w2 w3)])) rfl rfl (hb hby at_123)
  obtain ⟨fs, hr, hrun, hended, hE⟩ := X8q.leaveW (s := s) (vm₁ := T5q.vm) S5q (by rw [e8q]; exact sz6q) (v := some (.int (1 : Int32))) (fun h => by rw [Bd.returns] at h; cases h)
  have CE : CHr Z consts_1 s.vm s.heap T8q.vm T8q.heap := by
    rw [hh, e8q]
    exact CHr.trans CR6q (CHv.at X8q hZ5q (own_EW hw) CR6q.1)
  refine ⟨_, _, pre0 _ ?_, hrun, hended, _, _, rfl, ?_, CE, hE.1, hE.2.1, hE.2.2.1, hE.2.2.2.mono (by decide) (by decide)⟩
  · show Steps p.tables e below (s₁.setTop (mkF m 0 #[.val (.int p0), .val (.int p1), .val (.int p2), .val (.int p3), .unset, .unset, .unset, .unset, .unset, .unset, .unset, .unset, .unset] [])) _
    refine stA _ ?_
    show Steps p.tables e below (s₁.setTop (mkF m 44 #[.val (.int p0), .val (.int p1), .val (.int p2), .val (.int p3), .val (.int xa), .val (.int xb), .val (.int kd), .val (.int vr), .val (.int mb), .unset, .unset, .unset, .unset] [])) _
    refine XS.iload X0.here hx rfl (hb hby at_44) rfl ?_
    show Steps p.tables e below (s₁.setTop (mkF m 46 #[.val (.int p0), .val (.int p1), .val (.int p2), .val (.int p3), .val (.int xa), .val (.int xb), .val (.int kd), .val (.int vr), .val (.int mb), .unset, .unset, .unset, .unset] [(.int vr)])) _
    refine XS.iconst X0.here hx rfl (hb hby at_46) ?_
    show Steps p.tables e below (s₁.setTop (mkF m 47 #[.val (.int p0), .val (.int p1), .val (.int p2), .val (.int p3), .val (.int xa), .val (.int xb), .val (.int kd), .val (.int vr), .val (.int mb), .unset, .unset, .unset, .unset] [(.int (3 : Int32)), (.int vr)])) _
    refine XS.icmpYes X0.here hx rfl (pc0 := 47) (pc' := 67) rfl (hb hby at_47) rfl (feq (by rw [hvr]; exact hv : ¬ (vr = (3 : Int32)))).2 (by decide) (by decide) ?_
    show Steps p.tables e below (s₁.setTop (mkF m 67 #[.val (.int p0), .val (.int p1), .val (.int p2), .val (.int p3), .val (.int xa), .val (.int xb), .val (.int kd), .val (.int vr), .val (.int mb), .unset, .unset, .unset, .unset] [])) _
    refine XS.iload X0.here hx rfl (hb hby at_67) rfl ?_
    show Steps p.tables e below (s₁.setTop (mkF m 69 #[.val (.int p0), .val (.int p1), .val (.int p2), .val (.int p3), .val (.int xa), .val (.int xb), .val (.int kd), .val (.int vr), .val (.int mb), .unset, .unset, .unset, .unset] [(.int kd)])) _
    refine XS.iload X0.here hx rfl (hb hby at_69) rfl ?_
    show Steps p.tables e below (s₁.setTop (mkF m 71 #[.val (.int p0), .val (.int p1), .val (.int p2), .val (.int p3), .val (.int xa), .val (.int xb), .val (.int kd), .val (.int vr), .val (.int mb), .unset, .unset, .unset, .unset] [(.int vr), (.int kd)])) _
    refine XS.iload X0.here hx rfl (hb hby at_71) rfl ?_
    show Steps p.tables e below (s₁.setTop (mkF m 73 #[.val (.int p0), .val (.int p1), .val (.int p2), .val (.int p3), .val (.int xa), .val (.int xb), .val (.int kd), .val (.int vr), .val (.int mb), .unset, .unset, .unset, .unset] [(.int xa), (.int vr), (.int kd)])) _
    refine st1q _ ?_
    show Steps p.tables e below (T1q.setTop (mkF m 76 #[.val (.int p0), .val (.int p1), .val (.int p2), .val (.int p3), .val (.int xa), .val (.int xb), .val (.int kd), .val (.int vr), .val (.int mb), .unset, .unset, .unset, .unset] [(.ref ca)])) _
    refine XS.astore X1q.here hx rfl (hb hby at_76) rfl rfl (l' := #[.val (.int p0), .val (.int p1), .val (.int p2), .val (.int p3), .val (.int xa), .val (.int xb), .val (.int kd), .val (.int vr), .val (.int mb), .val (.ref ca), .unset, .unset, .unset]) rfl ?_
    show Steps p.tables e below (T1q.setTop (mkF m 78 #[.val (.int p0), .val (.int p1), .val (.int p2), .val (.int p3), .val (.int xa), .val (.int xb), .val (.int kd), .val (.int vr), .val (.int mb), .val (.ref ca), .unset, .unset, .unset] [])) _
    refine XS.iload X1q.here hx rfl (hb hby at_78) rfl ?_
    show Steps p.tables e below (T1q.setTop (mkF m 80 #[.val (.int p0), .val (.int p1), .val (.int p2), .val (.int p3), .val (.int xa), .val (.int xb), .val (.int kd), .val (.int vr), .val (.int mb), .val (.ref ca), .unset, .unset, .unset] [(.int mb)])) _
    refine XS.ifNo X1q.here hx rfl (hb hby at_80) rfl ((if0 _ _).trans (feq (by rw [hmb, if_neg hm]; decide : ¬ (mb = (0 : Int32)))).1) ?_
    show Steps p.tables e below (T1q.setTop (mkF m 83 #[.val (.int p0), .val (.int p1), .val (.int p2), .val (.int p3), .val (.int xa), .val (.int xb), .val (.int kd), .val (.int vr), .val (.int mb), .val (.ref ca), .unset, .unset, .unset] [])) _
    refine XS.aload X1q.here hx rfl (hb hby at_83) rfl rfl ?_
    show Steps p.tables e below (T1q.setTop (mkF m 85 #[.val (.int p0), .val (.int p1), .val (.int p2), .val (.int p3), .val (.int xa), .val (.int xb), .val (.int kd), .val (.int vr), .val (.int mb), .val (.ref ca), .unset, .unset, .unset] [(.ref ca)])) _
    refine XS.iloadN X1q.here hx rfl (hb hby at_85) rfl ?_
    show Steps p.tables e below (T1q.setTop (mkF m 86 #[.val (.int p0), .val (.int p1), .val (.int p2), .val (.int p3), .val (.int xa), .val (.int xb), .val (.int kd), .val (.int vr), .val (.int mb), .val (.ref ca), .unset, .unset, .unset] [(.int p1), (.ref ca)])) _
    refine X1q.ldcInt hx hown (mvT hZ (ww hw 114 rfl)) (g := (mkF m 86 #[.val (.int p0), .val (.int p1), .val (.int p2), .val (.int p3), .val (.int xa), .val (.int xb), .val (.int kd), .val (.int vr), .val (.int mb), .val (.ref ca), .unset, .unset, .unset] [(.int p1), (.ref ca)])) rfl (hb hby at_86) _ ?_
    show Steps p.tables e below (T1q.setTop (mkF m 88 #[.val (.int p0), .val (.int p1), .val (.int p2), .val (.int p3), .val (.int xa), .val (.int xb), .val (.int kd), .val (.int vr), .val (.int mb), .val (.ref ca), .unset, .unset, .unset] [(.int (2147483647 : Int32)), (.int p1), (.ref ca)])) _
    refine XS.iand X1q.here hx rfl (hb hby at_88) rfl ?_
    show Steps p.tables e below (T1q.setTop (mkF m 89 #[.val (.int p0), .val (.int p1), .val (.int p2), .val (.int p3), .val (.int xa), .val (.int xb), .val (.int kd), .val (.int vr), .val (.int mb), .val (.ref ca), .unset, .unset, .unset] [(.int (p1 &&& (2147483647 : Int32))), (.ref ca)])) _
    refine XS.aload X1q.here hx rfl (hb hby at_89) rfl rfl ?_
    show Steps p.tables e below (T1q.setTop (mkF m 91 #[.val (.int p0), .val (.int p1), .val (.int p2), .val (.int p3), .val (.int xa), .val (.int xb), .val (.int kd), .val (.int vr), .val (.int mb), .val (.ref ca), .unset, .unset, .unset] [(.ref ca), (.int (p1 &&& (2147483647 : Int32))), (.ref ca)])) _
    refine X1q.arraylength hx Ar.1 (State.isArrayOf_alike hZ.alike Ar.2.1) (g := (mkF m 91 #[.val (.int p0), .val (.int p1), .val (.int p2), .val (.int p3), .val (.int xa), .val (.int xb), .val (.int kd), .val (.int vr), .val (.int mb), .val (.ref ca), .unset, .unset, .unset] [(.ref ca), (.int (p1 &&& (2147483647 : Int32))), (.ref ca)])) rfl rfl (hb hby at_91) _ ?_
    rw [len_of Sz Mz]
    show Steps p.tables e below (T1q.setTop (mkF m 92 #[.val (.int p0), .val (.int p1), .val (.int p2), .val (.int p3), .val (.int xa), .val (.int xb), .val (.int kd), .val (.int vr), .val (.int mb), .val (.ref ca), .unset, .unset, .unset] [(.int (Int32.ofNat cs.length)), (.int (p1 &&& (2147483647 : Int32))), (.ref ca)])) _
    refine Jvm.RoadKit.iremM (g := (mkF m 92 #[.val (.int p0), .val (.int p1), .val (.int p2), .val (.int p3), .val (.int xa), .val (.int xb), .val (.int kd), .val (.int vr), .val (.int mb), .val (.ref ca), .unset, .unset, .unset] [(.int (Int32.ofNat cs.length)), (.int (p1 &&& (2147483647 : Int32))), (.ref ca)])) X1q hx rfl (hb hby at_92) rfl (own_ix p1 hne hg.1).1 ?_
    show Steps p.tables e below (T1q.setTop (mkF m 93 #[.val (.int p0), .val (.int p1), .val (.int p2), .val (.int p3), .val (.int xa), .val (.int xb), .val (.int kd), .val (.int vr), .val (.int mb), .val (.ref ca), .unset, .unset, .unset] [(.int ((p1 &&& (2147483647 : Int32)) % (Int32.ofNat cs.length))), (.ref ca)])) _
    refine XS.iload X1q.here hx rfl (hb hby at_93) rfl ?_
    show Steps p.tables e below (T1q.setTop (mkF m 95 #[.val (.int p0), .val (.int p1), .val (.int p2), .val (.int p3), .val (.int xa), .val (.int xb), .val (.int kd), .val (.int vr), .val (.int mb), .val (.ref ca), .unset, .unset, .unset] [(.int xb), (.int ((p1 &&& (2147483647 : Int32)) % (Int32.ofNat cs.length))), (.ref ca)])) _
    refine st2q _ ?_
    show Steps p.tables e below (T2q.setTop (mkF m 96 #[.val (.int p0), .val (.int p1), .val (.int p2), .val (.int p3), .val (.int xa), .val (.int xb), .val (.int kd), .val (.int vr), .val (.int mb), .val (.ref ca), .unset, .unset, .unset] [])) _
    refine st3q _ ?_
    show Steps p.tables e below (T3q.setTop (mkF m 99 #[.val (.int p0), .val (.int p1), .val (.int p2), .val (.int p3), .val (.int xa), .val (.int xb), .val (.int kd), .val (.int vr), .val (.int mb), .val (.ref ca), .unset, .unset, .unset] [(.ref b3q)])) _
    refine XS.dup X3q.here hx rfl (hb hby at_99) rfl rfl ?_
    show Steps p.tables e below (T3q.setTop (mkF m 100 #[.val (.int p0), .val (.int p1), .val (.int p2), .val (.int p3), .val (.int xa), .val (.int xb), .val (.int kd), .val (.int vr), .val (.int mb), .val (.ref ca), .unset, .unset, .unset] [(.ref b3q), (.ref b3q)])) _
    refine XS.aload X3q.here hx rfl (hb hby at_100) rfl rfl ?_
    show Steps p.tables e below (T3q.setTop (mkF m 102 #[.val (.int p0), .val (.int p1), .val (.int p2), .val (.int p3), .val (.int xa), .val (.int xb), .val (.int kd), .val (.int vr), .val (.int mb), .val (.ref ca), .unset, .unset, .unset] [(.ref ca), (.ref b3q), (.ref b3q)])) _
    refine st4q.trans ?_
    show Steps p.tables e below (T4q.setTop (mkF m 105 #[.val (.int p0), .val (.int p1), .val (.int p2), .val (.int p3), .val (.int xa), .val (.int xb), .val (.int kd), .val (.int vr), .val (.int mb), .val (.ref ca), .unset, .unset, .unset] [(.ref b3q)])) _
    refine XS.astore X4q.here hx rfl (hb hby at_105) rfl rfl (l' := #[.val (.int p0), .val (.int p1), .val (.int p2), .val (.int p3), .val (.int xa), .val (.int xb), .val (.int kd), .val (.int vr), .val (.int mb), .val (.ref ca), .val (.ref b3q), .unset, .unset]) rfl ?_
    show Steps p.tables e below (T4q.setTop (mkF m 107 #[.val (.int p0), .val (.int p1), .val (.int p2), .val (.int p3), .val (.int xa), .val (.int xb), .val (.int kd), .val (.int vr), .val (.int mb), .val (.ref ca), .val (.ref b3q), .unset, .unset] [])) _
    refine XS.aload X4q.here hx rfl (hb hby at_107) rfl rfl ?_
    show Steps p.tables e below (T4q.setTop (mkF m 109 #[.val (.int p0), .val (.int p1), .val (.int p2), .val (.int p3), .val (.int xa), .val (.int xb), .val (.int kd), .val (.int vr), .val (.int mb), .val (.ref ca), .val (.ref b3q), .unset, .unset] [(.ref b3q)])) _
    refine st5q.trans ?_
    show Steps p.tables e below (T5q.setTop (mkF m 112 #[.val (.int p0), .val (.int p1), .val (.int p2), .val (.int p3), .val (.int xa), .val (.int xb), .val (.int kd), .val (.int vr), .val (.int mb), .val (.ref ca), .val (.ref b3q), .unset, .unset] [(own_role (cs.set (((p1 &&& (2147483647 : Int32)) % (Int32.ofNat cs.length))).toNatClampNeg (nar .char xb)) w0 w1 w2 w3)])) _
    refine XS.astore X5q.here hx rfl (hb hby at_112) rfl (own_rr _ _ _ _ _) (l' := #[.val (.int p0), .val (.int p1), .val (.int p2), .val (.int p3), .val (.int xa), .val (.int xb), .val (.int kd), .val (.int vr), .val (.int mb), .val (.ref ca), .val (.ref b3q), .val (own_role (cs.set (((p1 &&& (2147483647 : Int32)) % (Int32.ofNat cs.length))).toNatClampNeg (nar .char xb)) w0 w1 w2 w3), .unset]) (by rcases ref_cases (own_rr (cs.set (((p1 &&& (2147483647 : Int32)) % (Int32.ofNat cs.length))).toNatClampNeg (nar .char xb)) w0 w1 w2 w3) with q | ⟨u, q⟩ <;> rw [q] <;> rfl) ?_
    show Steps p.tables e below (T5q.setTop (mkF m 114 #[.val (.int p0), .val (.int p1), .val (.int p2), .val (.int p3), .val (.int xa), .val (.int xb), .val (.int kd), .val (.int vr), .val (.int mb), .val (.ref ca), .val (.ref b3q), .val (own_role (cs.set (((p1 &&& (2147483647 : Int32)) % (Int32.ofNat cs.length))).toNatClampNeg (nar .char xb)) w0 w1 w2 w3), .unset] [])) _
    refine XS.aload X5q.here hx rfl (hb hby at_114) rfl rfl ?_
    show Steps p.tables e below (T5q.setTop (mkF m 116 #[.val (.int p0), .val (.int p1), .val (.int p2), .val (.int p3), .val (.int xa), .val (.int xb), .val (.int kd), .val (.int vr), .val (.int mb), .val (.ref ca), .val (.ref b3q), .val (own_role (cs.set (((p1 &&& (2147483647 : Int32)) % (Int32.ofNat cs.length))).toNatClampNeg (nar .char xb)) w0 w1 w2 w3), .unset] [(.ref b3q)])) _
    refine st6q _ ?_
    show Steps p.tables e below (T6q.setTop (mkF m 119 #[.val (.int p0), .val (.int p1), .val (.int p2), .val (.int p3), .val (.int xa), .val (.int xb), .val (.int kd), .val (.int vr), .val (.int mb), .val (.ref ca), .val (.ref b3q), .val (own_role (cs.set (((p1 &&& (2147483647 : Int32)) % (Int32.ofNat cs.length))).toNatClampNeg (nar .char xb)) w0 w1 w2 w3), .unset] [(.ref oo)])) _
    refine XS.aconstNull X6q.here hx rfl (hb hby at_119) ?_
    show Steps p.tables e below (T6q.setTop (mkF m 120 #[.val (.int p0), .val (.int p1), .val (.int p2), .val (.int p3), .val (.int xa), .val (.int xb), .val (.int kd), .val (.int vr), .val (.int mb), .val (.ref ca), .val (.ref b3q), .val (own_role (cs.set (((p1 &&& (2147483647 : Int32)) % (Int32.ofNat cs.length))).toNatClampNeg (nar .char xb)) w0 w1 w2 w3), .unset] [.null, (.ref oo)])) _
    refine st7q.trans ?_
    show Steps p.tables e below (T7q.setTop (mkF m 123 #[.val (.int p0), .val (.int p1), .val (.int p2), .val (.int p3), .val (.int xa), .val (.int xb), .val (.int kd), .val (.int vr), .val (.int mb), .val (.ref ca), .val (.ref b3q), .val (own_role (cs.set (((p1 &&& (2147483647 : Int32)) % (Int32.ofNat cs.length))).toNatClampNeg (nar .char xb)) w0 w1 w2 w3), .unset] [(own_role (cs.set (((p1 &&& (2147483647 : Int32)) % (Int32.ofNat cs.length))).toNatClampNeg (nar .char xb)) w0 w1 w2 w3)])) _
    refine st8q _ ?_
    show Steps p.tables e below (T8q.setTop (mkF m 126 #[.val (.int p0), .val (.int p1), .val (.int p2), .val (.int p3), .val (.int xa), .val (.int xb), .val (.int kd), .val (.int vr), .val (.int mb), .val (.ref ca), .val (.ref b3q), .val (own_role (cs.set (((p1 &&& (2147483647 : Int32)) % (Int32.ofNat cs.length))).toNatClampNeg (nar .char xb)) w0 w1 w2 w3), .unset] [(own_role (cs.set (((p1 &&& (2147483647 : Int32)) % (Int32.ofNat cs.length))).toNatClampNeg (nar .char xb)) w0 w1 w2 w3)])) _
    refine XS.astore X8q.here hx rfl (hb hby at_126) rfl (own_rr _ _ _ _ _) (l' := #[.val (.int p0), .val (.int p1), .val (.int p2), .val (.int p3), .val (.int xa), .val (.int xb), .val (.int kd), .val (.int vr), .val (.int mb), .val (.ref ca), .val (.ref b3q), .val (own_role (cs.set (((p1 &&& (2147483647 : Int32)) % (Int32.ofNat cs.length))).toNatClampNeg (nar .char xb)) w0 w1 w2 w3), .val (own_role (cs.set (((p1 &&& (2147483647 : Int32)) % (Int32.ofNat cs.length))).toNatClampNeg (nar .char xb)) w0 w1 w2 w3)]) (by rcases ref_cases (own_rr (cs.set (((p1 &&& (2147483647 : Int32)) % (Int32.ofNat cs.length))).toNatClampNeg (nar .char xb)) w0 w1 w2 w3) with q | ⟨u, q⟩ <;> rw [q] <;> rfl) ?_
    show Steps p.tables e below (T8q.setTop (mkF m 128 #[.val (.int p0), .val (.int p1), .val (.int p2), .val (.int p3), .val (.int xa), .val (.int xb), .val (.int kd), .val (.int vr), .val (.int mb), .val (.ref ca), .val (.ref b3q), .val (own_role (cs.set (((p1 &&& (2147483647 : Int32)) % (Int32.ofNat cs.length))).toNatClampNeg (nar .char xb)) w0 w1 w2 w3), .val (own_role (cs.set (((p1 &&& (2147483647 : Int32)) % (Int32.ofNat cs.length))).toNatClampNeg (nar .char xb)) w0 w1 w2 w3)] [])) _
    refine XS.aload X8q.here hx rfl (hb hby at_128) rfl (own_rr _ _ _ _ _) ?_
    show Steps p.tables e below (T8q.setTop (mkF m 130 #[.val (.int p0), .val (.int p1), .val (.int p2), .val (.int p3), .val (.int xa), .val (.int xb), .val (.int kd), .val (.int vr), .val (.int mb), .val (.ref ca), .val (.ref b3q), .val (own_role (cs.set (((p1 &&& (2147483647 : Int32)) % (Int32.ofNat cs.length))).toNatClampNeg (nar .char xb)) w0 w1 w2 w3), .val (own_role (cs.set (((p1 &&& (2147483647 : Int32)) % (Int32.ofNat cs.length))).toNatClampNeg (nar .char xb)) w0 w1 w2 w3)] [(own_role (cs.set (((p1 &&& (2147483647 : Int32)) % (Int32.ofNat cs.length))).toNatClampNeg (nar .char xb)) w0 w1 w2 w3)])) _
    refine XS.aload X8q.here hx rfl (hb hby at_130) rfl (own_rr _ _ _ _ _) ?_
    show Steps p.tables e below (T8q.setTop (mkF m 132 #[.val (.int p0), .val (.int p1), .val (.int p2), .val (.int p3), .val (.int xa), .val (.int xb), .val (.int kd), .val (.int vr), .val (.int mb), .val (.ref ca), .val (.ref b3q), .val (own_role (cs.set (((p1 &&& (2147483647 : Int32)) % (Int32.ofNat cs.length))).toNatClampNeg (nar .char xb)) w0 w1 w2 w3), .val (own_role (cs.set (((p1 &&& (2147483647 : Int32)) % (Int32.ofNat cs.length))).toNatClampNeg (nar .char xb)) w0 w1 w2 w3)] [(own_role (cs.set (((p1 &&& (2147483647 : Int32)) % (Int32.ofNat cs.length))).toNatClampNeg (nar .char xb)) w0 w1 w2 w3), (own_role (cs.set (((p1 &&& (2147483647 : Int32)) % (Int32.ofNat cs.length))).toNatClampNeg (nar .char xb)) w0 w1 w2 w3)])) _
    refine Jvm.RoadKit.acmp (g := (mkF m 132 #[.val (.int p0), .val (.int p1), .val (.int p2), .val (.int p3), .val (.int xa), .val (.int xb), .val (.int kd), .val (.int vr), .val (.int mb), .val (.ref ca), .val (.ref b3q), .val (own_role (cs.set (((p1 &&& (2147483647 : Int32)) % (Int32.ofNat cs.length))).toNatClampNeg (nar .char xb)) w0 w1 w2 w3), .val (own_role (cs.set (((p1 &&& (2147483647 : Int32)) % (Int32.ofNat cs.length))).toNatClampNeg (nar .char xb)) w0 w1 w2 w3)] [(own_role (cs.set (((p1 &&& (2147483647 : Int32)) % (Int32.ofNat cs.length))).toNatClampNeg (nar .char xb)) w0 w1 w2 w3), (own_role (cs.set (((p1 &&& (2147483647 : Int32)) % (Int32.ofNat cs.length))).toNatClampNeg (nar .char xb)) w0 w1 w2 w3)])) X8q hx rfl (own_rr _ _ _ _ _) (own_rr _ _ _ _ _) (pc0 := 132) (pc' := 135) (same := true) rfl (hb hby at_132) rfl (decide_eq_true rfl) (by decide) (by decide) ?_
    show Steps p.tables e below (T8q.setTop (mkF m 135 #[.val (.int p0), .val (.int p1), .val (.int p2), .val (.int p3), .val (.int xa), .val (.int xb), .val (.int kd), .val (.int vr), .val (.int mb), .val (.ref ca), .val (.ref b3q), .val (own_role (cs.set (((p1 &&& (2147483647 : Int32)) % (Int32.ofNat cs.length))).toNatClampNeg (nar .char xb)) w0 w1 w2 w3), .val (own_role (cs.set (((p1 &&& (2147483647 : Int32)) % (Int32.ofNat cs.length))).toNatClampNeg (nar .char xb)) w0 w1 w2 w3)] [])) _
    refine XS.iconst X8q.here hx rfl (hb hby at_135) ?_
    show Steps p.tables e below (T8q.setTop (mkF m 136 #[.val (.int p0), .val (.int p1), .val (.int p2), .val (.int p3), .val (.int xa), .val (.int xb), .val (.int kd), .val (.int vr), .val (.int mb), .val (.ref ca), .val (.ref b3q), .val (own_role (cs.set (((p1 &&& (2147483647 : Int32)) % (Int32.ofNat cs.length))).toNatClampNeg (nar .char xb)) w0 w1 w2 w3), .val (own_role (cs.set (((p1 &&& (2147483647 : Int32)) % (Int32.ofNat cs.length))).toNatClampNeg (nar .char xb)) w0 w1 w2 w3)] [(.int (1 : Int32))])) _
    refine XS.goto X8q.here hx rfl (pc0 := 136) (pc' := 140) rfl (hb hby at_136) (by decide) (by decide) ?_
    show Steps p.tables e below (T8q.setTop (mkF m 140 #[.val (.int p0), .val (.int p1), .val (.int p2), .val (.int p3), .val (.int xa), .val (.int xb), .val (.int kd), .val (.int vr), .val (.int mb), .val (.ref ca), .val (.ref b3q), .val (own_role (cs.set (((p1 &&& (2147483647 : Int32)) % (Int32.ofNat cs.length))).toNatClampNeg (nar .char xb)) w0 w1 w2 w3), .val (own_role (cs.set (((p1 &&& (2147483647 : Int32)) % (Int32.ofNat cs.length))).toNatClampNeg (nar .char xb)) w0 w1 w2 w3)] [(.int (1 : Int32))])) _
    exact retN X8q hx (t := .boolean) Bd.returns (by simp) (hb hby at_140) hr
  · show Qd15 Z p0 p1 p2 p3 em vA w0 w1 w2 w3 s0 s1 s2 s3 t0 t1 t2 t3 kA kb0 kb1 kb2 kb3 z h0 n0 _ T8q.heap _
    rw [e8q]
    exact ⟨rfl, N7q⟩
theorem rm0 (l : Launch) (Z : State) (a0 : Array Value) (hw : ∀ d ∈ tables_1, d.before a0 Z = true) (ws : List Jvm.Cond) (p0 p1 p2 p3 : Int32) (em vA w0 w1 w2 w3 s0 s1 s2 s3 t0 t1 t2 t3 : Addr) (kA kb0 kb1 kb2 kb3 : ClassId) (z : Int32) (h0 : Heap) (n0 : Nat) (O0 : Old Z n0 h0) (SC : Sta Z Z.heap "java/lang/String" "COMPACT_STRINGS" "Z" (.int z)) (hz : ¬ z = 0) (SR0 : Sta Z Z.heap "com/example/lendloop/lendloop/core/TransactionRole" "LENDER" "Lcom/example/lendloop/lendloop/core/TransactionRole;" (.ref w0)) (SR1 : Sta Z Z.heap "com/example/lendloop/lendloop/core/TransactionRole" "BORROWER" "Lcom/example/lendloop/lendloop/core/TransactionRole;" (.ref w1)) (SR2 : Sta Z Z.heap "com/example/lendloop/lendloop/core/TransactionRole" "PICKUP" "Lcom/example/lendloop/lendloop/core/TransactionRole;" (.ref w2)) (SR3 : Sta Z Z.heap "com/example/lendloop/lendloop/core/TransactionRole" "BORROWING_PICKUP" "Lcom/example/lendloop/lendloop/core/TransactionRole;" (.ref w3)) (SV : Sta Z Z.heap "com/example/lendloop/lendloop/core/TransactionRole" "$VALUES" "[Lcom/example/lendloop/lendloop/core/TransactionRole;" (.ref vA)) (VV : Arv Z Z.heap vA kA (.object "com/example/lendloop/lendloop/core/TransactionRole") (4 : Int32) [.ref w0, .ref w1, .ref w2, .ref w3] .null) (EV : Exa Z Z.heap vA "[Lcom/example/lendloop/lendloop/core/TransactionRole;") (SM : Sta Z Z.heap "java/util/Optional" "EMPTY" "Ljava/util/Optional;" (.ref em)) (EE : Exa Z Z.heap em "java/util/Optional") (FE : Fld Z Z.heap em "java/util/Optional" "value" "Ljava/lang/Object;" .null) (E0 : Exa Z Z.heap w0 "com/example/lendloop/lendloop/core/TransactionRole") (G0 : Fld Z Z.heap w0 "com/example/lendloop/lendloop/core/TransactionRole" "wireName" "Ljava/lang/String;" (.ref s0)) (Ex0 : Exa Z Z.heap s0 "java/lang/String") (Vx0 : Fld Z Z.heap s0 "java/lang/String" "value" "[B" (.ref t0)) (Cx0 : Fld Z Z.heap s0 "java/lang/String" "coder" "B" (.int 0)) (Kx0 : Arv Z Z.heap t0 kb0 .byte (Int32.ofNat (own_d0).length) (((own_d0).map StrChars.lo8).map Value.int) (.int 0)) (E1 : Exa Z Z.heap w1 "com/example/lendloop/lendloop/core/TransactionRole") (G1 : Fld Z Z.heap w1 "com/example/lendloop/lendloop/core/TransactionRole" "wireName" "Ljava/lang/String;" (.ref s1)) (Ex1 : Exa Z Z.heap s1 "java/lang/String") (Vx1 : Fld Z Z.heap s1 "java/lang/String" "value" "[B" (.ref t1)) (Cx1 : Fld Z Z.heap s1 "java/lang/String" "coder" "B" (.int 0)) (Kx1 : Arv Z Z.heap t1 kb1 .byte (Int32.ofNat (own_d1).length) (((own_d1).map StrChars.lo8).map Value.int) (.int 0)) (E2 : Exa Z Z.heap w2 "com/example/lendloop/lendloop/core/TransactionRole") (G2 : Fld Z Z.heap w2 "com/example/lendloop/lendloop/core/TransactionRole" "wireName" "Ljava/lang/String;" (.ref s2)) (Ex2 : Exa Z Z.heap s2 "java/lang/String") (Vx2 : Fld Z Z.heap s2 "java/lang/String" "value" "[B" (.ref t2)) (Cx2 : Fld Z Z.heap s2 "java/lang/String" "coder" "B" (.int 0)) (Kx2 : Arv Z Z.heap t2 kb2 .byte (Int32.ofNat (own_d2).length) (((own_d2).map StrChars.lo8).map Value.int) (.int 0)) (E3 : Exa Z Z.heap w3 "com/example/lendloop/lendloop/core/TransactionRole") (G3 : Fld Z Z.heap w3 "com/example/lendloop/lendloop/core/TransactionRole" "wireName" "Ljava/lang/String;" (.ref s3)) (Ex3 : Exa Z Z.heap s3 "java/lang/String") (Vx3 : Fld Z Z.heap s3 "java/lang/String" "value" "[B" (.ref t3)) (Cx3 : Fld Z Z.heap s3 "java/lang/String" "coder" "B" (.int 0)) (Kx3 : Arv Z Z.heap t3 kb3 .byte (Int32.ofNat (own_d3).length) (((own_d3).map StrChars.lo8).map Value.int) (.int 0)) :
    MetFree l x (head1 (Jvm.Cond.code x code maxLocals ret :: ws) room_1) (fun qq U => qq = #[(.int p0), (.int p1), (.int p2), (.int p3)] ∧ Z.Warmed39 U.vm ∧ U.heap = h0 ∧ CHv Z consts_1 U.vm h0) (fun _ _ _ _ _ => True) (fun _ UU oo UU' => ∃ vv LL, oo = .returned vv ∧ Qd15 Z p0 p1 p2 p3 em vA w0 w1 w2 w3 s0 s1 s2 s3 t0 t1 t2 t3 kA kb0 kb1 kb2 kb3 z h0 n0 vv UU'.heap LL ∧ CHr Z consts_1 UU.vm UU.heap UU'.vm UU'.heap ∧ ReturnedEndW UU oo UU' LL room_1.cells room_1.slots) := by
  by_cases hv : ((p0 >>> ((2 : Int32) &&& 31)) &&& (3 : Int32)) = (3 : Int32)
  · by_cases hln : ((p0 >>> ((4 : Int32) &&& 31)) &&& (3 : Int32)) = (0 : Int32)
    · exact rm0a l Z a0 hw ws p0 p1 p2 p3 em vA w0 w1 w2 w3 s0 s1 s2 s3 t0 t1 t2 t3 kA kb0 kb1 kb2 kb3 z h0 n0 O0 SC hz SR0 SR1 SR2 SR3 SV VV EV SM EE FE E0 G0 Ex0 Vx0 Cx0 Kx0 E1 G1 Ex1 Vx1 Cx1 Kx1 E2 G2 Ex2 Vx2 Cx2 Kx2 E3 G3 Ex3 Vx3 Cx3 Kx3 hln hv
    · exact rm0c l Z a0 hw ws p0 p1 p2 p3 em vA w0 w1 w2 w3 s0 s1 s2 s3 t0 t1 t2 t3 kA kb0 kb1 kb2 kb3 z h0 n0 O0 SC hz SR0 SR1 SR2 SR3 SV VV EV SM EE FE E0 G0 Ex0 Vx0 Cx0 Kx0 E1 G1 Ex1 Vx1 Cx1 Kx1 E2 G2 Ex2 Vx2 Cx2 Kx2 E3 G3 Ex3 Vx3 Cx3 Kx3 hln hv
  · by_cases hm : ((p0 >>> ((6 : Int32) &&& 31)) &&& (1 : Int32)) = 0
    · exact rm0e l Z a0 hw ws p0 p1 p2 p3 em vA w0 w1 w2 w3 s0 s1 s2 s3 t0 t1 t2 t3 kA kb0 kb1 kb2 kb3 z h0 n0 O0 SC hz SR0 SR1 SR2 SR3 SV VV EV SM EE FE E0 G0 Ex0 Vx0 Cx0 Kx0 E1 G1 Ex1 Vx1 Cx1 Kx1 E2 G2 Ex2 Vx2 Cx2 Kx2 E3 G3 Ex3 Vx3 Cx3 Kx3 hv hm
    · exact rm0f l Z a0 hw ws p0 p1 p2 p3 em vA w0 w1 w2 w3 s0 s1 s2 s3 t0 t1 t2 t3 kA kb0 kb1 kb2 kb3 z h0 n0 O0 SC hz SR0 SR1 SR2 SR3 SV VV EV SM EE FE E0 G0 Ex0 Vx0 Cx0 Kx0 E1 G1 Ex1 Vx1 Cx1 Kx1 E2 G2 Ex2 Vx2 Cx2 Kx2 E3 G3 Ex3 Vx3 Cx3 Kx3 hv hm
theorem own_fe {t : Term} {C n d : String} {k : Int32} {args : Array Value} {s : State} {x : Addr} (h : (Jvm.Cond.eq (.field t C n d) (.int k)).value args s none s [] = some true) (ht : t.eval args s none [] s = some (.ref x)) : s.fieldOf? x C n d = some (.int k) := by
  obtain ⟨u, v, h1, h2, h3, h4⟩ := cmp_v (Or.inl h)
  rw [fld_at ht] at h1
  obtain rfl : v = .int k := (Option.some.inj ((Term.int_eval k).symm.trans h2)).symm
  obtain ⟨z, rfl⟩ := h4
  rw [h1]
  have h5 : (Jvm.Cond.eq (.field t C n d) (.int k)).value args s none s [] = some (decide (z = k)) := Cond.eq_ints ((fld_at ht).trans h1) (Term.int_eval k)
  rw [gotT h5 h]
theorem own_lenS {args : Array Value} {first s : State} {o : Option Outcome} {idx : List Nat} {t : Term} {v : Value} (h : (Term.length t).eval args first o idx s = some v) :
    ∃ b cell, t.eval args first o idx s = some (.ref b) ∧ s.arrayAt? b = some cell ∧ cell.slots.size < 2 ^ 31 ∧ v = .int cell.slots.size.toInt32 := by
  simp only [Term.eval, Option.bind_eq_bind] at h
  cases ht : t.eval args first o idx s with
  | none => simp [ht] at h
  | some x =>
    cases x with
    | ref b =>
      simp only [ht, Option.bind_some] at h
      cases hc : s.arrayAt? b with
      | none => simp [hc] at h
      | some cell =>
        simp only [hc, Option.bind_some] at h
        split at h
        · rename_i q
          exact ⟨b, cell, rfl, hc, by simpa using q, (Option.some.inj h).symm⟩
        · cases h
    | _ => simp [ht] at h
theorem own_len {t : Term} {k : Int32} {args : Array Value} {s : State} {x : Addr} {cl : Cell} (h : (Jvm.Cond.eq (.length t) (.int k)).value args s none s [] = some true) (ht : t.eval args s none [] s = some (.ref x)) (hc : s.heap[x]? = some cl) : cl.slots.size < 2 ^ 31 ∧ cl.slots.size.toInt32 = k := by
  obtain ⟨u, v, h1, h2, h3, h4⟩ := cmp_v (Or.inl h)
  obtain rfl : v = .int k := (Option.some.inj ((Term.int_eval k).symm.trans h2)).symm
  obtain ⟨y, c', e1, e2, e3, e4⟩ := own_lenS h1
  cases ht.symm.trans e1
  cases hc.symm.trans (State.arrayAt?_spec e2).1
  have h5 := gotT (Cond.eq_ints (h1.trans (congrArg some e4)) (Term.int_eval k)) h
  exact ⟨e3, h5⟩
theorem own_elem {t u : Term} {k : Int32} {args : Array Value} {s : State} {x y : Addr} {cl : Cell} (h : (Jvm.Cond.eq (.elem t (.int k)) u).value args s none s [] = some true) (ht : t.eval args s none [] s = some (.ref x)) (hu : u.eval args s none [] s = some (.ref y)) (hc : s.heap[x]? = some cl) : cl.slots[k.toNatClampNeg]? = some (.ref y) := by
  obtain ⟨a, b, h1, h2, h3, h4⟩ := cmp_v (Or.inl h)
  obtain rfl : b = .ref y := Option.some.inj (h2.symm.trans hu)
  obtain ⟨-, h5⟩ := elem_in h1 ht (Term.int_eval k) hc
  have ha : a.isRef = true := h4.2
  have h6 := gotT (eq_R h1 hu ha rfl) h
  rw [h5, h6]

theorem own_lenE {t : Term} {k : Int32} {args : Array Value} {s : State} (h : (Jvm.Cond.eq (.length t) (.int k)).value args s none s [] = some true) : ∃ x, t.eval args s none [] s = some (.ref x) := by
  obtain ⟨u, v, h1, h2, h3, h4⟩ := cmp_v (Or.inl h)
  obtain ⟨y, c', e1, -⟩ := own_lenS h1
  exact ⟨y, e1⟩
theorem own_elemI {t : Term} {k x0 : Int32} {args : Array Value} {s : State} {x : Addr} {cl : Cell} (h : (Jvm.Cond.eq (.elem t (.int k)) (.int x0)).value args s none s [] = some true) (ht : t.eval args s none [] s = some (.ref x)) (hc : s.heap[x]? = some cl) : cl.slots[k.toNatClampNeg]? = some (.int x0) := by
  obtain ⟨a, b, h1, h2, h3, h4⟩ := cmp_v (Or.inl h)
  obtain rfl : b = .int x0 := (Option.some.inj ((Term.int_eval x0).symm.trans h2)).symm
  obtain ⟨-, h5⟩ := elem_in h1 ht (Term.int_eval k) hc
  obtain ⟨y, rfl⟩ := h4
  have h6 := gotT (Cond.eq_ints h1 (Term.int_eval x0)) h
  rw [h5, h6]
theorem own_fn {t : Term} {C n d : String} {args : Array Value} {s : State} {x : Addr} (h : (Jvm.Cond.eq (.field t C n d) .null).value args s none s [] = some true) (ht : t.eval args s none [] s = some (.ref x)) : s.fieldOf? x C n d = some .null := by
  obtain ⟨u, v, h1, h2, h3, h4⟩ := cmp_v (Or.inl h)
  obtain rfl : v = .null := (Option.some.inj h2).symm
  have h6 := gotT (eq_R h1 h2 h4.2 rfl) h
  rw [← fld_at ht, h1, h6]

theorem own_v0 : ([.int 76, .int 69, .int 78, .int 68, .int 69, .int 82] : List Value) = ((own_d0.map StrChars.lo8).map Value.int) := by decide +kernel
theorem own_v1 : ([.int 66, .int 79, .int 82, .int 82, .int 79, .int 87, .int 69, .int 82] : List Value) = ((own_d1.map StrChars.lo8).map Value.int) := by decide +kernel
theorem own_v2 : ([.int 80, .int 73, .int 67, .int 75, .int 85, .int 80] : List Value) = ((own_d2.map StrChars.lo8).map Value.int) := by decide +kernel
theorem own_v3 : ([.int 66, .int 79, .int 82, .int 82, .int 79, .int 87, .int 73, .int 78, .int 71, .int 45, .int 80, .int 73, .int 67, .int 75, .int 85, .int 80] : List Value) = ((own_d3.map StrChars.lo8).map Value.int) := by decide +kernel
set_option maxRecDepth 65536 in
set_option maxHeartbeats 40000000 in
theorem comes_1 {Post : Tables → Env → Array Value → State → Outcome → State → Prop} (hpost : ∀ tb e args s v u, (limb_1_1.after args s (.returned v) u = true ∧ limb_1_2.after args s (.returned v) u = true ∧ True) → ReturnedEndW s (.returned v) u (Jvm.fieldLocs frame_1_writes args s ++ Jvm.arrayLocs frame_1_arrays args s ++ Jvm.staticLocs frame_1_statics s) 32 5312 → Post tb e args s (.returned v) u) :
    ArmFor flags0 classFile x code maxLocals ret World_1 tables_1 room_1 Calls_1 rest_1 Pre_1 Post := by
  intro l hfl _ _ p e ha hc hk s m args below hf hA hF happ hP
  obtain ⟨hcalls, hrest, hpre⟩ := hP
  obtain ⟨-, -, -, hnamed, -, -, -, hat⟩ := (Spec.applies_iff hf).mp happ
  obtain ⟨hg, hn⟩ := and_e (Cond.before_iff.mp (show (Jvm.Cond.and given_1 narrow_1).before args s = true from hpre))
  obtain ⟨gc, hg⟩ := and_e hg
  obtain ⟨g0, hg⟩ := and_e hg
  obtain ⟨g1, hg⟩ := and_e hg
  obtain ⟨g2, hg⟩ := and_e hg
  have g3 := hg
  obtain ⟨w0, w1, w2, w3, rfl⟩ : ∃ w0 w1 w2 w3 : Value, args = #[w0, w1, w2, w3] := by
    have hs : args.size = 4 := by simpa [Cond.value, given_1] using gc
    obtain ⟨L⟩ := args
    match L, hs with
    | [w0, w1, w2, w3], _ => exact ⟨w0, w1, w2, w3, rfl⟩
  have hw := fun d (hd : d ∈ tables_1) => atoms_spec (ws := Jvm.Cond.code x code maxLocals ret :: tables_1) hat d (List.mem_cons_of_mem _ hd)
  have hfit : Fit s := fun {y c} hc i hi => by
    obtain ⟨ha, rfl⟩ := Array.getElem?_eq_some_iff.mp hc
    have q := List.all_eq_true.mp ((Array.all_eq_true_iff_forall_mem.mp hF) _ (Array.getElem_mem ha)) i (List.mem_range.mpr hi)
    simpa [Array.getElem?_eq_getElem hi] using q
  obtain ⟨hsets, hown0⟩ := atoms_of _ (rest_1_c_eq ▸ (show rest_1_c.before _ s = true from hrest))
  have hr0 := Cond.before_iff.mp hown0
  obtain ⟨i0, ei0⟩ := is_v g0
  obtain rfl : w0 = (.int i0) := Option.some.inj ei0
  obtain ⟨i1, ei1⟩ := is_v g1
  obtain rfl : w1 = (.int i1) := Option.some.inj ei1
  obtain ⟨i2, ei2⟩ := is_v g2
  obtain rfl : w2 = (.int i2) := Option.some.inj ei2
  obtain ⟨i3, ei3⟩ := is_v g3
  obtain rfl : w3 = (.int i3) := Option.some.inj ei3
  obtain ⟨k0, hn⟩ := and_e hn
  obtain ⟨k1, hn⟩ := and_e hn
  obtain ⟨k2, hn⟩ := and_e hn
  obtain ⟨k3, hn⟩ := and_e hn
  obtain ⟨k4, hn⟩ := and_e hn
  obtain ⟨k5, hn⟩ := and_e hn
  obtain ⟨k6, hn⟩ := and_e hn
  obtain ⟨k7, hn⟩ := and_e hn
  obtain ⟨k8, hn⟩ := and_e hn
  obtain ⟨k9, hn⟩ := and_e hn
  obtain ⟨k10, hn⟩ := and_e hn
  obtain ⟨k11, hn⟩ := and_e hn
  obtain ⟨k12, hn⟩ := and_e hn
  obtain ⟨k13, hn⟩ := and_e hn
  obtain ⟨k14, hn⟩ := and_e hn
  obtain ⟨k15, hn⟩ := and_e hn
  obtain ⟨k16, hn⟩ := and_e hn
  obtain ⟨k17, hn⟩ := and_e hn
  obtain ⟨k18, hn⟩ := and_e hn
  obtain ⟨k19, hn⟩ := and_e hn
  obtain ⟨k20, hn⟩ := and_e hn
  obtain ⟨k21, hn⟩ := and_e hn
  obtain ⟨k22, hn⟩ := and_e hn
  obtain ⟨k23, hn⟩ := and_e hn
  obtain ⟨k24, hn⟩ := and_e hn
  obtain ⟨k25, hn⟩ := and_e hn
  obtain ⟨k26, hn⟩ := and_e hn
  obtain ⟨k27, hn⟩ := and_e hn
  obtain ⟨k28, hn⟩ := and_e hn
  obtain ⟨k29, hn⟩ := and_e hn
  obtain ⟨k30, hn⟩ := and_e hn
  obtain ⟨k31, hn⟩ := and_e hn
  obtain ⟨k32, hn⟩ := and_e hn
  obtain ⟨k33, hn⟩ := and_e hn
  obtain ⟨k34, hn⟩ := and_e hn
  obtain ⟨k35, hn⟩ := and_e hn
  obtain ⟨k36, hn⟩ := and_e hn
  obtain ⟨k37, hn⟩ := and_e hn
  obtain ⟨k38, hn⟩ := and_e hn
  obtain ⟨k39, hn⟩ := and_e hn
  obtain ⟨k40, hn⟩ := and_e hn
  obtain ⟨k41, hn⟩ := and_e hn
  obtain ⟨k42, hn⟩ := and_e hn
  obtain ⟨k43, hn⟩ := and_e hn
  obtain ⟨k44, hn⟩ := and_e hn
  obtain ⟨k45, hn⟩ := and_e hn
  obtain ⟨k46, hn⟩ := and_e hn
  obtain ⟨k47, hn⟩ := and_e hn
  obtain ⟨k48, hn⟩ := and_e hn
  obtain ⟨k49, hn⟩ := and_e hn
  obtain ⟨k50, hn⟩ := and_e hn
  obtain ⟨k51, hn⟩ := and_e hn
  obtain ⟨k52, hn⟩ := and_e hn
  obtain ⟨k53, hn⟩ := and_e hn
  obtain ⟨k54, hn⟩ := and_e hn
  obtain ⟨k55, hn⟩ := and_e hn
  obtain ⟨k56, hn⟩ := and_e hn
  obtain ⟨k57, hn⟩ := and_e hn
  obtain ⟨k58, hn⟩ := and_e hn
  obtain ⟨k59, hn⟩ := and_e hn
  obtain ⟨k60, hn⟩ := and_e hn
  obtain ⟨k61, hn⟩ := and_e hn
  have k62 := hn
  have iM := (hw _ (List.mem_of_getElem? (i := 51) rfl))
  obtain ⟨w0, vw0⟩ := exa_v k0
  have SR0 := Sta.start vw0 (Or.inr ⟨iM, (hw _ (List.mem_of_getElem? (i := 52) rfl))⟩)
  have E0 := Exa.start vw0 k0
  obtain ⟨w1, vw1⟩ := exa_v k5
  have SR1 := Sta.start vw1 (Or.inr ⟨iM, (hw _ (List.mem_of_getElem? (i := 68) rfl))⟩)
  have E1 := Exa.start vw1 k5
  obtain ⟨w2, vw2⟩ := exa_v k7
  have SR2 := Sta.start vw2 (Or.inr ⟨iM, (hw _ (List.mem_of_getElem? (i := 69) rfl))⟩)
  have E2 := Exa.start vw2 k7
  obtain ⟨w3, vw3⟩ := exa_v k9
  have SR3 := Sta.start vw3 (Or.inr ⟨iM, (hw _ (List.mem_of_getElem? (i := 70) rfl))⟩)
  have E3 := Exa.start vw3 k9
  obtain ⟨vA, vV⟩ := exa_v k2
  have SV := Sta.start vV (Or.inr ⟨iM, (hw _ (List.mem_of_getElem? (i := 60) rfl))⟩)
  obtain ⟨cl, AV⟩ := Arr.start vV k1
  have hl := own_len k3 vV AV.1
  have hz0 := own_elem k4 vV vw0 AV.1
  have hz1 := own_elem k6 vV vw1 AV.1
  have hz2 := own_elem k8 vV vw2 AV.1
  have hz3 := own_elem k10 vV vw3 AV.1
  have VV : Arv s s.heap vA cl.cls (.object "com/example/lendloop/lendloop/core/TransactionRole") (4 : Int32) [.ref w0, .ref w1, .ref w2, .ref w3] .null := Arv.start hfit AV hl.1 hl.2 (by decide) rfl ⟨hz0, hz1, hz2, hz3, trivial⟩
  obtain ⟨s0, vs0⟩ := exa_v k11
  have G0 : Fld s s.heap w0 "com/example/lendloop/lendloop/core/TransactionRole" "wireName" "Ljava/lang/String;" (.ref s0) := Fld.start ((fld_at vw0).symm.trans vs0)
  have Ex0 := Exa.start vs0 k11
  have Cx0 : Fld s s.heap s0 "java/lang/String" "coder" "B" (.int 0) := Fld.start (own_fe k12 vs0)
  obtain ⟨t0, vt0⟩ := own_lenE k14
  have Vx0 : Fld s s.heap s0 "java/lang/String" "value" "[B" (.ref t0) := Fld.start ((fld_at vs0).symm.trans vt0)
  obtain ⟨cl0, AV0⟩ := Arr.start vt0 k13
  have hl0 := own_len k14 vt0 AV0.1
  have hz0_0 := own_elemI k27 vt0 AV0.1
  have hz0_1 := own_elemI k28 vt0 AV0.1
  have hz0_2 := own_elemI k29 vt0 AV0.1
  have hz0_3 := own_elemI k30 vt0 AV0.1
  have hz0_4 := own_elemI k31 vt0 AV0.1
  have hz0_5 := own_elemI k32 vt0 AV0.1
  have Kx0 : Arv s s.heap t0 cl0.cls .byte (Int32.ofNat (own_d0).length) (((own_d0).map StrChars.lo8).map Value.int) (.int 0) := by
    rw [← own_v0]
    exact Arv.start hfit AV0 hl0.1 hl0.2 (by decide) rfl ⟨hz0_0, hz0_1, hz0_2, hz0_3, hz0_4, hz0_5, trivial⟩
  obtain ⟨s1, vs1⟩ := exa_v k15
  have G1 : Fld s s.heap w1 "com/example/lendloop/lendloop/core/TransactionRole" "wireName" "Ljava/lang/String;" (.ref s1) := Fld.start ((fld_at vw1).symm.trans vs1)
  have Ex1 := Exa.start vs1 k15
  have Cx1 : Fld s s.heap s1 "java/lang/String" "coder" "B" (.int 0) := Fld.start (own_fe k16 vs1)
  obtain ⟨t1, vt1⟩ := own_lenE k18
  have Vx1 : Fld s s.heap s1 "java/lang/String" "value" "[B" (.ref t1) := Fld.start ((fld_at vs1).symm.trans vt1)
  obtain ⟨cl1, AV1⟩ := Arr.start vt1 k17
  have hl1 := own_len k18 vt1 AV1.1
  have hz1_0 := own_elemI k33 vt1 AV1.1
  have hz1_1 := own_elemI k34 vt1 AV1.1
  have hz1_2 := own_elemI k35 vt1 AV1.1
  have hz1_3 := own_elemI k36 vt1 AV1.1
  have hz1_4 := own_elemI k37 vt1 AV1.1
  have hz1_5 := own_elemI k38 vt1 AV1.1
  have hz1_6 := own_elemI k39 vt1 AV1.1
  have hz1_7 := own_elemI k40 vt1 AV1.1
  have Kx1 : Arv s s.heap t1 cl1.cls .byte (Int32.ofNat (own_d1).length) (((own_d1).map StrChars.lo8).map Value.int) (.int 0) := by
    rw [← own_v1]
    exact Arv.start hfit AV1 hl1.1 hl1.2 (by decide) rfl ⟨hz1_0, hz1_1, hz1_2, hz1_3, hz1_4, hz1_5, hz1_6, hz1_7, trivial⟩
  obtain ⟨s2, vs2⟩ := exa_v k19
  have G2 : Fld s s.heap w2 "com/example/lendloop/lendloop/core/TransactionRole" "wireName" "Ljava/lang/String;" (.ref s2) := Fld.start ((fld_at vw2).symm.trans vs2)
  have Ex2 := Exa.start vs2 k19
  have Cx2 : Fld s s.heap s2 "java/lang/String" "coder" "B" (.int 0) := Fld.start (own_fe k20 vs2)
  obtain ⟨t2, vt2⟩ := own_lenE k22
  have Vx2 : Fld s s.heap s2 "java/lang/String" "value" "[B" (.ref t2) := Fld.start ((fld_at vs2).symm.trans vt2)
  obtain ⟨cl2, AV2⟩ := Arr.start vt2 k21
  have hl2 := own_len k22 vt2 AV2.1
  have hz2_0 := own_elemI k41 vt2 AV2.1
  have hz2_1 := own_elemI k42 vt2 AV2.1
  have hz2_2 := own_elemI k43 vt2 AV2.1
  have hz2_3 := own_elemI k44 vt2 AV2.1
  have hz2_4 := own_elemI k45 vt2 AV2.1
  have hz2_5 := own_elemI k46 vt2 AV2.1
  have Kx2 : Arv s s.heap t2 cl2.cls .byte (Int32.ofNat (own_d2).length) (((own_d2).map StrChars.lo8).map Value.int) (.int 0) := by
    rw [← own_v2]
    exact Arv.start hfit AV2 hl2.1 hl2.2 (by decide) rfl ⟨hz2_0, hz2_1, hz2_2, hz2_3, hz2_4, hz2_5, trivial⟩
  obtain ⟨s3, vs3⟩ := exa_v k23
  have G3 : Fld s s.heap w3 "com/example/lendloop/lendloop/core/TransactionRole" "wireName" "Ljava/lang/String;" (.ref s3) := Fld.start ((fld_at vw3).symm.trans vs3)
  have Ex3 := Exa.start vs3 k23
  have Cx3 : Fld s s.heap s3 "java/lang/String" "coder" "B" (.int 0) := Fld.start (own_fe k24 vs3)
  obtain ⟨t3, vt3⟩ := own_lenE k26
  have Vx3 : Fld s s.heap s3 "java/lang/String" "value" "[B" (.ref t3) := Fld.start ((fld_at vs3).symm.trans vt3)
  obtain ⟨cl3, AV3⟩ := Arr.start vt3 k25
  have hl3 := own_len k26 vt3 AV3.1
  have hz3_0 := own_elemI k47 vt3 AV3.1
  have hz3_1 := own_elemI k48 vt3 AV3.1
  have hz3_2 := own_elemI k49 vt3 AV3.1
  have hz3_3 := own_elemI k50 vt3 AV3.1
  have hz3_4 := own_elemI k51 vt3 AV3.1
  have hz3_5 := own_elemI k52 vt3 AV3.1
  have hz3_6 := own_elemI k53 vt3 AV3.1
  have hz3_7 := own_elemI k54 vt3 AV3.1
  have hz3_8 := own_elemI k55 vt3 AV3.1
  have hz3_9 := own_elemI k56 vt3 AV3.1
  have hz3_10 := own_elemI k57 vt3 AV3.1
  have hz3_11 := own_elemI k58 vt3 AV3.1
  have hz3_12 := own_elemI k59 vt3 AV3.1
  have hz3_13 := own_elemI k60 vt3 AV3.1
  have hz3_14 := own_elemI k61 vt3 AV3.1
  have hz3_15 := own_elemI k62 vt3 AV3.1
  have Kx3 : Arv s s.heap t3 cl3.cls .byte (Int32.ofNat (own_d3).length) (((own_d3).map StrChars.lo8).map Value.int) (.int 0) := by
    rw [← own_v3]
    exact Arv.start hfit AV3 hl3.1 hl3.2 (by decide) rfl ⟨hz3_0, hz3_1, hz3_2, hz3_3, hz3_4, hz3_5, hz3_6, hz3_7, hz3_8, hz3_9, hz3_10, hz3_11, hz3_12, hz3_13, hz3_14, hz3_15, trivial⟩
  obtain ⟨z, ez⟩ := is_v (Cond.before_iff.mp (hsets _ (List.mem_of_getElem? (i := 1) rfl)))
  have SC : Sta s s.heap "java/lang/String" "COMPACT_STRINGS" "Z" (.int z) := Sta.start ez (Or.inl (hsets _ (List.mem_of_getElem? (i := 0) rfl)))
  have hz : ¬ (z = (0 : Int32)) := gotF (Cond.eq_ints ez (Term.int_eval (0))) (not_v (Cond.before_iff.mp (hsets _ (List.mem_of_getElem? (i := 2) rfl))))
  have ko := Cond.before_iff.mp (hsets _ (List.mem_of_getElem? (i := 11) rfl))
  have kn := Cond.before_iff.mp (hsets _ (List.mem_of_getElem? (i := 12) rfl))
  obtain ⟨em, vm_⟩ := exa_v ko
  have SM : Sta s s.heap "java/util/Optional" "EMPTY" "Ljava/util/Optional;" (.ref em) := Sta.start vm_ (Or.inl (hsets _ (List.mem_of_getElem? (i := 10) rfl)))
  have EE := Exa.start vm_ ko
  have FE : Fld s s.heap em "java/util/Optional" "value" "Ljava/lang/Object;" .null := Fld.start (own_fn kn vm_)
  have EV := Exa.start vV k2
  have HC0 : CHv s consts_1 s.vm s.heap := CHv.start (own_EW hw) (show ∀ p ∈ consts_1, Jvm.Lit.constHeld s p.1 p.2 from hcalls.1) (hsets _ (List.mem_of_getElem? (i := 2) rfl)) (hw _ (List.mem_of_getElem? (i := 23) rfl)) (hw _ (List.mem_of_getElem? (i := 6) rfl))
  obtain ⟨n, o, h1, h2, h3, _, L, rfl, ⟨rfl, N⟩, -, hq⟩ := rm0 l s _ hw tables_1 i0 i1 i2 i3 em vA w0 w1 w2 w3 s0 s1 s2 s3 t0 t1 t2 t3 cl.cls cl0.cls cl1.cls cl2.cls cl3.cls z s.heap s.heap.size (Old.start s) SC hz SR0 SR1 SR2 SR3 SV VV EV SM EE FE E0 G0 Ex0 Vx0 Cx0 Kx0 E1 G1 Ex1 Vx1 Cx1 Kx1 E2 G2 Ex2 Vx2 Cx2 Kx2 E3 G3 Ex3 Vx3 Cx3 Kx3 p e ha hc hk s m _ below hf ((Spec.applies_iff_loose hf).mp happ).1 ⟨rfl, State.Warmed39.refl s, rfl, HC0⟩ trivial
  refine ⟨n, _, h1, h2, h3, hpost _ _ _ _ _ _ ⟨Cond.after_iff.mpr rfl, Cond.after_iff.mpr (eq_i res_at (Term.int_eval (1)) rfl), trivial⟩ ⟨hq.1, hq.2.1, hq.2.2.1, (hq.2.2.2.sift fun y hy => Or.inr (N y hy)).mono (by decide) (by decide)⟩⟩
theorem main_1_1 : Claimed_1_1 := comes_1 fun _ _ _ _ _ _ h hF => ⟨h.1, hF⟩
theorem main_1_2 : Claimed_1_2 := comes_1 fun _ _ _ _ _ _ h hF => ⟨h.2.1, hF⟩
end Jvm.Pilot.@@N@@
namespace Jvm.Pilot.@@N@@
open Jvm Jvm.ClassFile Sem Op Lib Jvm.Free Jvm.Stand Jvm.Pilot.@@N@@.Jvm.D
/-! MADE BY PROGRAM (witnessworld.py) out of the Statement's table words and the real class files: 24 classes; the members and pool entries that the words name. The judged class is class 1, her method 1. -/
namespace start1
open Jvm.ClassFile
def u (s : String) : CpInfo := .utf8 (stringToUtf16 s)
/-- a pool by its gaps: so many unusable entries, then the entry; so many at the end -/
def gap : Nat → List CpInfo → List CpInfo
  | 0, r => r
  | n + 1, r => .unusable :: gap n r
def poolList (es : List (Nat × CpInfo)) (last : Nat) : List CpInfo := es.foldr (fun e r => gap e.1 (e.2 :: r)) (gap last [])
def pool (es : List (Nat × CpInfo)) (last : Nat) : Array CpInfo := ⟨poolList es last⟩
def fileOf (pool : Array CpInfo) (this : Nat) (attrs : Array Attribute := #[]) (ms : Array MethodInfo := #[]) (fl : Nat := 33) (sup : Nat := 0) (ifs : Array Nat := #[]) (fds : Array FieldInfo := #[]) : ClassFile where
  minorVersion := 0
  majorVersion := 65
  constantPool := pool
  accessFlags := fl
  thisClass := this
  superClass := sup
  interfaces := ifs
  fields := fds
  methods := ms
  attributes := attrs
def plain (name : String) (sup : Option ClassId) : Class where
  name := name
  kind := .ordinary
  loader := none
  accessFlags := 33
  super := sup
  interfaces := #[]
  cf := none
  fields := #[]
  methods := #[]
  instanceTypes := #[]
  staticTypes := #[]
  resolved := #[]
  callSites := []
  init := .initialized
  statics := none
  mirror := none

def pool0 : Array CpInfo := pool [(5, u "<init>"), (0, u "()V"), (1, .class_ 10), (1, u "java/lang/Object"), (85, u "clone"), (0, u "()Ljava/lang/Object;")] 26

def k0c0 : Code := { maxStack := 0, maxLocals := 1, code := object_method_1_code, exceptionTable := #[], attributes := #[] }
def k0m0 : Method := { name := "<init>", desc := "()V", sig := { parameters := [], returnType := none }, accessFlags := 1, code := some k0c0 }
def k0m1 : Method := { name := "clone", desc := "()Ljava/lang/Object;", sig := { parameters := [], returnType := some (.object "java/lang/Object") }, accessFlags := 260, code := none }
/-- java/lang/Object -/
def k0 : Class := { plain "java/lang/Object" none with
  accessFlags := 33
  interfaces := #[]
  cf := some (fileOf pool0 8 #[] #[{ accessFlags := 1, nameIndex := 5, descriptorIndex := 6, attributes := #[] }, { accessFlags := 260, nameIndex := 96, descriptorIndex := 97, attributes := #[] }] 33 0 #[] #[])
  fields := #[]
  methods := #[k0m0, k0m1]
  instanceTypes := #[]
  staticTypes := #[]
  resolved := Array.replicate 124 none
  statics := none }

def pool1 : Array CpInfo := pool [(2, .class_ 4), (1, u "java/lang/Object"), (0, u "<init>"), (0, u "()V"), (0, .methodref 8 9), (0, .class_ 10), (0, .nameAndType 11 12), (0, u "com/example/lendloop/lendloop/core/TransactionRoleFromWireNamePinLaw"), (0, u "shortOne"), (0, u "(ICC)[C"), (0, .methodref 8 14), (0, .nameAndType 15 16), (0, u "named"), (0, u "(IIC)[C"), (0, .integer 2147483647), (0, .class_ 19), (0, u "java/lang/String"), (0, .methodref 18 21), (0, .nameAndType 5 22), (0, u "([C)V"), (0, .methodref 8 24), (0, .nameAndType 25 26), (0, u "reference"), (0, u "(Ljava/lang/String;)Lcom/example/lendloop/lendloop/core/TransactionRole;"), (0, .methodref 28 29), (0, .class_ 30), (0, .nameAndType 31 32), (0, u "com/example/lendloop/lendloop/core/TransactionRole"), (0, u "fromWireName"), (0, u "(Ljava/lang/String;)Ljava/util/Optional;"), (0, .methodref 34 35), (0, .class_ 36), (0, .nameAndType 37 38), (0, u "java/util/Optional"), (0, u "orElse"), (0, u "(Ljava/lang/Object;)Ljava/lang/Object;"), (0, .string 40), (0, u "LENDER"), (0, .methodref 18 42), (0, .nameAndType 43 44), (0, u "equals"), (0, u "(Ljava/lang/Object;)Z"), (0, .fieldref 28 46), (0, .nameAndType 40 47), (0, u "Lcom/example/lendloop/lendloop/core/TransactionRole;"), (0, .string 49), (0, u "BORROWER"), (0, .fieldref 28 51), (0, .nameAndType 49 47), (0, .string 53), (0, u "PICKUP"), (0, .fieldref 28 55), (0, .nameAndType 53 47), (0, .string 57), (0, u "BORROWING-PICKUP"), (0, .fieldref 28 59), (0, .nameAndType 60 47), (0, u "BORROWING_PICKUP"), (2, u "law"), (0, u "(IIII)Z")] 5

def k1m0 : Method := { name := "<init>", desc := "()V", sig := { parameters := [], returnType := none }, accessFlags := 1, code := none }
def k1c1 : Code := { maxStack := 3, maxLocals := 13, code := code, exceptionTable := #[], attributes := #[] }
def k1m1 : Method := { name := "law", desc := "(IIII)Z", sig := { parameters := [.int, .int, .int, .int], returnType := some .boolean }, accessFlags := 9, code := some k1c1 }
def k1c2 : Code := { maxStack := 2, maxLocals := 1, code := method_3_code, exceptionTable := #[], attributes := #[] }
def k1m2 : Method := { name := "reference", desc := "(Ljava/lang/String;)Lcom/example/lendloop/lendloop/core/TransactionRole;", sig := { parameters := [(.object "java/lang/String")], returnType := some (.object "com/example/lendloop/lendloop/core/TransactionRole") }, accessFlags := 10, code := some k1c2 }
def k1c3 : Code := { maxStack := 4, maxLocals := 3, code := method_4_code, exceptionTable := #[], attributes := #[] }
def k1m3 : Method := { name := "shortOne", desc := "(ICC)[C", sig := { parameters := [.int, .char, .char], returnType := some (.array .char) }, accessFlags := 10, code := some k1c3 }
def k1c4 : Code := { maxStack := 4, maxLocals := 3, code := method_5_code, exceptionTable := #[], attributes := #[] }
def k1m4 : Method := { name := "named", desc := "(IIC)[C", sig := { parameters := [.int, .int, .char], returnType := some (.array .char) }, accessFlags := 10, code := some k1c4 }
/-- com/example/lendloop/lendloop/core/TransactionRoleFromWireNamePinLaw -/
def k1 : Class := { plain "com/example/lendloop/lendloop/core/TransactionRoleFromWireNamePinLaw" (some 0) with
  accessFlags := 49
  interfaces := #[]
  cf := some (fileOf pool1 8 #[] #[{ accessFlags := 1, nameIndex := 5, descriptorIndex := 6, attributes := #[] }, { accessFlags := 9, nameIndex := 63, descriptorIndex := 64, attributes := #[] }, { accessFlags := 10, nameIndex := 25, descriptorIndex := 26, attributes := #[] }, { accessFlags := 10, nameIndex := 11, descriptorIndex := 12, attributes := #[] }, { accessFlags := 10, nameIndex := 15, descriptorIndex := 16, attributes := #[] }] 49 2 #[] #[])
  fields := #[]
  methods := #[k1m0, k1m1, k1m2, k1m3, k1m4]
  instanceTypes := #[]
  staticTypes := #[]
  resolved := Array.replicate 70 none
  statics := none }

def pool2 : Array CpInfo := pool [(1, .class_ 2), (0, u "java/io/Serializable"), (0, .class_ 4), (0, u "java/lang/Object")] 2

/-- java/io/Serializable -/
def k2 : Class := { plain "java/io/Serializable" (some 0) with
  accessFlags := 1537
  interfaces := #[]
  cf := some (fileOf pool2 1 #[] #[] 1537 3 #[] #[])
  fields := #[]
  methods := #[]
  instanceTypes := #[]
  staticTypes := #[]
  resolved := Array.replicate 7 none
  statics := none }

def pool3 : Array CpInfo := pool [(1, .class_ 2), (0, u "java/lang/Comparable"), (0, .class_ 4), (0, u "java/lang/Object")] 7

/-- java/lang/Comparable -/
def k3 : Class := { plain "java/lang/Comparable" (some 0) with
  accessFlags := 1537
  interfaces := #[]
  cf := some (fileOf pool3 1 #[] #[] 1537 3 #[] #[])
  fields := #[]
  methods := #[]
  instanceTypes := #[]
  staticTypes := #[]
  resolved := Array.replicate 12 none
  statics := none }

def pool4 : Array CpInfo := pool [(2, .class_ 4), (1, u "java/lang/CharSequence"), (42, .class_ 48), (0, u "java/lang/CharSequence$1CodePointIterator"), (10, .class_ 60), (0, u "java/lang/CharSequence$1CharIterator"), (5, .class_ 67), (0, u "java/lang/Object")] 63

/-- java/lang/CharSequence -/
def k4 : Class := { plain "java/lang/CharSequence" (some 0) with
  accessFlags := 1537
  interfaces := #[]
  cf := some (fileOf pool4 2 #[.nestMembers #[47, 59]] #[] 1537 66 #[] #[])
  fields := #[]
  methods := #[]
  instanceTypes := #[]
  staticTypes := #[]
  resolved := Array.replicate 131 none
  statics := none }

def pool5 : Array CpInfo := pool [(1, .class_ 2), (0, u "java/lang/constant/Constable"), (0, .class_ 4), (0, u "java/lang/Object")] 6

/-- java/lang/constant/Constable -/
def k5 : Class := { plain "java/lang/constant/Constable" (some 0) with
  accessFlags := 1537
  interfaces := #[]
  cf := some (fileOf pool5 1 #[] #[] 1537 3 #[] #[])
  fields := #[]
  methods := #[]
  instanceTypes := #[]
  staticTypes := #[]
  resolved := Array.replicate 11 none
  statics := none }

def pool6 : Array CpInfo := pool [(1, .class_ 2), (0, u "java/lang/constant/ConstantDesc"), (0, .class_ 4), (0, u "java/lang/Object")] 32

/-- java/lang/constant/ConstantDesc -/
def k6 : Class := { plain "java/lang/constant/ConstantDesc" (some 0) with
  accessFlags := 1537
  interfaces := #[]
  cf := some (fileOf pool6 1 #[] #[] 1537 3 #[] #[])
  fields := #[]
  methods := #[]
  instanceTypes := #[]
  staticTypes := #[]
  resolved := Array.replicate 37 none
  statics := none }

def pool7 : Array CpInfo := pool [(1, .methodref 2 3), (0, .class_ 4), (0, .nameAndType 5 6), (0, u "java/lang/Object"), (0, u "<init>"), (0, u "()V"), (0, .string 8), (0, u ""), (0, .fieldref 10 11), (0, .class_ 12), (0, .nameAndType 13 14), (0, u "java/lang/String"), (0, u "value"), (0, u "[B"), (0, .fieldref 10 16), (0, .nameAndType 17 18), (0, u "coder"), (0, u "B"), (2, u "hash"), (0, u "I"), (2, u "hashIsZero"), (0, u "Z"), (0, .methodref 10 28), (0, .nameAndType 5 29), (0, u "([CIILjava/lang/Void;)V"), (8, .fieldref 10 39), (0, .nameAndType 40 26), (0, u "COMPACT_STRINGS"), (1, .class_ 44), (1, u "java/lang/StringUTF16"), (0, u "compress"), (1, .methodref 42 48), (0, .nameAndType 49 50), (0, u "coderFromArrayLen"), (0, u "([BI)B"), (56, .class_ 109), (1, u "java/lang/StringLatin1"), (67, .methodref 42 178), (0, .nameAndType 45 179), (0, u "([CII)[B"), (361, .methodref 107 542), (0, .nameAndType 543 544), (0, u "equals"), (0, u "([B[B)Z"), (28, u "(Ljava/lang/Object;)Z"), (1, .class_ 576), (0, u "java/lang/CharSequence"), (22, u "CASE_INSENSITIVE_ORDER"), (0, u "Ljava/util/Comparator;"), (409, u "([C)V"), (90, u "serialPersistentFields"), (0, u "[Ljava/io/ObjectStreamField;"), (0, .class_ 1104), (0, u "java/lang/String$CaseInsensitiveComparator"), (1, .class_ 1107), (0, u "java/io/Serializable"), (0, .class_ 1109), (0, u "java/lang/Comparable"), (0, .class_ 1111), (0, u "java/lang/constant/Constable"), (0, .class_ 1113), (0, u "java/lang/constant/ConstantDesc"), (2, u "serialVersionUID"), (0, u "J"), (3, u "REPL"), (0, u "C"), (2, u "LATIN1"), (1, u "UTF16")] 323

def k7m0 : Method := { name := "<init>", desc := "()V", sig := { parameters := [], returnType := none }, accessFlags := 1, code := none }
def k7c1 : Code := { maxStack := 5, maxLocals := 2, code := jdk_42_method_3_code, exceptionTable := #[], attributes := #[] }
def k7m1 : Method := { name := "<init>", desc := "([C)V", sig := { parameters := [(.array .char)], returnType := none }, accessFlags := 1, code := some k7c1 }
def k7c2 : Code := { maxStack := 2, maxLocals := 3, code := jdk_42_method_66_code, exceptionTable := #[], attributes := #[] }
def k7m2 : Method := { name := "equals", desc := "(Ljava/lang/Object;)Z", sig := { parameters := [(.object "java/lang/Object")], returnType := some .boolean }, accessFlags := 1, code := some k7c2 }
def k7c3 : Code := { maxStack := 4, maxLocals := 6, code := jdk_42_method_149_code, exceptionTable := #[], attributes := #[] }
def k7m3 : Method := { name := "<init>", desc := "([CIILjava/lang/Void;)V", sig := { parameters := [(.array .char), .int, .int, (.object "java/lang/Void")], returnType := none }, accessFlags := 2, code := some k7c3 }
/-- java/lang/String -/
def k7 : Class := { plain "java/lang/String" (some 0) with
  accessFlags := 49
  interfaces := #[2, 3, 4, 5, 6]
  cf := some (fileOf pool7 10 #[.nestMembers #[1103]] #[{ accessFlags := 1, nameIndex := 5, descriptorIndex := 6, attributes := #[] }, { accessFlags := 1, nameIndex := 5, descriptorIndex := 1010, attributes := #[] }, { accessFlags := 1, nameIndex := 543, descriptorIndex := 573, attributes := #[] }, { accessFlags := 2, nameIndex := 5, descriptorIndex := 29, attributes := #[] }] 49 2 #[1106, 1108, 575, 1110, 1112] #[{ accessFlags := 18, nameIndex := 13, descriptorIndex := 14, attributes := #[] }, { accessFlags := 18, nameIndex := 17, descriptorIndex := 18, attributes := #[] }, { accessFlags := 2, nameIndex := 21, descriptorIndex := 22, attributes := #[] }, { accessFlags := 2, nameIndex := 25, descriptorIndex := 26, attributes := #[] }, { accessFlags := 26, nameIndex := 1116, descriptorIndex := 1117, attributes := #[] }, { accessFlags := 24, nameIndex := 40, descriptorIndex := 26, attributes := #[] }, { accessFlags := 26, nameIndex := 1101, descriptorIndex := 1102, attributes := #[] }, { accessFlags := 26, nameIndex := 1121, descriptorIndex := 1122, attributes := #[] }, { accessFlags := 25, nameIndex := 599, descriptorIndex := 600, attributes := #[] }, { accessFlags := 24, nameIndex := 1125, descriptorIndex := 18, attributes := #[] }, { accessFlags := 24, nameIndex := 1127, descriptorIndex := 18, attributes := #[] }])
  fields := #[{ name := "value", type := (.array .byte), accessFlags := 18, slot := 0, constantValue := 0 }, { name := "coder", type := .byte, accessFlags := 18, slot := 1, constantValue := 0 }, { name := "hash", type := .int, accessFlags := 2, slot := 2, constantValue := 0 }, { name := "hashIsZero", type := .boolean, accessFlags := 2, slot := 3, constantValue := 0 }, { name := "serialVersionUID", type := .long, accessFlags := 26, slot := 0, constantValue := 0 }, { name := "COMPACT_STRINGS", type := .boolean, accessFlags := 24, slot := 1, constantValue := 0 }, { name := "serialPersistentFields", type := (.array (.object "java/io/ObjectStreamField")), accessFlags := 26, slot := 2, constantValue := 0 }, { name := "REPL", type := .char, accessFlags := 26, slot := 3, constantValue := 0 }, { name := "CASE_INSENSITIVE_ORDER", type := (.object "java/util/Comparator"), accessFlags := 25, slot := 4, constantValue := 0 }, { name := "LATIN1", type := .byte, accessFlags := 24, slot := 5, constantValue := 0 }, { name := "UTF16", type := .byte, accessFlags := 24, slot := 6, constantValue := 0 }]
  methods := #[k7m0, k7m1, k7m2, k7m3]
  instanceTypes := #[(.array .byte), .byte, .int, .boolean]
  staticTypes := #[.long, .boolean, (.array (.object "java/io/ObjectStreamField")), .char, (.object "java/util/Comparator"), .byte, .byte]
  resolved := Array.replicate 1451 none
  statics := some 0 }

def pool8 : Array CpInfo := pool [(6, .class_ 8), (1, u "java/lang/Object"), (0, u "<init>"), (0, u "()V"), (1, .class_ 14), (1, u "java/lang/StringUTF16"), (31, u "$assertionsDisabled"), (0, u "Z"), (13, u "HI_BYTE_SHIFT"), (0, u "I"), (2, u "LO_BYTE_SHIFT"), (49, .methodref 12 116), (0, .nameAndType 117 118), (0, u "compress"), (0, u "([CI[BII)I"), (3, u "([CII)[B"), (138, u "coderFromArrayLen"), (0, u "([BI)B"), (106, .class_ 371), (1, u "java/lang/StringUTF16$LinesSpliterator"), (58, u "MAX_LENGTH"), (196, .class_ 628), (0, u "java/lang/StringUTF16$CodePointsSpliterator"), (0, .class_ 630), (0, u "java/lang/StringUTF16$CharsSpliterator")] 4

def k8m0 : Method := { name := "<init>", desc := "()V", sig := { parameters := [], returnType := none }, accessFlags := 0, code := none }
def k8c1 : Code := { maxStack := 2, maxLocals := 2, code := jdk_52_method_15_code, exceptionTable := #[], attributes := #[] }
def k8m1 : Method := { name := "coderFromArrayLen", desc := "([BI)B", sig := { parameters := [(.array .byte), .int], returnType := some .byte }, accessFlags := 8, code := some k8c1 }
def k8c2 : Code := { maxStack := 5, maxLocals := 6, code := jdk_52_method_16_code, exceptionTable := #[], attributes := #[] }
def k8m2 : Method := { name := "compress", desc := "([CII)[B", sig := { parameters := [(.array .char), .int, .int], returnType := some (.array .byte) }, accessFlags := 9, code := some k8c2 }
def k8c3 : Code := { maxStack := 3, maxLocals := 7, code := jdk_52_method_21_code, exceptionTable := #[], attributes := #[] }
def k8m3 : Method := { name := "compress", desc := "([CI[BII)I", sig := { parameters := [(.array .char), .int, (.array .byte), .int, .int], returnType := some .int }, accessFlags := 9, code := some k8c3 }
/-- java/lang/StringUTF16 -/
def k8 : Class := { plain "java/lang/StringUTF16" (some 0) with
  accessFlags := 48
  interfaces := #[]
  cf := some (fileOf pool8 12 #[.nestMembers #[627, 629, 369]] #[{ accessFlags := 0, nameIndex := 9, descriptorIndex := 10, attributes := #[] }, { accessFlags := 8, nameIndex := 261, descriptorIndex := 262, attributes := #[] }, { accessFlags := 9, nameIndex := 117, descriptorIndex := 122, attributes := #[] }, { accessFlags := 9, nameIndex := 117, descriptorIndex := 118, attributes := #[] }] 48 6 #[] #[{ accessFlags := 26, nameIndex := 61, descriptorIndex := 62, attributes := #[] }, { accessFlags := 26, nameIndex := 65, descriptorIndex := 62, attributes := #[] }, { accessFlags := 24, nameIndex := 430, descriptorIndex := 62, attributes := #[] }, { accessFlags := 4120, nameIndex := 46, descriptorIndex := 47, attributes := #[] }])
  fields := #[{ name := "HI_BYTE_SHIFT", type := .int, accessFlags := 26, slot := 0, constantValue := 0 }, { name := "LO_BYTE_SHIFT", type := .int, accessFlags := 26, slot := 1, constantValue := 0 }, { name := "MAX_LENGTH", type := .int, accessFlags := 24, slot := 2, constantValue := 0 }, { name := "$assertionsDisabled", type := .boolean, accessFlags := 4120, slot := 3, constantValue := 0 }]
  methods := #[k8m0, k8m1, k8m2, k8m3]
  instanceTypes := #[]
  staticTypes := #[.int, .int, .int, .boolean]
  resolved := Array.replicate 635 none
  statics := none }

def pool9 : Array CpInfo := pool [(4, .class_ 6), (1, u "java/lang/Object"), (0, u "<init>"), (0, u "()V"), (5, .class_ 16), (1, u "java/lang/StringLatin1"), (104, u "$assertionsDisabled"), (0, u "Z"), (98, .class_ 223), (1, u "java/lang/StringLatin1$LinesSpliterator"), (57, u "equals"), (0, u "([B[B)Z"), (107, .class_ 391), (0, u "java/lang/StringLatin1$CharsSpliterator")] 3

def k9m0 : Method := { name := "<init>", desc := "()V", sig := { parameters := [], returnType := none }, accessFlags := 0, code := none }
def k9c1 : Code := { maxStack := 3, maxLocals := 3, code := jdk_43_method_13_code, exceptionTable := #[], attributes := #[] }
def k9m1 : Method := { name := "equals", desc := "([B[B)Z", sig := { parameters := [(.array .byte), (.array .byte)], returnType := some .boolean }, accessFlags := 9, code := some k9c1 }
/-- java/lang/StringLatin1 -/
def k9 : Class := { plain "java/lang/StringLatin1" (some 0) with
  accessFlags := 48
  interfaces := #[]
  cf := some (fileOf pool9 14 #[.nestMembers #[390, 221]] #[{ accessFlags := 0, nameIndex := 7, descriptorIndex := 8, attributes := #[] }, { accessFlags := 9, nameIndex := 281, descriptorIndex := 282, attributes := #[] }] 48 4 #[] #[{ accessFlags := 4120, nameIndex := 121, descriptorIndex := 122, attributes := #[] }])
  fields := #[{ name := "$assertionsDisabled", type := .boolean, accessFlags := 4120, slot := 0, constantValue := 0 }]
  methods := #[k9m0, k9m1]
  instanceTypes := #[]
  staticTypes := #[.boolean]
  resolved := Array.replicate 395 none
  statics := none }

def pool10 : Array CpInfo := pool [(2, .class_ 4), (1, u "java/lang/Enum"), (0, u "name"), (0, u "Ljava/lang/String;"), (2, u "ordinal"), (0, u "I"), (1, .class_ 14), (1, u "java/lang/Object"), (4, u "hash"), (86, .class_ 108), (1, u "java/lang/Enum$EnumDesc"), (2, .class_ 112), (0, u "java/lang/constant/Constable"), (0, .class_ 114), (0, u "java/lang/Comparable"), (0, .class_ 116), (0, u "java/io/Serializable")] 87

/-- java/lang/Enum -/
def k10 : Class := { plain "java/lang/Enum" (some 0) with
  accessFlags := 1057
  interfaces := #[5, 3, 2]
  cf := some (fileOf pool10 2 #[.nestMembers #[106]] #[] 1057 12 #[111, 113, 115] #[{ accessFlags := 18, nameIndex := 5, descriptorIndex := 6, attributes := #[] }, { accessFlags := 18, nameIndex := 9, descriptorIndex := 10, attributes := #[] }, { accessFlags := 2, nameIndex := 19, descriptorIndex := 10, attributes := #[] }])
  fields := #[{ name := "name", type := (.object "java/lang/String"), accessFlags := 18, slot := 0, constantValue := 0 }, { name := "ordinal", type := .int, accessFlags := 18, slot := 1, constantValue := 0 }, { name := "hash", type := .int, accessFlags := 2, slot := 2, constantValue := 0 }]
  methods := #[]
  instanceTypes := #[(.object "java/lang/String"), .int, .int]
  staticTypes := #[]
  resolved := Array.replicate 204 none
  statics := none }

def pool11 : Array CpInfo := pool [(1, .class_ 2), (0, u "com/example/lendloop/lendloop/core/TransactionRole"), (2, u "LENDER"), (0, u "Lcom/example/lendloop/lendloop/core/TransactionRole;"), (2, u "BORROWER"), (2, u "PICKUP"), (2, u "BORROWING_PICKUP"), (0, .fieldref 1 17), (0, .nameAndType 18 19), (0, u "$VALUES"), (0, u "[Lcom/example/lendloop/lendloop/core/TransactionRole;"), (0, .methodref 21 22), (0, .class_ 19), (0, .nameAndType 23 24), (0, u "clone"), (0, u "()Ljava/lang/Object;"), (1, .class_ 28), (1, u "java/lang/Enum"), (6, .fieldref 1 36), (0, .nameAndType 37 38), (0, u "wireName"), (0, u "Ljava/lang/String;"), (0, .methodref 1 40), (0, .nameAndType 41 42), (0, u "values"), (0, u "()[Lcom/example/lendloop/lendloop/core/TransactionRole;"), (0, .methodref 44 45), (0, .class_ 46), (0, .nameAndType 47 48), (0, u "java/lang/String"), (0, u "equals"), (0, u "(Ljava/lang/Object;)Z"), (0, .methodref 50 51), (0, .class_ 52), (0, .nameAndType 53 54), (0, u "java/util/Optional"), (0, u "of"), (0, u "(Ljava/lang/Object;)Ljava/util/Optional;"), (0, .methodref 50 56), (0, .nameAndType 57 58), (0, u "empty"), (0, u "()Ljava/util/Optional;"), (19, u "fromWireName"), (0, u "(Ljava/lang/String;)Ljava/util/Optional;")] 7

def k11c0 : Code := { maxStack := 1, maxLocals := 0, code := prog_38_method_1_code, exceptionTable := #[], attributes := #[] }
def k11m0 : Method := { name := "values", desc := "()[Lcom/example/lendloop/lendloop/core/TransactionRole;", sig := { parameters := [], returnType := some (.array (.object "com/example/lendloop/lendloop/core/TransactionRole")) }, accessFlags := 9, code := some k11c0 }
def k11c1 : Code := { maxStack := 2, maxLocals := 5, code := prog_38_method_5_code, exceptionTable := #[], attributes := #[] }
def k11m1 : Method := { name := "fromWireName", desc := "(Ljava/lang/String;)Ljava/util/Optional;", sig := { parameters := [(.object "java/lang/String")], returnType := some (.object "java/util/Optional") }, accessFlags := 9, code := some k11c1 }
/-- com/example/lendloop/lendloop/core/TransactionRole -/
def k11 : Class := { plain "com/example/lendloop/lendloop/core/TransactionRole" (some 10) with
  accessFlags := 16433
  interfaces := #[]
  cf := some (fileOf pool11 1 #[] #[{ accessFlags := 9, nameIndex := 41, descriptorIndex := 42, attributes := #[] }, { accessFlags := 9, nameIndex := 78, descriptorIndex := 79, attributes := #[] }] 16433 26 #[] #[{ accessFlags := 16409, nameIndex := 5, descriptorIndex := 6, attributes := #[] }, { accessFlags := 16409, nameIndex := 9, descriptorIndex := 6, attributes := #[] }, { accessFlags := 16409, nameIndex := 12, descriptorIndex := 6, attributes := #[] }, { accessFlags := 16409, nameIndex := 15, descriptorIndex := 6, attributes := #[] }, { accessFlags := 18, nameIndex := 37, descriptorIndex := 38, attributes := #[] }, { accessFlags := 4122, nameIndex := 18, descriptorIndex := 19, attributes := #[] }])
  fields := #[{ name := "LENDER", type := (.object "com/example/lendloop/lendloop/core/TransactionRole"), accessFlags := 16409, slot := 0, constantValue := 0 }, { name := "BORROWER", type := (.object "com/example/lendloop/lendloop/core/TransactionRole"), accessFlags := 16409, slot := 1, constantValue := 0 }, { name := "PICKUP", type := (.object "com/example/lendloop/lendloop/core/TransactionRole"), accessFlags := 16409, slot := 2, constantValue := 0 }, { name := "BORROWING_PICKUP", type := (.object "com/example/lendloop/lendloop/core/TransactionRole"), accessFlags := 16409, slot := 3, constantValue := 0 }, { name := "wireName", type := (.object "java/lang/String"), accessFlags := 18, slot := 3, constantValue := 0 }, { name := "$VALUES", type := (.array (.object "com/example/lendloop/lendloop/core/TransactionRole")), accessFlags := 4122, slot := 4, constantValue := 0 }]
  methods := #[k11m0, k11m1]
  instanceTypes := #[(.object "java/lang/String"), .int, .int, (.object "java/lang/String")]
  staticTypes := #[(.object "com/example/lendloop/lendloop/core/TransactionRole"), (.object "com/example/lendloop/lendloop/core/TransactionRole"), (.object "com/example/lendloop/lendloop/core/TransactionRole"), (.object "com/example/lendloop/lendloop/core/TransactionRole"), (.array (.object "com/example/lendloop/lendloop/core/TransactionRole"))]
  resolved := Array.replicate 87 none
  statics := some 1 }

def pool12 : Array CpInfo := pool [(1, .class_ 2), (0, u "java/lang/Cloneable"), (0, .class_ 4), (0, u "java/lang/Object")] 2

/-- java/lang/Cloneable -/
def k12 : Class := { plain "java/lang/Cloneable" (some 0) with
  accessFlags := 1537
  interfaces := #[]
  cf := some (fileOf pool12 1 #[] #[] 1537 3 #[] #[])
  fields := #[]
  methods := #[]
  instanceTypes := #[]
  staticTypes := #[]
  resolved := Array.replicate 7 none
  statics := none }

def pool13 : Array CpInfo := pool [(1, .fieldref 2 3), (0, .class_ 4), (0, .nameAndType 5 6), (0, u "java/util/Optional"), (0, u "EMPTY"), (0, u "Ljava/util/Optional;"), (0, .methodref 8 9), (0, .class_ 10), (0, .nameAndType 11 12), (0, u "java/lang/Object"), (0, u "<init>"), (0, u "()V"), (0, .fieldref 2 14), (0, .nameAndType 15 16), (0, u "value"), (0, u "Ljava/lang/Object;"), (0, .methodref 18 19), (0, .class_ 20), (0, .nameAndType 21 22), (0, u "java/util/Objects"), (0, u "requireNonNull"), (0, u "(Ljava/lang/Object;)Ljava/lang/Object;"), (0, .methodref 2 24), (0, .nameAndType 11 25), (0, u "(Ljava/lang/Object;)V"), (29, u "empty"), (0, u "()Ljava/util/Optional;"), (8, u "(Ljava/lang/Object;)Ljava/util/Optional;"), (16, u "of"), (82, u "orElse")] 21

def k13c0 : Code := { maxStack := 1, maxLocals := 1, code := jdk_32_method_1_code, exceptionTable := #[], attributes := #[] }
def k13m0 : Method := { name := "empty", desc := "()Ljava/util/Optional;", sig := { parameters := [], returnType := some (.object "java/util/Optional") }, accessFlags := 9, code := some k13c0 }
def k13c1 : Code := { maxStack := 2, maxLocals := 2, code := jdk_32_method_2_code, exceptionTable := #[], attributes := #[] }
def k13m1 : Method := { name := "<init>", desc := "(Ljava/lang/Object;)V", sig := { parameters := [(.object "java/lang/Object")], returnType := none }, accessFlags := 2, code := some k13c1 }
def k13c2 : Code := { maxStack := 3, maxLocals := 1, code := jdk_32_method_3_code, exceptionTable := #[], attributes := #[] }
def k13m2 : Method := { name := "of", desc := "(Ljava/lang/Object;)Ljava/util/Optional;", sig := { parameters := [(.object "java/lang/Object")], returnType := some (.object "java/util/Optional") }, accessFlags := 9, code := some k13c2 }
def k13c3 : Code := { maxStack := 1, maxLocals := 2, code := jdk_32_method_15_code, exceptionTable := #[], attributes := #[] }
def k13m3 : Method := { name := "orElse", desc := "(Ljava/lang/Object;)Ljava/lang/Object;", sig := { parameters := [(.object "java/lang/Object")], returnType := some (.object "java/lang/Object") }, accessFlags := 1, code := some k13c3 }
/-- java/util/Optional -/
def k13 : Class := { plain "java/util/Optional" (some 0) with
  accessFlags := 49
  interfaces := #[]
  cf := some (fileOf pool13 2 #[] #[{ accessFlags := 9, nameIndex := 55, descriptorIndex := 56, attributes := #[] }, { accessFlags := 2, nameIndex := 11, descriptorIndex := 25, attributes := #[] }, { accessFlags := 9, nameIndex := 82, descriptorIndex := 65, attributes := #[] }, { accessFlags := 1, nameIndex := 165, descriptorIndex := 22, attributes := #[] }] 49 8 #[] #[{ accessFlags := 26, nameIndex := 5, descriptorIndex := 6, attributes := #[] }, { accessFlags := 18, nameIndex := 15, descriptorIndex := 16, attributes := #[] }])
  fields := #[{ name := "EMPTY", type := (.object "java/util/Optional"), accessFlags := 26, slot := 0, constantValue := 0 }, { name := "value", type := (.object "java/lang/Object"), accessFlags := 18, slot := 0, constantValue := 0 }]
  methods := #[k13m0, k13m1, k13m2, k13m3]
  instanceTypes := #[(.object "java/lang/Object")]
  staticTypes := #[(.object "java/util/Optional")]
  resolved := Array.replicate 187 none
  statics := some 2 }

def pool14 : Array CpInfo := pool [(2, .class_ 4), (1, u "java/lang/Object"), (0, u "<init>"), (0, u "()V"), (35, .class_ 44), (1, u "java/util/Objects"), (0, u "requireNonNull"), (0, u "(Ljava/lang/Object;)Ljava/lang/Object;")] 137

def k14m0 : Method := { name := "<init>", desc := "()V", sig := { parameters := [], returnType := none }, accessFlags := 2, code := none }
def k14c1 : Code := { maxStack := 2, maxLocals := 1, code := jdk_31_method_10_code, exceptionTable := #[], attributes := #[] }
def k14m1 : Method := { name := "requireNonNull", desc := "(Ljava/lang/Object;)Ljava/lang/Object;", sig := { parameters := [(.object "java/lang/Object")], returnType := some (.object "java/lang/Object") }, accessFlags := 9, code := some k14c1 }
/-- java/util/Objects -/
def k14 : Class := { plain "java/util/Objects" (some 0) with
  accessFlags := 49
  interfaces := #[]
  cf := some (fileOf pool14 42 #[] #[{ accessFlags := 2, nameIndex := 5, descriptorIndex := 6, attributes := #[] }, { accessFlags := 9, nameIndex := 45, descriptorIndex := 46, attributes := #[] }] 49 2 #[] #[])
  fields := #[]
  methods := #[k14m0, k14m1]
  instanceTypes := #[]
  staticTypes := #[]
  resolved := Array.replicate 184 none
  statics := none }

def pool15 : Array CpInfo := pool [(2, .class_ 4), (1, u "java/lang/Object"), (0, u "<init>"), (0, u "()V"), (17, .class_ 26), (1, u "jdk/internal/util/Preconditions"), (28, .class_ 56), (0, u "jdk/internal/util/Preconditions$4"), (57, .class_ 115), (0, u "jdk/internal/util/Preconditions$1"), (7, u "SIOOBE_FORMATTER"), (0, u "Ljava/util/function/BiFunction;"), (0, .class_ 126), (0, u "jdk/internal/util/Preconditions$2"), (3, u "AIOOBE_FORMATTER"), (0, .class_ 132), (0, u "jdk/internal/util/Preconditions$3"), (3, u "IOOBE_FORMATTER")] 57

def k15m0 : Method := { name := "<init>", desc := "()V", sig := { parameters := [], returnType := none }, accessFlags := 1, code := none }
/-- jdk/internal/util/Preconditions -/
def k15 : Class := { plain "jdk/internal/util/Preconditions" (some 0) with
  accessFlags := 33
  interfaces := #[]
  cf := some (fileOf pool15 24 #[.nestMembers #[55, 131, 125, 114]] #[{ accessFlags := 1, nameIndex := 5, descriptorIndex := 6, attributes := #[] }] 33 2 #[] #[{ accessFlags := 25, nameIndex := 123, descriptorIndex := 124, attributes := #[] }, { accessFlags := 25, nameIndex := 130, descriptorIndex := 124, attributes := #[] }, { accessFlags := 25, nameIndex := 136, descriptorIndex := 124, attributes := #[] }])
  fields := #[{ name := "SIOOBE_FORMATTER", type := (.object "java/util/function/BiFunction"), accessFlags := 25, slot := 0, constantValue := 0 }, { name := "AIOOBE_FORMATTER", type := (.object "java/util/function/BiFunction"), accessFlags := 25, slot := 1, constantValue := 0 }, { name := "IOOBE_FORMATTER", type := (.object "java/util/function/BiFunction"), accessFlags := 25, slot := 2, constantValue := 0 }]
  methods := #[k15m0]
  instanceTypes := #[]
  staticTypes := #[(.object "java/util/function/BiFunction"), (.object "java/util/function/BiFunction"), (.object "java/util/function/BiFunction")]
  resolved := Array.replicate 194 none
  statics := some 3 }

def pool16 : Array CpInfo := pool [(9, u "<init>"), (6, .class_ 18), (1, u "java/lang/Object"), (0, u "()V"), (1, .class_ 23), (1, u "jdk/internal/util/ArraysSupport"), (0, u "LOG2_ARRAY_LONG_INDEX_SCALE"), (0, u "I"), (2, u "U"), (0, u "Ljdk/internal/misc/Unsafe;"), (8, u "BIG_ENDIAN"), (0, u "Z"), (8, u "LOG2_BYTE_BIT_SIZE"), (4, u "LOG2_ARRAY_INT_INDEX_SCALE"), (54, u "JLA"), (0, u "Ljdk/internal/access/JavaLangAccess;"), (11, u "LOG2_ARRAY_BOOLEAN_INDEX_SCALE"), (9, u "LOG2_ARRAY_BYTE_INDEX_SCALE"), (5, u "LOG2_ARRAY_CHAR_INDEX_SCALE"), (5, u "LOG2_ARRAY_SHORT_INDEX_SCALE"), (18, u "LOG2_ARRAY_FLOAT_INDEX_SCALE"), (24, u "LOG2_ARRAY_DOUBLE_INDEX_SCALE"), (89, u "T_BOOLEAN"), (2, u "T_CHAR"), (1, u "T_FLOAT"), (1, u "T_DOUBLE"), (1, u "T_BYTE"), (1, u "T_SHORT"), (1, u "T_INT"), (1, u "T_LONG"), (1, u "SOFT_MAX_ARRAY_LENGTH")] 83

def k16m0 : Method := { name := "<init>", desc := "()V", sig := { parameters := [], returnType := none }, accessFlags := 2, code := none }
/-- jdk/internal/util/ArraysSupport -/
def k16 : Class := { plain "jdk/internal/util/ArraysSupport" (some 0) with
  accessFlags := 33
  interfaces := #[]
  cf := some (fileOf pool16 21 #[] #[{ accessFlags := 2, nameIndex := 9, descriptorIndex := 19, attributes := #[] }] 33 16 #[] #[{ accessFlags := 24, nameIndex := 28, descriptorIndex := 29, attributes := #[] }, { accessFlags := 26, nameIndex := 38, descriptorIndex := 39, attributes := #[] }, { accessFlags := 25, nameIndex := 121, descriptorIndex := 25, attributes := #[] }, { accessFlags := 25, nameIndex := 131, descriptorIndex := 25, attributes := #[] }, { accessFlags := 25, nameIndex := 137, descriptorIndex := 25, attributes := #[] }, { accessFlags := 25, nameIndex := 143, descriptorIndex := 25, attributes := #[] }, { accessFlags := 25, nameIndex := 53, descriptorIndex := 25, attributes := #[] }, { accessFlags := 25, nameIndex := 24, descriptorIndex := 25, attributes := #[] }, { accessFlags := 25, nameIndex := 162, descriptorIndex := 25, attributes := #[] }, { accessFlags := 25, nameIndex := 187, descriptorIndex := 25, attributes := #[] }, { accessFlags := 26, nameIndex := 48, descriptorIndex := 25, attributes := #[] }, { accessFlags := 25, nameIndex := 277, descriptorIndex := 25, attributes := #[] }, { accessFlags := 25, nameIndex := 280, descriptorIndex := 25, attributes := #[] }, { accessFlags := 25, nameIndex := 282, descriptorIndex := 25, attributes := #[] }, { accessFlags := 25, nameIndex := 284, descriptorIndex := 25, attributes := #[] }, { accessFlags := 25, nameIndex := 286, descriptorIndex := 25, attributes := #[] }, { accessFlags := 25, nameIndex := 288, descriptorIndex := 25, attributes := #[] }, { accessFlags := 25, nameIndex := 290, descriptorIndex := 25, attributes := #[] }, { accessFlags := 25, nameIndex := 292, descriptorIndex := 25, attributes := #[] }, { accessFlags := 26, nameIndex := 108, descriptorIndex := 109, attributes := #[] }, { accessFlags := 25, nameIndex := 294, descriptorIndex := 25, attributes := #[] }])
  fields := #[{ name := "U", type := (.object "jdk/internal/misc/Unsafe"), accessFlags := 24, slot := 0, constantValue := 0 }, { name := "BIG_ENDIAN", type := .boolean, accessFlags := 26, slot := 1, constantValue := 0 }, { name := "LOG2_ARRAY_BOOLEAN_INDEX_SCALE", type := .int, accessFlags := 25, slot := 2, constantValue := 0 }, { name := "LOG2_ARRAY_BYTE_INDEX_SCALE", type := .int, accessFlags := 25, slot := 3, constantValue := 0 }, { name := "LOG2_ARRAY_CHAR_INDEX_SCALE", type := .int, accessFlags := 25, slot := 4, constantValue := 0 }, { name := "LOG2_ARRAY_SHORT_INDEX_SCALE", type := .int, accessFlags := 25, slot := 5, constantValue := 0 }, { name := "LOG2_ARRAY_INT_INDEX_SCALE", type := .int, accessFlags := 25, slot := 6, constantValue := 0 }, { name := "LOG2_ARRAY_LONG_INDEX_SCALE", type := .int, accessFlags := 25, slot := 7, constantValue := 0 }, { name := "LOG2_ARRAY_FLOAT_INDEX_SCALE", type := .int, accessFlags := 25, slot := 8, constantValue := 0 }, { name := "LOG2_ARRAY_DOUBLE_INDEX_SCALE", type := .int, accessFlags := 25, slot := 9, constantValue := 0 }, { name := "LOG2_BYTE_BIT_SIZE", type := .int, accessFlags := 26, slot := 10, constantValue := 0 }, { name := "T_BOOLEAN", type := .int, accessFlags := 25, slot := 11, constantValue := 0 }, { name := "T_CHAR", type := .int, accessFlags := 25, slot := 12, constantValue := 0 }, { name := "T_FLOAT", type := .int, accessFlags := 25, slot := 13, constantValue := 0 }, { name := "T_DOUBLE", type := .int, accessFlags := 25, slot := 14, constantValue := 0 }, { name := "T_BYTE", type := .int, accessFlags := 25, slot := 15, constantValue := 0 }, { name := "T_SHORT", type := .int, accessFlags := 25, slot := 16, constantValue := 0 }, { name := "T_INT", type := .int, accessFlags := 25, slot := 17, constantValue := 0 }, { name := "T_LONG", type := .int, accessFlags := 25, slot := 18, constantValue := 0 }, { name := "JLA", type := (.object "jdk/internal/access/JavaLangAccess"), accessFlags := 26, slot := 19, constantValue := 0 }, { name := "SOFT_MAX_ARRAY_LENGTH", type := .int, accessFlags := 25, slot := 20, constantValue := 0 }]
  methods := #[k16m0]
  instanceTypes := #[]
  staticTypes := #[(.object "jdk/internal/misc/Unsafe"), .boolean, .int, .int, .int, .int, .int, .int, .int, .int, .int, .int, .int, .int, .int, .int, .int, .int, .int, (.object "jdk/internal/access/JavaLangAccess"), .int]
  resolved := Array.replicate 378 none
  statics := none }

/-- the primitive byte -/
def k17 : Class := { plain "byte" none with kind := .primitive 'B', accessFlags := 0x411 }
/-- [B -/
def k18 : Class := { plain "[B" (some 0) with kind := .array 17 .byte, interfaces := #[12, 2], accessFlags := 1041 }

/-- the primitive char -/
def k19 : Class := { plain "char" none with kind := .primitive 'C', accessFlags := 0x411 }
/-- [C -/
def k20 : Class := { plain "[C" (some 0) with kind := .array 19 .char, interfaces := #[12, 2], accessFlags := 1041 }

/-- the primitive int -/
def k21 : Class := { plain "int" none with kind := .primitive 'I', accessFlags := 0x411 }
/-- [I -/
def k22 : Class := { plain "[I" (some 0) with kind := .array 21 .int, interfaces := #[12, 2], accessFlags := 1041 }

/-- [Lcom/example/lendloop/lendloop/core/TransactionRole; -/
def k23 : Class := { plain "[Lcom/example/lendloop/lendloop/core/TransactionRole;" (some 0) with kind := .array 11 (.object "com/example/lendloop/lendloop/core/TransactionRole"), interfaces := #[12, 2], accessFlags := 1041 }

def heap : Heap := #[{ cls := 7, slots := #[.long 0, .int 1, .null, .int 0, .null, .int 0, .int 0], vm := .statics 7 },
  { cls := 11, slots := #[.ref 5, .ref 6, .ref 7, .ref 8, .ref 4], vm := .statics 11 },
  { cls := 13, slots := #[.ref 17], vm := .statics 13 },
  { cls := 15, slots := #[.null, .null, .null], vm := .statics 15 },
  { cls := 23, slots := #[.ref 5, .ref 6, .ref 7, .ref 8], vm := .none },
  { cls := 11, slots := #[.null, .int 0, .int 0, .ref 9], vm := .none },
  { cls := 11, slots := #[.null, .int 1, .int 0, .ref 10], vm := .none },
  { cls := 11, slots := #[.null, .int 2, .int 0, .ref 11], vm := .none },
  { cls := 11, slots := #[.null, .int 3, .int 0, .ref 12], vm := .none },
  { cls := 7, slots := #[.ref 13, .int 0, .int 0, .int 0], vm := .none },
  { cls := 7, slots := #[.ref 14, .int 0, .int 0, .int 0], vm := .none },
  { cls := 7, slots := #[.ref 15, .int 0, .int 0, .int 0], vm := .none },
  { cls := 7, slots := #[.ref 16, .int 0, .int 0, .int 0], vm := .none },
  { cls := 18, slots := #[.int 76, .int 69, .int 78, .int 68, .int 69, .int 82], vm := .none },
  { cls := 18, slots := #[.int 66, .int 79, .int 82, .int 82, .int 79, .int 87, .int 69, .int 82], vm := .none },
  { cls := 18, slots := #[.int 80, .int 73, .int 67, .int 75, .int 85, .int 80], vm := .none },
  { cls := 18, slots := #[.int 66, .int 79, .int 82, .int 82, .int 79, .int 87, .int 73, .int 78, .int 71, .int 45, .int 80, .int 73, .int 67, .int 75, .int 85, .int 80], vm := .none },
  { cls := 13, slots := #[.null], vm := .none }]
def classes : Array Class := #[k0, k1, k2, k3, k4, k5, k6, k7, k8, k9, k10, k11, k12, k13, k14, k15, k16, k17, k18, k19, k20, k21, k22, k23]
def interned : List (Array UInt16 × Addr) := []
def slotsUsed : Nat := 89
def theMethod : MethodId := ⟨1, 1⟩
def args0 : Array Value := #[.int 5, .int 5, .int 5, .int 5]
def aboutOver (below : List Frame) : State where
  vm := { classes := classes, interned := interned.toArray }
  heap := heap
  slotsUsed := slotsUsed
  threads := #[{ frames := .invoking theMethod args0 :: below }]
def below0 : List Frame := [.native { method := ⟨0, 0⟩, args := #[] }]
def about1 : State := aboutOver below0
def p0 : Program := .bare "" "" ""
def e0 : Env := launch0.env 0 0 0
theorem w_frames : about1.frames = Frame.invoking theMethod args0 :: below0 := rfl
set_option maxRecDepth 65536 in
theorem w_args : argsFit about1.vm theMethod args0 = true := by decide +kernel
set_option maxRecDepth 65536 in
theorem w_heap : heapFits about1 = true := by decide +kernel
set_option maxRecDepth 65536 in
theorem w_runnable : about1.curStatus? = some .runnable := by decide +kernel
set_option maxRecDepth 65536 in
theorem w_alone : about1.alone = true := by decide +kernel
set_option maxRecDepth 65536 in
theorem w_named : about1.methodNamed? x = some theMethod := by decide +kernel
set_option maxRecDepth 65536 in
theorem w_hears : about1.hears theMethod below0 = true := by decide +kernel
set_option maxRecDepth 65536 in
theorem w_ripe : about1.ripe theMethod args0 below0 = true := by decide +kernel
theorem w_running : about1.status = .running := rfl
set_option maxRecDepth 65536 in
theorem w_room : about1.hasRoom e0.platform room_1 = true :=
  launch0.hasRoom_least _ room_1 (by decide +kernel) (by decide +kernel) (by decide +kernel) (by decide +kernel) (by decide +kernel) (by decide +kernel)
theorem allAtoms_all (ts : List Jvm.Cond) (a : Array Jvm.Value) (st : Jvm.State) : (allAtoms ts).before a st = ts.all (fun c => c.before a st) := by
  induction ts with
  | nil => rfl
  | cons c t ih =>
    show (Jvm.Cond.and c (allAtoms t)).before a st = _
    rw [Jvm.Cond.before_and, ih, List.all_cons]
def words1 : List Jvm.Cond := Jvm.Cond.code x code maxLocals ret :: tables_1
/-- a 'code' word, met by the world's own term for the bytes: nothing is compared byte by byte -/
theorem code_word {y : MethodName} {bytes : ByteArray} {mx : Nat} {rt : Option FieldType} {a : Array Value} {s : State} {m : MethodId} {meth : Method} {c : Code} (h1 : s.methodNamed? y = some m) (h2 : s.vm.method? m = some meth) (h3 : meth.code = some c) (h4 : c.code = bytes)
    (h5 : (c.maxLocals == mx && c.exceptionTable.isEmpty && decide (c.maxStack ≤ mostOperands) && decide (meth.sig.returnType = rt) && !meth.locks && decide (parseMethodDescriptor y.desc = some meth.sig)) = true) : (Jvm.Cond.code y bytes mx rt).before a s = true := by
  simp only [Bool.and_eq_true, beq_iff_eq, Bool.not_eq_true', decide_eq_true_eq] at h5
  obtain ⟨⟨⟨⟨⟨g1, g2⟩, g3⟩, g4⟩, g5⟩, g6⟩ := h5
  simp [Cond.before, Cond.holds, Cond.value, h1, h2, h3, h4, g1, g2, g3, g4, g5, g6]
def isCode : Jvm.Cond → Bool
  | .code _ _ _ _ => true
  | _ => false
theorem all_split {L : List Jvm.Cond} {P : Jvm.Cond → Bool} (h1 : L.all (fun c => isCode c || P c) = true) (h2 : ∀ c ∈ L.filter isCode, P c = true) : L.all P = true := by
  refine List.all_eq_true.mpr fun c hc => ?_
  have h := List.all_eq_true.mp h1 c hc
  rcases Bool.eq_false_or_eq_true (isCode c) with hi | hi
  · exact h2 c (List.mem_filter.mpr ⟨hc, hi⟩)
  · simpa [hi] using h
set_option maxRecDepth 65536 in
theorem w_c0 : (Jvm.Cond.code x code maxLocals ret).before args0 about1 = true := code_word (m := ⟨1, 1⟩) (meth := k1m1) (c := k1c1) (by decide +kernel) rfl rfl rfl (by decide +kernel)
set_option maxRecDepth 65536 in
theorem w_c1 : (Jvm.Cond.code ({ cls := "com/example/lendloop/lendloop/core/TransactionRoleFromWireNamePinLaw", name := "named", desc := "(IIC)[C" } : Jvm.MethodName) method_5_code (3 : Nat) (Option.some (Jvm.ClassFile.FieldType.array Jvm.ClassFile.FieldType.char))).before args0 about1 = true := code_word (m := ⟨1, 4⟩) (meth := k1m4) (c := k1c4) (by decide +kernel) rfl rfl rfl (by decide +kernel)
set_option maxRecDepth 65536 in
theorem w_c2 : (Jvm.Cond.code ({ cls := "java/lang/String", name := "<init>", desc := "([C)V" } : Jvm.MethodName) jdk_42_method_3_code (2 : Nat) (Option.none : Option Jvm.ClassFile.FieldType)).before args0 about1 = true := code_word (m := ⟨7, 1⟩) (meth := k7m1) (c := k7c1) (by decide +kernel) rfl rfl rfl (by decide +kernel)
set_option maxRecDepth 65536 in
theorem w_c3 : (Jvm.Cond.code ({ cls := "java/lang/String", name := "<init>", desc := "([CIILjava/lang/Void;)V" } : Jvm.MethodName) jdk_42_method_149_code (6 : Nat) (Option.none : Option Jvm.ClassFile.FieldType)).before args0 about1 = true := code_word (m := ⟨7, 3⟩) (meth := k7m3) (c := k7c3) (by decide +kernel) rfl rfl rfl (by decide +kernel)
set_option maxRecDepth 65536 in
theorem w_c4 : (Jvm.Cond.code ({ cls := "java/lang/Object", name := "<init>", desc := "()V" } : Jvm.MethodName) object_method_1_code (1 : Nat) (Option.none : Option Jvm.ClassFile.FieldType)).before args0 about1 = true := code_word (m := ⟨0, 0⟩) (meth := k0m0) (c := k0c0) (by decide +kernel) rfl rfl rfl (by decide +kernel)
set_option maxRecDepth 65536 in
theorem w_c5 : (Jvm.Cond.code ({ cls := "java/lang/StringUTF16", name := "compress", desc := "([CII)[B" } : Jvm.MethodName) jdk_52_method_16_code (6 : Nat) (Option.some (Jvm.ClassFile.FieldType.array Jvm.ClassFile.FieldType.byte))).before args0 about1 = true := code_word (m := ⟨8, 2⟩) (meth := k8m2) (c := k8c2) (by decide +kernel) rfl rfl rfl (by decide +kernel)
set_option maxRecDepth 65536 in
theorem w_c6 : (Jvm.Cond.code ({ cls := "java/lang/StringUTF16", name := "compress", desc := "([CI[BII)I" } : Jvm.MethodName) jdk_52_method_21_code (7 : Nat) (Option.some Jvm.ClassFile.FieldType.int)).before args0 about1 = true := code_word (m := ⟨8, 3⟩) (meth := k8m3) (c := k8c3) (by decide +kernel) rfl rfl rfl (by decide +kernel)
set_option maxRecDepth 65536 in
theorem w_c7 : (Jvm.Cond.code ({ cls := "java/lang/StringUTF16", name := "coderFromArrayLen", desc := "([BI)B" } : Jvm.MethodName) jdk_52_method_15_code (2 : Nat) (Option.some Jvm.ClassFile.FieldType.byte)).before args0 about1 = true := code_word (m := ⟨8, 1⟩) (meth := k8m1) (c := k8c1) (by decide +kernel) rfl rfl rfl (by decide +kernel)
set_option maxRecDepth 65536 in
theorem w_c8 : (Jvm.Cond.code ({ cls := "com/example/lendloop/lendloop/core/TransactionRoleFromWireNamePinLaw", name := "reference", desc := "(Ljava/lang/String;)Lcom/example/lendloop/lendloop/core/TransactionRole;" } : Jvm.MethodName) method_3_code (1 : Nat) (Option.some (Jvm.ClassFile.FieldType.object "com/example/lendloop/lendloop/core/TransactionRole"))).before args0 about1 = true := code_word (m := ⟨1, 2⟩) (meth := k1m2) (c := k1c2) (by decide +kernel) rfl rfl rfl (by decide +kernel)
set_option maxRecDepth 65536 in
theorem w_c9 : (Jvm.Cond.code ({ cls := "java/lang/String", name := "equals", desc := "(Ljava/lang/Object;)Z" } : Jvm.MethodName) jdk_42_method_66_code (3 : Nat) (Option.some Jvm.ClassFile.FieldType.boolean)).before args0 about1 = true := code_word (m := ⟨7, 2⟩) (meth := k7m2) (c := k7c2) (by decide +kernel) rfl rfl rfl (by decide +kernel)
set_option maxRecDepth 65536 in
theorem w_c10 : (Jvm.Cond.code ({ cls := "java/lang/StringLatin1", name := "equals", desc := "([B[B)Z" } : Jvm.MethodName) jdk_43_method_13_code (3 : Nat) (Option.some Jvm.ClassFile.FieldType.boolean)).before args0 about1 = true := code_word (m := ⟨9, 1⟩) (meth := k9m1) (c := k9c1) (by decide +kernel) rfl rfl rfl (by decide +kernel)
set_option maxRecDepth 65536 in
theorem w_c11 : (Jvm.Cond.code ({ cls := "com/example/lendloop/lendloop/core/TransactionRole", name := "fromWireName", desc := "(Ljava/lang/String;)Ljava/util/Optional;" } : Jvm.MethodName) prog_38_method_5_code (5 : Nat) (Option.some (Jvm.ClassFile.FieldType.object "java/util/Optional"))).before args0 about1 = true := code_word (m := ⟨11, 1⟩) (meth := k11m1) (c := k11c1) (by decide +kernel) rfl rfl rfl (by decide +kernel)
set_option maxRecDepth 65536 in
theorem w_c12 : (Jvm.Cond.code ({ cls := "com/example/lendloop/lendloop/core/TransactionRole", name := "values", desc := "()[Lcom/example/lendloop/lendloop/core/TransactionRole;" } : Jvm.MethodName) prog_38_method_1_code (0 : Nat) (Option.some (Jvm.ClassFile.FieldType.array (Jvm.ClassFile.FieldType.object "com/example/lendloop/lendloop/core/TransactionRole")))).before args0 about1 = true := code_word (m := ⟨11, 0⟩) (meth := k11m0) (c := k11c0) (by decide +kernel) rfl rfl rfl (by decide +kernel)
set_option maxRecDepth 65536 in
theorem w_c13 : (Jvm.Cond.code ({ cls := "java/util/Optional", name := "of", desc := "(Ljava/lang/Object;)Ljava/util/Optional;" } : Jvm.MethodName) jdk_32_method_3_code (1 : Nat) (Option.some (Jvm.ClassFile.FieldType.object "java/util/Optional"))).before args0 about1 = true := code_word (m := ⟨13, 2⟩) (meth := k13m2) (c := k13c2) (by decide +kernel) rfl rfl rfl (by decide +kernel)
set_option maxRecDepth 65536 in
theorem w_c14 : (Jvm.Cond.code ({ cls := "java/util/Objects", name := "requireNonNull", desc := "(Ljava/lang/Object;)Ljava/lang/Object;" } : Jvm.MethodName) jdk_31_method_10_code (1 : Nat) (Option.some (Jvm.ClassFile.FieldType.object "java/lang/Object"))).before args0 about1 = true := code_word (m := ⟨14, 1⟩) (meth := k14m1) (c := k14c1) (by decide +kernel) rfl rfl rfl (by decide +kernel)
set_option maxRecDepth 65536 in
theorem w_c15 : (Jvm.Cond.code ({ cls := "java/util/Optional", name := "<init>", desc := "(Ljava/lang/Object;)V" } : Jvm.MethodName) jdk_32_method_2_code (2 : Nat) (Option.none : Option Jvm.ClassFile.FieldType)).before args0 about1 = true := code_word (m := ⟨13, 1⟩) (meth := k13m1) (c := k13c1) (by decide +kernel) rfl rfl rfl (by decide +kernel)
set_option maxRecDepth 65536 in
theorem w_c16 : (Jvm.Cond.code ({ cls := "java/util/Optional", name := "orElse", desc := "(Ljava/lang/Object;)Ljava/lang/Object;" } : Jvm.MethodName) jdk_32_method_15_code (2 : Nat) (Option.some (Jvm.ClassFile.FieldType.object "java/lang/Object"))).before args0 about1 = true := code_word (m := ⟨13, 3⟩) (meth := k13m3) (c := k13c3) (by decide +kernel) rfl rfl rfl (by decide +kernel)
set_option maxRecDepth 65536 in
theorem w_c17 : (Jvm.Cond.code ({ cls := "com/example/lendloop/lendloop/core/TransactionRoleFromWireNamePinLaw", name := "shortOne", desc := "(ICC)[C" } : Jvm.MethodName) method_4_code (3 : Nat) (Option.some (Jvm.ClassFile.FieldType.array Jvm.ClassFile.FieldType.char))).before args0 about1 = true := code_word (m := ⟨1, 3⟩) (meth := k1m3) (c := k1c3) (by decide +kernel) rfl rfl rfl (by decide +kernel)
set_option maxRecDepth 65536 in
theorem w_c18 : (Jvm.Cond.code ({ cls := "java/util/Optional", name := "empty", desc := "()Ljava/util/Optional;" } : Jvm.MethodName) jdk_32_method_1_code (1 : Nat) (Option.some (Jvm.ClassFile.FieldType.object "java/util/Optional"))).before args0 about1 = true := code_word (m := ⟨13, 0⟩) (meth := k13m0) (c := k13c0) (by decide +kernel) rfl rfl rfl (by decide +kernel)
def codes1 : List Jvm.Cond := [Jvm.Cond.code x code maxLocals ret, Jvm.Cond.code ({ cls := "com/example/lendloop/lendloop/core/TransactionRoleFromWireNamePinLaw", name := "named", desc := "(IIC)[C" } : Jvm.MethodName) method_5_code (3 : Nat) (Option.some (Jvm.ClassFile.FieldType.array Jvm.ClassFile.FieldType.char)), Jvm.Cond.code ({ cls := "java/lang/String", name := "<init>", desc := "([C)V" } : Jvm.MethodName) jdk_42_method_3_code (2 : Nat) (Option.none : Option Jvm.ClassFile.FieldType), Jvm.Cond.code ({ cls := "java/lang/String", name := "<init>", desc := "([CIILjava/lang/Void;)V" } : Jvm.MethodName) jdk_42_method_149_code (6 : Nat) (Option.none : Option Jvm.ClassFile.FieldType), Jvm.Cond.code ({ cls := "java/lang/Object", name := "<init>", desc := "()V" } : Jvm.MethodName) object_method_1_code (1 : Nat) (Option.none : Option Jvm.ClassFile.FieldType), Jvm.Cond.code ({ cls := "java/lang/StringUTF16", name := "compress", desc := "([CII)[B" } : Jvm.MethodName) jdk_52_method_16_code (6 : Nat) (Option.some (Jvm.ClassFile.FieldType.array Jvm.ClassFile.FieldType.byte)), Jvm.Cond.code ({ cls := "java/lang/StringUTF16", name := "compress", desc := "([CI[BII)I" } : Jvm.MethodName) jdk_52_method_21_code (7 : Nat) (Option.some Jvm.ClassFile.FieldType.int), Jvm.Cond.code ({ cls := "java/lang/StringUTF16", name := "coderFromArrayLen", desc := "([BI)B" } : Jvm.MethodName) jdk_52_method_15_code (2 : Nat) (Option.some Jvm.ClassFile.FieldType.byte), Jvm.Cond.code ({ cls := "com/example/lendloop/lendloop/core/TransactionRoleFromWireNamePinLaw", name := "reference", desc := "(Ljava/lang/String;)Lcom/example/lendloop/lendloop/core/TransactionRole;" } : Jvm.MethodName) method_3_code (1 : Nat) (Option.some (Jvm.ClassFile.FieldType.object "com/example/lendloop/lendloop/core/TransactionRole")), Jvm.Cond.code ({ cls := "java/lang/String", name := "equals", desc := "(Ljava/lang/Object;)Z" } : Jvm.MethodName) jdk_42_method_66_code (3 : Nat) (Option.some Jvm.ClassFile.FieldType.boolean), Jvm.Cond.code ({ cls := "java/lang/StringLatin1", name := "equals", desc := "([B[B)Z" } : Jvm.MethodName) jdk_43_method_13_code (3 : Nat) (Option.some Jvm.ClassFile.FieldType.boolean), Jvm.Cond.code ({ cls := "com/example/lendloop/lendloop/core/TransactionRole", name := "fromWireName", desc := "(Ljava/lang/String;)Ljava/util/Optional;" } : Jvm.MethodName) prog_38_method_5_code (5 : Nat) (Option.some (Jvm.ClassFile.FieldType.object "java/util/Optional")), Jvm.Cond.code ({ cls := "com/example/lendloop/lendloop/core/TransactionRole", name := "values", desc := "()[Lcom/example/lendloop/lendloop/core/TransactionRole;" } : Jvm.MethodName) prog_38_method_1_code (0 : Nat) (Option.some (Jvm.ClassFile.FieldType.array (Jvm.ClassFile.FieldType.object "com/example/lendloop/lendloop/core/TransactionRole"))), Jvm.Cond.code ({ cls := "java/util/Optional", name := "of", desc := "(Ljava/lang/Object;)Ljava/util/Optional;" } : Jvm.MethodName) jdk_32_method_3_code (1 : Nat) (Option.some (Jvm.ClassFile.FieldType.object "java/util/Optional")), Jvm.Cond.code ({ cls := "java/util/Objects", name := "requireNonNull", desc := "(Ljava/lang/Object;)Ljava/lang/Object;" } : Jvm.MethodName) jdk_31_method_10_code (1 : Nat) (Option.some (Jvm.ClassFile.FieldType.object "java/lang/Object")), Jvm.Cond.code ({ cls := "java/util/Optional", name := "<init>", desc := "(Ljava/lang/Object;)V" } : Jvm.MethodName) jdk_32_method_2_code (2 : Nat) (Option.none : Option Jvm.ClassFile.FieldType), Jvm.Cond.code ({ cls := "java/util/Optional", name := "orElse", desc := "(Ljava/lang/Object;)Ljava/lang/Object;" } : Jvm.MethodName) jdk_32_method_15_code (2 : Nat) (Option.some (Jvm.ClassFile.FieldType.object "java/lang/Object")), Jvm.Cond.code ({ cls := "com/example/lendloop/lendloop/core/TransactionRoleFromWireNamePinLaw", name := "shortOne", desc := "(ICC)[C" } : Jvm.MethodName) method_4_code (3 : Nat) (Option.some (Jvm.ClassFile.FieldType.array Jvm.ClassFile.FieldType.char)), Jvm.Cond.code ({ cls := "java/util/Optional", name := "empty", desc := "()Ljava/util/Optional;" } : Jvm.MethodName) jdk_32_method_1_code (1 : Nat) (Option.some (Jvm.ClassFile.FieldType.object "java/util/Optional"))]
set_option maxRecDepth 65536 in
theorem codes_eq : words1.filter isCode = codes1 := rfl
theorem w_codes : ∀ c ∈ words1.filter isCode, c.before args0 about1 = true := by
  rw [codes_eq]
  intro c hc
  simp only [codes1, List.mem_cons, List.not_mem_nil, or_false] at hc
  rcases hc with rfl | rfl | rfl | rfl | rfl | rfl | rfl | rfl | rfl | rfl | rfl | rfl | rfl | rfl | rfl | rfl | rfl | rfl | rfl
  · exact w_c0
  · exact w_c1
  · exact w_c2
  · exact w_c3
  · exact w_c4
  · exact w_c5
  · exact w_c6
  · exact w_c7
  · exact w_c8
  · exact w_c9
  · exact w_c10
  · exact w_c11
  · exact w_c12
  · exact w_c13
  · exact w_c14
  · exact w_c15
  · exact w_c16
  · exact w_c17
  · exact w_c18
set_option maxRecDepth 65536 in
theorem w_t1 : (words1.take 24).all (fun c => isCode c || c.before args0 about1) = true := by decide +kernel
set_option maxRecDepth 65536 in
theorem w_t2 : ((words1.drop 24).take 24).all (fun c => isCode c || c.before args0 about1) = true := by decide +kernel
set_option maxRecDepth 65536 in
theorem w_t3 : (((words1.drop 24).drop 24).take 24).all (fun c => isCode c || c.before args0 about1) = true := by decide +kernel
set_option maxRecDepth 65536 in
theorem w_t4 : ((((words1.drop 24).drop 24).drop 24).take 24).all (fun c => isCode c || c.before args0 about1) = true := by decide +kernel
set_option maxRecDepth 65536 in
theorem w_t5 : ((((words1.drop 24).drop 24).drop 24).drop 24).all (fun c => isCode c || c.before args0 about1) = true := by decide +kernel
theorem w_tables : (allAtoms (Jvm.Cond.code x code maxLocals ret :: tables_1)).before args0 about1 = true := by
  rw [allAtoms_all]
  show words1.all (fun c => c.before args0 about1) = true
  refine all_split ?_ w_codes
  rw [← List.take_append_drop 24 words1, List.all_append, w_t1, ← List.take_append_drop 24 (words1.drop 24), List.all_append, w_t2, ← List.take_append_drop 24 ((words1.drop 24).drop 24), List.all_append, w_t3, ← List.take_append_drop 24 (((words1.drop 24).drop 24).drop 24), List.all_append, w_t4, w_t5]
  rfl
set_option maxRecDepth 65536 in
theorem w_rest : rest_1_c.before args0 about1 = true := by decide +kernel
set_option maxRecDepth 65536 in
theorem w_case : (Jvm.Cond.and given_1 narrow_1).before args0 about1 = true := by decide +kernel
set_option maxRecDepth 65536 in
theorem w_consts : constsHeld consts_1 about1 := Jvm.Lit.constsHeldB_iff.mp (by decide +kernel)
theorem w_applies : (headSpec (Jvm.Cond.code x code maxLocals ret :: tables_1) room_1).applies x e0.platform about1 = true :=
  (Spec.applies_iff w_frames).mpr ⟨w_running, w_runnable, w_alone, w_named, w_hears, w_ripe, w_room, w_tables⟩
theorem atStart : AtStart classFile x code maxLocals ret World_1 tables_1 room_1 Calls_1 rest_1 Pre_1 launch0 p0 e0 about1 theMethod args0 below0 :=
  ⟨lists_1, trivial, launch0.admits_env _ _ _, launch0.least_env, fairChoices_fair.cas, fairChoices_fair.clock, w_frames, w_args, w_heap, w_applies, ⟨w_consts, trivial⟩, w_rest, w_case⟩
end start1
theorem witness_1 : WitnessClaimed_1 := ⟨start1.p0, start1.e0, start1.about1, start1.theMethod, start1.args0, start1.below0, start1.atStart⟩
end Jvm.Pilot.@@N@@
