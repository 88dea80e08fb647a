import JvmDerived
import JvmDerived.Pilot.@@N@@Statement
import JvmDerived.Pilot.@@N@@Code
set_option linter.unusedVariables false
set_option linter.unusedSimpArgs false
namespace Jvm.RoadKit
open Sem ClassFile Op Lib Jvm.Stand Jvm.Free Jvm.LawKit
section New
variable {p : Program} {l : Launch} {e : Env} {R : Room} {s : State} {m : MethodId} {args : Array Value} {below : List Frame} {meth : Method} {c : Code} {T : State} {locs : List Loc} {cells slots : Nat}
theorem retI (X : Stand p l e R s m args below meth c T locs cells slots) (hx : p.tables.exec = Jvm.exec) {pc : Nat} {Ls : Array Slot} {z : Int32} {rest : List Value} (hret : meth.sig.returnType = some .int) (hd : decode c.code pc = .ok (.ireturn, 1)) {fs : List Frame}
    (hl : ∀ (f : JFrame) (acts : List Action), f.method = m → f.locked = none → f.entered = [] → (doReturn e (T.setTop f) acts (some (.int z))).1 = T.setFrames fs) : Steps p.tables e below (T.setTop (mkF m pc Ls (.int z :: rest))) (T.setFrames fs) := by
  have hm' : T.vm.method? m = some meth := X.method'
  have hn : narrow .int (.int z) = .int z := rfl
  show Steps p.tables e below (T.setTop { method := m, pc := pc, locals := Ls, stack := _ :: rest, locked := none }) _
  jvm_step X.here [X.here.top, hx, hd, hm', hret, hn]
  first | (intro acts; rw [hl _ acts rfl rfl rfl]) | rw [hl _ _ rfl rfl rfl]
  exact Steps.refl _
end New
end Jvm.RoadKit
/- laws to paste: Road.backV (cut by pick.py; bodies as the Statement names them) -/
namespace Jvm.Pilot.@@N@@
namespace StrChars
open Jvm Sem ClassFile Op Lib Jvm.Stand Jvm.Free.XT Jvm.Free.ALB Jvm.Free.JM Jvm.Free
open Jvm.Lib.Cold (StaticIs)
/-- a char array whose places are chars -/
def Ch (a : Addr) (A : Cell) (U : State) : Prop := Arr .char a A U ∧ Typed .char A
theorem Ch.mv {a : Addr} {A : Cell} {U U' : State} (h : Ch a A U) (hal : U.vm.Alike U'.vm) (hh : U'.heap = U.heap) : Ch a A U' := ⟨h.1.mv hal hh, h.2⟩
theorem Ch.keep {a : Addr} {A : Cell} {U U' : State} (h : Ch a A U) (hal : U.vm.Alike U'.vm) (hk : U'.heap[a]? = some A) : Ch a A U' := ⟨h.1.keep hal hk, h.2⟩
/-- what place i of a char[]'s cell holds -/
def cv (A : Cell) (i : Nat) : Int32 := match A.slots[i]? with | some (.int x) => x | _ => 0
theorem Ch.get {a : Addr} {A : Cell} {U : State} (h : Ch a A U) {i : Nat} (hi : i < A.slots.size) : A.slots[i]? = some (.int (cv A i)) := by
  have e := Array.getElem?_eq_getElem hi
  have f := h.2 i _ e
  unfold cv; rw [e]
  generalize A.slots[i] = v at f
  cases v <;> simp [fits] at f ⊢
/-- the byte that i2b leaves of a char -/
def lo8 (x : Int32) : Int32 := x.toInt8.toInt32
theorem fits_lo8 (y : Int32) : fits .byte (.int (lo8 y)) = true := by
  have h1 := y.toInt8.le_toInt
  have h2 := y.toInt8.toInt_lt
  simp only [lo8, fits, Bool.and_eq_true, decide_eq_true_eq, Int32.le_iff_toInt_le, Int8.toInt_toInt32, show (-128 : Int32).toInt = -128 from by decide, show (127 : Int32).toInt = 127 from by decide]
  omega
/-- A' is A but that each place j of lo .. hi - 1 holds f j -/
def Laid (A A' : Cell) (lo hi : Nat) (f : Nat → Value) : Prop := A'.cls = A.cls ∧ A'.vm = A.vm ∧ A'.slots.size = A.slots.size ∧ ∀ i, A'.slots[i]? = if lo ≤ i ∧ i < hi then some (f i) else A.slots[i]?
theorem Laid.zero (A : Cell) (lo : Nat) (f : Nat → Value) : Laid A A lo (lo + 0) f := ⟨rfl, rfl, rfl, fun i => by rw [if_neg (by omega)]⟩
theorem Laid.step {A Ak : Cell} {lo k : Nat} {f : Nat → Value} {v : Value} (h : Laid A Ak lo k f) (hlo : lo ≤ k) (hk : k < Ak.slots.size) (hv : v = f k) : Laid A (Ak.setSlot k v) lo (k + 1) f := by
  refine ⟨h.1, h.2.1, by simpa [Cell.setSlot] using h.2.2.1, fun i => ?_⟩
  by_cases e : k = i
  · subst e; rw [Cell.slots_setSlot_self v hk, if_pos (by omega), hv]
  · rw [Cell.slots_setSlot_ne v e, h.2.2.2 i]
    by_cases q : lo ≤ i ∧ i < k
    · rw [if_pos q, if_pos (by omega)]
    · rw [if_neg q, if_neg (by omega)]
def U16 : String := "java/lang/StringUTF16"
namespace Cmp5
def yN : MethodName := ⟨"java/lang/StringUTF16", "compress", "([CI[BII)I"⟩
abbrev yB : ByteArray := jdk_52_method_21_code
theorem d0 : decode yB 0 = .ok (.iconst 0, 1) := by decide +kernel
theorem d1 : decode yB 1 = .ok (.istore 5, 2) := by decide +kernel
theorem d3 : decode yB 3 = .ok (.iload 5, 2) := by decide +kernel
theorem d5 : decode yB 5 = .ok (.iload 4, 2) := by decide +kernel
theorem d7 : decode yB 7 = .ok (.if_icmp (.ge) 37, 3) := by decide +kernel
theorem d10 : decode yB 10 = .ok (.aload_n 0, 1) := by decide +kernel
theorem d11 : decode yB 11 = .ok (.iload_n 1, 1) := by decide +kernel
theorem d12 : decode yB 12 = .ok (.caload, 1) := by decide +kernel
theorem d13 : decode yB 13 = .ok (.istore 6, 2) := by decide +kernel
theorem d15 : decode yB 15 = .ok (.iload 6, 2) := by decide +kernel
theorem d17 : decode yB 17 = .ok (.sipush 255, 3) := by decide +kernel
theorem d20 : decode yB 20 = .ok (.if_icmp (.le) 6, 3) := by decide +kernel
theorem d26 : decode yB 26 = .ok (.aload_n 2, 1) := by decide +kernel
theorem d27 : decode yB 27 = .ok (.iload_n 3, 1) := by decide +kernel
theorem d28 : decode yB 28 = .ok (.iload 6, 2) := by decide +kernel
theorem d30 : decode yB 30 = .ok (.i2b, 1) := by decide +kernel
theorem d31 : decode yB 31 = .ok (.bastore, 1) := by decide +kernel
theorem d32 : decode yB 32 = .ok (.iinc 1 1, 3) := by decide +kernel
theorem d35 : decode yB 35 = .ok (.iinc 3 1, 3) := by decide +kernel
theorem d38 : decode yB 38 = .ok (.iinc 5 1, 3) := by decide +kernel
theorem d41 : decode yB 41 = .ok (.goto (-38), 3) := by decide +kernel
theorem d44 : decode yB 44 = .ok (.iload 4, 2) := by decide +kernel
theorem d46 : decode yB 46 = .ok (.ireturn, 1) := by decide +kernel
def site : List Cond := []
def tab : Cond := tabOf yN yB 7 (some .int) site
def P (b : Addr) (A : Cell) (d : Addr) (B : Cell) (o q len : Nat) (args : Array Value) (s : State) : Prop := args = #[.ref b, .int (Int32.ofNat o), .ref d, .int (Int32.ofNat q), .int (Int32.ofNat len)] ∧ Ch b A s ∧ Arr .byte d B s ∧ b ≠ d ∧ o + len ≤ A.slots.size ∧ q + len ≤ B.slots.size ∧ ∀ i, i < len → ¬ 255 < cv A (o + i)
def E (b : Addr) (A : Cell) (d : Addr) (B : Cell) (o q len : Nat) (r : Option Value) (s u : State) : Prop := r = some (.int (Int32.ofNat len)) ∧ ∃ B', Put d B' s u ∧ Laid B B' q (q + len) (fun j => Value.int (lo8 (cv A (o + (j - q)))))
/-- no char of the range above 255: len; the places written hold each char's low byte -/
theorem law (l : Launch) (b : Addr) (A : Cell) (d : Addr) (B : Cell) (o q len : Nat) : Law l yN 5 5 0 0 yB 7 (some .int) site (P b A d B o q len) (E b A d B o q len) (copyLocs d q len) 0 0 := by
  refine Law.of_walk (plainFor_of_name (by decide +kernel)) (by decide +kernel) (by decide +kernel) (by decide) (fun _ _ h => by rw [h.1]; rfl) (fun _ U U' hal hh h => ⟨h.1, h.2.1.mv hal hh, h.2.2.1.mv hal hh, h.2.2.2⟩) (fun r U U' V V' h1 hal h2 h => ⟨h.1, h.2.elim fun B' q => ⟨B', q.1.mv h1 h2, q.2⟩⟩) ?_
  intro p e s m args below meth c s₁ X0 hexec hbytes hml hret hlk hnm hown hh0 W hP
  obtain ⟨rfl, hA, hB, hne, l1, l2, hp⟩ := hP
  have c1 : Steps p.tables e below (s₁.setTop (entryFrame m #[.ref b, .int (Int32.ofNat o), .ref d, .int (Int32.ofNat q), .int (Int32.ofNat len)] 7)) (s₁.setTop (mkF m 0 #[.val (.ref b), .val (.int (Int32.ofNat o)), .val (.ref d), .val (.int (Int32.ofNat q)), .val (.int (Int32.ofNat len)), .unset, .unset] [])) := entry rfl
  have hA0 := hA.1.mv X0.warmed.alike hh0
  have hB0 := hB.mv X0.warmed.alike hh0
  have a31 := hA.1.2.2.2
  have c2 : Steps p.tables e below (s₁.setTop (entryFrame m #[.ref b, .int (Int32.ofNat o), .ref d, .int (Int32.ofNat q), .int (Int32.ofNat len)] 7)) (s₁.setTop (mkF m 3 #[.val (.ref b), .val (.int (Int32.ofNat o)), .val (.ref d), .val (.int (Int32.ofNat q)), .val (.int (Int32.ofNat len)), .val (.int 0), .unset] [])) := c1.trans (by
    refine iconstV X0.here hexec rfl 0 (hb hbytes d0) (by decide) ?_
    refine XS.istore X0.here hexec rfl (hb hbytes d1) rfl rfl ?_
    exact Steps.refl _)
  have loop : ∀ (r i : Nat), i + r = len → ∀ (z : Slot), (z = .unset ∨ ∃ w, z = .val w ∧ w.category = 1) → ∀ (Tl : State) (Bk : Cell), Stand p l e { frames := 0, locals := 0, cells := 0, slots := 0 } s m #[.ref b, .int (Int32.ofNat o), .ref d, .int (Int32.ofNat q), .int (Int32.ofNat len)] below meth c Tl ([] ++ copyLocs d q i) 0 0 → Put d Bk s₁ Tl → Laid B Bk q (q + i) (fun j => Value.int (lo8 (cv A (o + (j - q))))) →
      Steps p.tables e below (s₁.setTop (entryFrame m #[.ref b, .int (Int32.ofNat o), .ref d, .int (Int32.ofNat q), .int (Int32.ofNat len)] 7)) (Tl.setTop (mkF m 3 #[.val (.ref b), .val (.int (Int32.ofNat (o + i))), .val (.ref d), .val (.int (Int32.ofNat (q + i))), .val (.int (Int32.ofNat len)), .val (.int (Int32.ofNat i)), z] [])) → ∃ (T' : State) (B' : Cell) (z' : Slot), Stand p l e { frames := 0, locals := 0, cells := 0, slots := 0 } s m #[.ref b, .int (Int32.ofNat o), .ref d, .int (Int32.ofNat q), .int (Int32.ofNat len)] below meth c T' ([] ++ copyLocs d q len) 0 0 ∧ Put d B' s₁ T' ∧ Laid B B' q (q + len) (fun j => Value.int (lo8 (cv A (o + (j - q))))) ∧
      Steps p.tables e below (s₁.setTop (entryFrame m #[.ref b, .int (Int32.ofNat o), .ref d, .int (Int32.ofNat q), .int (Int32.ofNat len)] 7)) (T'.setTop (mkF m 3 #[.val (.ref b), .val (.int (Int32.ofNat (o + len))), .val (.ref d), .val (.int (Int32.ofNat (q + len))), .val (.int (Int32.ofNat len)), .val (.int (Int32.ofNat len)), z'] [])) := by
    intro r
    induction r with
    | zero =>
      intro i hi z hz Tl Bk Xl pl fl cl
      have hil : i = len := by omega
      rw [hil] at Xl fl cl
      exact ⟨Tl, Bk, z, Xl, pl, fl, cl⟩
    | succ r ih =>
      intro i hi z hz Tl Bk Xl pl fl cl
      have all := X0.warmed.alike.symm.trans Xl.warmed.alike
      have hAl := hA0.keep all (pl.other hne hA0.1)
      have hBk := hB0.like all pl.1 fl.1 fl.2.1 fl.2.2.1
      have hlt : q + i < Bk.slots.size := by rw [fl.2.2.1]; omega
      have c3 : Steps p.tables e below (s₁.setTop (entryFrame m #[.ref b, .int (Int32.ofNat o), .ref d, .int (Int32.ofNat q), .int (Int32.ofNat len)] 7)) (Tl.setTop (mkF m 12 #[.val (.ref b), .val (.int (Int32.ofNat (o + i))), .val (.ref d), .val (.int (Int32.ofNat (q + i))), .val (.int (Int32.ofNat len)), .val (.int (Int32.ofNat i)), z] [.int (Int32.ofNat (o + i)), .ref b])) := cl.trans (by
        refine XS.iload Xl.here hexec rfl (hb hbytes d3) rfl ?_
        refine XS.iload Xl.here hexec rfl (hb hbytes d5) rfl ?_
        refine XS.icmpNo Xl.here hexec rfl (hb hbytes d7) rfl (ii_ge_f (lt32 (by omega) (by omega))) ?_
        refine XS.aloadN Xl.here hexec rfl (hb hbytes d10) rfl rfl ?_
        refine XS.iloadN Xl.here hexec rfl (hb hbytes d11) rfl ?_
        exact Steps.refl _)
      have c4 : Steps p.tables e below (s₁.setTop (entryFrame m #[.ref b, .int (Int32.ofNat o), .ref d, .int (Int32.ofNat q), .int (Int32.ofNat len)] 7)) (Tl.setTop (mkF m 13 #[.val (.ref b), .val (.int (Int32.ofNat (o + i))), .val (.ref d), .val (.int (Int32.ofNat (q + i))), .val (.int (Int32.ofNat len)), .val (.int (Int32.ofNat i)), z] [.int (cv A (o + i))])) := c3.trans (by
        refine Xl.aget hexec hAl rfl (hA.get (i := o + i) (by omega)) rfl rfl (hb hbytes d12) ?_
        exact Steps.refl _)
      have c5 : Steps p.tables e below (s₁.setTop (entryFrame m #[.ref b, .int (Int32.ofNat o), .ref d, .int (Int32.ofNat q), .int (Int32.ofNat len)] 7)) (Tl.setTop (mkF m 15 #[.val (.ref b), .val (.int (Int32.ofNat (o + i))), .val (.ref d), .val (.int (Int32.ofNat (q + i))), .val (.int (Int32.ofNat len)), .val (.int (Int32.ofNat i)), .val (.int (cv A (o + i)))] [])) := c4.trans (by
        refine XS.istoreS Xl.here hexec rfl (hb hbytes d13) rfl rfl hz ?_
        exact Steps.refl _)
      have c6 : Steps p.tables e below (s₁.setTop (entryFrame m #[.ref b, .int (Int32.ofNat o), .ref d, .int (Int32.ofNat q), .int (Int32.ofNat len)] 7)) (Tl.setTop (mkF m 31 #[.val (.ref b), .val (.int (Int32.ofNat (o + i))), .val (.ref d), .val (.int (Int32.ofNat (q + i))), .val (.int (Int32.ofNat len)), .val (.int (Int32.ofNat i)), .val (.int (cv A (o + i)))] [.int (lo8 (cv A (o + i))), .int (Int32.ofNat (q + i)), .ref d])) := c5.trans (by
        refine XS.iload Xl.here hexec rfl (hb hbytes d15) rfl ?_
        refine sipushV Xl.here hexec rfl 255 (hb hbytes d17) (by decide) ?_
        refine XS.icmpYes Xl.here hexec rfl (pc0 := 20) rfl (hb hbytes d20) rfl (ii_le_t (hp i (by omega))) (by decide) rfl ?_
        refine XS.aloadN Xl.here hexec rfl (hb hbytes d26) rfl rfl ?_
        refine XS.iloadN Xl.here hexec rfl (hb hbytes d27) rfl ?_
        refine XS.iload Xl.here hexec rfl (hb hbytes d28) rfl ?_
        refine i2b Xl.here hexec rfl (hb hbytes d30) rfl ?_
        exact Steps.refl _)
      obtain ⟨T7, X7, p7, st7⟩ := Xl.aput hexec hBk rfl hlt rfl (fits_lo8 (cv A (o + i))) (g := (mkF m 31 #[.val (.ref b), .val (.int (Int32.ofNat (o + i))), .val (.ref d), .val (.int (Int32.ofNat (q + i))), .val (.int (Int32.ofNat len)), .val (.int (Int32.ofNat i)), .val (.int (cv A (o + i)))] [.int (lo8 (cv A (o + i))), .int (Int32.ofNat (q + i)), .ref d])) rfl (rest := []) rfl (hb hbytes d31)
      have c8 : Steps p.tables e below (s₁.setTop (entryFrame m #[.ref b, .int (Int32.ofNat o), .ref d, .int (Int32.ofNat q), .int (Int32.ofNat len)] 7)) (T7.setTop (mkF m 32 #[.val (.ref b), .val (.int (Int32.ofNat (o + i))), .val (.ref d), .val (.int (Int32.ofNat (q + i))), .val (.int (Int32.ofNat len)), .val (.int (Int32.ofNat i)), .val (.int (cv A (o + i)))] [])) := c6.trans (st7 _ (Steps.refl _))
      have c9 : Steps p.tables e below (s₁.setTop (entryFrame m #[.ref b, .int (Int32.ofNat o), .ref d, .int (Int32.ofNat q), .int (Int32.ofNat len)] 7)) (T7.setTop (mkF m 3 #[.val (.ref b), .val (.int (Int32.ofNat (o + i) + 1)), .val (.ref d), .val (.int (Int32.ofNat (q + i) + 1)), .val (.int (Int32.ofNat len)), .val (.int (Int32.ofNat i + 1)), .val (.int (cv A (o + i)))] [])) := c8.trans (by
        refine iincV X7.here hexec rfl 1 (hb hbytes d32) (by decide) rfl rfl ?_
        refine iincV X7.here hexec rfl 1 (hb hbytes d35) (by decide) rfl rfl ?_
        refine iincV X7.here hexec rfl 1 (hb hbytes d38) (by decide) rfl rfl ?_
        refine XS.goto X7.here hexec rfl (pc0 := 41) rfl (hb hbytes d41) (by decide) rfl ?_
        exact Steps.refl _)
      have c10 : Steps p.tables e below (s₁.setTop (entryFrame m #[.ref b, .int (Int32.ofNat o), .ref d, .int (Int32.ofNat q), .int (Int32.ofNat len)] 7)) (T7.setTop (mkF m 3 #[.val (.ref b), .val (.int (Int32.ofNat (o + (i + 1)))), .val (.ref d), .val (.int (Int32.ofNat (q + (i + 1)))), .val (.int (Int32.ofNat len)), .val (.int (Int32.ofNat (i + 1))), .val (.int (cv A (o + i)))] [])) := by
        have := c9
        rw [succ32, succ32, succ32] at this
        exact this
      exact ih (i + 1) (by omega) _ (Or.inr ⟨_, rfl, rfl⟩) T7 _ (by rw [copyLocs_step, ← List.append_assoc]; exact X7) (pl.trans p7) (fl.step (by omega) hlt (by simp)) c10
  obtain ⟨T9, B9, z9, X9, p9, f9, g9⟩ := loop len 0 (by omega) .unset (Or.inl rfl) s₁ B (by simpa [copyLocs] using X0) ⟨hB0.1, fun _ _ => rfl, rfl⟩ (Laid.zero _ _ _) c2
  have c11 : Steps p.tables e below (s₁.setTop (entryFrame m #[.ref b, .int (Int32.ofNat o), .ref d, .int (Int32.ofNat q), .int (Int32.ofNat len)] 7)) (T9.setTop (mkF m 46 #[.val (.ref b), .val (.int (Int32.ofNat (o + len))), .val (.ref d), .val (.int (Int32.ofNat (q + len))), .val (.int (Int32.ofNat len)), .val (.int (Int32.ofNat len)), z9] [.int (Int32.ofNat len)])) := g9.trans (by
    refine XS.iload X9.here hexec rfl (hb hbytes d3) rfl ?_
    refine XS.iload X9.here hexec rfl (hb hbytes d5) rfl ?_
    refine XS.icmpYes X9.here hexec rfl (pc0 := 7) rfl (hb hbytes d7) rfl (ii_ge_t (nlt32 (by omega) (Nat.le_refl _))) (by decide) rfl ?_
    refine XS.iload X9.here hexec rfl (hb hbytes d44) rfl ?_
    exact Steps.refl _)
  exact ⟨T9, some (.int (Int32.ofNat len)), _, _, _, X9, by simp, rfl, rfl, (fun h => by cases h), ⟨rfl, B9, p9.from hh0, f9⟩, fun fs hl => c11.trans (X9.ireturnOut hexec hret rfl (Or.inl rfl) (hb hbytes d46) hl)⟩
end Cmp5
namespace Cmp3
def yN : MethodName := ⟨"java/lang/StringUTF16", "compress", "([CII)[B"⟩
abbrev yB : ByteArray := jdk_52_method_16_code
theorem d0 : decode yB 0 = .ok (.iload_n 2, 1) := by decide +kernel
theorem d1 : decode yB 1 = .ok (.newarray .byte, 2) := by decide +kernel
theorem d3 : decode yB 3 = .ok (.astore_n 3, 1) := by decide +kernel
theorem d4 : decode yB 4 = .ok (.aload_n 0, 1) := by decide +kernel
theorem d5 : decode yB 5 = .ok (.iload_n 1, 1) := by decide +kernel
theorem d6 : decode yB 6 = .ok (.aload_n 3, 1) := by decide +kernel
theorem d7 : decode yB 7 = .ok (.iconst 0, 1) := by decide +kernel
theorem d8 : decode yB 8 = .ok (.iload_n 2, 1) := by decide +kernel
theorem d9 : decode yB 9 = .ok (.invokestatic 115, 3) := by decide +kernel
theorem d12 : decode yB 12 = .ok (.istore 4, 2) := by decide +kernel
theorem d14 : decode yB 14 = .ok (.iload 4, 2) := by decide +kernel
theorem d16 : decode yB 16 = .ok (.iload_n 2, 1) := by decide +kernel
theorem d17 : decode yB 17 = .ok (.if_icmp (.eq) 40, 3) := by decide +kernel
theorem d57 : decode yB 57 = .ok (.aload_n 3, 1) := by decide +kernel
theorem d58 : decode yB 58 = .ok (.areturn, 1) := by decide +kernel
def site : List Cond := [.arrayClass .byte, Cmp5.tab] ++ staticW U16 115 Cmp5.yN
def tab : Cond := tabOf yN yB 6 (some (.array .byte)) site
def P (b : Addr) (A : Cell) (o len : Nat) (args : Array Value) (s : State) : Prop := args = #[.ref b, .int (Int32.ofNat o), .int (Int32.ofNat len)] ∧ Ch b A s ∧ o + len ≤ A.slots.size ∧ len ≤ 536870912 ∧ ∀ i, i < len → ¬ 255 < cv A (o + i)
def E (b : Addr) (A : Cell) (o len : Nat) (r : Option Value) (s u : State) : Prop := NewArr .byte "[B" len (fun j => .int (lo8 (cv A (o + j)))) r s u ∧ u.heap.size = s.heap.size + 1
/-- no char of the range above 255: a new byte[] of their low bytes -/
theorem law (l : Launch) (b : Addr) (A : Cell) (o len : Nat) : Law l yN 3 3 1 18 yB 6 (some (.array .byte)) site (P b A o len) (E b A o len) [] 1 len := by
  refine Law.of_walk (plainFor_of_name (by decide +kernel)) (by decide +kernel) (by decide +kernel) (by decide) (fun _ _ h => by rw [h.1]; rfl) (fun _ U U' hal hh h => ⟨h.1, h.2.1.mv hal hh, h.2.2⟩) (fun r U U' V V' h1 hal h2 h => ⟨NewArr.mv r U U' V V' h1 hal h2 h.1, by rw [h1, h2]; exact h.2⟩) ?_
  intro p e s m args below meth c s₁ X0 hexec hbytes hml hret hlk hnm hown hh0 W hP
  obtain ⟨rfl, hA, l1, l2, hp⟩ := hP
  have a31 := hA.1.2.2.2
  have c1 : Steps p.tables e below (s₁.setTop (entryFrame m #[.ref b, .int (Int32.ofNat o), .int (Int32.ofNat len)] 6)) (s₁.setTop (mkF m 0 #[.val (.ref b), .val (.int (Int32.ofNat o)), .val (.int (Int32.ofNat len)), .unset, .unset, .unset] [])) := entry rfl
  have c2 : Steps p.tables e below (s₁.setTop (entryFrame m #[.ref b, .int (Int32.ofNat o), .int (Int32.ofNat len)] 6)) (s₁.setTop (mkF m 1 #[.val (.ref b), .val (.int (Int32.ofNat o)), .val (.int (Int32.ofNat len)), .unset, .unset, .unset] [.int (Int32.ofNat len)])) := c1.trans (by
    refine XS.iloadN X0.here hexec rfl (hb hbytes d0) rfl ?_
    exact Steps.refl _)
  obtain ⟨T3, B3, X3, ba3, bs3, bv3, bh3, bf3, st3⟩ := X0.anew hexec (atype := .byte) (wk W (.arrayClass .byte)) rfl (by show len * 1 ≤ _; omega) (by omega) (g := (mkF m 1 #[.val (.ref b), .val (.int (Int32.ofNat o)), .val (.int (Int32.ofNat len)), .unset, .unset, .unset] [.int (Int32.ofNat len)])) rfl (hb hbytes d1) (rest := []) rfl (Nat.le_refl _) (by show 0 + len ≤ len; omega)
  rw [hh0] at ba3 st3
  have kp3 : XT.Kept s T3 := (XT.Kept.of_eq hh0).push bh3
  have hA3 := hA.keep X3.warmed.alike (kp3 _ _ hA.1.1)
  have hne : b ≠ s.heap.size := hA.1.ne
  have c4 : Steps p.tables e below (s₁.setTop (entryFrame m #[.ref b, .int (Int32.ofNat o), .int (Int32.ofNat len)] 6)) (T3.setTop (mkF m 3 #[.val (.ref b), .val (.int (Int32.ofNat o)), .val (.int (Int32.ofNat len)), .unset, .unset, .unset] [.ref s.heap.size])) := c2.trans (st3 _ (Steps.refl _))
  have c5 : Steps p.tables e below (s₁.setTop (entryFrame m #[.ref b, .int (Int32.ofNat o), .int (Int32.ofNat len)] 6)) (T3.setTop (mkF m 9 #[.val (.ref b), .val (.int (Int32.ofNat o)), .val (.int (Int32.ofNat len)), .val (.ref s.heap.size), .unset, .unset] [.int (Int32.ofNat len), .int 0, .ref s.heap.size, .int (Int32.ofNat o), .ref b])) := c4.trans (by
    refine XS.astoreN X3.here hexec rfl (hb hbytes d3) rfl rfl rfl ?_
    refine XS.aloadN X3.here hexec rfl (hb hbytes d4) rfl rfl ?_
    refine XS.iloadN X3.here hexec rfl (hb hbytes d5) rfl ?_
    refine XS.aloadN X3.here hexec rfl (hb hbytes d6) rfl rfl ?_
    refine iconstV X3.here hexec rfl 0 (hb hbytes d7) (by decide) ?_
    refine XS.iloadN X3.here hexec rfl (hb hbytes d8) rfl ?_
    exact Steps.refl _)
  obtain ⟨v6, T6, X6, E6, g6⟩ := X3.callS hexec (Cmp5.law l b A s.heap.size B3 o 0 len) hown (wks W (staticW U16 115 Cmp5.yN)) (wk W Cmp5.tab) (W := 0) (Nat.le_of_ble_eq_true rfl) (Nat.le_of_ble_eq_true rfl) (Nat.le_refl _) (by show 0 + len + 0 ≤ len; omega) (g := (mkF m 9 #[.val (.ref b), .val (.int (Int32.ofNat o)), .val (.int (Int32.ofNat len)), .val (.ref s.heap.size), .unset, .unset] [.int (Int32.ofNat len), .int (Int32.ofNat 0), .ref s.heap.size, .int (Int32.ofNat o), .ref b])) rfl (by rw [hml]; rfl) c5 (argsL := [.ref b, .int (Int32.ofNat o), .ref s.heap.size, .int (Int32.ofNat 0), .int (Int32.ofNat len)]) (rest := []) rfl rfl (by show 2 * 0 + 0 ≤ _; decide) (hb hbytes d9) (⟨rfl, hA3, ba3, hne, l1, by rw [bs3]; simp, hp⟩)
  obtain ⟨rfl, B6, p6, f6⟩ := E6
  have c7 : Steps p.tables e below (s₁.setTop (entryFrame m #[.ref b, .int (Int32.ofNat o), .int (Int32.ofNat len)] 6)) (T6.setTop (mkF m 12 #[.val (.ref b), .val (.int (Int32.ofNat o)), .val (.int (Int32.ofNat len)), .val (.ref s.heap.size), .unset, .unset] [.int (Int32.ofNat len)])) := g6
  have c8 : Steps p.tables e below (s₁.setTop (entryFrame m #[.ref b, .int (Int32.ofNat o), .int (Int32.ofNat len)] 6)) (T6.setTop (mkF m 58 #[.val (.ref b), .val (.int (Int32.ofNat o)), .val (.int (Int32.ofNat len)), .val (.ref s.heap.size), .val (.int (Int32.ofNat len)), .unset] [.ref s.heap.size])) := c7.trans (by
    refine XS.istore X6.here hexec rfl (hb hbytes d12) rfl rfl ?_
    refine XS.iload X6.here hexec rfl (hb hbytes d14) rfl ?_
    refine XS.iloadN X6.here hexec rfl (hb hbytes d16) rfl ?_
    refine XS.icmpYes X6.here hexec rfl (pc0 := 17) rfl (hb hbytes d17) rfl (ii_eq_t rfl) (by decide) rfl ?_
    refine XS.aloadN X6.here hexec rfl (hb hbytes d57) rfl rfl ?_
    exact Steps.refl _)
  have X8 := X6.wide (L' := []) (cells' := 1) (slots' := len) (fun x hx hlt => by
    simp only [List.nil_append, copyLocs, List.mem_map, List.mem_range] at hx
    obtain ⟨i, -, rfl⟩ := hx
    exact absurd hlt (Nat.lt_irrefl _)) (Nat.le_refl _) (by omega)
  exact ⟨T6, some (.ref s.heap.size), _, _, _, X8, rfl, rfl, rfl, (fun h => by cases h), ⟨⟨rfl, B6, ba3.like (X3.warmed.alike.symm.trans X6.warmed.alike) p6.1 f6.1 f6.2.1 f6.2.2.1, f6.2.1.trans bv3, by rw [X6.warmed.alike.findClass, f6.1]; exact bf3, by rw [f6.2.2.1, bs3]; simp, fun j hj => by rw [f6.2.2.2 j, if_pos (by omega)]; rfl, kp3.put p6 (Nat.le_refl _)⟩, by rw [p6.2.2, bh3, hh0]; simp⟩, fun fs hl => c8.trans (X8.areturnOut hexec rfl hret rfl (hb hbytes d58) hl)⟩
end Cmp3
namespace CodL
def yN : MethodName := ⟨"java/lang/StringUTF16", "coderFromArrayLen", "([BI)B"⟩
abbrev yB : ByteArray := jdk_52_method_15_code
theorem d0 : decode yB 0 = .ok (.iload_n 1, 1) := by decide +kernel
theorem d1 : decode yB 1 = .ok (.aload_n 0, 1) := by decide +kernel
theorem d2 : decode yB 2 = .ok (.arraylength, 1) := by decide +kernel
theorem d3 : decode yB 3 = .ok (.isub, 1) := by decide +kernel
theorem d4 : decode yB 4 = .ok (.bipush 31, 2) := by decide +kernel
theorem d6 : decode yB 6 = .ok (.iushr, 1) := by decide +kernel
theorem d7 : decode yB 7 = .ok (.i2b, 1) := by decide +kernel
theorem d8 : decode yB 8 = .ok (.ireturn, 1) := by decide +kernel
def site : List Cond := []
def tab : Cond := tabOf yN yB 2 (some .byte) site
def P (d : Addr) (B : Cell) (args : Array Value) (s : State) : Prop := args = #[.ref d, .int (Int32.ofNat B.slots.size)] ∧ Arr .byte d B s
def E (r : Option Value) (s u : State) : Prop := XT.PureE (some (.int 0)) r s u
/-- an array as long as the number of chars: LATIN1 -/
theorem law (l : Launch) (d : Addr) (B : Cell) : Law l yN 2 2 0 0 yB 2 (some .byte) site (P d B) E [] 0 0 := by
  refine Law.of_walk (plainFor_of_name (by decide +kernel)) (by decide +kernel) (by decide +kernel) (by decide) (fun _ _ h => by rw [h.1]; rfl) (fun _ U U' hal hh h => ⟨h.1, h.2.mv hal hh⟩) (fun r U U' V V' h1 hal h2 h => XT.PureE.mv r U U' V V' h1 hal h2 h) ?_
  intro p e s m args below meth c s₁ X0 hexec hbytes hml hret hlk hnm hown hh0 W hP
  obtain ⟨rfl, hB⟩ := hP
  have hB0 := hB.mv X0.warmed.alike hh0
  have c1 : Steps p.tables e below (s₁.setTop (entryFrame m #[.ref d, .int (Int32.ofNat B.slots.size)] 2)) (s₁.setTop (mkF m 0 #[.val (.ref d), .val (.int (Int32.ofNat B.slots.size))] [])) := entry rfl
  have c2 : Steps p.tables e below (s₁.setTop (entryFrame m #[.ref d, .int (Int32.ofNat B.slots.size)] 2)) (s₁.setTop (mkF m 2 #[.val (.ref d), .val (.int (Int32.ofNat B.slots.size))] [.ref d, .int (Int32.ofNat B.slots.size)])) := c1.trans (by
    refine XS.iloadN X0.here hexec rfl (hb hbytes d0) rfl ?_
    refine XS.aloadN X0.here hexec rfl (hb hbytes d1) rfl rfl ?_
    exact Steps.refl _)
  have c3 : Steps p.tables e below (s₁.setTop (entryFrame m #[.ref d, .int (Int32.ofNat B.slots.size)] 2)) (s₁.setTop (mkF m 8 #[.val (.ref d), .val (.int (Int32.ofNat B.slots.size))] [.int (lo8 (ushr (Int32.ofNat B.slots.size - Int32.ofNat B.slots.size) 31))])) := c2.trans (by
    refine X0.alen hexec hB0 rfl rfl (hb hbytes d2) ?_
    refine XS.isub X0.here hexec rfl (hb hbytes d3) rfl ?_
    refine bipushV X0.here hexec rfl 31 (hb hbytes d4) (by decide) ?_
    refine iushr X0.here hexec rfl (hb hbytes d6) rfl ?_
    refine i2b X0.here hexec rfl (hb hbytes d7) rfl ?_
    exact Steps.refl _)
  have e0 : lo8 (ushr (Int32.ofNat B.slots.size - Int32.ofNat B.slots.size) 31) = 0 := by rw [Int32.sub_self]; decide
  rw [e0] at c3
  exact ⟨s₁, some (.int 0), _, _, _, X0, rfl, rfl, rfl, (fun h => by cases h), ⟨rfl, hh0⟩, fun fs hl => c3.trans (X0.ireturnOut hexec hret rfl (Or.inr (Or.inr (Or.inl rfl))) (hb hbytes d8) hl)⟩
end CodL
/-- the String at a is Latin-1 over a new byte[] (the heap's one new cell): the low bytes of the len chars of A from o on; every cell but a is kept -/
def Got (a : Addr) (D : Cell) (fV fC : Field) (A : Cell) (o len : Nat) (r : Option Value) (s u : State) : Prop := r = none ∧ ∃ D' V : Cell, Blank "java/lang/String" a D' u ∧ Same D D' [fV.slot, fC.slot] ∧ D'.slots[fV.slot]? = some (.ref s.heap.size) ∧ D'.slots[fC.slot]? = some (.int 0) ∧ Arr .byte s.heap.size V u ∧ V.vm = .none ∧ u.vm.findClass "[B" = some V.cls ∧ V.slots.size = len ∧ (∀ j, j < len → V.slots[j]? = some (.int (lo8 (cv A (o + j))))) ∧ (∀ (y : Addr) (c : Cell), y ≠ a → s.heap[y]? = some c → u.heap[y]? = some c) ∧ u.heap.size = s.heap.size + 1
theorem Got.mv {a : Addr} {D A : Cell} {fV fC : Field} {o len : Nat} : ∀ r (U U' V V' : State), U'.heap = U.heap → V.vm.Alike V'.vm → V'.heap = V.heap → Got a D fV fC A o len r U V → Got a D fV fC A o len r U' V' :=
  fun r U U' V V' h1 hal h2 ⟨e0, D', X, a1, a2, a3, a4, a5, a6, a7, a8, a9, a10, a11⟩ => ⟨e0, D', X, a1.mv hal h2, a2, by rw [h1]; exact a3, a4, by rw [h1]; exact a5.mv hal h2, a6, by rw [hal.findClass]; exact a7, a8, a9, by rw [h1, h2]; exact a10, by rw [h1, h2]; exact a11⟩
namespace New4
def yN : MethodName := ⟨"java/lang/String", "<init>", "([CIILjava/lang/Void;)V"⟩
abbrev yB : ByteArray := jdk_42_method_149_code
theorem d0 : decode yB 0 = .ok (.aload_n 0, 1) := by decide +kernel
theorem d1 : decode yB 1 = .ok (.invokespecial 1, 3) := by decide +kernel
theorem d4 : decode yB 4 = .ok (.iload_n 3, 1) := by decide +kernel
theorem d5 : decode yB 5 = .ok (.ifCond (.ne) 22, 3) := by decide +kernel
theorem d27 : decode yB 27 = .ok (.getstatic 38, 3) := by decide +kernel
theorem d30 : decode yB 30 = .ok (.ifCond (.eq) 28, 3) := by decide +kernel
theorem d33 : decode yB 33 = .ok (.aload_n 1, 1) := by decide +kernel
theorem d34 : decode yB 34 = .ok (.iload_n 2, 1) := by decide +kernel
theorem d35 : decode yB 35 = .ok (.iload_n 3, 1) := by decide +kernel
theorem d36 : decode yB 36 = .ok (.invokestatic 177, 3) := by decide +kernel
theorem d39 : decode yB 39 = .ok (.astore 5, 2) := by decide +kernel
theorem d41 : decode yB 41 = .ok (.aload_n 0, 1) := by decide +kernel
theorem d42 : decode yB 42 = .ok (.aload 5, 2) := by decide +kernel
theorem d44 : decode yB 44 = .ok (.iload_n 3, 1) := by decide +kernel
theorem d45 : decode yB 45 = .ok (.invokestatic 47, 3) := by decide +kernel
theorem d48 : decode yB 48 = .ok (.putfield 15, 3) := by decide +kernel
theorem d51 : decode yB 51 = .ok (.aload_n 0, 1) := by decide +kernel
theorem d52 : decode yB 52 = .ok (.aload 5, 2) := by decide +kernel
theorem d54 : decode yB 54 = .ok (.putfield 9, 3) := by decide +kernel
theorem d57 : decode yB 57 = .ok (.return_, 1) := by decide +kernel
def site : List Cond := [.fieldLink "java/lang/String" 38 "java/lang/String" "COMPACT_STRINGS" "Z", Cmp3.tab, CodL.tab, .laysFinal "java/lang/String" "java/lang/String" "value" "[B", .fieldLink "java/lang/String" 9 "java/lang/String" "value" "[B", .laysFinal "java/lang/String" "java/lang/String" "coder" "B", .fieldLink "java/lang/String" 15 "java/lang/String" "coder" "B"] ++ objW "java/lang/String" 1 ++ staticW "java/lang/String" 177 Cmp3.yN ++ staticW "java/lang/String" 47 CodL.yN
def tab : Cond := tabOf yN yB 6 none site
def P (a : Addr) (D : Cell) (fV fC : Field) (b : Addr) (A : Cell) (z : Int32) (o len : Nat) (args : Array Value) (s : State) : Prop := args = #[.ref a, .ref b, .int (Int32.ofNat o), .int (Int32.ofNat len), .null] ∧ Blank "java/lang/String" a D s ∧ Found "java/lang/String" "value" "[B" fV s ∧ Found "java/lang/String" "coder" "B" fC s ∧ Ch b A s ∧ StaticIs s "java/lang/String" "COMPACT_STRINGS" "Z" (.int z) ∧ ¬ z = 0 ∧ 0 < len ∧ o + len ≤ A.slots.size ∧ len ≤ 536870912 ∧ ∀ i, i < len → ¬ 255 < cv A (o + i)
def E (a : Addr) (D : Cell) (fV fC : Field) (A : Cell) (o len : Nat) (r : Option Value) (s u : State) : Prop := Got a D fV fC A o len r s u
/-- len > 0, no char of the range above 255: a Latin-1 String of their low bytes -/
theorem law (l : Launch) (a : Addr) (D : Cell) (fV fC : Field) (b : Addr) (A : Cell) (z : Int32) (o len : Nat) : Law l yN 5 4 2 35 yB 6 none site (P a D fV fC b A z o len) (E a D fV fC A o len) [⟨a, fC.slot⟩, ⟨a, fV.slot⟩] 1 len := by
  refine Law.of_walk (plainFor_of_name (by decide +kernel)) (by decide +kernel) (by decide +kernel) (by decide) (fun _ _ h => by rw [h.1]; rfl) (fun _ U U' hal hh h => ⟨h.1, h.2.1.mv hal hh, h.2.2.1.al hal, h.2.2.2.1.al hal, h.2.2.2.2.1.mv hal hh, h.2.2.2.2.2.1.there hal hh, h.2.2.2.2.2.2⟩) (fun r U U' V V' h1 hal h2 h => Got.mv r U U' V V' h1 hal h2 h) ?_
  intro p e s m args below meth c s₁ X0 hexec hbytes hml hret hlk hnm hown hh0 W hP
  obtain ⟨rfl, hB, f1, f2, hA, s1, hz, l0, l1, l2, hp⟩ := hP
  have a31 := hA.1.2.2.2
  have c1 : Steps p.tables e below (s₁.setTop (entryFrame m #[.ref a, .ref b, .int (Int32.ofNat o), .int (Int32.ofNat len), .null] 6)) (s₁.setTop (mkF m 0 #[.val (.ref a), .val (.ref b), .val (.int (Int32.ofNat o)), .val (.int (Int32.ofNat len)), .val .null, .unset] [])) := entry rfl
  have c2 : Steps p.tables e below (s₁.setTop (entryFrame m #[.ref a, .ref b, .int (Int32.ofNat o), .int (Int32.ofNat len), .null] 6)) (s₁.setTop (mkF m 1 #[.val (.ref a), .val (.ref b), .val (.int (Int32.ofNat o)), .val (.int (Int32.ofNat len)), .val .null, .unset] [.ref a])) := c1.trans (by
    refine XS.aloadN X0.here hexec rfl (hb hbytes d0) rfl rfl ?_
    exact Steps.refl _)
  obtain ⟨T3, X3, q3, st3⟩ := X0.oinit hexec hown (wks W (objW "java/lang/String" 1)) (g := (mkF m 1 #[.val (.ref a), .val (.ref b), .val (.int (Int32.ofNat o)), .val (.int (Int32.ofNat len)), .val .null, .unset] [.ref a])) rfl (by rw [hml]; rfl) (rest := []) rfl (hb hbytes d1) (W := 0) (by show 2 * 0 + 0 ≤ _; decide) (Nat.le_of_ble_eq_true rfl) (Nat.le_of_ble_eq_true rfl)
  have hh3 := q3.trans hh0
  have c4 : Steps p.tables e below (s₁.setTop (entryFrame m #[.ref a, .ref b, .int (Int32.ofNat o), .int (Int32.ofNat len), .null] 6)) (T3.setTop (mkF m 27 #[.val (.ref a), .val (.ref b), .val (.int (Int32.ofNat o)), .val (.int (Int32.ofNat len)), .val .null, .unset] [])) := (c2.trans (st3 _ (Steps.refl _))).trans (by
    refine XS.iloadN X3.here hexec rfl (hb hbytes d4) rfl ?_
    refine XS.ifYes X3.here hexec rfl (pc0 := 5) rfl (hb hbytes d5) rfl (i0_ne_t (nz32 (by omega) l0)) (by decide) rfl ?_
    exact Steps.refl _)
  obtain ⟨T5, X5, q5, st5⟩ := X3.sget hexec hown (wk W (.fieldLink "java/lang/String" 38 "java/lang/String" "COMPACT_STRINGS" "Z")) s1 (fun _ _ h => by rw [hh3]; exact h) (g := (mkF m 27 #[.val (.ref a), .val (.ref b), .val (.int (Int32.ofNat o)), .val (.int (Int32.ofNat len)), .val .null, .unset] [])) rfl (hb hbytes d27)
  have hh5 := q5.trans hh3
  have c6 : Steps p.tables e below (s₁.setTop (entryFrame m #[.ref a, .ref b, .int (Int32.ofNat o), .int (Int32.ofNat len), .null] 6)) (T5.setTop (mkF m 30 #[.val (.ref a), .val (.ref b), .val (.int (Int32.ofNat o)), .val (.int (Int32.ofNat len)), .val .null, .unset] [.int z])) := c4.trans (st5 _ (Steps.refl _))
  have c7 : Steps p.tables e below (s₁.setTop (entryFrame m #[.ref a, .ref b, .int (Int32.ofNat o), .int (Int32.ofNat len), .null] 6)) (T5.setTop (mkF m 36 #[.val (.ref a), .val (.ref b), .val (.int (Int32.ofNat o)), .val (.int (Int32.ofNat len)), .val .null, .unset] [.int (Int32.ofNat len), .int (Int32.ofNat o), .ref b])) := c6.trans (by
    refine XS.ifNo X5.here hexec rfl (hb hbytes d30) rfl (i0_eq_f hz) ?_
    refine XS.aloadN X5.here hexec rfl (hb hbytes d33) rfl rfl ?_
    refine XS.iloadN X5.here hexec rfl (hb hbytes d34) rfl ?_
    refine XS.iloadN X5.here hexec rfl (hb hbytes d35) rfl ?_
    exact Steps.refl _)
  obtain ⟨v8, T8, X8, E8, g8⟩ := X5.callS hexec (Cmp3.law l b A o len) hown (wks W (staticW "java/lang/String" 177 Cmp3.yN)) (wk W Cmp3.tab) (W := 0) (Nat.le_of_ble_eq_true rfl) (Nat.le_of_ble_eq_true rfl) (Nat.le_refl _) (by show 0 + len ≤ len; omega) (g := (mkF m 36 #[.val (.ref a), .val (.ref b), .val (.int (Int32.ofNat o)), .val (.int (Int32.ofNat len)), .val .null, .unset] [.int (Int32.ofNat len), .int (Int32.ofNat o), .ref b])) rfl (by rw [hml]; rfl) c7 (argsL := [.ref b, .int (Int32.ofNat o), .int (Int32.ofNat len)]) (rest := []) rfl rfl (by show 2 * 0 + 0 ≤ _; decide) (hb hbytes d36) (⟨rfl, hA.mv X5.warmed.alike hh5, l1, l2, hp⟩)
  obtain ⟨e8, z8⟩ := E8
  obtain ⟨rfl, N, n1, n2, n3, n4, n5, n6⟩ := NewArr.mv _ T5 s _ _ hh5.symm (Vm.Alike.refl _) rfl e8
  rw [hh5] at z8
  have hB1 := hB.keep X8.warmed.alike (n6 _ _ hB.1)
  have hne : s.heap.size ≠ a := (Nat.ne_of_lt (Array.getElem?_eq_some_iff.mp hB.1).1).symm
  have c9 : Steps p.tables e below (s₁.setTop (entryFrame m #[.ref a, .ref b, .int (Int32.ofNat o), .int (Int32.ofNat len), .null] 6)) (T8.setTop (mkF m 39 #[.val (.ref a), .val (.ref b), .val (.int (Int32.ofNat o)), .val (.int (Int32.ofNat len)), .val .null, .unset] [.ref s.heap.size])) := g8
  have c10 : Steps p.tables e below (s₁.setTop (entryFrame m #[.ref a, .ref b, .int (Int32.ofNat o), .int (Int32.ofNat len), .null] 6)) (T8.setTop (mkF m 45 #[.val (.ref a), .val (.ref b), .val (.int (Int32.ofNat o)), .val (.int (Int32.ofNat len)), .val .null, .val (.ref s.heap.size)] [.int (Int32.ofNat N.slots.size), .ref s.heap.size, .ref a])) := by
    have hc : Steps p.tables e below (s₁.setTop (entryFrame m #[.ref a, .ref b, .int (Int32.ofNat o), .int (Int32.ofNat len), .null] 6)) (T8.setTop (mkF m 45 #[.val (.ref a), .val (.ref b), .val (.int (Int32.ofNat o)), .val (.int (Int32.ofNat len)), .val .null, .val (.ref s.heap.size)] [.int (Int32.ofNat len), .ref s.heap.size, .ref a])) := c9.trans (by
      refine XS.astore X8.here hexec rfl (hb hbytes d39) rfl rfl rfl ?_
      refine XS.aloadN X8.here hexec rfl (hb hbytes d41) rfl rfl ?_
      refine XS.aload X8.here hexec rfl (hb hbytes d42) rfl rfl ?_
      refine XS.iloadN X8.here hexec rfl (hb hbytes d44) rfl ?_
      exact Steps.refl _)
    rw [n4]; exact hc
  obtain ⟨v11, T11, X11, E11, g11⟩ := X8.callS hexec (CodL.law l s.heap.size N) hown (wks W (staticW "java/lang/String" 47 CodL.yN)) (wk W CodL.tab) (W := 1) (Nat.le_of_ble_eq_true rfl) (Nat.le_of_ble_eq_true rfl) (Nat.le_refl _) (by show 0 + len + 0 ≤ len; omega) (g := (mkF m 45 #[.val (.ref a), .val (.ref b), .val (.int (Int32.ofNat o)), .val (.int (Int32.ofNat len)), .val .null, .val (.ref s.heap.size)] [.int (Int32.ofNat N.slots.size), .ref s.heap.size, .ref a])) rfl (by rw [hml]; rfl) c10 (argsL := [.ref s.heap.size, .int (Int32.ofNat N.slots.size)]) (rest := [.ref a]) rfl rfl (by show 2 * 0 + (1 + 0) ≤ _; decide) (hb hbytes d45) (⟨rfl, n1⟩)
  obtain ⟨rfl, q11⟩ := E11
  have hB11 := hB1.mv (X8.warmed.alike.symm.trans X11.warmed.alike) q11
  have c12 : Steps p.tables e below (s₁.setTop (entryFrame m #[.ref a, .ref b, .int (Int32.ofNat o), .int (Int32.ofNat len), .null] 6)) (T11.setTop (mkF m 48 #[.val (.ref a), .val (.ref b), .val (.int (Int32.ofNat o)), .val (.int (Int32.ofNat len)), .val .null, .val (.ref s.heap.size)] [.int 0, .ref a])) := g11
  obtain ⟨T13, X13, p13, bl13, sl13, st13⟩ := X11.finit hexec hown (wk W (.fieldLink "java/lang/String" 15 "java/lang/String" "coder" "B")) (Or.inr ⟨_, (wk W (.laysFinal "java/lang/String" "java/lang/String" "coder" "B"))⟩) (Or.inl ⟨rfl, hnm⟩) f2 (Or.inl rfl) hB11 (t := .byte) (by decide +kernel) rfl (g := (mkF m 48 #[.val (.ref a), .val (.ref b), .val (.int (Int32.ofNat o)), .val (.int (Int32.ofNat len)), .val .null, .val (.ref s.heap.size)] [.int 0, .ref a])) rfl (rest := []) rfl (hb hbytes d48)
  have c14 : Steps p.tables e below (s₁.setTop (entryFrame m #[.ref a, .ref b, .int (Int32.ofNat o), .int (Int32.ofNat len), .null] 6)) (T13.setTop (mkF m 54 #[.val (.ref a), .val (.ref b), .val (.int (Int32.ofNat o)), .val (.int (Int32.ofNat len)), .val .null, .val (.ref s.heap.size)] [.ref s.heap.size, .ref a])) := (c12.trans (st13 _ (Steps.refl _))).trans (by
    refine XS.aloadN X13.here hexec rfl (hb hbytes d51) rfl rfl ?_
    refine XS.aload X13.here hexec rfl (hb hbytes d52) rfl rfl ?_
    exact Steps.refl _)
  obtain ⟨T15, X15, p15, bl15, sl15, st15⟩ := X13.finit hexec hown (wk W (.fieldLink "java/lang/String" 9 "java/lang/String" "value" "[B")) (Or.inr ⟨_, (wk W (.laysFinal "java/lang/String" "java/lang/String" "value" "[B"))⟩) (Or.inl ⟨rfl, hnm⟩) f1 (Or.inl rfl) bl13 (t := (.array .byte)) (by decide +kernel) rfl (g := (mkF m 54 #[.val (.ref a), .val (.ref b), .val (.int (Int32.ofNat o)), .val (.int (Int32.ofNat len)), .val .null, .val (.ref s.heap.size)] [.ref s.heap.size, .ref a])) rfl (rest := []) rfl (hb hbytes d54)
  have c16 : Steps p.tables e below (s₁.setTop (entryFrame m #[.ref a, .ref b, .int (Int32.ofNat o), .int (Int32.ofNat len), .null] 6)) (T15.setTop (mkF m 57 #[.val (.ref a), .val (.ref b), .val (.int (Int32.ofNat o)), .val (.int (Int32.ofNat len)), .val .null, .val (.ref s.heap.size)] [])) := c14.trans (st15 _ (Steps.refl _))
  have ap := apart (Or.inr ⟨_, (wk W (.laysFinal "java/lang/String" "java/lang/String" "value" "[B"))⟩) (Or.inr ⟨_, (wk W (.laysFinal "java/lang/String" "java/lang/String" "coder" "B"))⟩) f1 f2 (t₁ := .array .byte) (t₂ := .byte) (by decide +kernel) (by decide +kernel) (by decide)
  have al := X8.warmed.alike.symm.trans X15.warmed.alike
  have n7 : T11.heap[s.heap.size]? = some N := by rw [q11]; exact n1.1
  exact ⟨T15, none, _, _, _, X15, by simp, rfl, by omega, (fun _ => rfl), ⟨rfl, _, N, bl15, ((Same.refl D _).set _ (by simp)).set _ (by simp), sl15, (Cell.slots_setSlot_ne _ ap).trans sl13, n1.keep al (p15.other hne (p13.other hne n7)), n2, by rw [al.findClass]; exact n3, n4, n5, fun y c h1 h2 => p15.other h1 (p13.other h1 (by rw [q11]; exact n6 y c h2)), by rw [p15.2.2, p13.2.2, q11]; exact z8⟩, fun fs hl => c16.trans (X15.returnOut hexec hret (hb hbytes d57) hl)⟩
end New4
namespace New1
def yN : MethodName := ⟨"java/lang/String", "<init>", "([C)V"⟩
abbrev yB : ByteArray := jdk_42_method_3_code
theorem d0 : decode yB 0 = .ok (.aload_n 0, 1) := by decide +kernel
theorem d1 : decode yB 1 = .ok (.aload_n 1, 1) := by decide +kernel
theorem d2 : decode yB 2 = .ok (.iconst 0, 1) := by decide +kernel
theorem d3 : decode yB 3 = .ok (.aload_n 1, 1) := by decide +kernel
theorem d4 : decode yB 4 = .ok (.arraylength, 1) := by decide +kernel
theorem d5 : decode yB 5 = .ok (.aconst_null, 1) := by decide +kernel
theorem d6 : decode yB 6 = .ok (.invokespecial 27, 3) := by decide +kernel
theorem d9 : decode yB 9 = .ok (.return_, 1) := by decide +kernel
def site : List Cond := [New4.tab] ++ initW "java/lang/String" 27 New4.yN
def tab : Cond := tabOf yN yB 2 none site
def P (a : Addr) (D : Cell) (fV fC : Field) (b : Addr) (A : Cell) (z : Int32) (args : Array Value) (s : State) : Prop := args = #[.ref a, .ref b] ∧ Blank "java/lang/String" a D s ∧ Found "java/lang/String" "value" "[B" fV s ∧ Found "java/lang/String" "coder" "B" fC s ∧ Ch b A s ∧ StaticIs s "java/lang/String" "COMPACT_STRINGS" "Z" (.int z) ∧ ¬ z = 0 ∧ 0 < A.slots.size ∧ A.slots.size ≤ 536870912 ∧ ∀ i, i < A.slots.size → ¬ 255 < cv A i
def E (a : Addr) (D : Cell) (fV fC : Field) (A : Cell) (r : Option Value) (s u : State) : Prop := Got a D fV fC A 0 A.slots.size r s u
/-- new String(chars), not empty, no char above 255: a Latin-1 String of their low bytes -/
theorem law (l : Launch) (a : Addr) (D : Cell) (fV fC : Field) (b : Addr) (A : Cell) (z : Int32) : Law l yN 2 1 3 52 yB 2 none site (P a D fV fC b A z) (E a D fV fC A) [⟨a, fC.slot⟩, ⟨a, fV.slot⟩] 1 A.slots.size := by
  refine Law.of_walk (plainFor_of_name (by decide +kernel)) (by decide +kernel) (by decide +kernel) (by decide) (fun _ _ h => by rw [h.1]; rfl) (fun _ U U' hal hh h => ⟨h.1, h.2.1.mv hal hh, h.2.2.1.al hal, h.2.2.2.1.al hal, h.2.2.2.2.1.mv hal hh, h.2.2.2.2.2.1.there hal hh, h.2.2.2.2.2.2⟩) (fun r U U' V V' h1 hal h2 h => Got.mv r U U' V V' h1 hal h2 h) ?_
  intro p e s m args below meth c s₁ X0 hexec hbytes hml hret hlk hnm hown hh0 W hP
  obtain ⟨rfl, hB, f1, f2, hA, s1, hz, l0, l2, hp⟩ := hP
  have c1 : Steps p.tables e below (s₁.setTop (entryFrame m #[.ref a, .ref b] 2)) (s₁.setTop (mkF m 0 #[.val (.ref a), .val (.ref b)] [])) := entry rfl
  have c2 : Steps p.tables e below (s₁.setTop (entryFrame m #[.ref a, .ref b] 2)) (s₁.setTop (mkF m 6 #[.val (.ref a), .val (.ref b)] [.null, .int (Int32.ofNat A.slots.size), .int 0, .ref b, .ref a])) := c1.trans (by
    refine XS.aloadN X0.here hexec rfl (hb hbytes d0) rfl rfl ?_
    refine XS.aloadN X0.here hexec rfl (hb hbytes d1) rfl rfl ?_
    refine iconstV X0.here hexec rfl 0 (hb hbytes d2) (by decide) ?_
    refine XS.aloadN X0.here hexec rfl (hb hbytes d3) rfl rfl ?_
    refine X0.alen hexec (hA.1.mv X0.warmed.alike hh0) rfl rfl (hb hbytes d4) ?_
    refine XS.aconstNull X0.here hexec rfl (hb hbytes d5) ?_
    exact Steps.refl _)
  obtain ⟨v3, T3, X3, E3, g3⟩ := X0.callN hexec (New4.law l a D fV fC b A z 0 A.slots.size) rfl hown (wks W (initW "java/lang/String" 27 New4.yN)) (W New4.tab (by simp only [site, List.mem_cons, List.mem_append, true_or, or_true])) (W := 0) (Nat.le_of_ble_eq_true rfl) (Nat.le_of_ble_eq_true rfl) (Nat.le_refl _) (by show 0 + A.slots.size ≤ A.slots.size; omega) (g := (mkF m 6 #[.val (.ref a), .val (.ref b)] [.null, .int (Int32.ofNat A.slots.size), .int (Int32.ofNat 0), .ref b, .ref a])) rfl (by rw [hml]; rfl) c2 (argsL := [.ref b, .int (Int32.ofNat 0), .int (Int32.ofNat A.slots.size), .null]) (rest := []) rfl rfl (by show 2 * 0 + 0 ≤ _; decide) (hb hbytes d6) (⟨rfl, hB.mv X0.warmed.alike hh0, f1.al X0.warmed.alike, f2.al X0.warmed.alike, hA.mv X0.warmed.alike hh0, s1.there X0.warmed.alike hh0, hz, l0, by omega, l2, fun i hi => by rw [Nat.zero_add]; exact hp i hi⟩)
  have e0 := Got.mv _ s₁ s _ _ hh0.symm (Vm.Alike.refl _) rfl E3
  obtain rfl := e0.1
  have c4 : Steps p.tables e below (s₁.setTop (entryFrame m #[.ref a, .ref b] 2)) (T3.setTop (mkF m 9 #[.val (.ref a), .val (.ref b)] [])) := g3
  exact ⟨T3, none, _, _, _, X3, by simp, rfl, by omega, (fun _ => rfl), e0, fun fs hl => c4.trans (X3.returnOut hexec hret (hb hbytes d9) hl)⟩
theorem pays {l : Launch} {R : Room} {p : Program} {e : Env} {below : List Frame} {s : State} {sargs : Array Value} {len W : Nat} (a : Addr) (D : Cell) (fV fC : Field) (b : Addr) (A : Cell) (z : Int32) (htab : tab.before sargs s = true) (hfr : 4 ≤ R.frames) (hlo : W + 65 ≤ R.locals) :
    Back l R p e below s sargs yN len W (fun A₁ a₁ => A₁.cells + 1 ≤ R.cells ∧ A₁.slots + A.slots.size ≤ R.slots ∧ P a D fV fC b A z a₁ A₁.U) (fun A₁ _ v₁ B₁ => E a D fV fC A v₁ A₁.U B₁.U ∧ B₁.locs = A₁.locs ++ [⟨a, fC.slot⟩, ⟨a, fV.slot⟩] ∧ B₁.cells = A₁.cells + 1 ∧ B₁.slots = A₁.slots + A.slots.size) :=
  (law l a D fV fC b A z).pays htab hfr (by omega)
end New1
end StrChars
namespace StrChars.Road
open Jvm Sem ClassFile Op Lib Jvm.Stand Jvm.Free Jvm.Free.XT
open Jvm.Lib.Cold (StaticIs)
abbrev ST : String := "java/lang/String"
/-- every table word that New1's law asks, flat -/
abbrev words : List Jvm.Cond := [.code New1.yN New1.yB 2 none, .initialized ST, .methodLink ST 27 New4.yN, .instanceMethod New4.yN,
  .code New4.yN New4.yB 6 none, .fieldLink ST 38 ST "COMPACT_STRINGS" "Z", .laysFinal ST ST "value" "[B", .fieldLink ST 9 ST "value" "[B", .laysFinal ST ST "coder" "B", .fieldLink ST 15 ST "coder" "B",
  .methodLink ST 1 Lib.objectInit, .instanceMethod Lib.objectInit, .code Lib.objectInit ⟨#[0xb1]⟩ 1 none, .methodLink ST 177 Cmp3.yN, .static Cmp3.yN, .methodLink ST 47 CodL.yN, .static CodL.yN,
  .code Cmp3.yN Cmp3.yB 6 (some (.array .byte)), .initialized U16, .arrayClass .byte, .methodLink U16 115 Cmp5.yN, .static Cmp5.yN, .code Cmp5.yN Cmp5.yB 7 (some .int), .code CodL.yN CodL.yB 2 (some .byte)]
theorem tab_of {a : Array Value} {s : State} (h : ∀ w ∈ words, w.before a s = true) : New1.tab.before a s = true := by
  have h5 : Cmp5.tab.before a s = true := unparts (wk h (.code Cmp5.yN Cmp5.yB 7 (some .int))) (wks h (.initialized Cmp5.yN.cls :: Cmp5.site))
  have hc : CodL.tab.before a s = true := unparts (wk h (.code CodL.yN CodL.yB 2 (some .byte))) (wks h (.initialized CodL.yN.cls :: CodL.site))
  have q5 : ∀ w ∈ Cmp5.tab :: words, w.before a s = true := fun w hw => (List.mem_cons.mp hw).elim (fun e => e ▸ h5) (h w)
  have h3 : Cmp3.tab.before a s = true := unparts (wk q5 (.code Cmp3.yN Cmp3.yB 6 (some (.array .byte)))) (wks q5 (.initialized Cmp3.yN.cls :: Cmp3.site))
  have q3 : ∀ w ∈ Cmp3.tab :: CodL.tab :: words, w.before a s = true := fun w hw => (List.mem_cons.mp hw).elim (fun e => e ▸ h3) fun hw => (List.mem_cons.mp hw).elim (fun e => e ▸ hc) (h w)
  have h4 : New4.tab.before a s = true := unparts (wk q3 (.code New4.yN New4.yB 6 none)) (wks q3 (.initialized New4.yN.cls :: New4.site))
  have q4 : ∀ w ∈ New4.tab :: words, w.before a s = true := fun w hw => (List.mem_cons.mp hw).elim (fun e => e ▸ h4) (h w)
  exact unparts (wk q4 (.code New1.yN New1.yB 2 none)) (wks q4 (.initialized New1.yN.cls :: New1.site))
/-- the words ride from the start Z to the walk's own state -/
theorem moved {Z s : State} {a0 args : Array Value} (hZ : Z.Warmed39 s.vm) (hw : ∀ d ∈ words, d.before a0 Z = true) : ∀ d ∈ words, d.before args s = true := fun d hd => by
  have q := hw d hd
  have t : ∀ d ∈ words, d = .arrayClass .byte ∨ (d.onTables && d.keepsFace) = true := by decide +kernel
  rcases t d hd with rfl | t
  · exact RoadKit.mvA hZ q
  · exact RoadKit.mv hZ q t
/-- WHAT COMES BACK, over the tables of the start Z: h the heap at the call, h' behind it -/
def Q (Z : State) (x : Addr) (A : Cell) (h : Heap) (v : Option Value) (h' : Heap) (L : List Loc) : Prop := v = none ∧ (∀ y ∈ L, y.base = x) ∧ RoadKit.Keep h h' [x] ∧ h'.size = h.size + 1 ∧ RoadKit.Exa Z h' x ST ∧ RoadKit.Fld Z h' x ST "value" "[B" (.ref h.size) ∧ RoadKit.Fld Z h' x ST "coder" "B" (.int 0) ∧
  (∃ V : Cell, RoadKit.Arr Z h' h.size V .byte ∧ V.vm = .none ∧ Z.vm.findClass "[B" = some V.cls ∧ V.slots.size = A.slots.size ∧ ∀ j, j < A.slots.size → V.slots[j]? = some (.int (lo8 (cv A j)))) ∧
  ∀ (O n d : String) (w : Value), RoadKit.Fld Z h x O n d w → RoadKit.slotOf Z O n d ≠ RoadKit.slotOf Z ST "value" "[B" → RoadKit.slotOf Z O n d ≠ RoadKit.slotOf Z ST "coder" "B" → RoadKit.Fld Z h' x O n d w
/-- **new String(chars) AT A CALL, IN THE ROAD'S FORM**: for specialBack behind newO: x the fresh String, b the char[] with the cell A -/
theorem back {p : Program} {l : Launch} {e : Env} {R : Room} {s : State} {args : Array Value} {below : List Frame} {len W : Nat} {Z : State} {a0 : Array Value} {h : Heap} (hZ : Z.Warmed39 s.vm) (hw : ∀ d ∈ words, d.before a0 Z = true) {kI : Nat} (wi : (Jvm.Cond.instantiable ST kI).before a0 Z = true)
    {x b : Addr} {A : Cell} {z : Int32} {v0 c0 : Value} (E : RoadKit.Exa Z h x ST) (V : RoadKit.Fld Z h x ST "value" "[B" v0) (C : RoadKit.Fld Z h x ST "coder" "B" c0) (K : RoadKit.Arr Z h b A .char) (hty : Typed .char A) (S : RoadKit.Sta Z h ST "COMPACT_STRINGS" "Z" (.int z)) (hz : ¬ z = 0)
    (l0 : 0 < A.slots.size) (l2 : A.slots.size ≤ 536870912) (hp : ∀ i, i < A.slots.size → ¬ 255 < cv A i) (hfr : 4 ≤ R.frames) (hlo : W + 65 ≤ R.locals) :
    Back l R p e below s args New1.yN len W (fun P a => a = #[.ref x, .ref b] ∧ P.U.heap = h ∧ P.cells + 1 ≤ R.cells ∧ P.slots + A.slots.size ≤ R.slots)
      (fun P _ v B => ∃ L, Q Z x A h v B.U.heap L ∧ B.locs = P.locs ++ L ∧ B.cells = P.cells + 1 ∧ B.slots = P.slots + A.slots.size) := by
  intro m meth c P g ig mk a X hg hsize hdg hW hn hp'
  obtain ⟨rfl, rfl, r1, r2⟩ := hp'
  have al : Z.vm.Alike P.U.vm := hZ.alike.trans X.warmed.alike
  obtain ⟨D, cfV, kV, iV, fV, hD, gV, stV, knV, obV, asV, slV⟩ := id V
  obtain ⟨D', cfC, kC, iC, fC, hD', gC, stC, -, -, asC, slC⟩ := id C
  cases hD.symm.trans hD'
  obtain ⟨D2, kD, e1, e2, e3, e4, e5⟩ := id E
  cases hD.symm.trans e1
  obtain ⟨c2, k2, i1, i2, i3, -⟩ := Cond.instantiable_spec wi
  cases e2.symm.trans i1
  cases e3.symm.trans i2
  obtain ⟨kU, u1, u2⟩ := al.2.2 _ _ e3
  have hB : Blank ST x D P.U := ⟨hD, ⟨knV, fun q hq => by rw [hq] at obV; cases obV⟩, by rw [al.findClass]; exact e2, kU, u1, by rw [u2]; exact i3, by rw [u2]; exact e5 i3⟩
  have F1 : Found ST "value" "[B" fV P.U := ⟨SBG.found_only al ⟨cfV, kV, iV, gV⟩, stV⟩
  have F2 : Found ST "coder" "B" fC P.U := ⟨SBG.found_only al ⟨cfC, kC, iC, gC⟩, stC⟩
  have hA : Ch b A P.U := ⟨⟨K.1, State.isArrayOf_alike al K.2.1, K.2.2, by omega⟩, hty⟩
  have hS : StaticIs P.U ST "COMPACT_STRINGS" "Z" (.int z) := by
    obtain ⟨cfS, iS, kS, fS, st, cS, t1, t2, t3, t4, t5, t6, t7⟩ := S
    exact StaticIs.there (s := { Z with heap := P.U.heap }) ⟨cfS, iS, kS, fS, st, cS, t1, t2, t3, t4, t5, (fun q => by rw [q] at t6; cases t6), t7⟩ al rfl
  obtain ⟨v, B, X', ⟨⟨hv, E', V', q1, q2, q3, q4, q5, q6, q7, q8, q9, q10, q11⟩, hl, hc, hs⟩, st⟩ := New1.pays x D fV fC b A z (tab_of (moved hZ hw)) hfr hlo m meth c P g ig mk _ X hg hsize hdg hW hn ⟨r1, r2, rfl, hB, F1, F2, hA, hS, hz, l0, l2, hp⟩
  have al' : Z.vm.Alike B.U.vm := hZ.alike.trans X'.warmed.alike
  have hsz : E'.slots.size = D.slots.size := by
    obtain ⟨-, -, -, kB, w1, w2, w3⟩ := q1
    obtain ⟨kB', y1, y2⟩ := al'.2.2 _ _ e3
    rw [q2.2.1] at w1
    cases w1.symm.trans y1
    rw [w3, e5 i3, y2]
  refine ⟨v, B, X', ⟨_, ⟨hv, ?_, ⟨by omega, fun y cy hy hn' => q10 y cy (by simpa using hn') hy, fun y cy hy => ?_⟩, q11, ⟨E', _, q1.1, by rw [q2.2.1]; exact e2, by rw [q2.2.1]; exact e3, by rw [q2.1]; exact obV, fun _ => by rw [hsz]; exact e5 i3⟩,
    ⟨E', cfV, kV, iV, fV, q1.1, gV, stV, by rw [q2.1]; exact knV, by rw [q2.1]; exact obV, by rw [q2.2.1]; exact asV, q3⟩, ⟨E', cfC, kC, iC, fC, q1.1, gC, stC, by rw [q2.1]; exact knV, by rw [q2.1]; exact obV, by rw [q2.2.1]; exact asC, q4⟩,
    ⟨V', ⟨q5.1, State.isArrayOf_alike al'.symm q5.2.1, q5.2.2.1⟩, q6, by rw [← al'.findClass]; exact q7, q8, fun j hj => by have := q9 j hj; rwa [Nat.zero_add] at this⟩, fun O n d w F n1 n2 => ?_⟩, hl, hc, hs⟩, st⟩
  · intro y hy
    simp only [List.mem_cons, List.not_mem_nil, or_false] at hy
    rcases hy with rfl | rfl <;> rfl
  · by_cases q : y = x
    · subst q
      cases hD.symm.trans hy
      exact ⟨E', q1.1, q2.2.1, q2.1, hsz⟩
    · exact ⟨cy, q10 y cy q hy, rfl, rfl, rfl⟩
  · obtain ⟨D3, cf, k, i, f, g1, g2, g3, g4, g5, g6, g7⟩ := F
    cases hD.symm.trans g1
    simp only [RoadKit.slotOf, g2, gV, gC, Option.map_some, Option.getD_some] at n1 n2
    exact ⟨E', cf, k, i, f, q1.1, g2, g3, by rw [q2.1]; exact g4, by rw [q2.1]; exact g5, by rw [q2.2.1]; exact g6, by rw [q2.2.2 f.slot (by simp [n1, n2])]; exact g7⟩
end StrChars.Road
namespace StrChars.Road
open Jvm Sem ClassFile Op Lib Jvm.Stand Jvm.Free Jvm.Free.XT
/-- WHAT COMES BACK, the byte[] as a list of values -/
def QA (Z : State) (x : Addr) (zn : Int32) (cs : List Int32) (h : Heap) (v : Option Value) (h' : Heap) (L : List Loc) : Prop := v = none ∧ (∀ y ∈ L, y.base = x) ∧ RoadKit.Keep h h' [x] ∧ h'.size = h.size + 1 ∧ RoadKit.Exa Z h' x ST ∧ RoadKit.Fld Z h' x ST "value" "[B" (.ref h.size) ∧ RoadKit.Fld Z h' x ST "coder" "B" (.int 0) ∧
  (∃ kb, Z.vm.findClass "[B" = some kb ∧ RoadKit.Arv Z h' h.size kb .byte zn (cs.map fun c => .int (lo8 c)) (.int 0)) ∧
  ∀ (O n d : String) (w : Value), RoadKit.Fld Z h x O n d w → RoadKit.slotOf Z O n d ≠ RoadKit.slotOf Z ST "value" "[B" → RoadKit.slotOf Z O n d ≠ RoadKit.slotOf Z ST "coder" "B" → RoadKit.Fld Z h' x O n d w
/-- **new String(chars) AT A CALL, THE ARRAYS AS LISTS**: the char[] at b holds cs, not empty, no char above 255 -/
theorem backArv {p : Program} {l : Launch} {e : Env} {R : Room} {s : State} {args : Array Value} {below : List Frame} {len W : Nat} {Z : State} {a0 : Array Value} {h : Heap} (hZ : Z.Warmed39 s.vm) (hw : ∀ d ∈ words, d.before a0 Z = true) {kI : Nat} (wi : (Jvm.Cond.instantiable ST kI).before a0 Z = true)
    {x b : Addr} {k : ClassId} {zn z : Int32} {cs : List Int32} {dv v0 c0 : Value} (E : RoadKit.Exa Z h x ST) (V : RoadKit.Fld Z h x ST "value" "[B" v0) (C : RoadKit.Fld Z h x ST "coder" "B" c0) (K : RoadKit.Arv Z h b k .char zn (cs.map Value.int) dv) (S : RoadKit.Sta Z h ST "COMPACT_STRINGS" "Z" (.int z)) (hz : ¬ z = 0)
    (hlen : zn.toNatClampNeg = cs.length) (h0 : 0 < cs.length) (hbig : cs.length ≤ 536870912) (hall : ∀ c ∈ cs, ¬ 255 < c) (hfr : 4 ≤ R.frames) (hlo : W + 65 ≤ R.locals) :
    Back l R p e below s args New1.yN len W (fun P a => a = #[.ref x, .ref b] ∧ P.U.heap = h ∧ P.cells + 1 ≤ R.cells ∧ P.slots + cs.length ≤ R.slots)
      (fun P _ v B => ∃ L, QA Z x zn cs h v B.U.heap L ∧ B.locs = P.locs ++ L ∧ B.cells = P.cells + 1 ∧ B.slots = P.slots + cs.length) := by
  obtain ⟨A, K1, K2, K3, K4, K5, K6⟩ := K
  have e : A.slots.size = cs.length := K3.trans hlen
  have hat : ∀ (i : Nat) (hi : i < cs.length), A.slots[i]? = some (.int cs[i]) := fun i hi => by rw [K5 i (by omega)]; simp [List.getD_eq_getElem?_getD, hi]
  have hcv : ∀ (i : Nat) (hi : i < cs.length), cv A i = cs[i] := fun i hi => by unfold cv; rw [hat i hi]
  have hty : Typed .char A := fun i v hv => by
    have hi : i < A.slots.size := (Array.getElem?_eq_some_iff.mp hv).1
    have q := K5 i hi
    rw [hv] at q
    rw [Option.some.inj q]
    exact K6 i hi
  refine Back.mono (back hZ hw wi E V C K1 hty S hz (by omega) (by omega) (fun i hi => by rw [hcv i (by omega)]; exact hall _ (List.getElem_mem _)) hfr hlo) (fun P a hp => ⟨hp.1, hp.2.1, hp.2.2.1, by rw [e]; exact hp.2.2.2⟩) (fun P a v B hp hq => ?_)
  obtain ⟨L, ⟨q1, q2, q3, q4, q5, q6, q7, ⟨V', v1, v2, v3, v4, v5⟩, q9⟩, hl, hc, hs⟩ := hq
  refine ⟨L, ⟨q1, q2, q3, q4, q5, q6, q7, ⟨V'.cls, v3, V', v1, rfl, by rw [v4, e, hlen], K4, fun i hi => ?_, fun i hi => ?_⟩, q9⟩, hl, hc, by rw [hs, e]⟩
  · have hi' : i < cs.length := by omega
    rw [v5 i (by omega), hcv i hi']; simp [List.getD_eq_getElem?_getD, hi']
  · have hi' : i < cs.length := by omega
    simp only [List.getD_eq_getElem?_getD, List.getElem?_map, List.getElem?_eq_getElem hi', Option.map_some, Option.getD_some]
    exact fits_lo8 _
end StrChars.Road
namespace StrChars.Road
open Jvm Sem ClassFile Op Lib Jvm.Stand Jvm.Free Jvm.Free.XT
/-- WHAT COMES BACK, in the writer's own shape -/
def QV (Z : State) (x : Addr) (N : Int32) (bs : List Int32) (h : Heap) (n0 : Nat) (v : Option Value) (h' : Heap) (L : List Loc) : Prop := v = none ∧ RoadKit.Fr n0 L ∧ RoadKit.Keep h h' [x] ∧ RoadKit.Exa Z h' x ST ∧ RoadKit.Fld Z h' x ST "coder" "B" (.int 0) ∧
  ∃ (t : Addr) (kb : ClassId), n0 ≤ t ∧ h.size ≤ t ∧ ¬ t = x ∧ RoadKit.Fld Z h' x ST "value" "[B" (.ref t) ∧ RoadKit.Arv Z h' t kb .byte N (bs.map Value.int) (.int 0)
/-- **new String(chars) AT A CALL, FOR THE WRITER**: a char[] of n known ints, each 0 to 255 -/
theorem backV {p : Program} {l : Launch} {e : Env} {R : Room} {s : State} {args : Array Value} {below : List Frame} {len W : Nat} {Z : State} {a0 : Array Value} {h : Heap} (hZ : Z.Warmed39 s.vm) (hw : ∀ d ∈ words, d.before a0 Z = true) {kI : Nat} (wi : (Jvm.Cond.instantiable ST kI).before a0 Z = true)
    {x b : Addr} {kC : ClassId} {cs bs : List Int32} {d v0 c0 : Value} {z N : Int32} {n n0 : Nat} (hx0 : n0 ≤ x) (hh0 : n0 ≤ h.size) (E : RoadKit.Exa Z h x ST) (V : RoadKit.Fld Z h x ST "value" "[B" v0) (C : RoadKit.Fld Z h x ST "coder" "B" c0) (K : RoadKit.Arv Z h b kC .char N (cs.map Value.int) d) (S : RoadKit.Sta Z h ST "COMPACT_STRINGS" "Z" (.int z)) (hz : ¬ z = 0)
    (hn : cs.length = n) (hN : N = Int32.ofNat n) (l0 : 0 < n) (l2 : n ≤ 4000) (hp : ∀ c ∈ cs, ¬ c < 0 ∧ ¬ (255 : Int32) < c) (hb : bs = cs.map (fun c => c.toInt8.toInt32)) (hfr : 4 ≤ R.frames) (hlo : W + 65 ≤ R.locals) :
    Back l R p e below s args (⟨"java/lang/String", "<init>", "([C)V"⟩ : MethodName) len W (fun P a => a = #[.ref x, .ref b] ∧ P.U.heap = h ∧ P.cells + 1 ≤ R.cells ∧ P.slots + n ≤ R.slots)
      (fun P _ v B => ∃ L, QV Z x N bs h n0 v B.U.heap L ∧ B.locs = P.locs ++ L ∧ B.cells = P.cells + 1 ∧ B.slots = P.slots + n) := by
  subst hn hN hb
  refine Back.mono (backArv hZ hw wi E V C K S hz (n32 (by omega)) l0 (by omega) (fun c hc => (hp c hc).2) hfr hlo) (fun P a hp => hp) (fun P a v B hp hq => ?_)
  obtain ⟨L, ⟨q1, q2, q3, q4, q5, q6, q7, ⟨kb, v1, v2⟩, q9⟩, hl, hc, hs⟩ := hq
  exact ⟨L, ⟨q1, fun y hy => by rw [q2 y hy]; exact hx0, q3, q5, q7, h.size, kb, hh0, Nat.le_refl _, Nat.ne_of_gt E.lt, q6, by rw [List.map_map]; exact v2⟩, hl, hc, hs⟩
end StrChars.Road
end Jvm.Pilot.@@N@@

namespace Jvm.Pilot.@@N@@
open Jvm Jvm.ClassFile Sem Op Lib Jvm.Free Jvm.Stand Jvm.LawKit Jvm.RoadKit Bundle Jvm.Pilot.@@N@@.Jvm.D


theorem own_putC {p : Program} {l : Launch} {e : Env} {R : Room} {s : State} {m : MethodId} {args : Array Value} {below : List Frame} {meth : Method} {c : Code} {T : State} {locs : List Loc} {cells slots : Nat} {Z : State} {h : Heap} (X : Stand p l e R s m args below meth c T locs cells slots) (hx : p.tables.exec = Jvm.exec) (hZ : Z.Warmed39 s.vm) (eT : T.heap = h) {a : Addr} {k : ClassId} {z : Int32} {vs : List Value} (F : Arv Z h a k .char z vs (.int (0 : Int32))) {x : Int32} {j : Int32} (hj : j.toNatClampNeg = vs.length) (h0 : ¬ j < 0) (hl : vs.length < z.toNatClampNeg) {g : JFrame} (hg : g.method = m) {rest : List Value} (hs : g.stack = .int x :: .int j :: .ref a :: rest) (hd : decode c.code g.pc = .ok (.castore, 1)) :
    ∃ T' h', Stand p l e R s m args below meth c T' (locs ++ [⟨a, j.toNatClampNeg⟩]) cells slots ∧ T'.heap = h' ∧ Wr h h' a j.toNatClampNeg (.int (nar .char x)) ∧ Arv Z h' a k .char z (vs ++ [(.int (nar .char x))]) (.int (0 : Int32)) ∧ ∀ target, Steps p.tables e below (T'.setTop { g with pc := g.pc + 1, stack := rest }) target → Steps p.tables e below (T.setTop g) target := by
  have V' : Arv Z h a k .char z (vs ++ [(.int (0 : Int32))]) (.int (0 : Int32)) := F.pad (pad_rep vs (.int (0 : Int32)) 1)
  obtain ⟨cl, Ar, q, S, M, H, U⟩ := V'
  have hin : ¬ (j < 0 ∨ cl.slots.size ≤ j.toNatClampNeg) := by
    rw [S, hj]; exact fun q => q.elim h0 (fun q => absurd hl (Nat.not_lt.mpr q))
  obtain ⟨T', h', X', e', W, st⟩ := stC X hx hZ eT Ar hin hg hs hd
  have V3 := Arv.set Ar q S M H U (v := (.int (nar .char x))) (fits_nar_char _) W vs.length hj (by simp)
  rw [show (vs ++ [(Value.int (0 : Int32))]).set vs.length (Value.int (nar .char x)) = vs ++ [(Value.int (nar .char x))] by simp] at V3
  exact ⟨T', h', X', e', W, V3, st⟩

theorem own_and255 (x : Int32) : ¬ nar .char ((x &&& (255 : Int32)).toUInt32.toUInt16.toUInt32.toInt32) < 0 ∧ ¬ (255 : Int32) < nar .char ((x &&& (255 : Int32)).toUInt32.toUInt16.toUInt32.toInt32) := by
  have t : ∀ k : Fin 256, ¬ nar .char ((Int32.ofNat k.val).toUInt32.toUInt16.toUInt32.toInt32) < 0 ∧ ¬ (255 : Int32) < nar .char ((Int32.ofNat k.val).toUInt32.toUInt16.toUInt32.toInt32) := by decide +kernel
  have h : (x &&& 255).toBitVec.toNat < 256 := by
    simp only [Int32.toBitVec_and, BitVec.toNat_and]
    exact Nat.lt_succ_of_le Nat.and_le_right
  have e : (x &&& 255) = Int32.ofNat (x &&& 255).toBitVec.toNat := by
    apply Int32.toBitVec_inj.mp
    show _ = BitVec.ofNat 32 _
    rw [BitVec.ofNat_toNat]; simp
  rw [e]
  exact t ⟨_, h⟩
theorem own_up (cs : List Int32) (h : ∀ c ∈ cs, ¬ c < 0 ∧ ¬ (255 : Int32) < c) : ∀ c ∈ cs, ¬ c < 0 ∧ ¬ (65535 : Int32) < c := fun c hc => ⟨(h c hc).1, fun q => (h c hc).2 (by rw [Int32.lt_iff_toInt_lt] at q ⊢; have e1 : (65535 : Int32).toInt = 65535 := rfl; have e2 : (255 : Int32).toInt = 255 := rfl; omega)⟩

theorem d7_0 : decode prog_35_method_5_code 0 = .ok (.iload_n 2, 1) := by decide +kernel
theorem d7_1 : decode prog_35_method_5_code 1 = .ok (.iload_n 3, 1) := by decide +kernel
theorem d7_2 : decode prog_35_method_5_code 2 = .ok (.if_icmp .lt 11, 3) := by decide +kernel
theorem d7_5 : decode prog_35_method_5_code 5 = .ok (.iload_n 2, 1) := by decide +kernel
theorem d7_6 : decode prog_35_method_5_code 6 = .ok (.aload_n 0, 1) := by decide +kernel
theorem d7_7 : decode prog_35_method_5_code 7 = .ok (.getfield 48, 3) := by decide +kernel
theorem d7_10 : decode prog_35_method_5_code 10 = .ok (.if_icmp .le 23, 3) := by decide +kernel
theorem d7_33 : decode prog_35_method_5_code 33 = .ok (.return_, 1) := by decide +kernel
theorem ef_7 (m : MethodId) (x0 : Addr) (x1 : Addr) (x2 : Int32) (x3 : Int32) : entryFrame m #[(.ref x0), (.ref x1), (.int x2), (.int x3)] 4 = mkF m 0 #[.val (.ref x0), .val (.ref x1), .val (.int x2), .val (.int x3)] [] := by first | (simp [entryFrame, mkF, argsToLocals, Value.category]; done) | rfl
theorem pn_7 : plainName "com/example/vestwright/vestwright/plan/WholeFigure" = true := by first | (simp [plainName, overriddenIn]; done) | decide +kernel
def Qd0 (Z : State) (o sA : Addr) (f g hi : Int32) (h0 : Heap) (n0 : Nat) (v : Option Value) (h : Heap) (L : List Loc) : Prop := v = none ∧ Fr n0 L ∧ h = h0
set_option maxRecDepth 65536 in
set_option maxHeartbeats 40000000 in
theorem rmC (l : Launch) (Z : State) (a0 : Array Value) (hw : ∀ d ∈ tables_1, d.before a0 Z = true) (ws : List Jvm.Cond) (o sA : Addr) (f g hi : Int32) (h0 : Heap) (n0 : Nat) (FM : Fld Z h0 o "com/example/vestwright/vestwright/plan/WholeFigure" "most" "I" (.int hi)) (hc2 : ¬ (f < g)) (hc10 : ¬ (hi < f)) :
    MetFree l (⟨"com/example/vestwright/vestwright/plan/WholeFigure", "check", "(Ljava/lang/String;II)V"⟩ : MethodName) (head1 (Jvm.Cond.code (⟨"com/example/vestwright/vestwright/plan/WholeFigure", "check", "(Ljava/lang/String;II)V"⟩ : MethodName) prog_35_method_5_code 4 none :: ws) ({ frames := 0, cells := 0, slots := 0, locals := 0 } : Room)) (fun qq U => qq = #[(.ref o), (.ref sA), (.int f), (.int g)] ∧ Z.Warmed39 U.vm ∧ U.heap = h0) (fun _ _ _ _ _ => True) (fun _ UU oo UU' => ∃ vv LL, oo = .returned vv ∧ Qd0 Z o sA f g hi h0 n0 vv UU'.heap LL ∧ FrameEnd UU oo UU' LL ({ frames := 0, cells := 0, slots := 0, locals := 0 } : Room).cells ({ frames := 0, cells := 0, slots := 0, locals := 0 } : Room).slots) := by
  refine MetFree.of_bodySF (plainFor_of_name pn_7) hisR ?_
  intro p e s m args below meth c s₁ Bd hml0 hP hK
  obtain ⟨rfl, hZ, hh⟩ := hP
  have hx := Bd.exec
  have hby := Bd.bytes
  have hml : c.maxLocals = 4 := hml0
  have hown : s.vm.findClass "com/example/vestwright/vestwright/plan/WholeFigure" = some m.cls := findClass_of_methodNamed Bd.named
  have hnm := (name_of_methodNamed Bd.named Bd.method).1
  have X0 : Stand p l e ({ frames := 0, cells := 0, slots := 0, locals := 0 } : Room) s m #[(.ref o), (.ref sA), (.int f), (.int g)] below meth c s₁ [] 0 0 := Stand.of_body Bd
  have e0 : s₁.heap = h0 := by rw [← hh, Bd.state]; rfl
  have N0 := Fr.nil n0
  have pre0 : ∀ t, Steps p.tables e below (s₁.setTop (mkF m 0 #[.val (.ref o), .val (.ref sA), .val (.int f), .val (.int g)] [])) t → Steps p.tables e below (s₁.setTop (entryFrame m #[(.ref o), (.ref sA), (.int f), (.int g)] 4)) t := fun t k => castTop (ef_7 m o sA f g) k
  obtain ⟨T1, X1, e1, st1⟩ := getF X0 hx hZ hown (host := "") (Or.inl (hw _ (List.mem_of_getElem? (i := 39) rfl))) Via.refl e0 FM (g := (mkF m 7 #[.val (.ref o), .val (.ref sA), .val (.int f), .val (.int g)] [(.ref o), (.int f)])) rfl rfl (hb hby d7_7)
  obtain ⟨fs, hr, hrun, hended, hW, hsame⟩ := X1.leave (v := none) (fun _ => rfl)
  refine ⟨_, _, pre0 _ ?_, hrun, hended, _, _, rfl, ?_, ⟨_, rfl⟩, hW, hsame.mono (by decide) (by decide)⟩
  · show Steps p.tables e below (s₁.setTop (mkF m 0 #[.val (.ref o), .val (.ref sA), .val (.int f), .val (.int g)] [])) _
    refine XS.iloadN X0.here hx rfl (hb hby d7_0) rfl ?_
    show Steps p.tables e below (s₁.setTop (mkF m 1 #[.val (.ref o), .val (.ref sA), .val (.int f), .val (.int g)] [(.int f)])) _
    refine XS.iloadN X0.here hx rfl (hb hby d7_1) rfl ?_
    show Steps p.tables e below (s₁.setTop (mkF m 2 #[.val (.ref o), .val (.ref sA), .val (.int f), .val (.int g)] [(.int g), (.int f)])) _
    refine XS.icmpNo X0.here hx rfl (hb hby d7_2) rfl (flt hc2).1 ?_
    show Steps p.tables e below (s₁.setTop (mkF m 5 #[.val (.ref o), .val (.ref sA), .val (.int f), .val (.int g)] [])) _
    refine XS.iloadN X0.here hx rfl (hb hby d7_5) rfl ?_
    show Steps p.tables e below (s₁.setTop (mkF m 6 #[.val (.ref o), .val (.ref sA), .val (.int f), .val (.int g)] [(.int f)])) _
    refine XS.aloadN X0.here hx rfl (hb hby d7_6) rfl rfl ?_
    show Steps p.tables e below (s₁.setTop (mkF m 7 #[.val (.ref o), .val (.ref sA), .val (.int f), .val (.int g)] [(.ref o), (.int f)])) _
    refine st1 _ ?_
    show Steps p.tables e below (T1.setTop (mkF m 10 #[.val (.ref o), .val (.ref sA), .val (.int f), .val (.int g)] [(.int hi), (.int f)])) _
    refine XS.icmpYes X1.here hx rfl (pc0 := 10) (pc' := 33) rfl (hb hby d7_10) rfl (flt hc10).2.2.2 (by decide) (by decide) ?_
    show Steps p.tables e below (T1.setTop (mkF m 33 #[.val (.ref o), .val (.ref sA), .val (.int f), .val (.int g)] [])) _
    exact X1.returnOut hx Bd.returns (hb hby d7_33) hr
  · show Qd0 Z o sA f g hi h0 n0 _ T1.heap _
    rw [e1]
    exact ⟨rfl, N0, rfl⟩
set_option maxRecDepth 65536 in
set_option maxHeartbeats 40000000 in
theorem k0 {p : Program} {l : Launch} {e : Env} {R : Room} {s : State} {m : MethodId} {args : Array Value} {below : List Frame} {meth : Method} {c : Code} {T0 : State} {locs : List Loc} {cells slots : Nat} {Z : State} {a0 : Array Value} {h0 : Heap} (X0 : Stand p l e R s m args below meth c T0 locs cells slots) (hx : p.tables.exec = Jvm.exec) (hZ : Z.Warmed39 s.vm) (hw : ∀ d ∈ tables_1, d.before a0 Z = true) (hby : c.code = code) (hown : s.vm.findClass "com/example/vestwright/vestwright/plan/WholeFigureCheckPinLaw" = some m.cls) (e0 : T0.heap = h0) {p0 p1 p2 p3 : Int32} {w0 w1 w2 w3 w4 w5 w6 : Addr} {n0 : Nat} (O0 : Old Z n0 h0) (S0 : Sta Z Z.heap "com/example/vestwright/vestwright/plan/WholeFigure" "YEARS" "Lcom/example/vestwright/vestwright/plan/WholeFigure;" (.ref w0)) (E0 : Exa Z Z.heap w0 "com/example/vestwright/vestwright/plan/WholeFigure") (F0 : Fld Z Z.heap w0 "com/example/vestwright/vestwright/plan/WholeFigure" "most" "I" (.int (120 : Int32))) (S1 : Sta Z Z.heap "com/example/vestwright/vestwright/plan/WholeFigure" "AGE_AND_SERVICE" "Lcom/example/vestwright/vestwright/plan/WholeFigure;" (.ref w1)) (E1 : Exa Z Z.heap w1 "com/example/vestwright/vestwright/plan/WholeFigure") (F1 : Fld Z Z.heap w1 "com/example/vestwright/vestwright/plan/WholeFigure" "most" "I" (.int (240 : Int32))) (S2 : Sta Z Z.heap "com/example/vestwright/vestwright/plan/WholeFigure" "MONTHS" "Lcom/example/vestwright/vestwright/plan/WholeFigure;" (.ref w2)) (E2 : Exa Z Z.heap w2 "com/example/vestwright/vestwright/plan/WholeFigure") (F2 : Fld Z Z.heap w2 "com/example/vestwright/vestwright/plan/WholeFigure" "most" "I" (.int (1440 : Int32))) (S3 : Sta Z Z.heap "com/example/vestwright/vestwright/plan/WholeFigure" "DAYS" "Lcom/example/vestwright/vestwright/plan/WholeFigure;" (.ref w3)) (E3 : Exa Z Z.heap w3 "com/example/vestwright/vestwright/plan/WholeFigure") (F3 : Fld Z Z.heap w3 "com/example/vestwright/vestwright/plan/WholeFigure" "most" "I" (.int (43830 : Int32))) (S4 : Sta Z Z.heap "com/example/vestwright/vestwright/plan/WholeFigure" "CALENDAR_YEAR" "Lcom/example/vestwright/vestwright/plan/WholeFigure;" (.ref w4)) (E4 : Exa Z Z.heap w4 "com/example/vestwright/vestwright/plan/WholeFigure") (F4 : Fld Z Z.heap w4 "com/example/vestwright/vestwright/plan/WholeFigure" "most" "I" (.int (9999 : Int32))) (S5 : Sta Z Z.heap "com/example/vestwright/vestwright/plan/WholeFigure" "CALENDAR_MONTH" "Lcom/example/vestwright/vestwright/plan/WholeFigure;" (.ref w5)) (E5 : Exa Z Z.heap w5 "com/example/vestwright/vestwright/plan/WholeFigure") (F5 : Fld Z Z.heap w5 "com/example/vestwright/vestwright/plan/WholeFigure" "most" "I" (.int (12 : Int32))) (S6 : Sta Z Z.heap "com/example/vestwright/vestwright/plan/WholeFigure" "DECIMALS" "Lcom/example/vestwright/vestwright/plan/WholeFigure;" (.ref w6)) (E6 : Exa Z Z.heap w6 "com/example/vestwright/vestwright/plan/WholeFigure") (F6 : Fld Z Z.heap w6 "com/example/vestwright/vestwright/plan/WholeFigure" "most" "I" (.int (10 : Int32))) (hc11 : ((p0 &&& (2147483647 : Int32)) % (7 : Int32)) = (0 : Int32)) :
    ∃ (T' : State), Stand p l e R s m args below meth c T' locs cells slots ∧ T'.heap = h0 ∧ ∀ target, Steps p.tables e below (T'.setTop (mkF m 151 #[.val (.int p0), .val (.int p1), .val (.int p2), .val (.int p3), .val (.int ((p0 &&& (2147483647 : Int32)) % (7 : Int32))), .val (.ref w0), .val (.int (0 : Int32)), .val (.int (120 : Int32)), .unset, .unset, .unset, .unset] [])) target → Steps p.tables e below (T0.setTop (mkF m 0 #[.val (.int p0), .val (.int p1), .val (.int p2), .val (.int p3), .unset, .unset, .unset, .unset, .unset, .unset, .unset, .unset] [])) target := by
  obtain ⟨T1, X1, e1, st1⟩ := getS2 X0 hx hZ hown (host := "") (Or.inl (hw _ (List.mem_of_getElem? (i := 1) rfl))) Via.refl e0 (S0.ext O0.2) (g := (mkF m 14 #[.val (.int p0), .val (.int p1), .val (.int p2), .val (.int p3), .val (.int ((p0 &&& (2147483647 : Int32)) % (7 : Int32))), .unset, .unset, .unset, .unset, .unset, .unset, .unset] [])) rfl (hb hby at_14)
  refine ⟨T1, X1, e1, fun target kt => ?_⟩
  show Steps p.tables e below (T0.setTop (mkF m 0 #[.val (.int p0), .val (.int p1), .val (.int p2), .val (.int p3), .unset, .unset, .unset, .unset, .unset, .unset, .unset, .unset] [])) _
  refine XS.iloadN X0.here hx rfl (hb hby at_0) rfl ?_
  show Steps p.tables e below (T0.setTop (mkF m 1 #[.val (.int p0), .val (.int p1), .val (.int p2), .val (.int p3), .unset, .unset, .unset, .unset, .unset, .unset, .unset, .unset] [(.int p0)])) _
  refine X0.ldcInt hx hown (mvT hZ (hw _ (List.mem_of_getElem? (i := 0) rfl))) (g := (mkF m 1 #[.val (.int p0), .val (.int p1), .val (.int p2), .val (.int p3), .unset, .unset, .unset, .unset, .unset, .unset, .unset, .unset] [(.int p0)])) rfl (hb hby at_1) _ ?_
  show Steps p.tables e below (T0.setTop (mkF m 3 #[.val (.int p0), .val (.int p1), .val (.int p2), .val (.int p3), .unset, .unset, .unset, .unset, .unset, .unset, .unset, .unset] [(.int (2147483647 : Int32)), (.int p0)])) _
  refine XS.iand X0.here hx rfl (hb hby at_3) rfl ?_
  show Steps p.tables e below (T0.setTop (mkF m 4 #[.val (.int p0), .val (.int p1), .val (.int p2), .val (.int p3), .unset, .unset, .unset, .unset, .unset, .unset, .unset, .unset] [(.int (p0 &&& (2147483647 : Int32)))])) _
  refine XS.bipush X0.here hx rfl (hb hby at_4) ?_
  show Steps p.tables e below (T0.setTop (mkF m 6 #[.val (.int p0), .val (.int p1), .val (.int p2), .val (.int p3), .unset, .unset, .unset, .unset, .unset, .unset, .unset, .unset] [(.int (7 : Int32)), (.int (p0 &&& (2147483647 : Int32)))])) _
  refine Jvm.RoadKit.iremM (g := (mkF m 6 #[.val (.int p0), .val (.int p1), .val (.int p2), .val (.int p3), .unset, .unset, .unset, .unset, .unset, .unset, .unset, .unset] [(.int (7 : Int32)), (.int (p0 &&& (2147483647 : Int32)))])) X0 hx rfl (hb hby at_6) rfl (by decide) ?_
  show Steps p.tables e below (T0.setTop (mkF m 7 #[.val (.int p0), .val (.int p1), .val (.int p2), .val (.int p3), .unset, .unset, .unset, .unset, .unset, .unset, .unset, .unset] [(.int ((p0 &&& (2147483647 : Int32)) % (7 : Int32)))])) _
  refine XS.istore X0.here hx rfl (hb hby at_7) rfl (l' := #[.val (.int p0), .val (.int p1), .val (.int p2), .val (.int p3), .val (.int ((p0 &&& (2147483647 : Int32)) % (7 : Int32))), .unset, .unset, .unset, .unset, .unset, .unset, .unset]) rfl ?_
  show Steps p.tables e below (T0.setTop (mkF m 9 #[.val (.int p0), .val (.int p1), .val (.int p2), .val (.int p3), .val (.int ((p0 &&& (2147483647 : Int32)) % (7 : Int32))), .unset, .unset, .unset, .unset, .unset, .unset, .unset] [])) _
  refine XS.iload X0.here hx rfl (hb hby at_9) rfl ?_
  show Steps p.tables e below (T0.setTop (mkF m 11 #[.val (.int p0), .val (.int p1), .val (.int p2), .val (.int p3), .val (.int ((p0 &&& (2147483647 : Int32)) % (7 : Int32))), .unset, .unset, .unset, .unset, .unset, .unset, .unset] [(.int ((p0 &&& (2147483647 : Int32)) % (7 : Int32)))])) _
  refine XS.ifNo X0.here hx rfl (hb hby at_11) rfl ((if0 _ _).trans (teq hc11).2) ?_
  show Steps p.tables e below (T0.setTop (mkF m 14 #[.val (.int p0), .val (.int p1), .val (.int p2), .val (.int p3), .val (.int ((p0 &&& (2147483647 : Int32)) % (7 : Int32))), .unset, .unset, .unset, .unset, .unset, .unset, .unset] [])) _
  refine st1 _ ?_
  show Steps p.tables e below (T1.setTop (mkF m 17 #[.val (.int p0), .val (.int p1), .val (.int p2), .val (.int p3), .val (.int ((p0 &&& (2147483647 : Int32)) % (7 : Int32))), .unset, .unset, .unset, .unset, .unset, .unset, .unset] [(.ref w0)])) _
  refine XS.astore X1.here hx rfl (hb hby at_17) rfl rfl (l' := #[.val (.int p0), .val (.int p1), .val (.int p2), .val (.int p3), .val (.int ((p0 &&& (2147483647 : Int32)) % (7 : Int32))), .val (.ref w0), .unset, .unset, .unset, .unset, .unset, .unset]) rfl ?_
  show Steps p.tables e below (T1.setTop (mkF m 19 #[.val (.int p0), .val (.int p1), .val (.int p2), .val (.int p3), .val (.int ((p0 &&& (2147483647 : Int32)) % (7 : Int32))), .val (.ref w0), .unset, .unset, .unset, .unset, .unset, .unset] [])) _
  refine XS.iconst X1.here hx rfl (hb hby at_19) ?_
  show Steps p.tables e below (T1.setTop (mkF m 20 #[.val (.int p0), .val (.int p1), .val (.int p2), .val (.int p3), .val (.int ((p0 &&& (2147483647 : Int32)) % (7 : Int32))), .val (.ref w0), .unset, .unset, .unset, .unset, .unset, .unset] [(.int (0 : Int32))])) _
  refine XS.istore X1.here hx rfl (hb hby at_20) rfl (l' := #[.val (.int p0), .val (.int p1), .val (.int p2), .val (.int p3), .val (.int ((p0 &&& (2147483647 : Int32)) % (7 : Int32))), .val (.ref w0), .val (.int (0 : Int32)), .unset, .unset, .unset, .unset, .unset]) rfl ?_
  show Steps p.tables e below (T1.setTop (mkF m 22 #[.val (.int p0), .val (.int p1), .val (.int p2), .val (.int p3), .val (.int ((p0 &&& (2147483647 : Int32)) % (7 : Int32))), .val (.ref w0), .val (.int (0 : Int32)), .unset, .unset, .unset, .unset, .unset] [])) _
  refine XS.bipush X1.here hx rfl (hb hby at_22) ?_
  show Steps p.tables e below (T1.setTop (mkF m 24 #[.val (.int p0), .val (.int p1), .val (.int p2), .val (.int p3), .val (.int ((p0 &&& (2147483647 : Int32)) % (7 : Int32))), .val (.ref w0), .val (.int (0 : Int32)), .unset, .unset, .unset, .unset, .unset] [(.int (120 : Int32))])) _
  refine XS.istore X1.here hx rfl (hb hby at_24) rfl (l' := #[.val (.int p0), .val (.int p1), .val (.int p2), .val (.int p3), .val (.int ((p0 &&& (2147483647 : Int32)) % (7 : Int32))), .val (.ref w0), .val (.int (0 : Int32)), .val (.int (120 : Int32)), .unset, .unset, .unset, .unset]) rfl ?_
  show Steps p.tables e below (T1.setTop (mkF m 26 #[.val (.int p0), .val (.int p1), .val (.int p2), .val (.int p3), .val (.int ((p0 &&& (2147483647 : Int32)) % (7 : Int32))), .val (.ref w0), .val (.int (0 : Int32)), .val (.int (120 : Int32)), .unset, .unset, .unset, .unset] [])) _
  refine XS.goto X1.here hx rfl (pc0 := 26) (pc' := 151) rfl (hb hby at_26) (by decide) (by decide) ?_
  exact kt
set_option maxRecDepth 65536 in
set_option maxHeartbeats 40000000 in
theorem k1 {p : Program} {l : Launch} {e : Env} {R : Room} {s : State} {m : MethodId} {args : Array Value} {below : List Frame} {meth : Method} {c : Code} {T0 : State} {locs : List Loc} {cells slots : Nat} {Z : State} {a0 : Array Value} {h0 : Heap} (X0 : Stand p l e R s m args below meth c T0 locs cells slots) (hx : p.tables.exec = Jvm.exec) (hZ : Z.Warmed39 s.vm) (hw : ∀ d ∈ tables_1, d.before a0 Z = true) (hby : c.code = code) (hown : s.vm.findClass "com/example/vestwright/vestwright/plan/WholeFigureCheckPinLaw" = some m.cls) (e0 : T0.heap = h0) {p0 p1 p2 p3 : Int32} {w0 w1 w2 w3 w4 w5 w6 : Addr} {n0 : Nat} (O0 : Old Z n0 h0) (S0 : Sta Z Z.heap "com/example/vestwright/vestwright/plan/WholeFigure" "YEARS" "Lcom/example/vestwright/vestwright/plan/WholeFigure;" (.ref w0)) (E0 : Exa Z Z.heap w0 "com/example/vestwright/vestwright/plan/WholeFigure") (F0 : Fld Z Z.heap w0 "com/example/vestwright/vestwright/plan/WholeFigure" "most" "I" (.int (120 : Int32))) (S1 : Sta Z Z.heap "com/example/vestwright/vestwright/plan/WholeFigure" "AGE_AND_SERVICE" "Lcom/example/vestwright/vestwright/plan/WholeFigure;" (.ref w1)) (E1 : Exa Z Z.heap w1 "com/example/vestwright/vestwright/plan/WholeFigure") (F1 : Fld Z Z.heap w1 "com/example/vestwright/vestwright/plan/WholeFigure" "most" "I" (.int (240 : Int32))) (S2 : Sta Z Z.heap "com/example/vestwright/vestwright/plan/WholeFigure" "MONTHS" "Lcom/example/vestwright/vestwright/plan/WholeFigure;" (.ref w2)) (E2 : Exa Z Z.heap w2 "com/example/vestwright/vestwright/plan/WholeFigure") (F2 : Fld Z Z.heap w2 "com/example/vestwright/vestwright/plan/WholeFigure" "most" "I" (.int (1440 : Int32))) (S3 : Sta Z Z.heap "com/example/vestwright/vestwright/plan/WholeFigure" "DAYS" "Lcom/example/vestwright/vestwright/plan/WholeFigure;" (.ref w3)) (E3 : Exa Z Z.heap w3 "com/example/vestwright/vestwright/plan/WholeFigure") (F3 : Fld Z Z.heap w3 "com/example/vestwright/vestwright/plan/WholeFigure" "most" "I" (.int (43830 : Int32))) (S4 : Sta Z Z.heap "com/example/vestwright/vestwright/plan/WholeFigure" "CALENDAR_YEAR" "Lcom/example/vestwright/vestwright/plan/WholeFigure;" (.ref w4)) (E4 : Exa Z Z.heap w4 "com/example/vestwright/vestwright/plan/WholeFigure") (F4 : Fld Z Z.heap w4 "com/example/vestwright/vestwright/plan/WholeFigure" "most" "I" (.int (9999 : Int32))) (S5 : Sta Z Z.heap "com/example/vestwright/vestwright/plan/WholeFigure" "CALENDAR_MONTH" "Lcom/example/vestwright/vestwright/plan/WholeFigure;" (.ref w5)) (E5 : Exa Z Z.heap w5 "com/example/vestwright/vestwright/plan/WholeFigure") (F5 : Fld Z Z.heap w5 "com/example/vestwright/vestwright/plan/WholeFigure" "most" "I" (.int (12 : Int32))) (S6 : Sta Z Z.heap "com/example/vestwright/vestwright/plan/WholeFigure" "DECIMALS" "Lcom/example/vestwright/vestwright/plan/WholeFigure;" (.ref w6)) (E6 : Exa Z Z.heap w6 "com/example/vestwright/vestwright/plan/WholeFigure") (F6 : Fld Z Z.heap w6 "com/example/vestwright/vestwright/plan/WholeFigure" "most" "I" (.int (10 : Int32))) (hc11 : ¬ (((p0 &&& (2147483647 : Int32)) % (7 : Int32)) = (0 : Int32))) (hc32 : ((p0 &&& (2147483647 : Int32)) % (7 : Int32)) = (1 : Int32)) :
    ∃ (T' : State), Stand p l e R s m args below meth c T' locs cells slots ∧ T'.heap = h0 ∧ ∀ target, Steps p.tables e below (T'.setTop (mkF m 151 #[.val (.int p0), .val (.int p1), .val (.int p2), .val (.int p3), .val (.int ((p0 &&& (2147483647 : Int32)) % (7 : Int32))), .val (.ref w1), .val (.int (0 : Int32)), .val (.int (240 : Int32)), .unset, .unset, .unset, .unset] [])) target → Steps p.tables e below (T0.setTop (mkF m 0 #[.val (.int p0), .val (.int p1), .val (.int p2), .val (.int p3), .unset, .unset, .unset, .unset, .unset, .unset, .unset, .unset] [])) target := by
  obtain ⟨T1, X1, e1, st1⟩ := getS2 X0 hx hZ hown (host := "") (Or.inl (hw _ (List.mem_of_getElem? (i := 45) rfl))) Via.refl e0 (S1.ext O0.2) (g := (mkF m 35 #[.val (.int p0), .val (.int p1), .val (.int p2), .val (.int p3), .val (.int ((p0 &&& (2147483647 : Int32)) % (7 : Int32))), .unset, .unset, .unset, .unset, .unset, .unset, .unset] [])) rfl (hb hby at_35)
  refine ⟨T1, X1, e1, fun target kt => ?_⟩
  show Steps p.tables e below (T0.setTop (mkF m 0 #[.val (.int p0), .val (.int p1), .val (.int p2), .val (.int p3), .unset, .unset, .unset, .unset, .unset, .unset, .unset, .unset] [])) _
  refine XS.iloadN X0.here hx rfl (hb hby at_0) rfl ?_
  show Steps p.tables e below (T0.setTop (mkF m 1 #[.val (.int p0), .val (.int p1), .val (.int p2), .val (.int p3), .unset, .unset, .unset, .unset, .unset, .unset, .unset, .unset] [(.int p0)])) _
  refine X0.ldcInt hx hown (mvT hZ (hw _ (List.mem_of_getElem? (i := 0) rfl))) (g := (mkF m 1 #[.val (.int p0), .val (.int p1), .val (.int p2), .val (.int p3), .unset, .unset, .unset, .unset, .unset, .unset, .unset, .unset] [(.int p0)])) rfl (hb hby at_1) _ ?_
  show Steps p.tables e below (T0.setTop (mkF m 3 #[.val (.int p0), .val (.int p1), .val (.int p2), .val (.int p3), .unset, .unset, .unset, .unset, .unset, .unset, .unset, .unset] [(.int (2147483647 : Int32)), (.int p0)])) _
  refine XS.iand X0.here hx rfl (hb hby at_3) rfl ?_
  show Steps p.tables e below (T0.setTop (mkF m 4 #[.val (.int p0), .val (.int p1), .val (.int p2), .val (.int p3), .unset, .unset, .unset, .unset, .unset, .unset, .unset, .unset] [(.int (p0 &&& (2147483647 : Int32)))])) _
  refine XS.bipush X0.here hx rfl (hb hby at_4) ?_
  show Steps p.tables e below (T0.setTop (mkF m 6 #[.val (.int p0), .val (.int p1), .val (.int p2), .val (.int p3), .unset, .unset, .unset, .unset, .unset, .unset, .unset, .unset] [(.int (7 : Int32)), (.int (p0 &&& (2147483647 : Int32)))])) _
  refine Jvm.RoadKit.iremM (g := (mkF m 6 #[.val (.int p0), .val (.int p1), .val (.int p2), .val (.int p3), .unset, .unset, .unset, .unset, .unset, .unset, .unset, .unset] [(.int (7 : Int32)), (.int (p0 &&& (2147483647 : Int32)))])) X0 hx rfl (hb hby at_6) rfl (by decide) ?_
  show Steps p.tables e below (T0.setTop (mkF m 7 #[.val (.int p0), .val (.int p1), .val (.int p2), .val (.int p3), .unset, .unset, .unset, .unset, .unset, .unset, .unset, .unset] [(.int ((p0 &&& (2147483647 : Int32)) % (7 : Int32)))])) _
  refine XS.istore X0.here hx rfl (hb hby at_7) rfl (l' := #[.val (.int p0), .val (.int p1), .val (.int p2), .val (.int p3), .val (.int ((p0 &&& (2147483647 : Int32)) % (7 : Int32))), .unset, .unset, .unset, .unset, .unset, .unset, .unset]) rfl ?_
  show Steps p.tables e below (T0.setTop (mkF m 9 #[.val (.int p0), .val (.int p1), .val (.int p2), .val (.int p3), .val (.int ((p0 &&& (2147483647 : Int32)) % (7 : Int32))), .unset, .unset, .unset, .unset, .unset, .unset, .unset] [])) _
  refine XS.iload X0.here hx rfl (hb hby at_9) rfl ?_
  show Steps p.tables e below (T0.setTop (mkF m 11 #[.val (.int p0), .val (.int p1), .val (.int p2), .val (.int p3), .val (.int ((p0 &&& (2147483647 : Int32)) % (7 : Int32))), .unset, .unset, .unset, .unset, .unset, .unset, .unset] [(.int ((p0 &&& (2147483647 : Int32)) % (7 : Int32)))])) _
  refine XS.ifYes X0.here hx rfl (pc0 := 11) (pc' := 29) rfl (hb hby at_11) rfl ((if0 _ _).trans (feq hc11).2) (by decide) (by decide) ?_
  show Steps p.tables e below (T0.setTop (mkF m 29 #[.val (.int p0), .val (.int p1), .val (.int p2), .val (.int p3), .val (.int ((p0 &&& (2147483647 : Int32)) % (7 : Int32))), .unset, .unset, .unset, .unset, .unset, .unset, .unset] [])) _
  refine XS.iload X0.here hx rfl (hb hby at_29) rfl ?_
  show Steps p.tables e below (T0.setTop (mkF m 31 #[.val (.int p0), .val (.int p1), .val (.int p2), .val (.int p3), .val (.int ((p0 &&& (2147483647 : Int32)) % (7 : Int32))), .unset, .unset, .unset, .unset, .unset, .unset, .unset] [(.int ((p0 &&& (2147483647 : Int32)) % (7 : Int32)))])) _
  refine XS.iconst X0.here hx rfl (hb hby at_31) ?_
  show Steps p.tables e below (T0.setTop (mkF m 32 #[.val (.int p0), .val (.int p1), .val (.int p2), .val (.int p3), .val (.int ((p0 &&& (2147483647 : Int32)) % (7 : Int32))), .unset, .unset, .unset, .unset, .unset, .unset, .unset] [(.int (1 : Int32)), (.int ((p0 &&& (2147483647 : Int32)) % (7 : Int32)))])) _
  refine XS.icmpNo X0.here hx rfl (hb hby at_32) rfl (teq hc32).2 ?_
  show Steps p.tables e below (T0.setTop (mkF m 35 #[.val (.int p0), .val (.int p1), .val (.int p2), .val (.int p3), .val (.int ((p0 &&& (2147483647 : Int32)) % (7 : Int32))), .unset, .unset, .unset, .unset, .unset, .unset, .unset] [])) _
  refine st1 _ ?_
  show Steps p.tables e below (T1.setTop (mkF m 38 #[.val (.int p0), .val (.int p1), .val (.int p2), .val (.int p3), .val (.int ((p0 &&& (2147483647 : Int32)) % (7 : Int32))), .unset, .unset, .unset, .unset, .unset, .unset, .unset] [(.ref w1)])) _
  refine XS.astore X1.here hx rfl (hb hby at_38) rfl rfl (l' := #[.val (.int p0), .val (.int p1), .val (.int p2), .val (.int p3), .val (.int ((p0 &&& (2147483647 : Int32)) % (7 : Int32))), .val (.ref w1), .unset, .unset, .unset, .unset, .unset, .unset]) rfl ?_
  show Steps p.tables e below (T1.setTop (mkF m 40 #[.val (.int p0), .val (.int p1), .val (.int p2), .val (.int p3), .val (.int ((p0 &&& (2147483647 : Int32)) % (7 : Int32))), .val (.ref w1), .unset, .unset, .unset, .unset, .unset, .unset] [])) _
  refine XS.iconst X1.here hx rfl (hb hby at_40) ?_
  show Steps p.tables e below (T1.setTop (mkF m 41 #[.val (.int p0), .val (.int p1), .val (.int p2), .val (.int p3), .val (.int ((p0 &&& (2147483647 : Int32)) % (7 : Int32))), .val (.ref w1), .unset, .unset, .unset, .unset, .unset, .unset] [(.int (0 : Int32))])) _
  refine XS.istore X1.here hx rfl (hb hby at_41) rfl (l' := #[.val (.int p0), .val (.int p1), .val (.int p2), .val (.int p3), .val (.int ((p0 &&& (2147483647 : Int32)) % (7 : Int32))), .val (.ref w1), .val (.int (0 : Int32)), .unset, .unset, .unset, .unset, .unset]) rfl ?_
  show Steps p.tables e below (T1.setTop (mkF m 43 #[.val (.int p0), .val (.int p1), .val (.int p2), .val (.int p3), .val (.int ((p0 &&& (2147483647 : Int32)) % (7 : Int32))), .val (.ref w1), .val (.int (0 : Int32)), .unset, .unset, .unset, .unset, .unset] [])) _
  refine XS.sipush X1.here hx rfl (hb hby at_43) ?_
  show Steps p.tables e below (T1.setTop (mkF m 46 #[.val (.int p0), .val (.int p1), .val (.int p2), .val (.int p3), .val (.int ((p0 &&& (2147483647 : Int32)) % (7 : Int32))), .val (.ref w1), .val (.int (0 : Int32)), .unset, .unset, .unset, .unset, .unset] [(.int (240 : Int32))])) _
  refine XS.istore X1.here hx rfl (hb hby at_46) rfl (l' := #[.val (.int p0), .val (.int p1), .val (.int p2), .val (.int p3), .val (.int ((p0 &&& (2147483647 : Int32)) % (7 : Int32))), .val (.ref w1), .val (.int (0 : Int32)), .val (.int (240 : Int32)), .unset, .unset, .unset, .unset]) rfl ?_
  show Steps p.tables e below (T1.setTop (mkF m 48 #[.val (.int p0), .val (.int p1), .val (.int p2), .val (.int p3), .val (.int ((p0 &&& (2147483647 : Int32)) % (7 : Int32))), .val (.ref w1), .val (.int (0 : Int32)), .val (.int (240 : Int32)), .unset, .unset, .unset, .unset] [])) _
  refine XS.goto X1.here hx rfl (pc0 := 48) (pc' := 151) rfl (hb hby at_48) (by decide) (by decide) ?_
  exact kt
set_option maxRecDepth 65536 in
set_option maxHeartbeats 40000000 in
theorem k2 {p : Program} {l : Launch} {e : Env} {R : Room} {s : State} {m : MethodId} {args : Array Value} {below : List Frame} {meth : Method} {c : Code} {T0 : State} {locs : List Loc} {cells slots : Nat} {Z : State} {a0 : Array Value} {h0 : Heap} (X0 : Stand p l e R s m args below meth c T0 locs cells slots) (hx : p.tables.exec = Jvm.exec) (hZ : Z.Warmed39 s.vm) (hw : ∀ d ∈ tables_1, d.before a0 Z = true) (hby : c.code = code) (hown : s.vm.findClass "com/example/vestwright/vestwright/plan/WholeFigureCheckPinLaw" = some m.cls) (e0 : T0.heap = h0) {p0 p1 p2 p3 : Int32} {w0 w1 w2 w3 w4 w5 w6 : Addr} {n0 : Nat} (O0 : Old Z n0 h0) (S0 : Sta Z Z.heap "com/example/vestwright/vestwright/plan/WholeFigure" "YEARS" "Lcom/example/vestwright/vestwright/plan/WholeFigure;" (.ref w0)) (E0 : Exa Z Z.heap w0 "com/example/vestwright/vestwright/plan/WholeFigure") (F0 : Fld Z Z.heap w0 "com/example/vestwright/vestwright/plan/WholeFigure" "most" "I" (.int (120 : Int32))) (S1 : Sta Z Z.heap "com/example/vestwright/vestwright/plan/WholeFigure" "AGE_AND_SERVICE" "Lcom/example/vestwright/vestwright/plan/WholeFigure;" (.ref w1)) (E1 : Exa Z Z.heap w1 "com/example/vestwright/vestwright/plan/WholeFigure") (F1 : Fld Z Z.heap w1 "com/example/vestwright/vestwright/plan/WholeFigure" "most" "I" (.int (240 : Int32))) (S2 : Sta Z Z.heap "com/example/vestwright/vestwright/plan/WholeFigure" "MONTHS" "Lcom/example/vestwright/vestwright/plan/WholeFigure;" (.ref w2)) (E2 : Exa Z Z.heap w2 "com/example/vestwright/vestwright/plan/WholeFigure") (F2 : Fld Z Z.heap w2 "com/example/vestwright/vestwright/plan/WholeFigure" "most" "I" (.int (1440 : Int32))) (S3 : Sta Z Z.heap "com/example/vestwright/vestwright/plan/WholeFigure" "DAYS" "Lcom/example/vestwright/vestwright/plan/WholeFigure;" (.ref w3)) (E3 : Exa Z Z.heap w3 "com/example/vestwright/vestwright/plan/WholeFigure") (F3 : Fld Z Z.heap w3 "com/example/vestwright/vestwright/plan/WholeFigure" "most" "I" (.int (43830 : Int32))) (S4 : Sta Z Z.heap "com/example/vestwright/vestwright/plan/WholeFigure" "CALENDAR_YEAR" "Lcom/example/vestwright/vestwright/plan/WholeFigure;" (.ref w4)) (E4 : Exa Z Z.heap w4 "com/example/vestwright/vestwright/plan/WholeFigure") (F4 : Fld Z Z.heap w4 "com/example/vestwright/vestwright/plan/WholeFigure" "most" "I" (.int (9999 : Int32))) (S5 : Sta Z Z.heap "com/example/vestwright/vestwright/plan/WholeFigure" "CALENDAR_MONTH" "Lcom/example/vestwright/vestwright/plan/WholeFigure;" (.ref w5)) (E5 : Exa Z Z.heap w5 "com/example/vestwright/vestwright/plan/WholeFigure") (F5 : Fld Z Z.heap w5 "com/example/vestwright/vestwright/plan/WholeFigure" "most" "I" (.int (12 : Int32))) (S6 : Sta Z Z.heap "com/example/vestwright/vestwright/plan/WholeFigure" "DECIMALS" "Lcom/example/vestwright/vestwright/plan/WholeFigure;" (.ref w6)) (E6 : Exa Z Z.heap w6 "com/example/vestwright/vestwright/plan/WholeFigure") (F6 : Fld Z Z.heap w6 "com/example/vestwright/vestwright/plan/WholeFigure" "most" "I" (.int (10 : Int32))) (hc11 : ¬ (((p0 &&& (2147483647 : Int32)) % (7 : Int32)) = (0 : Int32))) (hc32 : ¬ (((p0 &&& (2147483647 : Int32)) % (7 : Int32)) = (1 : Int32))) (hc54 : ((p0 &&& (2147483647 : Int32)) % (7 : Int32)) = (2 : Int32)) :
    ∃ (T' : State), Stand p l e R s m args below meth c T' locs cells slots ∧ T'.heap = h0 ∧ ∀ target, Steps p.tables e below (T'.setTop (mkF m 151 #[.val (.int p0), .val (.int p1), .val (.int p2), .val (.int p3), .val (.int ((p0 &&& (2147483647 : Int32)) % (7 : Int32))), .val (.ref w2), .val (.int (0 : Int32)), .val (.int (1440 : Int32)), .unset, .unset, .unset, .unset] [])) target → Steps p.tables e below (T0.setTop (mkF m 0 #[.val (.int p0), .val (.int p1), .val (.int p2), .val (.int p3), .unset, .unset, .unset, .unset, .unset, .unset, .unset, .unset] [])) target := by
  obtain ⟨T1, X1, e1, st1⟩ := getS2 X0 hx hZ hown (host := "") (Or.inl (hw _ (List.mem_of_getElem? (i := 43) rfl))) Via.refl e0 (S2.ext O0.2) (g := (mkF m 57 #[.val (.int p0), .val (.int p1), .val (.int p2), .val (.int p3), .val (.int ((p0 &&& (2147483647 : Int32)) % (7 : Int32))), .unset, .unset, .unset, .unset, .unset, .unset, .unset] [])) rfl (hb hby at_57)
  refine ⟨T1, X1, e1, fun target kt => ?_⟩
  show Steps p.tables e below (T0.setTop (mkF m 0 #[.val (.int p0), .val (.int p1), .val (.int p2), .val (.int p3), .unset, .unset, .unset, .unset, .unset, .unset, .unset, .unset] [])) _
  refine XS.iloadN X0.here hx rfl (hb hby at_0) rfl ?_
  show Steps p.tables e below (T0.setTop (mkF m 1 #[.val (.int p0), .val (.int p1), .val (.int p2), .val (.int p3), .unset, .unset, .unset, .unset, .unset, .unset, .unset, .unset] [(.int p0)])) _
  refine X0.ldcInt hx hown (mvT hZ (hw _ (List.mem_of_getElem? (i := 0) rfl))) (g := (mkF m 1 #[.val (.int p0), .val (.int p1), .val (.int p2), .val (.int p3), .unset, .unset, .unset, .unset, .unset, .unset, .unset, .unset] [(.int p0)])) rfl (hb hby at_1) _ ?_
  show Steps p.tables e below (T0.setTop (mkF m 3 #[.val (.int p0), .val (.int p1), .val (.int p2), .val (.int p3), .unset, .unset, .unset, .unset, .unset, .unset, .unset, .unset] [(.int (2147483647 : Int32)), (.int p0)])) _
  refine XS.iand X0.here hx rfl (hb hby at_3) rfl ?_
  show Steps p.tables e below (T0.setTop (mkF m 4 #[.val (.int p0), .val (.int p1), .val (.int p2), .val (.int p3), .unset, .unset, .unset, .unset, .unset, .unset, .unset, .unset] [(.int (p0 &&& (2147483647 : Int32)))])) _
  refine XS.bipush X0.here hx rfl (hb hby at_4) ?_
  show Steps p.tables e below (T0.setTop (mkF m 6 #[.val (.int p0), .val (.int p1), .val (.int p2), .val (.int p3), .unset, .unset, .unset, .unset, .unset, .unset, .unset, .unset] [(.int (7 : Int32)), (.int (p0 &&& (2147483647 : Int32)))])) _
  refine Jvm.RoadKit.iremM (g := (mkF m 6 #[.val (.int p0), .val (.int p1), .val (.int p2), .val (.int p3), .unset, .unset, .unset, .unset, .unset, .unset, .unset, .unset] [(.int (7 : Int32)), (.int (p0 &&& (2147483647 : Int32)))])) X0 hx rfl (hb hby at_6) rfl (by decide) ?_
  show Steps p.tables e below (T0.setTop (mkF m 7 #[.val (.int p0), .val (.int p1), .val (.int p2), .val (.int p3), .unset, .unset, .unset, .unset, .unset, .unset, .unset, .unset] [(.int ((p0 &&& (2147483647 : Int32)) % (7 : Int32)))])) _
  refine XS.istore X0.here hx rfl (hb hby at_7) rfl (l' := #[.val (.int p0), .val (.int p1), .val (.int p2), .val (.int p3), .val (.int ((p0 &&& (2147483647 : Int32)) % (7 : Int32))), .unset, .unset, .unset, .unset, .unset, .unset, .unset]) rfl ?_
  show Steps p.tables e below (T0.setTop (mkF m 9 #[.val (.int p0), .val (.int p1), .val (.int p2), .val (.int p3), .val (.int ((p0 &&& (2147483647 : Int32)) % (7 : Int32))), .unset, .unset, .unset, .unset, .unset, .unset, .unset] [])) _
  refine XS.iload X0.here hx rfl (hb hby at_9) rfl ?_
  show Steps p.tables e below (T0.setTop (mkF m 11 #[.val (.int p0), .val (.int p1), .val (.int p2), .val (.int p3), .val (.int ((p0 &&& (2147483647 : Int32)) % (7 : Int32))), .unset, .unset, .unset, .unset, .unset, .unset, .unset] [(.int ((p0 &&& (2147483647 : Int32)) % (7 : Int32)))])) _
  refine XS.ifYes X0.here hx rfl (pc0 := 11) (pc' := 29) rfl (hb hby at_11) rfl ((if0 _ _).trans (feq hc11).2) (by decide) (by decide) ?_
  show Steps p.tables e below (T0.setTop (mkF m 29 #[.val (.int p0), .val (.int p1), .val (.int p2), .val (.int p3), .val (.int ((p0 &&& (2147483647 : Int32)) % (7 : Int32))), .unset, .unset, .unset, .unset, .unset, .unset, .unset] [])) _
  refine XS.iload X0.here hx rfl (hb hby at_29) rfl ?_
  show Steps p.tables e below (T0.setTop (mkF m 31 #[.val (.int p0), .val (.int p1), .val (.int p2), .val (.int p3), .val (.int ((p0 &&& (2147483647 : Int32)) % (7 : Int32))), .unset, .unset, .unset, .unset, .unset, .unset, .unset] [(.int ((p0 &&& (2147483647 : Int32)) % (7 : Int32)))])) _
  refine XS.iconst X0.here hx rfl (hb hby at_31) ?_
  show Steps p.tables e below (T0.setTop (mkF m 32 #[.val (.int p0), .val (.int p1), .val (.int p2), .val (.int p3), .val (.int ((p0 &&& (2147483647 : Int32)) % (7 : Int32))), .unset, .unset, .unset, .unset, .unset, .unset, .unset] [(.int (1 : Int32)), (.int ((p0 &&& (2147483647 : Int32)) % (7 : Int32)))])) _
  refine XS.icmpYes X0.here hx rfl (pc0 := 32) (pc' := 51) rfl (hb hby at_32) rfl (feq hc32).2 (by decide) (by decide) ?_
  show Steps p.tables e below (T0.setTop (mkF m 51 #[.val (.int p0), .val (.int p1), .val (.int p2), .val (.int p3), .val (.int ((p0 &&& (2147483647 : Int32)) % (7 : Int32))), .unset, .unset, .unset, .unset, .unset, .unset, .unset] [])) _
  refine XS.iload X0.here hx rfl (hb hby at_51) rfl ?_
  show Steps p.tables e below (T0.setTop (mkF m 53 #[.val (.int p0), .val (.int p1), .val (.int p2), .val (.int p3), .val (.int ((p0 &&& (2147483647 : Int32)) % (7 : Int32))), .unset, .unset, .unset, .unset, .unset, .unset, .unset] [(.int ((p0 &&& (2147483647 : Int32)) % (7 : Int32)))])) _
  refine XS.iconst X0.here hx rfl (hb hby at_53) ?_
  show Steps p.tables e below (T0.setTop (mkF m 54 #[.val (.int p0), .val (.int p1), .val (.int p2), .val (.int p3), .val (.int ((p0 &&& (2147483647 : Int32)) % (7 : Int32))), .unset, .unset, .unset, .unset, .unset, .unset, .unset] [(.int (2 : Int32)), (.int ((p0 &&& (2147483647 : Int32)) % (7 : Int32)))])) _
  refine XS.icmpNo X0.here hx rfl (hb hby at_54) rfl (teq hc54).2 ?_
  show Steps p.tables e below (T0.setTop (mkF m 57 #[.val (.int p0), .val (.int p1), .val (.int p2), .val (.int p3), .val (.int ((p0 &&& (2147483647 : Int32)) % (7 : Int32))), .unset, .unset, .unset, .unset, .unset, .unset, .unset] [])) _
  refine st1 _ ?_
  show Steps p.tables e below (T1.setTop (mkF m 60 #[.val (.int p0), .val (.int p1), .val (.int p2), .val (.int p3), .val (.int ((p0 &&& (2147483647 : Int32)) % (7 : Int32))), .unset, .unset, .unset, .unset, .unset, .unset, .unset] [(.ref w2)])) _
  refine XS.astore X1.here hx rfl (hb hby at_60) rfl rfl (l' := #[.val (.int p0), .val (.int p1), .val (.int p2), .val (.int p3), .val (.int ((p0 &&& (2147483647 : Int32)) % (7 : Int32))), .val (.ref w2), .unset, .unset, .unset, .unset, .unset, .unset]) rfl ?_
  show Steps p.tables e below (T1.setTop (mkF m 62 #[.val (.int p0), .val (.int p1), .val (.int p2), .val (.int p3), .val (.int ((p0 &&& (2147483647 : Int32)) % (7 : Int32))), .val (.ref w2), .unset, .unset, .unset, .unset, .unset, .unset] [])) _
  refine XS.iconst X1.here hx rfl (hb hby at_62) ?_
  show Steps p.tables e below (T1.setTop (mkF m 63 #[.val (.int p0), .val (.int p1), .val (.int p2), .val (.int p3), .val (.int ((p0 &&& (2147483647 : Int32)) % (7 : Int32))), .val (.ref w2), .unset, .unset, .unset, .unset, .unset, .unset] [(.int (0 : Int32))])) _
  refine XS.istore X1.here hx rfl (hb hby at_63) rfl (l' := #[.val (.int p0), .val (.int p1), .val (.int p2), .val (.int p3), .val (.int ((p0 &&& (2147483647 : Int32)) % (7 : Int32))), .val (.ref w2), .val (.int (0 : Int32)), .unset, .unset, .unset, .unset, .unset]) rfl ?_
  show Steps p.tables e below (T1.setTop (mkF m 65 #[.val (.int p0), .val (.int p1), .val (.int p2), .val (.int p3), .val (.int ((p0 &&& (2147483647 : Int32)) % (7 : Int32))), .val (.ref w2), .val (.int (0 : Int32)), .unset, .unset, .unset, .unset, .unset] [])) _
  refine XS.sipush X1.here hx rfl (hb hby at_65) ?_
  show Steps p.tables e below (T1.setTop (mkF m 68 #[.val (.int p0), .val (.int p1), .val (.int p2), .val (.int p3), .val (.int ((p0 &&& (2147483647 : Int32)) % (7 : Int32))), .val (.ref w2), .val (.int (0 : Int32)), .unset, .unset, .unset, .unset, .unset] [(.int (1440 : Int32))])) _
  refine XS.istore X1.here hx rfl (hb hby at_68) rfl (l' := #[.val (.int p0), .val (.int p1), .val (.int p2), .val (.int p3), .val (.int ((p0 &&& (2147483647 : Int32)) % (7 : Int32))), .val (.ref w2), .val (.int (0 : Int32)), .val (.int (1440 : Int32)), .unset, .unset, .unset, .unset]) rfl ?_
  show Steps p.tables e below (T1.setTop (mkF m 70 #[.val (.int p0), .val (.int p1), .val (.int p2), .val (.int p3), .val (.int ((p0 &&& (2147483647 : Int32)) % (7 : Int32))), .val (.ref w2), .val (.int (0 : Int32)), .val (.int (1440 : Int32)), .unset, .unset, .unset, .unset] [])) _
  refine XS.goto X1.here hx rfl (pc0 := 70) (pc' := 151) rfl (hb hby at_70) (by decide) (by decide) ?_
  exact kt
set_option maxRecDepth 65536 in
set_option maxHeartbeats 40000000 in
theorem k3 {p : Program} {l : Launch} {e : Env} {R : Room} {s : State} {m : MethodId} {args : Array Value} {below : List Frame} {meth : Method} {c : Code} {T0 : State} {locs : List Loc} {cells slots : Nat} {Z : State} {a0 : Array Value} {h0 : Heap} (X0 : Stand p l e R s m args below meth c T0 locs cells slots) (hx : p.tables.exec = Jvm.exec) (hZ : Z.Warmed39 s.vm) (hw : ∀ d ∈ tables_1, d.before a0 Z = true) (hby : c.code = code) (hown : s.vm.findClass "com/example/vestwright/vestwright/plan/WholeFigureCheckPinLaw" = some m.cls) (e0 : T0.heap = h0) {p0 p1 p2 p3 : Int32} {w0 w1 w2 w3 w4 w5 w6 : Addr} {n0 : Nat} (O0 : Old Z n0 h0) (S0 : Sta Z Z.heap "com/example/vestwright/vestwright/plan/WholeFigure" "YEARS" "Lcom/example/vestwright/vestwright/plan/WholeFigure;" (.ref w0)) (E0 : Exa Z Z.heap w0 "com/example/vestwright/vestwright/plan/WholeFigure") (F0 : Fld Z Z.heap w0 "com/example/vestwright/vestwright/plan/WholeFigure" "most" "I" (.int (120 : Int32))) (S1 : Sta Z Z.heap "com/example/vestwright/vestwright/plan/WholeFigure" "AGE_AND_SERVICE" "Lcom/example/vestwright/vestwright/plan/WholeFigure;" (.ref w1)) (E1 : Exa Z Z.heap w1 "com/example/vestwright/vestwright/plan/WholeFigure") (F1 : Fld Z Z.heap w1 "com/example/vestwright/vestwright/plan/WholeFigure" "most" "I" (.int (240 : Int32))) (S2 : Sta Z Z.heap "com/example/vestwright/vestwright/plan/WholeFigure" "MONTHS" "Lcom/example/vestwright/vestwright/plan/WholeFigure;" (.ref w2)) (E2 : Exa Z Z.heap w2 "com/example/vestwright/vestwright/plan/WholeFigure") (F2 : Fld Z Z.heap w2 "com/example/vestwright/vestwright/plan/WholeFigure" "most" "I" (.int (1440 : Int32))) (S3 : Sta Z Z.heap "com/example/vestwright/vestwright/plan/WholeFigure" "DAYS" "Lcom/example/vestwright/vestwright/plan/WholeFigure;" (.ref w3)) (E3 : Exa Z Z.heap w3 "com/example/vestwright/vestwright/plan/WholeFigure") (F3 : Fld Z Z.heap w3 "com/example/vestwright/vestwright/plan/WholeFigure" "most" "I" (.int (43830 : Int32))) (S4 : Sta Z Z.heap "com/example/vestwright/vestwright/plan/WholeFigure" "CALENDAR_YEAR" "Lcom/example/vestwright/vestwright/plan/WholeFigure;" (.ref w4)) (E4 : Exa Z Z.heap w4 "com/example/vestwright/vestwright/plan/WholeFigure") (F4 : Fld Z Z.heap w4 "com/example/vestwright/vestwright/plan/WholeFigure" "most" "I" (.int (9999 : Int32))) (S5 : Sta Z Z.heap "com/example/vestwright/vestwright/plan/WholeFigure" "CALENDAR_MONTH" "Lcom/example/vestwright/vestwright/plan/WholeFigure;" (.ref w5)) (E5 : Exa Z Z.heap w5 "com/example/vestwright/vestwright/plan/WholeFigure") (F5 : Fld Z Z.heap w5 "com/example/vestwright/vestwright/plan/WholeFigure" "most" "I" (.int (12 : Int32))) (S6 : Sta Z Z.heap "com/example/vestwright/vestwright/plan/WholeFigure" "DECIMALS" "Lcom/example/vestwright/vestwright/plan/WholeFigure;" (.ref w6)) (E6 : Exa Z Z.heap w6 "com/example/vestwright/vestwright/plan/WholeFigure") (F6 : Fld Z Z.heap w6 "com/example/vestwright/vestwright/plan/WholeFigure" "most" "I" (.int (10 : Int32))) (hc11 : ¬ (((p0 &&& (2147483647 : Int32)) % (7 : Int32)) = (0 : Int32))) (hc32 : ¬ (((p0 &&& (2147483647 : Int32)) % (7 : Int32)) = (1 : Int32))) (hc54 : ¬ (((p0 &&& (2147483647 : Int32)) % (7 : Int32)) = (2 : Int32))) (hc76 : ((p0 &&& (2147483647 : Int32)) % (7 : Int32)) = (3 : Int32)) :
    ∃ (T' : State), Stand p l e R s m args below meth c T' locs cells slots ∧ T'.heap = h0 ∧ ∀ target, Steps p.tables e below (T'.setTop (mkF m 151 #[.val (.int p0), .val (.int p1), .val (.int p2), .val (.int p3), .val (.int ((p0 &&& (2147483647 : Int32)) % (7 : Int32))), .val (.ref w3), .val (.int (0 : Int32)), .val (.int (43830 : Int32)), .unset, .unset, .unset, .unset] [])) target → Steps p.tables e below (T0.setTop (mkF m 0 #[.val (.int p0), .val (.int p1), .val (.int p2), .val (.int p3), .unset, .unset, .unset, .unset, .unset, .unset, .unset, .unset] [])) target := by
  obtain ⟨T1, X1, e1, st1⟩ := getS2 X0 hx hZ hown (host := "") (Or.inl (hw _ (List.mem_of_getElem? (i := 47) rfl))) Via.refl e0 (S3.ext O0.2) (g := (mkF m 79 #[.val (.int p0), .val (.int p1), .val (.int p2), .val (.int p3), .val (.int ((p0 &&& (2147483647 : Int32)) % (7 : Int32))), .unset, .unset, .unset, .unset, .unset, .unset, .unset] [])) rfl (hb hby at_79)
  refine ⟨T1, X1, e1, fun target kt => ?_⟩
  show Steps p.tables e below (T0.setTop (mkF m 0 #[.val (.int p0), .val (.int p1), .val (.int p2), .val (.int p3), .unset, .unset, .unset, .unset, .unset, .unset, .unset, .unset] [])) _
  refine XS.iloadN X0.here hx rfl (hb hby at_0) rfl ?_
  show Steps p.tables e below (T0.setTop (mkF m 1 #[.val (.int p0), .val (.int p1), .val (.int p2), .val (.int p3), .unset, .unset, .unset, .unset, .unset, .unset, .unset, .unset] [(.int p0)])) _
  refine X0.ldcInt hx hown (mvT hZ (hw _ (List.mem_of_getElem? (i := 0) rfl))) (g := (mkF m 1 #[.val (.int p0), .val (.int p1), .val (.int p2), .val (.int p3), .unset, .unset, .unset, .unset, .unset, .unset, .unset, .unset] [(.int p0)])) rfl (hb hby at_1) _ ?_
  show Steps p.tables e below (T0.setTop (mkF m 3 #[.val (.int p0), .val (.int p1), .val (.int p2), .val (.int p3), .unset, .unset, .unset, .unset, .unset, .unset, .unset, .unset] [(.int (2147483647 : Int32)), (.int p0)])) _
  refine XS.iand X0.here hx rfl (hb hby at_3) rfl ?_
  show Steps p.tables e below (T0.setTop (mkF m 4 #[.val (.int p0), .val (.int p1), .val (.int p2), .val (.int p3), .unset, .unset, .unset, .unset, .unset, .unset, .unset, .unset] [(.int (p0 &&& (2147483647 : Int32)))])) _
  refine XS.bipush X0.here hx rfl (hb hby at_4) ?_
  show Steps p.tables e below (T0.setTop (mkF m 6 #[.val (.int p0), .val (.int p1), .val (.int p2), .val (.int p3), .unset, .unset, .unset, .unset, .unset, .unset, .unset, .unset] [(.int (7 : Int32)), (.int (p0 &&& (2147483647 : Int32)))])) _
  refine Jvm.RoadKit.iremM (g := (mkF m 6 #[.val (.int p0), .val (.int p1), .val (.int p2), .val (.int p3), .unset, .unset, .unset, .unset, .unset, .unset, .unset, .unset] [(.int (7 : Int32)), (.int (p0 &&& (2147483647 : Int32)))])) X0 hx rfl (hb hby at_6) rfl (by decide) ?_
  show Steps p.tables e below (T0.setTop (mkF m 7 #[.val (.int p0), .val (.int p1), .val (.int p2), .val (.int p3), .unset, .unset, .unset, .unset, .unset, .unset, .unset, .unset] [(.int ((p0 &&& (2147483647 : Int32)) % (7 : Int32)))])) _
  refine XS.istore X0.here hx rfl (hb hby at_7) rfl (l' := #[.val (.int p0), .val (.int p1), .val (.int p2), .val (.int p3), .val (.int ((p0 &&& (2147483647 : Int32)) % (7 : Int32))), .unset, .unset, .unset, .unset, .unset, .unset, .unset]) rfl ?_
  show Steps p.tables e below (T0.setTop (mkF m 9 #[.val (.int p0), .val (.int p1), .val (.int p2), .val (.int p3), .val (.int ((p0 &&& (2147483647 : Int32)) % (7 : Int32))), .unset, .unset, .unset, .unset, .unset, .unset, .unset] [])) _
  refine XS.iload X0.here hx rfl (hb hby at_9) rfl ?_
  show Steps p.tables e below (T0.setTop (mkF m 11 #[.val (.int p0), .val (.int p1), .val (.int p2), .val (.int p3), .val (.int ((p0 &&& (2147483647 : Int32)) % (7 : Int32))), .unset, .unset, .unset, .unset, .unset, .unset, .unset] [(.int ((p0 &&& (2147483647 : Int32)) % (7 : Int32)))])) _
  refine XS.ifYes X0.here hx rfl (pc0 := 11) (pc' := 29) rfl (hb hby at_11) rfl ((if0 _ _).trans (feq hc11).2) (by decide) (by decide) ?_
  show Steps p.tables e below (T0.setTop (mkF m 29 #[.val (.int p0), .val (.int p1), .val (.int p2), .val (.int p3), .val (.int ((p0 &&& (2147483647 : Int32)) % (7 : Int32))), .unset, .unset, .unset, .unset, .unset, .unset, .unset] [])) _
  refine XS.iload X0.here hx rfl (hb hby at_29) rfl ?_
  show Steps p.tables e below (T0.setTop (mkF m 31 #[.val (.int p0), .val (.int p1), .val (.int p2), .val (.int p3), .val (.int ((p0 &&& (2147483647 : Int32)) % (7 : Int32))), .unset, .unset, .unset, .unset, .unset, .unset, .unset] [(.int ((p0 &&& (2147483647 : Int32)) % (7 : Int32)))])) _
  refine XS.iconst X0.here hx rfl (hb hby at_31) ?_
  show Steps p.tables e below (T0.setTop (mkF m 32 #[.val (.int p0), .val (.int p1), .val (.int p2), .val (.int p3), .val (.int ((p0 &&& (2147483647 : Int32)) % (7 : Int32))), .unset, .unset, .unset, .unset, .unset, .unset, .unset] [(.int (1 : Int32)), (.int ((p0 &&& (2147483647 : Int32)) % (7 : Int32)))])) _
  refine XS.icmpYes X0.here hx rfl (pc0 := 32) (pc' := 51) rfl (hb hby at_32) rfl (feq hc32).2 (by decide) (by decide) ?_
  show Steps p.tables e below (T0.setTop (mkF m 51 #[.val (.int p0), .val (.int p1), .val (.int p2), .val (.int p3), .val (.int ((p0 &&& (2147483647 : Int32)) % (7 : Int32))), .unset, .unset, .unset, .unset, .unset, .unset, .unset] [])) _
  refine XS.iload X0.here hx rfl (hb hby at_51) rfl ?_
  show Steps p.tables e below (T0.setTop (mkF m 53 #[.val (.int p0), .val (.int p1), .val (.int p2), .val (.int p3), .val (.int ((p0 &&& (2147483647 : Int32)) % (7 : Int32))), .unset, .unset, .unset, .unset, .unset, .unset, .unset] [(.int ((p0 &&& (2147483647 : Int32)) % (7 : Int32)))])) _
  refine XS.iconst X0.here hx rfl (hb hby at_53) ?_
  show Steps p.tables e below (T0.setTop (mkF m 54 #[.val (.int p0), .val (.int p1), .val (.int p2), .val (.int p3), .val (.int ((p0 &&& (2147483647 : Int32)) % (7 : Int32))), .unset, .unset, .unset, .unset, .unset, .unset, .unset] [(.int (2 : Int32)), (.int ((p0 &&& (2147483647 : Int32)) % (7 : Int32)))])) _
  refine XS.icmpYes X0.here hx rfl (pc0 := 54) (pc' := 73) rfl (hb hby at_54) rfl (feq hc54).2 (by decide) (by decide) ?_
  show Steps p.tables e below (T0.setTop (mkF m 73 #[.val (.int p0), .val (.int p1), .val (.int p2), .val (.int p3), .val (.int ((p0 &&& (2147483647 : Int32)) % (7 : Int32))), .unset, .unset, .unset, .unset, .unset, .unset, .unset] [])) _
  refine XS.iload X0.here hx rfl (hb hby at_73) rfl ?_
  show Steps p.tables e below (T0.setTop (mkF m 75 #[.val (.int p0), .val (.int p1), .val (.int p2), .val (.int p3), .val (.int ((p0 &&& (2147483647 : Int32)) % (7 : Int32))), .unset, .unset, .unset, .unset, .unset, .unset, .unset] [(.int ((p0 &&& (2147483647 : Int32)) % (7 : Int32)))])) _
  refine XS.iconst X0.here hx rfl (hb hby at_75) ?_
  show Steps p.tables e below (T0.setTop (mkF m 76 #[.val (.int p0), .val (.int p1), .val (.int p2), .val (.int p3), .val (.int ((p0 &&& (2147483647 : Int32)) % (7 : Int32))), .unset, .unset, .unset, .unset, .unset, .unset, .unset] [(.int (3 : Int32)), (.int ((p0 &&& (2147483647 : Int32)) % (7 : Int32)))])) _
  refine XS.icmpNo X0.here hx rfl (hb hby at_76) rfl (teq hc76).2 ?_
  show Steps p.tables e below (T0.setTop (mkF m 79 #[.val (.int p0), .val (.int p1), .val (.int p2), .val (.int p3), .val (.int ((p0 &&& (2147483647 : Int32)) % (7 : Int32))), .unset, .unset, .unset, .unset, .unset, .unset, .unset] [])) _
  refine st1 _ ?_
  show Steps p.tables e below (T1.setTop (mkF m 82 #[.val (.int p0), .val (.int p1), .val (.int p2), .val (.int p3), .val (.int ((p0 &&& (2147483647 : Int32)) % (7 : Int32))), .unset, .unset, .unset, .unset, .unset, .unset, .unset] [(.ref w3)])) _
  refine XS.astore X1.here hx rfl (hb hby at_82) rfl rfl (l' := #[.val (.int p0), .val (.int p1), .val (.int p2), .val (.int p3), .val (.int ((p0 &&& (2147483647 : Int32)) % (7 : Int32))), .val (.ref w3), .unset, .unset, .unset, .unset, .unset, .unset]) rfl ?_
  show Steps p.tables e below (T1.setTop (mkF m 84 #[.val (.int p0), .val (.int p1), .val (.int p2), .val (.int p3), .val (.int ((p0 &&& (2147483647 : Int32)) % (7 : Int32))), .val (.ref w3), .unset, .unset, .unset, .unset, .unset, .unset] [])) _
  refine XS.iconst X1.here hx rfl (hb hby at_84) ?_
  show Steps p.tables e below (T1.setTop (mkF m 85 #[.val (.int p0), .val (.int p1), .val (.int p2), .val (.int p3), .val (.int ((p0 &&& (2147483647 : Int32)) % (7 : Int32))), .val (.ref w3), .unset, .unset, .unset, .unset, .unset, .unset] [(.int (0 : Int32))])) _
  refine XS.istore X1.here hx rfl (hb hby at_85) rfl (l' := #[.val (.int p0), .val (.int p1), .val (.int p2), .val (.int p3), .val (.int ((p0 &&& (2147483647 : Int32)) % (7 : Int32))), .val (.ref w3), .val (.int (0 : Int32)), .unset, .unset, .unset, .unset, .unset]) rfl ?_
  show Steps p.tables e below (T1.setTop (mkF m 87 #[.val (.int p0), .val (.int p1), .val (.int p2), .val (.int p3), .val (.int ((p0 &&& (2147483647 : Int32)) % (7 : Int32))), .val (.ref w3), .val (.int (0 : Int32)), .unset, .unset, .unset, .unset, .unset] [])) _
  refine X1.ldcInt hx hown (mvT hZ (hw _ (List.mem_of_getElem? (i := 49) rfl))) (g := (mkF m 87 #[.val (.int p0), .val (.int p1), .val (.int p2), .val (.int p3), .val (.int ((p0 &&& (2147483647 : Int32)) % (7 : Int32))), .val (.ref w3), .val (.int (0 : Int32)), .unset, .unset, .unset, .unset, .unset] [])) rfl (hb hby at_87) _ ?_
  show Steps p.tables e below (T1.setTop (mkF m 89 #[.val (.int p0), .val (.int p1), .val (.int p2), .val (.int p3), .val (.int ((p0 &&& (2147483647 : Int32)) % (7 : Int32))), .val (.ref w3), .val (.int (0 : Int32)), .unset, .unset, .unset, .unset, .unset] [(.int (43830 : Int32))])) _
  refine XS.istore X1.here hx rfl (hb hby at_89) rfl (l' := #[.val (.int p0), .val (.int p1), .val (.int p2), .val (.int p3), .val (.int ((p0 &&& (2147483647 : Int32)) % (7 : Int32))), .val (.ref w3), .val (.int (0 : Int32)), .val (.int (43830 : Int32)), .unset, .unset, .unset, .unset]) rfl ?_
  show Steps p.tables e below (T1.setTop (mkF m 91 #[.val (.int p0), .val (.int p1), .val (.int p2), .val (.int p3), .val (.int ((p0 &&& (2147483647 : Int32)) % (7 : Int32))), .val (.ref w3), .val (.int (0 : Int32)), .val (.int (43830 : Int32)), .unset, .unset, .unset, .unset] [])) _
  refine XS.goto X1.here hx rfl (pc0 := 91) (pc' := 151) rfl (hb hby at_91) (by decide) (by decide) ?_
  exact kt
set_option maxRecDepth 65536 in
set_option maxHeartbeats 40000000 in
theorem k4 {p : Program} {l : Launch} {e : Env} {R : Room} {s : State} {m : MethodId} {args : Array Value} {below : List Frame} {meth : Method} {c : Code} {T0 : State} {locs : List Loc} {cells slots : Nat} {Z : State} {a0 : Array Value} {h0 : Heap} (X0 : Stand p l e R s m args below meth c T0 locs cells slots) (hx : p.tables.exec = Jvm.exec) (hZ : Z.Warmed39 s.vm) (hw : ∀ d ∈ tables_1, d.before a0 Z = true) (hby : c.code = code) (hown : s.vm.findClass "com/example/vestwright/vestwright/plan/WholeFigureCheckPinLaw" = some m.cls) (e0 : T0.heap = h0) {p0 p1 p2 p3 : Int32} {w0 w1 w2 w3 w4 w5 w6 : Addr} {n0 : Nat} (O0 : Old Z n0 h0) (S0 : Sta Z Z.heap "com/example/vestwright/vestwright/plan/WholeFigure" "YEARS" "Lcom/example/vestwright/vestwright/plan/WholeFigure;" (.ref w0)) (E0 : Exa Z Z.heap w0 "com/example/vestwright/vestwright/plan/WholeFigure") (F0 : Fld Z Z.heap w0 "com/example/vestwright/vestwright/plan/WholeFigure" "most" "I" (.int (120 : Int32))) (S1 : Sta Z Z.heap "com/example/vestwright/vestwright/plan/WholeFigure" "AGE_AND_SERVICE" "Lcom/example/vestwright/vestwright/plan/WholeFigure;" (.ref w1)) (E1 : Exa Z Z.heap w1 "com/example/vestwright/vestwright/plan/WholeFigure") (F1 : Fld Z Z.heap w1 "com/example/vestwright/vestwright/plan/WholeFigure" "most" "I" (.int (240 : Int32))) (S2 : Sta Z Z.heap "com/example/vestwright/vestwright/plan/WholeFigure" "MONTHS" "Lcom/example/vestwright/vestwright/plan/WholeFigure;" (.ref w2)) (E2 : Exa Z Z.heap w2 "com/example/vestwright/vestwright/plan/WholeFigure") (F2 : Fld Z Z.heap w2 "com/example/vestwright/vestwright/plan/WholeFigure" "most" "I" (.int (1440 : Int32))) (S3 : Sta Z Z.heap "com/example/vestwright/vestwright/plan/WholeFigure" "DAYS" "Lcom/example/vestwright/vestwright/plan/WholeFigure;" (.ref w3)) (E3 : Exa Z Z.heap w3 "com/example/vestwright/vestwright/plan/WholeFigure") (F3 : Fld Z Z.heap w3 "com/example/vestwright/vestwright/plan/WholeFigure" "most" "I" (.int (43830 : Int32))) (S4 : Sta Z Z.heap "com/example/vestwright/vestwright/plan/WholeFigure" "CALENDAR_YEAR" "Lcom/example/vestwright/vestwright/plan/WholeFigure;" (.ref w4)) (E4 : Exa Z Z.heap w4 "com/example/vestwright/vestwright/plan/WholeFigure") (F4 : Fld Z Z.heap w4 "com/example/vestwright/vestwright/plan/WholeFigure" "most" "I" (.int (9999 : Int32))) (S5 : Sta Z Z.heap "com/example/vestwright/vestwright/plan/WholeFigure" "CALENDAR_MONTH" "Lcom/example/vestwright/vestwright/plan/WholeFigure;" (.ref w5)) (E5 : Exa Z Z.heap w5 "com/example/vestwright/vestwright/plan/WholeFigure") (F5 : Fld Z Z.heap w5 "com/example/vestwright/vestwright/plan/WholeFigure" "most" "I" (.int (12 : Int32))) (S6 : Sta Z Z.heap "com/example/vestwright/vestwright/plan/WholeFigure" "DECIMALS" "Lcom/example/vestwright/vestwright/plan/WholeFigure;" (.ref w6)) (E6 : Exa Z Z.heap w6 "com/example/vestwright/vestwright/plan/WholeFigure") (F6 : Fld Z Z.heap w6 "com/example/vestwright/vestwright/plan/WholeFigure" "most" "I" (.int (10 : Int32))) (hc11 : ¬ (((p0 &&& (2147483647 : Int32)) % (7 : Int32)) = (0 : Int32))) (hc32 : ¬ (((p0 &&& (2147483647 : Int32)) % (7 : Int32)) = (1 : Int32))) (hc54 : ¬ (((p0 &&& (2147483647 : Int32)) % (7 : Int32)) = (2 : Int32))) (hc76 : ¬ (((p0 &&& (2147483647 : Int32)) % (7 : Int32)) = (3 : Int32))) (hc97 : ((p0 &&& (2147483647 : Int32)) % (7 : Int32)) = (4 : Int32)) :
    ∃ (T' : State), Stand p l e R s m args below meth c T' locs cells slots ∧ T'.heap = h0 ∧ ∀ target, Steps p.tables e below (T'.setTop (mkF m 151 #[.val (.int p0), .val (.int p1), .val (.int p2), .val (.int p3), .val (.int ((p0 &&& (2147483647 : Int32)) % (7 : Int32))), .val (.ref w4), .val (.int (1900 : Int32)), .val (.int (9999 : Int32)), .unset, .unset, .unset, .unset] [])) target → Steps p.tables e below (T0.setTop (mkF m 0 #[.val (.int p0), .val (.int p1), .val (.int p2), .val (.int p3), .unset, .unset, .unset, .unset, .unset, .unset, .unset, .unset] [])) target := by
  obtain ⟨T1, X1, e1, st1⟩ := getS2 X0 hx hZ hown (host := "") (Or.inl (hw _ (List.mem_of_getElem? (i := 50) rfl))) Via.refl e0 (S4.ext O0.2) (g := (mkF m 100 #[.val (.int p0), .val (.int p1), .val (.int p2), .val (.int p3), .val (.int ((p0 &&& (2147483647 : Int32)) % (7 : Int32))), .unset, .unset, .unset, .unset, .unset, .unset, .unset] [])) rfl (hb hby at_100)
  refine ⟨T1, X1, e1, fun target kt => ?_⟩
  show Steps p.tables e below (T0.setTop (mkF m 0 #[.val (.int p0), .val (.int p1), .val (.int p2), .val (.int p3), .unset, .unset, .unset, .unset, .unset, .unset, .unset, .unset] [])) _
  refine XS.iloadN X0.here hx rfl (hb hby at_0) rfl ?_
  show Steps p.tables e below (T0.setTop (mkF m 1 #[.val (.int p0), .val (.int p1), .val (.int p2), .val (.int p3), .unset, .unset, .unset, .unset, .unset, .unset, .unset, .unset] [(.int p0)])) _
  refine X0.ldcInt hx hown (mvT hZ (hw _ (List.mem_of_getElem? (i := 0) rfl))) (g := (mkF m 1 #[.val (.int p0), .val (.int p1), .val (.int p2), .val (.int p3), .unset, .unset, .unset, .unset, .unset, .unset, .unset, .unset] [(.int p0)])) rfl (hb hby at_1) _ ?_
  show Steps p.tables e below (T0.setTop (mkF m 3 #[.val (.int p0), .val (.int p1), .val (.int p2), .val (.int p3), .unset, .unset, .unset, .unset, .unset, .unset, .unset, .unset] [(.int (2147483647 : Int32)), (.int p0)])) _
  refine XS.iand X0.here hx rfl (hb hby at_3) rfl ?_
  show Steps p.tables e below (T0.setTop (mkF m 4 #[.val (.int p0), .val (.int p1), .val (.int p2), .val (.int p3), .unset, .unset, .unset, .unset, .unset, .unset, .unset, .unset] [(.int (p0 &&& (2147483647 : Int32)))])) _
  refine XS.bipush X0.here hx rfl (hb hby at_4) ?_
  show Steps p.tables e below (T0.setTop (mkF m 6 #[.val (.int p0), .val (.int p1), .val (.int p2), .val (.int p3), .unset, .unset, .unset, .unset, .unset, .unset, .unset, .unset] [(.int (7 : Int32)), (.int (p0 &&& (2147483647 : Int32)))])) _
  refine Jvm.RoadKit.iremM (g := (mkF m 6 #[.val (.int p0), .val (.int p1), .val (.int p2), .val (.int p3), .unset, .unset, .unset, .unset, .unset, .unset, .unset, .unset] [(.int (7 : Int32)), (.int (p0 &&& (2147483647 : Int32)))])) X0 hx rfl (hb hby at_6) rfl (by decide) ?_
  show Steps p.tables e below (T0.setTop (mkF m 7 #[.val (.int p0), .val (.int p1), .val (.int p2), .val (.int p3), .unset, .unset, .unset, .unset, .unset, .unset, .unset, .unset] [(.int ((p0 &&& (2147483647 : Int32)) % (7 : Int32)))])) _
  refine XS.istore X0.here hx rfl (hb hby at_7) rfl (l' := #[.val (.int p0), .val (.int p1), .val (.int p2), .val (.int p3), .val (.int ((p0 &&& (2147483647 : Int32)) % (7 : Int32))), .unset, .unset, .unset, .unset, .unset, .unset, .unset]) rfl ?_
  show Steps p.tables e below (T0.setTop (mkF m 9 #[.val (.int p0), .val (.int p1), .val (.int p2), .val (.int p3), .val (.int ((p0 &&& (2147483647 : Int32)) % (7 : Int32))), .unset, .unset, .unset, .unset, .unset, .unset, .unset] [])) _
  refine XS.iload X0.here hx rfl (hb hby at_9) rfl ?_
  show Steps p.tables e below (T0.setTop (mkF m 11 #[.val (.int p0), .val (.int p1), .val (.int p2), .val (.int p3), .val (.int ((p0 &&& (2147483647 : Int32)) % (7 : Int32))), .unset, .unset, .unset, .unset, .unset, .unset, .unset] [(.int ((p0 &&& (2147483647 : Int32)) % (7 : Int32)))])) _
  refine XS.ifYes X0.here hx rfl (pc0 := 11) (pc' := 29) rfl (hb hby at_11) rfl ((if0 _ _).trans (feq hc11).2) (by decide) (by decide) ?_
  show Steps p.tables e below (T0.setTop (mkF m 29 #[.val (.int p0), .val (.int p1), .val (.int p2), .val (.int p3), .val (.int ((p0 &&& (2147483647 : Int32)) % (7 : Int32))), .unset, .unset, .unset, .unset, .unset, .unset, .unset] [])) _
  refine XS.iload X0.here hx rfl (hb hby at_29) rfl ?_
  show Steps p.tables e below (T0.setTop (mkF m 31 #[.val (.int p0), .val (.int p1), .val (.int p2), .val (.int p3), .val (.int ((p0 &&& (2147483647 : Int32)) % (7 : Int32))), .unset, .unset, .unset, .unset, .unset, .unset, .unset] [(.int ((p0 &&& (2147483647 : Int32)) % (7 : Int32)))])) _
  refine XS.iconst X0.here hx rfl (hb hby at_31) ?_
  show Steps p.tables e below (T0.setTop (mkF m 32 #[.val (.int p0), .val (.int p1), .val (.int p2), .val (.int p3), .val (.int ((p0 &&& (2147483647 : Int32)) % (7 : Int32))), .unset, .unset, .unset, .unset, .unset, .unset, .unset] [(.int (1 : Int32)), (.int ((p0 &&& (2147483647 : Int32)) % (7 : Int32)))])) _
  refine XS.icmpYes X0.here hx rfl (pc0 := 32) (pc' := 51) rfl (hb hby at_32) rfl (feq hc32).2 (by decide) (by decide) ?_
  show Steps p.tables e below (T0.setTop (mkF m 51 #[.val (.int p0), .val (.int p1), .val (.int p2), .val (.int p3), .val (.int ((p0 &&& (2147483647 : Int32)) % (7 : Int32))), .unset, .unset, .unset, .unset, .unset, .unset, .unset] [])) _
  refine XS.iload X0.here hx rfl (hb hby at_51) rfl ?_
  show Steps p.tables e below (T0.setTop (mkF m 53 #[.val (.int p0), .val (.int p1), .val (.int p2), .val (.int p3), .val (.int ((p0 &&& (2147483647 : Int32)) % (7 : Int32))), .unset, .unset, .unset, .unset, .unset, .unset, .unset] [(.int ((p0 &&& (2147483647 : Int32)) % (7 : Int32)))])) _
  refine XS.iconst X0.here hx rfl (hb hby at_53) ?_
  show Steps p.tables e below (T0.setTop (mkF m 54 #[.val (.int p0), .val (.int p1), .val (.int p2), .val (.int p3), .val (.int ((p0 &&& (2147483647 : Int32)) % (7 : Int32))), .unset, .unset, .unset, .unset, .unset, .unset, .unset] [(.int (2 : Int32)), (.int ((p0 &&& (2147483647 : Int32)) % (7 : Int32)))])) _
  refine XS.icmpYes X0.here hx rfl (pc0 := 54) (pc' := 73) rfl (hb hby at_54) rfl (feq hc54).2 (by decide) (by decide) ?_
  show Steps p.tables e below (T0.setTop (mkF m 73 #[.val (.int p0), .val (.int p1), .val (.int p2), .val (.int p3), .val (.int ((p0 &&& (2147483647 : Int32)) % (7 : Int32))), .unset, .unset, .unset, .unset, .unset, .unset, .unset] [])) _
  refine XS.iload X0.here hx rfl (hb hby at_73) rfl ?_
  show Steps p.tables e below (T0.setTop (mkF m 75 #[.val (.int p0), .val (.int p1), .val (.int p2), .val (.int p3), .val (.int ((p0 &&& (2147483647 : Int32)) % (7 : Int32))), .unset, .unset, .unset, .unset, .unset, .unset, .unset] [(.int ((p0 &&& (2147483647 : Int32)) % (7 : Int32)))])) _
  refine XS.iconst X0.here hx rfl (hb hby at_75) ?_
  show Steps p.tables e below (T0.setTop (mkF m 76 #[.val (.int p0), .val (.int p1), .val (.int p2), .val (.int p3), .val (.int ((p0 &&& (2147483647 : Int32)) % (7 : Int32))), .unset, .unset, .unset, .unset, .unset, .unset, .unset] [(.int (3 : Int32)), (.int ((p0 &&& (2147483647 : Int32)) % (7 : Int32)))])) _
  refine XS.icmpYes X0.here hx rfl (pc0 := 76) (pc' := 94) rfl (hb hby at_76) rfl (feq hc76).2 (by decide) (by decide) ?_
  show Steps p.tables e below (T0.setTop (mkF m 94 #[.val (.int p0), .val (.int p1), .val (.int p2), .val (.int p3), .val (.int ((p0 &&& (2147483647 : Int32)) % (7 : Int32))), .unset, .unset, .unset, .unset, .unset, .unset, .unset] [])) _
  refine XS.iload X0.here hx rfl (hb hby at_94) rfl ?_
  show Steps p.tables e below (T0.setTop (mkF m 96 #[.val (.int p0), .val (.int p1), .val (.int p2), .val (.int p3), .val (.int ((p0 &&& (2147483647 : Int32)) % (7 : Int32))), .unset, .unset, .unset, .unset, .unset, .unset, .unset] [(.int ((p0 &&& (2147483647 : Int32)) % (7 : Int32)))])) _
  refine XS.iconst X0.here hx rfl (hb hby at_96) ?_
  show Steps p.tables e below (T0.setTop (mkF m 97 #[.val (.int p0), .val (.int p1), .val (.int p2), .val (.int p3), .val (.int ((p0 &&& (2147483647 : Int32)) % (7 : Int32))), .unset, .unset, .unset, .unset, .unset, .unset, .unset] [(.int (4 : Int32)), (.int ((p0 &&& (2147483647 : Int32)) % (7 : Int32)))])) _
  refine XS.icmpNo X0.here hx rfl (hb hby at_97) rfl (teq hc97).2 ?_
  show Steps p.tables e below (T0.setTop (mkF m 100 #[.val (.int p0), .val (.int p1), .val (.int p2), .val (.int p3), .val (.int ((p0 &&& (2147483647 : Int32)) % (7 : Int32))), .unset, .unset, .unset, .unset, .unset, .unset, .unset] [])) _
  refine st1 _ ?_
  show Steps p.tables e below (T1.setTop (mkF m 103 #[.val (.int p0), .val (.int p1), .val (.int p2), .val (.int p3), .val (.int ((p0 &&& (2147483647 : Int32)) % (7 : Int32))), .unset, .unset, .unset, .unset, .unset, .unset, .unset] [(.ref w4)])) _
  refine XS.astore X1.here hx rfl (hb hby at_103) rfl rfl (l' := #[.val (.int p0), .val (.int p1), .val (.int p2), .val (.int p3), .val (.int ((p0 &&& (2147483647 : Int32)) % (7 : Int32))), .val (.ref w4), .unset, .unset, .unset, .unset, .unset, .unset]) rfl ?_
  show Steps p.tables e below (T1.setTop (mkF m 105 #[.val (.int p0), .val (.int p1), .val (.int p2), .val (.int p3), .val (.int ((p0 &&& (2147483647 : Int32)) % (7 : Int32))), .val (.ref w4), .unset, .unset, .unset, .unset, .unset, .unset] [])) _
  refine XS.sipush X1.here hx rfl (hb hby at_105) ?_
  show Steps p.tables e below (T1.setTop (mkF m 108 #[.val (.int p0), .val (.int p1), .val (.int p2), .val (.int p3), .val (.int ((p0 &&& (2147483647 : Int32)) % (7 : Int32))), .val (.ref w4), .unset, .unset, .unset, .unset, .unset, .unset] [(.int (1900 : Int32))])) _
  refine XS.istore X1.here hx rfl (hb hby at_108) rfl (l' := #[.val (.int p0), .val (.int p1), .val (.int p2), .val (.int p3), .val (.int ((p0 &&& (2147483647 : Int32)) % (7 : Int32))), .val (.ref w4), .val (.int (1900 : Int32)), .unset, .unset, .unset, .unset, .unset]) rfl ?_
  show Steps p.tables e below (T1.setTop (mkF m 110 #[.val (.int p0), .val (.int p1), .val (.int p2), .val (.int p3), .val (.int ((p0 &&& (2147483647 : Int32)) % (7 : Int32))), .val (.ref w4), .val (.int (1900 : Int32)), .unset, .unset, .unset, .unset, .unset] [])) _
  refine XS.sipush X1.here hx rfl (hb hby at_110) ?_
  show Steps p.tables e below (T1.setTop (mkF m 113 #[.val (.int p0), .val (.int p1), .val (.int p2), .val (.int p3), .val (.int ((p0 &&& (2147483647 : Int32)) % (7 : Int32))), .val (.ref w4), .val (.int (1900 : Int32)), .unset, .unset, .unset, .unset, .unset] [(.int (9999 : Int32))])) _
  refine XS.istore X1.here hx rfl (hb hby at_113) rfl (l' := #[.val (.int p0), .val (.int p1), .val (.int p2), .val (.int p3), .val (.int ((p0 &&& (2147483647 : Int32)) % (7 : Int32))), .val (.ref w4), .val (.int (1900 : Int32)), .val (.int (9999 : Int32)), .unset, .unset, .unset, .unset]) rfl ?_
  show Steps p.tables e below (T1.setTop (mkF m 115 #[.val (.int p0), .val (.int p1), .val (.int p2), .val (.int p3), .val (.int ((p0 &&& (2147483647 : Int32)) % (7 : Int32))), .val (.ref w4), .val (.int (1900 : Int32)), .val (.int (9999 : Int32)), .unset, .unset, .unset, .unset] [])) _
  refine XS.goto X1.here hx rfl (pc0 := 115) (pc' := 151) rfl (hb hby at_115) (by decide) (by decide) ?_
  exact kt
set_option maxRecDepth 65536 in
set_option maxHeartbeats 40000000 in
theorem k5 {p : Program} {l : Launch} {e : Env} {R : Room} {s : State} {m : MethodId} {args : Array Value} {below : List Frame} {meth : Method} {c : Code} {T0 : State} {locs : List Loc} {cells slots : Nat} {Z : State} {a0 : Array Value} {h0 : Heap} (X0 : Stand p l e R s m args below meth c T0 locs cells slots) (hx : p.tables.exec = Jvm.exec) (hZ : Z.Warmed39 s.vm) (hw : ∀ d ∈ tables_1, d.before a0 Z = true) (hby : c.code = code) (hown : s.vm.findClass "com/example/vestwright/vestwright/plan/WholeFigureCheckPinLaw" = some m.cls) (e0 : T0.heap = h0) {p0 p1 p2 p3 : Int32} {w0 w1 w2 w3 w4 w5 w6 : Addr} {n0 : Nat} (O0 : Old Z n0 h0) (S0 : Sta Z Z.heap "com/example/vestwright/vestwright/plan/WholeFigure" "YEARS" "Lcom/example/vestwright/vestwright/plan/WholeFigure;" (.ref w0)) (E0 : Exa Z Z.heap w0 "com/example/vestwright/vestwright/plan/WholeFigure") (F0 : Fld Z Z.heap w0 "com/example/vestwright/vestwright/plan/WholeFigure" "most" "I" (.int (120 : Int32))) (S1 : Sta Z Z.heap "com/example/vestwright/vestwright/plan/WholeFigure" "AGE_AND_SERVICE" "Lcom/example/vestwright/vestwright/plan/WholeFigure;" (.ref w1)) (E1 : Exa Z Z.heap w1 "com/example/vestwright/vestwright/plan/WholeFigure") (F1 : Fld Z Z.heap w1 "com/example/vestwright/vestwright/plan/WholeFigure" "most" "I" (.int (240 : Int32))) (S2 : Sta Z Z.heap "com/example/vestwright/vestwright/plan/WholeFigure" "MONTHS" "Lcom/example/vestwright/vestwright/plan/WholeFigure;" (.ref w2)) (E2 : Exa Z Z.heap w2 "com/example/vestwright/vestwright/plan/WholeFigure") (F2 : Fld Z Z.heap w2 "com/example/vestwright/vestwright/plan/WholeFigure" "most" "I" (.int (1440 : Int32))) (S3 : Sta Z Z.heap "com/example/vestwright/vestwright/plan/WholeFigure" "DAYS" "Lcom/example/vestwright/vestwright/plan/WholeFigure;" (.ref w3)) (E3 : Exa Z Z.heap w3 "com/example/vestwright/vestwright/plan/WholeFigure") (F3 : Fld Z Z.heap w3 "com/example/vestwright/vestwright/plan/WholeFigure" "most" "I" (.int (43830 : Int32))) (S4 : Sta Z Z.heap "com/example/vestwright/vestwright/plan/WholeFigure" "CALENDAR_YEAR" "Lcom/example/vestwright/vestwright/plan/WholeFigure;" (.ref w4)) (E4 : Exa Z Z.heap w4 "com/example/vestwright/vestwright/plan/WholeFigure") (F4 : Fld Z Z.heap w4 "com/example/vestwright/vestwright/plan/WholeFigure" "most" "I" (.int (9999 : Int32))) (S5 : Sta Z Z.heap "com/example/vestwright/vestwright/plan/WholeFigure" "CALENDAR_MONTH" "Lcom/example/vestwright/vestwright/plan/WholeFigure;" (.ref w5)) (E5 : Exa Z Z.heap w5 "com/example/vestwright/vestwright/plan/WholeFigure") (F5 : Fld Z Z.heap w5 "com/example/vestwright/vestwright/plan/WholeFigure" "most" "I" (.int (12 : Int32))) (S6 : Sta Z Z.heap "com/example/vestwright/vestwright/plan/WholeFigure" "DECIMALS" "Lcom/example/vestwright/vestwright/plan/WholeFigure;" (.ref w6)) (E6 : Exa Z Z.heap w6 "com/example/vestwright/vestwright/plan/WholeFigure") (F6 : Fld Z Z.heap w6 "com/example/vestwright/vestwright/plan/WholeFigure" "most" "I" (.int (10 : Int32))) (hc11 : ¬ (((p0 &&& (2147483647 : Int32)) % (7 : Int32)) = (0 : Int32))) (hc32 : ¬ (((p0 &&& (2147483647 : Int32)) % (7 : Int32)) = (1 : Int32))) (hc54 : ¬ (((p0 &&& (2147483647 : Int32)) % (7 : Int32)) = (2 : Int32))) (hc76 : ¬ (((p0 &&& (2147483647 : Int32)) % (7 : Int32)) = (3 : Int32))) (hc97 : ¬ (((p0 &&& (2147483647 : Int32)) % (7 : Int32)) = (4 : Int32))) (hc121 : ((p0 &&& (2147483647 : Int32)) % (7 : Int32)) = (5 : Int32)) :
    ∃ (T' : State), Stand p l e R s m args below meth c T' locs cells slots ∧ T'.heap = h0 ∧ ∀ target, Steps p.tables e below (T'.setTop (mkF m 151 #[.val (.int p0), .val (.int p1), .val (.int p2), .val (.int p3), .val (.int ((p0 &&& (2147483647 : Int32)) % (7 : Int32))), .val (.ref w5), .val (.int (1 : Int32)), .val (.int (12 : Int32)), .unset, .unset, .unset, .unset] [])) target → Steps p.tables e below (T0.setTop (mkF m 0 #[.val (.int p0), .val (.int p1), .val (.int p2), .val (.int p3), .unset, .unset, .unset, .unset, .unset, .unset, .unset, .unset] [])) target := by
  obtain ⟨T1, X1, e1, st1⟩ := getS2 X0 hx hZ hown (host := "") (Or.inl (hw _ (List.mem_of_getElem? (i := 41) rfl))) Via.refl e0 (S5.ext O0.2) (g := (mkF m 124 #[.val (.int p0), .val (.int p1), .val (.int p2), .val (.int p3), .val (.int ((p0 &&& (2147483647 : Int32)) % (7 : Int32))), .unset, .unset, .unset, .unset, .unset, .unset, .unset] [])) rfl (hb hby at_124)
  refine ⟨T1, X1, e1, fun target kt => ?_⟩
  show Steps p.tables e below (T0.setTop (mkF m 0 #[.val (.int p0), .val (.int p1), .val (.int p2), .val (.int p3), .unset, .unset, .unset, .unset, .unset, .unset, .unset, .unset] [])) _
  refine XS.iloadN X0.here hx rfl (hb hby at_0) rfl ?_
  show Steps p.tables e below (T0.setTop (mkF m 1 #[.val (.int p0), .val (.int p1), .val (.int p2), .val (.int p3), .unset, .unset, .unset, .unset, .unset, .unset, .unset, .unset] [(.int p0)])) _
  refine X0.ldcInt hx hown (mvT hZ (hw _ (List.mem_of_getElem? (i := 0) rfl))) (g := (mkF m 1 #[.val (.int p0), .val (.int p1), .val (.int p2), .val (.int p3), .unset, .unset, .unset, .unset, .unset, .unset, .unset, .unset] [(.int p0)])) rfl (hb hby at_1) _ ?_
  show Steps p.tables e below (T0.setTop (mkF m 3 #[.val (.int p0), .val (.int p1), .val (.int p2), .val (.int p3), .unset, .unset, .unset, .unset, .unset, .unset, .unset, .unset] [(.int (2147483647 : Int32)), (.int p0)])) _
  refine XS.iand X0.here hx rfl (hb hby at_3) rfl ?_
  show Steps p.tables e below (T0.setTop (mkF m 4 #[.val (.int p0), .val (.int p1), .val (.int p2), .val (.int p3), .unset, .unset, .unset, .unset, .unset, .unset, .unset, .unset] [(.int (p0 &&& (2147483647 : Int32)))])) _
  refine XS.bipush X0.here hx rfl (hb hby at_4) ?_
  show Steps p.tables e below (T0.setTop (mkF m 6 #[.val (.int p0), .val (.int p1), .val (.int p2), .val (.int p3), .unset, .unset, .unset, .unset, .unset, .unset, .unset, .unset] [(.int (7 : Int32)), (.int (p0 &&& (2147483647 : Int32)))])) _
  refine Jvm.RoadKit.iremM (g := (mkF m 6 #[.val (.int p0), .val (.int p1), .val (.int p2), .val (.int p3), .unset, .unset, .unset, .unset, .unset, .unset, .unset, .unset] [(.int (7 : Int32)), (.int (p0 &&& (2147483647 : Int32)))])) X0 hx rfl (hb hby at_6) rfl (by decide) ?_
  show Steps p.tables e below (T0.setTop (mkF m 7 #[.val (.int p0), .val (.int p1), .val (.int p2), .val (.int p3), .unset, .unset, .unset, .unset, .unset, .unset, .unset, .unset] [(.int ((p0 &&& (2147483647 : Int32)) % (7 : Int32)))])) _
  refine XS.istore X0.here hx rfl (hb hby at_7) rfl (l' := #[.val (.int p0), .val (.int p1), .val (.int p2), .val (.int p3), .val (.int ((p0 &&& (2147483647 : Int32)) % (7 : Int32))), .unset, .unset, .unset, .unset, .unset, .unset, .unset]) rfl ?_
  show Steps p.tables e below (T0.setTop (mkF m 9 #[.val (.int p0), .val (.int p1), .val (.int p2), .val (.int p3), .val (.int ((p0 &&& (2147483647 : Int32)) % (7 : Int32))), .unset, .unset, .unset, .unset, .unset, .unset, .unset] [])) _
  refine XS.iload X0.here hx rfl (hb hby at_9) rfl ?_
  show Steps p.tables e below (T0.setTop (mkF m 11 #[.val (.int p0), .val (.int p1), .val (.int p2), .val (.int p3), .val (.int ((p0 &&& (2147483647 : Int32)) % (7 : Int32))), .unset, .unset, .unset, .unset, .unset, .unset, .unset] [(.int ((p0 &&& (2147483647 : Int32)) % (7 : Int32)))])) _
  refine XS.ifYes X0.here hx rfl (pc0 := 11) (pc' := 29) rfl (hb hby at_11) rfl ((if0 _ _).trans (feq hc11).2) (by decide) (by decide) ?_
  show Steps p.tables e below (T0.setTop (mkF m 29 #[.val (.int p0), .val (.int p1), .val (.int p2), .val (.int p3), .val (.int ((p0 &&& (2147483647 : Int32)) % (7 : Int32))), .unset, .unset, .unset, .unset, .unset, .unset, .unset] [])) _
  refine XS.iload X0.here hx rfl (hb hby at_29) rfl ?_
  show Steps p.tables e below (T0.setTop (mkF m 31 #[.val (.int p0), .val (.int p1), .val (.int p2), .val (.int p3), .val (.int ((p0 &&& (2147483647 : Int32)) % (7 : Int32))), .unset, .unset, .unset, .unset, .unset, .unset, .unset] [(.int ((p0 &&& (2147483647 : Int32)) % (7 : Int32)))])) _
  refine XS.iconst X0.here hx rfl (hb hby at_31) ?_
  show Steps p.tables e below (T0.setTop (mkF m 32 #[.val (.int p0), .val (.int p1), .val (.int p2), .val (.int p3), .val (.int ((p0 &&& (2147483647 : Int32)) % (7 : Int32))), .unset, .unset, .unset, .unset, .unset, .unset, .unset] [(.int (1 : Int32)), (.int ((p0 &&& (2147483647 : Int32)) % (7 : Int32)))])) _
  refine XS.icmpYes X0.here hx rfl (pc0 := 32) (pc' := 51) rfl (hb hby at_32) rfl (feq hc32).2 (by decide) (by decide) ?_
  show Steps p.tables e below (T0.setTop (mkF m 51 #[.val (.int p0), .val (.int p1), .val (.int p2), .val (.int p3), .val (.int ((p0 &&& (2147483647 : Int32)) % (7 : Int32))), .unset, .unset, .unset, .unset, .unset, .unset, .unset] [])) _
  refine XS.iload X0.here hx rfl (hb hby at_51) rfl ?_
  show Steps p.tables e below (T0.setTop (mkF m 53 #[.val (.int p0), .val (.int p1), .val (.int p2), .val (.int p3), .val (.int ((p0 &&& (2147483647 : Int32)) % (7 : Int32))), .unset, .unset, .unset, .unset, .unset, .unset, .unset] [(.int ((p0 &&& (2147483647 : Int32)) % (7 : Int32)))])) _
  refine XS.iconst X0.here hx rfl (hb hby at_53) ?_
  show Steps p.tables e below (T0.setTop (mkF m 54 #[.val (.int p0), .val (.int p1), .val (.int p2), .val (.int p3), .val (.int ((p0 &&& (2147483647 : Int32)) % (7 : Int32))), .unset, .unset, .unset, .unset, .unset, .unset, .unset] [(.int (2 : Int32)), (.int ((p0 &&& (2147483647 : Int32)) % (7 : Int32)))])) _
  refine XS.icmpYes X0.here hx rfl (pc0 := 54) (pc' := 73) rfl (hb hby at_54) rfl (feq hc54).2 (by decide) (by decide) ?_
  show Steps p.tables e below (T0.setTop (mkF m 73 #[.val (.int p0), .val (.int p1), .val (.int p2), .val (.int p3), .val (.int ((p0 &&& (2147483647 : Int32)) % (7 : Int32))), .unset, .unset, .unset, .unset, .unset, .unset, .unset] [])) _
  refine XS.iload X0.here hx rfl (hb hby at_73) rfl ?_
  show Steps p.tables e below (T0.setTop (mkF m 75 #[.val (.int p0), .val (.int p1), .val (.int p2), .val (.int p3), .val (.int ((p0 &&& (2147483647 : Int32)) % (7 : Int32))), .unset, .unset, .unset, .unset, .unset, .unset, .unset] [(.int ((p0 &&& (2147483647 : Int32)) % (7 : Int32)))])) _
  refine XS.iconst X0.here hx rfl (hb hby at_75) ?_
  show Steps p.tables e below (T0.setTop (mkF m 76 #[.val (.int p0), .val (.int p1), .val (.int p2), .val (.int p3), .val (.int ((p0 &&& (2147483647 : Int32)) % (7 : Int32))), .unset, .unset, .unset, .unset, .unset, .unset, .unset] [(.int (3 : Int32)), (.int ((p0 &&& (2147483647 : Int32)) % (7 : Int32)))])) _
  refine XS.icmpYes X0.here hx rfl (pc0 := 76) (pc' := 94) rfl (hb hby at_76) rfl (feq hc76).2 (by decide) (by decide) ?_
  show Steps p.tables e below (T0.setTop (mkF m 94 #[.val (.int p0), .val (.int p1), .val (.int p2), .val (.int p3), .val (.int ((p0 &&& (2147483647 : Int32)) % (7 : Int32))), .unset, .unset, .unset, .unset, .unset, .unset, .unset] [])) _
  refine XS.iload X0.here hx rfl (hb hby at_94) rfl ?_
  show Steps p.tables e below (T0.setTop (mkF m 96 #[.val (.int p0), .val (.int p1), .val (.int p2), .val (.int p3), .val (.int ((p0 &&& (2147483647 : Int32)) % (7 : Int32))), .unset, .unset, .unset, .unset, .unset, .unset, .unset] [(.int ((p0 &&& (2147483647 : Int32)) % (7 : Int32)))])) _
  refine XS.iconst X0.here hx rfl (hb hby at_96) ?_
  show Steps p.tables e below (T0.setTop (mkF m 97 #[.val (.int p0), .val (.int p1), .val (.int p2), .val (.int p3), .val (.int ((p0 &&& (2147483647 : Int32)) % (7 : Int32))), .unset, .unset, .unset, .unset, .unset, .unset, .unset] [(.int (4 : Int32)), (.int ((p0 &&& (2147483647 : Int32)) % (7 : Int32)))])) _
  refine XS.icmpYes X0.here hx rfl (pc0 := 97) (pc' := 118) rfl (hb hby at_97) rfl (feq hc97).2 (by decide) (by decide) ?_
  show Steps p.tables e below (T0.setTop (mkF m 118 #[.val (.int p0), .val (.int p1), .val (.int p2), .val (.int p3), .val (.int ((p0 &&& (2147483647 : Int32)) % (7 : Int32))), .unset, .unset, .unset, .unset, .unset, .unset, .unset] [])) _
  refine XS.iload X0.here hx rfl (hb hby at_118) rfl ?_
  show Steps p.tables e below (T0.setTop (mkF m 120 #[.val (.int p0), .val (.int p1), .val (.int p2), .val (.int p3), .val (.int ((p0 &&& (2147483647 : Int32)) % (7 : Int32))), .unset, .unset, .unset, .unset, .unset, .unset, .unset] [(.int ((p0 &&& (2147483647 : Int32)) % (7 : Int32)))])) _
  refine XS.iconst X0.here hx rfl (hb hby at_120) ?_
  show Steps p.tables e below (T0.setTop (mkF m 121 #[.val (.int p0), .val (.int p1), .val (.int p2), .val (.int p3), .val (.int ((p0 &&& (2147483647 : Int32)) % (7 : Int32))), .unset, .unset, .unset, .unset, .unset, .unset, .unset] [(.int (5 : Int32)), (.int ((p0 &&& (2147483647 : Int32)) % (7 : Int32)))])) _
  refine XS.icmpNo X0.here hx rfl (hb hby at_121) rfl (teq hc121).2 ?_
  show Steps p.tables e below (T0.setTop (mkF m 124 #[.val (.int p0), .val (.int p1), .val (.int p2), .val (.int p3), .val (.int ((p0 &&& (2147483647 : Int32)) % (7 : Int32))), .unset, .unset, .unset, .unset, .unset, .unset, .unset] [])) _
  refine st1 _ ?_
  show Steps p.tables e below (T1.setTop (mkF m 127 #[.val (.int p0), .val (.int p1), .val (.int p2), .val (.int p3), .val (.int ((p0 &&& (2147483647 : Int32)) % (7 : Int32))), .unset, .unset, .unset, .unset, .unset, .unset, .unset] [(.ref w5)])) _
  refine XS.astore X1.here hx rfl (hb hby at_127) rfl rfl (l' := #[.val (.int p0), .val (.int p1), .val (.int p2), .val (.int p3), .val (.int ((p0 &&& (2147483647 : Int32)) % (7 : Int32))), .val (.ref w5), .unset, .unset, .unset, .unset, .unset, .unset]) rfl ?_
  show Steps p.tables e below (T1.setTop (mkF m 129 #[.val (.int p0), .val (.int p1), .val (.int p2), .val (.int p3), .val (.int ((p0 &&& (2147483647 : Int32)) % (7 : Int32))), .val (.ref w5), .unset, .unset, .unset, .unset, .unset, .unset] [])) _
  refine XS.iconst X1.here hx rfl (hb hby at_129) ?_
  show Steps p.tables e below (T1.setTop (mkF m 130 #[.val (.int p0), .val (.int p1), .val (.int p2), .val (.int p3), .val (.int ((p0 &&& (2147483647 : Int32)) % (7 : Int32))), .val (.ref w5), .unset, .unset, .unset, .unset, .unset, .unset] [(.int (1 : Int32))])) _
  refine XS.istore X1.here hx rfl (hb hby at_130) rfl (l' := #[.val (.int p0), .val (.int p1), .val (.int p2), .val (.int p3), .val (.int ((p0 &&& (2147483647 : Int32)) % (7 : Int32))), .val (.ref w5), .val (.int (1 : Int32)), .unset, .unset, .unset, .unset, .unset]) rfl ?_
  show Steps p.tables e below (T1.setTop (mkF m 132 #[.val (.int p0), .val (.int p1), .val (.int p2), .val (.int p3), .val (.int ((p0 &&& (2147483647 : Int32)) % (7 : Int32))), .val (.ref w5), .val (.int (1 : Int32)), .unset, .unset, .unset, .unset, .unset] [])) _
  refine XS.bipush X1.here hx rfl (hb hby at_132) ?_
  show Steps p.tables e below (T1.setTop (mkF m 134 #[.val (.int p0), .val (.int p1), .val (.int p2), .val (.int p3), .val (.int ((p0 &&& (2147483647 : Int32)) % (7 : Int32))), .val (.ref w5), .val (.int (1 : Int32)), .unset, .unset, .unset, .unset, .unset] [(.int (12 : Int32))])) _
  refine XS.istore X1.here hx rfl (hb hby at_134) rfl (l' := #[.val (.int p0), .val (.int p1), .val (.int p2), .val (.int p3), .val (.int ((p0 &&& (2147483647 : Int32)) % (7 : Int32))), .val (.ref w5), .val (.int (1 : Int32)), .val (.int (12 : Int32)), .unset, .unset, .unset, .unset]) rfl ?_
  show Steps p.tables e below (T1.setTop (mkF m 136 #[.val (.int p0), .val (.int p1), .val (.int p2), .val (.int p3), .val (.int ((p0 &&& (2147483647 : Int32)) % (7 : Int32))), .val (.ref w5), .val (.int (1 : Int32)), .val (.int (12 : Int32)), .unset, .unset, .unset, .unset] [])) _
  refine XS.goto X1.here hx rfl (pc0 := 136) (pc' := 151) rfl (hb hby at_136) (by decide) (by decide) ?_
  exact kt
set_option maxRecDepth 65536 in
set_option maxHeartbeats 40000000 in
theorem k6 {p : Program} {l : Launch} {e : Env} {R : Room} {s : State} {m : MethodId} {args : Array Value} {below : List Frame} {meth : Method} {c : Code} {T0 : State} {locs : List Loc} {cells slots : Nat} {Z : State} {a0 : Array Value} {h0 : Heap} (X0 : Stand p l e R s m args below meth c T0 locs cells slots) (hx : p.tables.exec = Jvm.exec) (hZ : Z.Warmed39 s.vm) (hw : ∀ d ∈ tables_1, d.before a0 Z = true) (hby : c.code = code) (hown : s.vm.findClass "com/example/vestwright/vestwright/plan/WholeFigureCheckPinLaw" = some m.cls) (e0 : T0.heap = h0) {p0 p1 p2 p3 : Int32} {w0 w1 w2 w3 w4 w5 w6 : Addr} {n0 : Nat} (O0 : Old Z n0 h0) (S0 : Sta Z Z.heap "com/example/vestwright/vestwright/plan/WholeFigure" "YEARS" "Lcom/example/vestwright/vestwright/plan/WholeFigure;" (.ref w0)) (E0 : Exa Z Z.heap w0 "com/example/vestwright/vestwright/plan/WholeFigure") (F0 : Fld Z Z.heap w0 "com/example/vestwright/vestwright/plan/WholeFigure" "most" "I" (.int (120 : Int32))) (S1 : Sta Z Z.heap "com/example/vestwright/vestwright/plan/WholeFigure" "AGE_AND_SERVICE" "Lcom/example/vestwright/vestwright/plan/WholeFigure;" (.ref w1)) (E1 : Exa Z Z.heap w1 "com/example/vestwright/vestwright/plan/WholeFigure") (F1 : Fld Z Z.heap w1 "com/example/vestwright/vestwright/plan/WholeFigure" "most" "I" (.int (240 : Int32))) (S2 : Sta Z Z.heap "com/example/vestwright/vestwright/plan/WholeFigure" "MONTHS" "Lcom/example/vestwright/vestwright/plan/WholeFigure;" (.ref w2)) (E2 : Exa Z Z.heap w2 "com/example/vestwright/vestwright/plan/WholeFigure") (F2 : Fld Z Z.heap w2 "com/example/vestwright/vestwright/plan/WholeFigure" "most" "I" (.int (1440 : Int32))) (S3 : Sta Z Z.heap "com/example/vestwright/vestwright/plan/WholeFigure" "DAYS" "Lcom/example/vestwright/vestwright/plan/WholeFigure;" (.ref w3)) (E3 : Exa Z Z.heap w3 "com/example/vestwright/vestwright/plan/WholeFigure") (F3 : Fld Z Z.heap w3 "com/example/vestwright/vestwright/plan/WholeFigure" "most" "I" (.int (43830 : Int32))) (S4 : Sta Z Z.heap "com/example/vestwright/vestwright/plan/WholeFigure" "CALENDAR_YEAR" "Lcom/example/vestwright/vestwright/plan/WholeFigure;" (.ref w4)) (E4 : Exa Z Z.heap w4 "com/example/vestwright/vestwright/plan/WholeFigure") (F4 : Fld Z Z.heap w4 "com/example/vestwright/vestwright/plan/WholeFigure" "most" "I" (.int (9999 : Int32))) (S5 : Sta Z Z.heap "com/example/vestwright/vestwright/plan/WholeFigure" "CALENDAR_MONTH" "Lcom/example/vestwright/vestwright/plan/WholeFigure;" (.ref w5)) (E5 : Exa Z Z.heap w5 "com/example/vestwright/vestwright/plan/WholeFigure") (F5 : Fld Z Z.heap w5 "com/example/vestwright/vestwright/plan/WholeFigure" "most" "I" (.int (12 : Int32))) (S6 : Sta Z Z.heap "com/example/vestwright/vestwright/plan/WholeFigure" "DECIMALS" "Lcom/example/vestwright/vestwright/plan/WholeFigure;" (.ref w6)) (E6 : Exa Z Z.heap w6 "com/example/vestwright/vestwright/plan/WholeFigure") (F6 : Fld Z Z.heap w6 "com/example/vestwright/vestwright/plan/WholeFigure" "most" "I" (.int (10 : Int32))) (hc11 : ¬ (((p0 &&& (2147483647 : Int32)) % (7 : Int32)) = (0 : Int32))) (hc32 : ¬ (((p0 &&& (2147483647 : Int32)) % (7 : Int32)) = (1 : Int32))) (hc54 : ¬ (((p0 &&& (2147483647 : Int32)) % (7 : Int32)) = (2 : Int32))) (hc76 : ¬ (((p0 &&& (2147483647 : Int32)) % (7 : Int32)) = (3 : Int32))) (hc97 : ¬ (((p0 &&& (2147483647 : Int32)) % (7 : Int32)) = (4 : Int32))) (hc121 : ¬ (((p0 &&& (2147483647 : Int32)) % (7 : Int32)) = (5 : Int32))) :
    ∃ (T' : State), Stand p l e R s m args below meth c T' locs cells slots ∧ T'.heap = h0 ∧ ∀ target, Steps p.tables e below (T'.setTop (mkF m 151 #[.val (.int p0), .val (.int p1), .val (.int p2), .val (.int p3), .val (.int ((p0 &&& (2147483647 : Int32)) % (7 : Int32))), .val (.ref w6), .val (.int (0 : Int32)), .val (.int (10 : Int32)), .unset, .unset, .unset, .unset] [])) target → Steps p.tables e below (T0.setTop (mkF m 0 #[.val (.int p0), .val (.int p1), .val (.int p2), .val (.int p3), .unset, .unset, .unset, .unset, .unset, .unset, .unset, .unset] [])) target := by
  obtain ⟨T1, X1, e1, st1⟩ := getS2 X0 hx hZ hown (host := "") (Or.inl (hw _ (List.mem_of_getElem? (i := 52) rfl))) Via.refl e0 (S6.ext O0.2) (g := (mkF m 139 #[.val (.int p0), .val (.int p1), .val (.int p2), .val (.int p3), .val (.int ((p0 &&& (2147483647 : Int32)) % (7 : Int32))), .unset, .unset, .unset, .unset, .unset, .unset, .unset] [])) rfl (hb hby at_139)
  refine ⟨T1, X1, e1, fun target kt => ?_⟩
  show Steps p.tables e below (T0.setTop (mkF m 0 #[.val (.int p0), .val (.int p1), .val (.int p2), .val (.int p3), .unset, .unset, .unset, .unset, .unset, .unset, .unset, .unset] [])) _
  refine XS.iloadN X0.here hx rfl (hb hby at_0) rfl ?_
  show Steps p.tables e below (T0.setTop (mkF m 1 #[.val (.int p0), .val (.int p1), .val (.int p2), .val (.int p3), .unset, .unset, .unset, .unset, .unset, .unset, .unset, .unset] [(.int p0)])) _
  refine X0.ldcInt hx hown (mvT hZ (hw _ (List.mem_of_getElem? (i := 0) rfl))) (g := (mkF m 1 #[.val (.int p0), .val (.int p1), .val (.int p2), .val (.int p3), .unset, .unset, .unset, .unset, .unset, .unset, .unset, .unset] [(.int p0)])) rfl (hb hby at_1) _ ?_
  show Steps p.tables e below (T0.setTop (mkF m 3 #[.val (.int p0), .val (.int p1), .val (.int p2), .val (.int p3), .unset, .unset, .unset, .unset, .unset, .unset, .unset, .unset] [(.int (2147483647 : Int32)), (.int p0)])) _
  refine XS.iand X0.here hx rfl (hb hby at_3) rfl ?_
  show Steps p.tables e below (T0.setTop (mkF m 4 #[.val (.int p0), .val (.int p1), .val (.int p2), .val (.int p3), .unset, .unset, .unset, .unset, .unset, .unset, .unset, .unset] [(.int (p0 &&& (2147483647 : Int32)))])) _
  refine XS.bipush X0.here hx rfl (hb hby at_4) ?_
  show Steps p.tables e below (T0.setTop (mkF m 6 #[.val (.int p0), .val (.int p1), .val (.int p2), .val (.int p3), .unset, .unset, .unset, .unset, .unset, .unset, .unset, .unset] [(.int (7 : Int32)), (.int (p0 &&& (2147483647 : Int32)))])) _
  refine Jvm.RoadKit.iremM (g := (mkF m 6 #[.val (.int p0), .val (.int p1), .val (.int p2), .val (.int p3), .unset, .unset, .unset, .unset, .unset, .unset, .unset, .unset] [(.int (7 : Int32)), (.int (p0 &&& (2147483647 : Int32)))])) X0 hx rfl (hb hby at_6) rfl (by decide) ?_
  show Steps p.tables e below (T0.setTop (mkF m 7 #[.val (.int p0), .val (.int p1), .val (.int p2), .val (.int p3), .unset, .unset, .unset, .unset, .unset, .unset, .unset, .unset] [(.int ((p0 &&& (2147483647 : Int32)) % (7 : Int32)))])) _
  refine XS.istore X0.here hx rfl (hb hby at_7) rfl (l' := #[.val (.int p0), .val (.int p1), .val (.int p2), .val (.int p3), .val (.int ((p0 &&& (2147483647 : Int32)) % (7 : Int32))), .unset, .unset, .unset, .unset, .unset, .unset, .unset]) rfl ?_
  show Steps p.tables e below (T0.setTop (mkF m 9 #[.val (.int p0), .val (.int p1), .val (.int p2), .val (.int p3), .val (.int ((p0 &&& (2147483647 : Int32)) % (7 : Int32))), .unset, .unset, .unset, .unset, .unset, .unset, .unset] [])) _
  refine XS.iload X0.here hx rfl (hb hby at_9) rfl ?_
  show Steps p.tables e below (T0.setTop (mkF m 11 #[.val (.int p0), .val (.int p1), .val (.int p2), .val (.int p3), .val (.int ((p0 &&& (2147483647 : Int32)) % (7 : Int32))), .unset, .unset, .unset, .unset, .unset, .unset, .unset] [(.int ((p0 &&& (2147483647 : Int32)) % (7 : Int32)))])) _
  refine XS.ifYes X0.here hx rfl (pc0 := 11) (pc' := 29) rfl (hb hby at_11) rfl ((if0 _ _).trans (feq hc11).2) (by decide) (by decide) ?_
  show Steps p.tables e below (T0.setTop (mkF m 29 #[.val (.int p0), .val (.int p1), .val (.int p2), .val (.int p3), .val (.int ((p0 &&& (2147483647 : Int32)) % (7 : Int32))), .unset, .unset, .unset, .unset, .unset, .unset, .unset] [])) _
  refine XS.iload X0.here hx rfl (hb hby at_29) rfl ?_
  show Steps p.tables e below (T0.setTop (mkF m 31 #[.val (.int p0), .val (.int p1), .val (.int p2), .val (.int p3), .val (.int ((p0 &&& (2147483647 : Int32)) % (7 : Int32))), .unset, .unset, .unset, .unset, .unset, .unset, .unset] [(.int ((p0 &&& (2147483647 : Int32)) % (7 : Int32)))])) _
  refine XS.iconst X0.here hx rfl (hb hby at_31) ?_
  show Steps p.tables e below (T0.setTop (mkF m 32 #[.val (.int p0), .val (.int p1), .val (.int p2), .val (.int p3), .val (.int ((p0 &&& (2147483647 : Int32)) % (7 : Int32))), .unset, .unset, .unset, .unset, .unset, .unset, .unset] [(.int (1 : Int32)), (.int ((p0 &&& (2147483647 : Int32)) % (7 : Int32)))])) _
  refine XS.icmpYes X0.here hx rfl (pc0 := 32) (pc' := 51) rfl (hb hby at_32) rfl (feq hc32).2 (by decide) (by decide) ?_
  show Steps p.tables e below (T0.setTop (mkF m 51 #[.val (.int p0), .val (.int p1), .val (.int p2), .val (.int p3), .val (.int ((p0 &&& (2147483647 : Int32)) % (7 : Int32))), .unset, .unset, .unset, .unset, .unset, .unset, .unset] [])) _
  refine XS.iload X0.here hx rfl (hb hby at_51) rfl ?_
  show Steps p.tables e below (T0.setTop (mkF m 53 #[.val (.int p0), .val (.int p1), .val (.int p2), .val (.int p3), .val (.int ((p0 &&& (2147483647 : Int32)) % (7 : Int32))), .unset, .unset, .unset, .unset, .unset, .unset, .unset] [(.int ((p0 &&& (2147483647 : Int32)) % (7 : Int32)))])) _
  refine XS.iconst X0.here hx rfl (hb hby at_53) ?_
  show Steps p.tables e below (T0.setTop (mkF m 54 #[.val (.int p0), .val (.int p1), .val (.int p2), .val (.int p3), .val (.int ((p0 &&& (2147483647 : Int32)) % (7 : Int32))), .unset, .unset, .unset, .unset, .unset, .unset, .unset] [(.int (2 : Int32)), (.int ((p0 &&& (2147483647 : Int32)) % (7 : Int32)))])) _
  refine XS.icmpYes X0.here hx rfl (pc0 := 54) (pc' := 73) rfl (hb hby at_54) rfl (feq hc54).2 (by decide) (by decide) ?_
  show Steps p.tables e below (T0.setTop (mkF m 73 #[.val (.int p0), .val (.int p1), .val (.int p2), .val (.int p3), .val (.int ((p0 &&& (2147483647 : Int32)) % (7 : Int32))), .unset, .unset, .unset, .unset, .unset, .unset, .unset] [])) _
  refine XS.iload X0.here hx rfl (hb hby at_73) rfl ?_
  show Steps p.tables e below (T0.setTop (mkF m 75 #[.val (.int p0), .val (.int p1), .val (.int p2), .val (.int p3), .val (.int ((p0 &&& (2147483647 : Int32)) % (7 : Int32))), .unset, .unset, .unset, .unset, .unset, .unset, .unset] [(.int ((p0 &&& (2147483647 : Int32)) % (7 : Int32)))])) _
  refine XS.iconst X0.here hx rfl (hb hby at_75) ?_
  show Steps p.tables e below (T0.setTop (mkF m 76 #[.val (.int p0), .val (.int p1), .val (.int p2), .val (.int p3), .val (.int ((p0 &&& (2147483647 : Int32)) % (7 : Int32))), .unset, .unset, .unset, .unset, .unset, .unset, .unset] [(.int (3 : Int32)), (.int ((p0 &&& (2147483647 : Int32)) % (7 : Int32)))])) _
  refine XS.icmpYes X0.here hx rfl (pc0 := 76) (pc' := 94) rfl (hb hby at_76) rfl (feq hc76).2 (by decide) (by decide) ?_
  show Steps p.tables e below (T0.setTop (mkF m 94 #[.val (.int p0), .val (.int p1), .val (.int p2), .val (.int p3), .val (.int ((p0 &&& (2147483647 : Int32)) % (7 : Int32))), .unset, .unset, .unset, .unset, .unset, .unset, .unset] [])) _
  refine XS.iload X0.here hx rfl (hb hby at_94) rfl ?_
  show Steps p.tables e below (T0.setTop (mkF m 96 #[.val (.int p0), .val (.int p1), .val (.int p2), .val (.int p3), .val (.int ((p0 &&& (2147483647 : Int32)) % (7 : Int32))), .unset, .unset, .unset, .unset, .unset, .unset, .unset] [(.int ((p0 &&& (2147483647 : Int32)) % (7 : Int32)))])) _
  refine XS.iconst X0.here hx rfl (hb hby at_96) ?_
  show Steps p.tables e below (T0.setTop (mkF m 97 #[.val (.int p0), .val (.int p1), .val (.int p2), .val (.int p3), .val (.int ((p0 &&& (2147483647 : Int32)) % (7 : Int32))), .unset, .unset, .unset, .unset, .unset, .unset, .unset] [(.int (4 : Int32)), (.int ((p0 &&& (2147483647 : Int32)) % (7 : Int32)))])) _
  refine XS.icmpYes X0.here hx rfl (pc0 := 97) (pc' := 118) rfl (hb hby at_97) rfl (feq hc97).2 (by decide) (by decide) ?_
  show Steps p.tables e below (T0.setTop (mkF m 118 #[.val (.int p0), .val (.int p1), .val (.int p2), .val (.int p3), .val (.int ((p0 &&& (2147483647 : Int32)) % (7 : Int32))), .unset, .unset, .unset, .unset, .unset, .unset, .unset] [])) _
  refine XS.iload X0.here hx rfl (hb hby at_118) rfl ?_
  show Steps p.tables e below (T0.setTop (mkF m 120 #[.val (.int p0), .val (.int p1), .val (.int p2), .val (.int p3), .val (.int ((p0 &&& (2147483647 : Int32)) % (7 : Int32))), .unset, .unset, .unset, .unset, .unset, .unset, .unset] [(.int ((p0 &&& (2147483647 : Int32)) % (7 : Int32)))])) _
  refine XS.iconst X0.here hx rfl (hb hby at_120) ?_
  show Steps p.tables e below (T0.setTop (mkF m 121 #[.val (.int p0), .val (.int p1), .val (.int p2), .val (.int p3), .val (.int ((p0 &&& (2147483647 : Int32)) % (7 : Int32))), .unset, .unset, .unset, .unset, .unset, .unset, .unset] [(.int (5 : Int32)), (.int ((p0 &&& (2147483647 : Int32)) % (7 : Int32)))])) _
  refine XS.icmpYes X0.here hx rfl (pc0 := 121) (pc' := 139) rfl (hb hby at_121) rfl (feq hc121).2 (by decide) (by decide) ?_
  show Steps p.tables e below (T0.setTop (mkF m 139 #[.val (.int p0), .val (.int p1), .val (.int p2), .val (.int p3), .val (.int ((p0 &&& (2147483647 : Int32)) % (7 : Int32))), .unset, .unset, .unset, .unset, .unset, .unset, .unset] [])) _
  refine st1 _ ?_
  show Steps p.tables e below (T1.setTop (mkF m 142 #[.val (.int p0), .val (.int p1), .val (.int p2), .val (.int p3), .val (.int ((p0 &&& (2147483647 : Int32)) % (7 : Int32))), .unset, .unset, .unset, .unset, .unset, .unset, .unset] [(.ref w6)])) _
  refine XS.astore X1.here hx rfl (hb hby at_142) rfl rfl (l' := #[.val (.int p0), .val (.int p1), .val (.int p2), .val (.int p3), .val (.int ((p0 &&& (2147483647 : Int32)) % (7 : Int32))), .val (.ref w6), .unset, .unset, .unset, .unset, .unset, .unset]) rfl ?_
  show Steps p.tables e below (T1.setTop (mkF m 144 #[.val (.int p0), .val (.int p1), .val (.int p2), .val (.int p3), .val (.int ((p0 &&& (2147483647 : Int32)) % (7 : Int32))), .val (.ref w6), .unset, .unset, .unset, .unset, .unset, .unset] [])) _
  refine XS.iconst X1.here hx rfl (hb hby at_144) ?_
  show Steps p.tables e below (T1.setTop (mkF m 145 #[.val (.int p0), .val (.int p1), .val (.int p2), .val (.int p3), .val (.int ((p0 &&& (2147483647 : Int32)) % (7 : Int32))), .val (.ref w6), .unset, .unset, .unset, .unset, .unset, .unset] [(.int (0 : Int32))])) _
  refine XS.istore X1.here hx rfl (hb hby at_145) rfl (l' := #[.val (.int p0), .val (.int p1), .val (.int p2), .val (.int p3), .val (.int ((p0 &&& (2147483647 : Int32)) % (7 : Int32))), .val (.ref w6), .val (.int (0 : Int32)), .unset, .unset, .unset, .unset, .unset]) rfl ?_
  show Steps p.tables e below (T1.setTop (mkF m 147 #[.val (.int p0), .val (.int p1), .val (.int p2), .val (.int p3), .val (.int ((p0 &&& (2147483647 : Int32)) % (7 : Int32))), .val (.ref w6), .val (.int (0 : Int32)), .unset, .unset, .unset, .unset, .unset] [])) _
  refine XS.bipush X1.here hx rfl (hb hby at_147) ?_
  show Steps p.tables e below (T1.setTop (mkF m 149 #[.val (.int p0), .val (.int p1), .val (.int p2), .val (.int p3), .val (.int ((p0 &&& (2147483647 : Int32)) % (7 : Int32))), .val (.ref w6), .val (.int (0 : Int32)), .unset, .unset, .unset, .unset, .unset] [(.int (10 : Int32))])) _
  refine XS.istore X1.here hx rfl (hb hby at_149) rfl (l' := #[.val (.int p0), .val (.int p1), .val (.int p2), .val (.int p3), .val (.int ((p0 &&& (2147483647 : Int32)) % (7 : Int32))), .val (.ref w6), .val (.int (0 : Int32)), .val (.int (10 : Int32)), .unset, .unset, .unset, .unset]) rfl ?_
  exact kt
abbrev own_ok (lo hi : Int32) : Prop := ¬ lo < 0 ∧ ¬ hi < lo ∧ ¬ (43830 : Int32) < hi
theorem kind {p : Program} {l : Launch} {e : Env} {R : Room} {s : State} {m : MethodId} {args : Array Value} {below : List Frame} {meth : Method} {c : Code} {T0 : State} {locs : List Loc} {cells slots : Nat} {Z : State} {a0 : Array Value} {h0 : Heap} (X0 : Stand p l e R s m args below meth c T0 locs cells slots) (hx : p.tables.exec = Jvm.exec) (hZ : Z.Warmed39 s.vm) (hw : ∀ d ∈ tables_1, d.before a0 Z = true) (hby : c.code = code) (hown : s.vm.findClass "com/example/vestwright/vestwright/plan/WholeFigureCheckPinLaw" = some m.cls) (e0 : T0.heap = h0) {p0 p1 p2 p3 : Int32} {w0 w1 w2 w3 w4 w5 w6 : Addr} {n0 : Nat} (O0 : Old Z n0 h0) (S0 : Sta Z Z.heap "com/example/vestwright/vestwright/plan/WholeFigure" "YEARS" "Lcom/example/vestwright/vestwright/plan/WholeFigure;" (.ref w0)) (E0 : Exa Z Z.heap w0 "com/example/vestwright/vestwright/plan/WholeFigure") (F0 : Fld Z Z.heap w0 "com/example/vestwright/vestwright/plan/WholeFigure" "most" "I" (.int (120 : Int32))) (S1 : Sta Z Z.heap "com/example/vestwright/vestwright/plan/WholeFigure" "AGE_AND_SERVICE" "Lcom/example/vestwright/vestwright/plan/WholeFigure;" (.ref w1)) (E1 : Exa Z Z.heap w1 "com/example/vestwright/vestwright/plan/WholeFigure") (F1 : Fld Z Z.heap w1 "com/example/vestwright/vestwright/plan/WholeFigure" "most" "I" (.int (240 : Int32))) (S2 : Sta Z Z.heap "com/example/vestwright/vestwright/plan/WholeFigure" "MONTHS" "Lcom/example/vestwright/vestwright/plan/WholeFigure;" (.ref w2)) (E2 : Exa Z Z.heap w2 "com/example/vestwright/vestwright/plan/WholeFigure") (F2 : Fld Z Z.heap w2 "com/example/vestwright/vestwright/plan/WholeFigure" "most" "I" (.int (1440 : Int32))) (S3 : Sta Z Z.heap "com/example/vestwright/vestwright/plan/WholeFigure" "DAYS" "Lcom/example/vestwright/vestwright/plan/WholeFigure;" (.ref w3)) (E3 : Exa Z Z.heap w3 "com/example/vestwright/vestwright/plan/WholeFigure") (F3 : Fld Z Z.heap w3 "com/example/vestwright/vestwright/plan/WholeFigure" "most" "I" (.int (43830 : Int32))) (S4 : Sta Z Z.heap "com/example/vestwright/vestwright/plan/WholeFigure" "CALENDAR_YEAR" "Lcom/example/vestwright/vestwright/plan/WholeFigure;" (.ref w4)) (E4 : Exa Z Z.heap w4 "com/example/vestwright/vestwright/plan/WholeFigure") (F4 : Fld Z Z.heap w4 "com/example/vestwright/vestwright/plan/WholeFigure" "most" "I" (.int (9999 : Int32))) (S5 : Sta Z Z.heap "com/example/vestwright/vestwright/plan/WholeFigure" "CALENDAR_MONTH" "Lcom/example/vestwright/vestwright/plan/WholeFigure;" (.ref w5)) (E5 : Exa Z Z.heap w5 "com/example/vestwright/vestwright/plan/WholeFigure") (F5 : Fld Z Z.heap w5 "com/example/vestwright/vestwright/plan/WholeFigure" "most" "I" (.int (12 : Int32))) (S6 : Sta Z Z.heap "com/example/vestwright/vestwright/plan/WholeFigure" "DECIMALS" "Lcom/example/vestwright/vestwright/plan/WholeFigure;" (.ref w6)) (E6 : Exa Z Z.heap w6 "com/example/vestwright/vestwright/plan/WholeFigure") (F6 : Fld Z Z.heap w6 "com/example/vestwright/vestwright/plan/WholeFigure" "most" "I" (.int (10 : Int32))) :
    ∃ (u : Addr) (lo hi : Int32), Exa Z Z.heap u "com/example/vestwright/vestwright/plan/WholeFigure" ∧ Fld Z Z.heap u "com/example/vestwright/vestwright/plan/WholeFigure" "most" "I" (.int hi) ∧ own_ok lo hi ∧ ∃ (T' : State), Stand p l e R s m args below meth c T' locs cells slots ∧ T'.heap = h0 ∧ ∀ target, Steps p.tables e below (T'.setTop (mkF m 151 #[.val (.int p0), .val (.int p1), .val (.int p2), .val (.int p3), .val (.int ((p0 &&& (2147483647 : Int32)) % (7 : Int32))), .val (.ref u), .val (.int lo), .val (.int hi), .unset, .unset, .unset, .unset] [])) target → Steps p.tables e below (T0.setTop (mkF m 0 #[.val (.int p0), .val (.int p1), .val (.int p2), .val (.int p3), .unset, .unset, .unset, .unset, .unset, .unset, .unset, .unset] [])) target := by
  have X := X0
  by_cases q0 : ((p0 &&& (2147483647 : Int32)) % (7 : Int32)) = 0
  · obtain ⟨T, Y, e1, st⟩ := k0 X0 hx hZ hw hby hown e0 O0 S0 E0 F0 S1 E1 F1 S2 E2 F2 S3 E3 F3 S4 E4 F4 S5 E5 F5 S6 E6 F6 q0
    exact ⟨w0, (0 : Int32), (120 : Int32), E0, F0, by decide, T, Y, e1, st⟩
  by_cases q1 : ((p0 &&& (2147483647 : Int32)) % (7 : Int32)) = 1
  · obtain ⟨T, Y, e1, st⟩ := k1 X0 hx hZ hw hby hown e0 O0 S0 E0 F0 S1 E1 F1 S2 E2 F2 S3 E3 F3 S4 E4 F4 S5 E5 F5 S6 E6 F6 q0 q1
    exact ⟨w1, (0 : Int32), (240 : Int32), E1, F1, by decide, T, Y, e1, st⟩
  by_cases q2 : ((p0 &&& (2147483647 : Int32)) % (7 : Int32)) = 2
  · obtain ⟨T, Y, e1, st⟩ := k2 X0 hx hZ hw hby hown e0 O0 S0 E0 F0 S1 E1 F1 S2 E2 F2 S3 E3 F3 S4 E4 F4 S5 E5 F5 S6 E6 F6 q0 q1 q2
    exact ⟨w2, (0 : Int32), (1440 : Int32), E2, F2, by decide, T, Y, e1, st⟩
  by_cases q3 : ((p0 &&& (2147483647 : Int32)) % (7 : Int32)) = 3
  · obtain ⟨T, Y, e1, st⟩ := k3 X0 hx hZ hw hby hown e0 O0 S0 E0 F0 S1 E1 F1 S2 E2 F2 S3 E3 F3 S4 E4 F4 S5 E5 F5 S6 E6 F6 q0 q1 q2 q3
    exact ⟨w3, (0 : Int32), (43830 : Int32), E3, F3, by decide, T, Y, e1, st⟩
  by_cases q4 : ((p0 &&& (2147483647 : Int32)) % (7 : Int32)) = 4
  · obtain ⟨T, Y, e1, st⟩ := k4 X0 hx hZ hw hby hown e0 O0 S0 E0 F0 S1 E1 F1 S2 E2 F2 S3 E3 F3 S4 E4 F4 S5 E5 F5 S6 E6 F6 q0 q1 q2 q3 q4
    exact ⟨w4, (1900 : Int32), (9999 : Int32), E4, F4, by decide, T, Y, e1, st⟩
  by_cases q5 : ((p0 &&& (2147483647 : Int32)) % (7 : Int32)) = 5
  · obtain ⟨T, Y, e1, st⟩ := k5 X0 hx hZ hw hby hown e0 O0 S0 E0 F0 S1 E1 F1 S2 E2 F2 S3 E3 F3 S4 E4 F4 S5 E5 F5 S6 E6 F6 q0 q1 q2 q3 q4 q5
    exact ⟨w5, (1 : Int32), (12 : Int32), E5, F5, by decide, T, Y, e1, st⟩
  · obtain ⟨T, Y, e1, st⟩ := k6 X0 hx hZ hw hby hown e0 O0 S0 E0 F0 S1 E1 F1 S2 E2 F2 S3 E3 F3 S4 E4 F4 S5 E5 F5 S6 E6 F6 q0 q1 q2 q3 q4 q5
    exact ⟨w6, (0 : Int32), (10 : Int32), E6, F6, by decide, T, Y, e1, st⟩
theorem own_from {lo hi p1 : Int32} (h : own_ok lo hi) : ((hi - lo) + (1 : Int32)) ≠ 0 ∧ ¬ (lo + ((p1 &&& (2147483647 : Int32)) % ((hi - lo) + (1 : Int32)))) < lo ∧ ¬ hi < (lo + ((p1 &&& (2147483647 : Int32)) % ((hi - lo) + (1 : Int32)))) := by
  obtain ⟨h1, h2, h3⟩ := h
  rw [Int32.lt_iff_toInt_lt] at h1 h2 h3
  have e0 : (0 : Int32).toInt = 0 := rfl
  have e1 : (1 : Int32).toInt = 1 := rfl
  have e2 : (43830 : Int32).toInt = 43830 := rfl
  have m1 := c_mask p1 2147483647 31 (by decide) (by decide)
  have a1 := c_isub hi lo
  have a2 := c_iadd (hi - lo) 1
  have r1 := rng32 (hi - lo)
  have r2 := rng32 ((hi - lo) + 1)
  have v := (c_iremV (p1 &&& 2147483647) ((hi - lo) + 1)).1 (by omega) (by omega)
  have a3 := c_iadd lo ((p1 &&& 2147483647) % ((hi - lo) + 1))
  have r3 := rng32 (lo + ((p1 &&& 2147483647) % ((hi - lo) + 1)))
  rw [Int32.lt_iff_toInt_lt, Int32.lt_iff_toInt_lt]
  refine ⟨fun q => ?_, by omega, by omega⟩
  have q' : ((hi - lo) + 1).toInt = 0 := by rw [q]; rfl
  omega

theorem own_pd0 : parseMethodDescriptor "([C)V" = some ⟨[(.array .char)], none⟩ := by decide +kernel
theorem own_pd1 : parseMethodDescriptor "(Ljava/lang/String;II)V" = some ⟨[(.object "java/lang/String"), .int, .int], none⟩ := by decide +kernel
theorem ef_0 (m : MethodId) (x0 : Int32) (x1 : Int32) (x2 : Int32) (x3 : Int32) : entryFrame m #[(.int x0), (.int x1), (.int x2), (.int x3)] maxLocals = mkF m 0 #[.val (.int x0), .val (.int x1), .val (.int x2), .val (.int x3), .unset, .unset, .unset, .unset, .unset, .unset, .unset, .unset] [] := by first | (simp [entryFrame, mkF, argsToLocals, Value.category, maxLocals]; done) | rfl
theorem pn_0 : plainName "com/example/vestwright/vestwright/plan/WholeFigureCheckPinLaw" = true := by first | (simp [plainName, overriddenIn]; done) | decide +kernel
def Qd1 (Z : State) (p0 p1 p2 p3 : Int32) (w0 w1 w2 w3 w4 w5 w6 : Addr) (z : Int32) (h0 : Heap) (n0 : Nat) (v : Option Value) (h : Heap) (L : List Loc) : Prop := v = some (.int 1) ∧ Fr n0 L
set_option maxRecDepth 65536 in
set_option maxHeartbeats 40000000 in
theorem rm0 (l : Launch) (Z : State) (a0 : Array Value) (hw : ∀ d ∈ tables_1, d.before a0 Z = true) (ws : List Jvm.Cond) (p0 p1 p2 p3 : Int32) (w0 w1 w2 w3 w4 w5 w6 : Addr) (z : Int32) (h0 : Heap) (n0 : Nat) (O0 : Old Z n0 h0) (S0 : Sta Z Z.heap "com/example/vestwright/vestwright/plan/WholeFigure" "YEARS" "Lcom/example/vestwright/vestwright/plan/WholeFigure;" (.ref w0)) (E0 : Exa Z Z.heap w0 "com/example/vestwright/vestwright/plan/WholeFigure") (F0 : Fld Z Z.heap w0 "com/example/vestwright/vestwright/plan/WholeFigure" "most" "I" (.int (120 : Int32))) (S1 : Sta Z Z.heap "com/example/vestwright/vestwright/plan/WholeFigure" "AGE_AND_SERVICE" "Lcom/example/vestwright/vestwright/plan/WholeFigure;" (.ref w1)) (E1 : Exa Z Z.heap w1 "com/example/vestwright/vestwright/plan/WholeFigure") (F1 : Fld Z Z.heap w1 "com/example/vestwright/vestwright/plan/WholeFigure" "most" "I" (.int (240 : Int32))) (S2 : Sta Z Z.heap "com/example/vestwright/vestwright/plan/WholeFigure" "MONTHS" "Lcom/example/vestwright/vestwright/plan/WholeFigure;" (.ref w2)) (E2 : Exa Z Z.heap w2 "com/example/vestwright/vestwright/plan/WholeFigure") (F2 : Fld Z Z.heap w2 "com/example/vestwright/vestwright/plan/WholeFigure" "most" "I" (.int (1440 : Int32))) (S3 : Sta Z Z.heap "com/example/vestwright/vestwright/plan/WholeFigure" "DAYS" "Lcom/example/vestwright/vestwright/plan/WholeFigure;" (.ref w3)) (E3 : Exa Z Z.heap w3 "com/example/vestwright/vestwright/plan/WholeFigure") (F3 : Fld Z Z.heap w3 "com/example/vestwright/vestwright/plan/WholeFigure" "most" "I" (.int (43830 : Int32))) (S4 : Sta Z Z.heap "com/example/vestwright/vestwright/plan/WholeFigure" "CALENDAR_YEAR" "Lcom/example/vestwright/vestwright/plan/WholeFigure;" (.ref w4)) (E4 : Exa Z Z.heap w4 "com/example/vestwright/vestwright/plan/WholeFigure") (F4 : Fld Z Z.heap w4 "com/example/vestwright/vestwright/plan/WholeFigure" "most" "I" (.int (9999 : Int32))) (S5 : Sta Z Z.heap "com/example/vestwright/vestwright/plan/WholeFigure" "CALENDAR_MONTH" "Lcom/example/vestwright/vestwright/plan/WholeFigure;" (.ref w5)) (E5 : Exa Z Z.heap w5 "com/example/vestwright/vestwright/plan/WholeFigure") (F5 : Fld Z Z.heap w5 "com/example/vestwright/vestwright/plan/WholeFigure" "most" "I" (.int (12 : Int32))) (S6 : Sta Z Z.heap "com/example/vestwright/vestwright/plan/WholeFigure" "DECIMALS" "Lcom/example/vestwright/vestwright/plan/WholeFigure;" (.ref w6)) (E6 : Exa Z Z.heap w6 "com/example/vestwright/vestwright/plan/WholeFigure") (F6 : Fld Z Z.heap w6 "com/example/vestwright/vestwright/plan/WholeFigure" "most" "I" (.int (10 : Int32))) (SC : Sta Z Z.heap "java/lang/String" "COMPACT_STRINGS" "Z" (.int z)) (hz : ¬ z = 0) :
    MetFree l x (head1 (Jvm.Cond.code x code maxLocals ret :: ws) room_1) (fun qq U => qq = #[(.int p0), (.int p1), (.int p2), (.int p3)] ∧ Z.Warmed39 U.vm ∧ U.heap = h0) (fun _ _ _ _ _ => True) (fun _ UU oo UU' => ∃ vv LL, oo = .returned vv ∧ Qd1 Z p0 p1 p2 p3 w0 w1 w2 w3 w4 w5 w6 z h0 n0 vv UU'.heap LL ∧ FrameEnd UU oo UU' LL room_1.cells room_1.slots) := by
  refine MetFree.of_bodySF (plainFor_of_name pn_0) hisR ?_
  intro p e s m args below meth c s₁ Bd hml0 hP hK
  obtain ⟨rfl, hZ, hh⟩ := hP
  have hx := Bd.exec
  have hby := Bd.bytes
  have hml : c.maxLocals = 12 := hml0
  have hown : s.vm.findClass "com/example/vestwright/vestwright/plan/WholeFigureCheckPinLaw" = some m.cls := findClass_of_methodNamed Bd.named
  have hnm := (name_of_methodNamed Bd.named Bd.method).1
  have X0 : Stand p l e room_1 s m #[(.int p0), (.int p1), (.int p2), (.int p3)] below meth c s₁ [] 0 0 := Stand.of_body Bd
  have e0 : s₁.heap = h0 := by rw [← hh, Bd.state]; rfl
  have N0 := Fr.nil n0
  have pre0 : ∀ t, Steps p.tables e below (s₁.setTop (mkF m 0 #[.val (.int p0), .val (.int p1), .val (.int p2), .val (.int p3), .unset, .unset, .unset, .unset, .unset, .unset, .unset, .unset] [])) t → Steps p.tables e below (s₁.setTop (entryFrame m #[(.int p0), (.int p1), (.int p2), (.int p3)] maxLocals)) t := fun t k => castTop (ef_0 m p0 p1 p2 p3) k
  obtain ⟨u, lo, hi, EU, FU, hok, T0, Y0, e00, st0⟩ := kind (p0 := p0) (p1 := p1) (p2 := p2) (p3 := p3) X0 hx hZ hw hby hown e0 O0 S0 E0 F0 S1 E1 F1 S2 E2 F2 S3 E3 F3 S4 E4 F4 S5 E5 F5 S6 E6 F6
  have hfr := own_from (p1 := p1) hok
  have hok2 : own_ok (lo + ((p1 &&& (2147483647 : Int32)) % ((hi - lo) + (1 : Int32)))) hi := ⟨fun q => hfr.2.1 (Int32.lt_of_lt_of_le q (Int32.not_lt.mp hok.1)), hfr.2.2, hok.2.2⟩
  have hfi := own_from (p1 := p2) hok2
  obtain ⟨T1, h1, k1, X1, e1, E1, A1, st1⟩ := newP Y0 hx hZ (hw _ (List.mem_of_getElem? (i := 4) rfl)) e00 (g := (mkF m 186 #[.val (.int p0), .val (.int p1), .val (.int p2), .val (.int p3), .val (.int ((p0 &&& (2147483647 : Int32)) % (7 : Int32))), .val (.ref u), .val (.int lo), .val (.int hi), .val (.int (lo + ((p1 &&& (2147483647 : Int32)) % ((hi - lo) + (1 : Int32))))), .val (.int ((lo + ((p1 &&& (2147483647 : Int32)) % ((hi - lo) + (1 : Int32)))) + ((p2 &&& (2147483647 : Int32)) % ((hi - (lo + ((p1 &&& (2147483647 : Int32)) % ((hi - lo) + (1 : Int32))))) + (1 : Int32))))), .unset, .unset] [(.int (2 : Int32))])) rfl (hb hby at_186) rfl (by decide) (cap := 2) (by decide) (by decide) (by decide) (by decide)
  obtain ⟨b1, q1⟩ : ∃ z, z = h0.size := ⟨_, rfl⟩
  rw [← q1] at A1 st1
  have g_b1 : n0 ≤ b1 := by rw [q1]; exact (O0).1 ▸ (O0).2.1
  have O1 := Old.ext O0 E1
  have V1 : Arv Z h1 b1 k1 .char (2 : Int32) [] (.int (0 : Int32)) := Arv.new A1 (by decide)
  obtain ⟨T2, h2, X2, e2, W2, V2, st2⟩ := own_putC X1 hx hZ e1 V1 (j := (0 : Int32)) rfl (by decide) (Nat.le_of_ble_eq_true rfl) (g := (mkF m 199 #[.val (.int p0), .val (.int p1), .val (.int p2), .val (.int p3), .val (.int ((p0 &&& (2147483647 : Int32)) % (7 : Int32))), .val (.ref u), .val (.int lo), .val (.int hi), .val (.int (lo + ((p1 &&& (2147483647 : Int32)) % ((hi - lo) + (1 : Int32))))), .val (.int ((lo + ((p1 &&& (2147483647 : Int32)) % ((hi - lo) + (1 : Int32)))) + ((p2 &&& (2147483647 : Int32)) % ((hi - (lo + ((p1 &&& (2147483647 : Int32)) % ((hi - lo) + (1 : Int32))))) + (1 : Int32))))), .val (.ref b1), .unset] [(.int ((p3 &&& (255 : Int32)).toUInt32.toUInt16.toUInt32.toInt32)), (.int (0 : Int32)), (.ref b1)])) rfl rfl (hb hby at_199)
  have N2 := Fr.snoc X2 N0 g_b1
  have O2 := Old.wr O1 W2 g_b1
  obtain ⟨T3, h3, X3, e3, W3, V3, st3⟩ := own_putC X2 hx hZ e2 V2 (j := (1 : Int32)) rfl (by decide) (Nat.le_of_ble_eq_true rfl) (g := (mkF m 212 #[.val (.int p0), .val (.int p1), .val (.int p2), .val (.int p3), .val (.int ((p0 &&& (2147483647 : Int32)) % (7 : Int32))), .val (.ref u), .val (.int lo), .val (.int hi), .val (.int (lo + ((p1 &&& (2147483647 : Int32)) % ((hi - lo) + (1 : Int32))))), .val (.int ((lo + ((p1 &&& (2147483647 : Int32)) % ((hi - lo) + (1 : Int32)))) + ((p2 &&& (2147483647 : Int32)) % ((hi - (lo + ((p1 &&& (2147483647 : Int32)) % ((hi - lo) + (1 : Int32))))) + (1 : Int32))))), .val (.ref b1), .unset] [(.int ((((p3.toUInt32 >>> ((8 : Int32) &&& 31).toUInt32).toInt32) &&& (255 : Int32)).toUInt32.toUInt16.toUInt32.toInt32)), (.int (1 : Int32)), (.ref b1)])) rfl rfl (hb hby at_212)
  have N3 := Fr.snoc X3 N2 g_b1
  have O3 := Old.wr O2 W3 g_b1
  obtain ⟨T4, h4, X4, e4, E4, A4, D4, -, st4⟩ := newO X3 hx hZ hown (hw _ (List.mem_of_getElem? (i := 5) rfl)) (hw _ (List.mem_of_getElem? (i := 6) rfl)) (hw _ (List.mem_of_getElem? (i := 7) rfl)) e3 (g := (mkF m 213 #[.val (.int p0), .val (.int p1), .val (.int p2), .val (.int p3), .val (.int ((p0 &&& (2147483647 : Int32)) % (7 : Int32))), .val (.ref u), .val (.int lo), .val (.int hi), .val (.int (lo + ((p1 &&& (2147483647 : Int32)) % ((hi - lo) + (1 : Int32))))), .val (.int ((lo + ((p1 &&& (2147483647 : Int32)) % ((hi - lo) + (1 : Int32)))) + ((p2 &&& (2147483647 : Int32)) % ((hi - (lo + ((p1 &&& (2147483647 : Int32)) % ((hi - lo) + (1 : Int32))))) + (1 : Int32))))), .val (.ref b1), .unset] [])) rfl (hb hby at_213) (by decide) (by decide)
  obtain ⟨b4, q4⟩ : ∃ z, z = h3.size := ⟨_, rfl⟩
  rw [← q4] at A4 D4 st4
  have g_b4 : n0 ≤ b4 := by rw [q4]; exact (O3).1 ▸ (O3).2.1
  have ne_b1_b4 : b1 ≠ b4 := by rw [q4]; exact Nat.ne_of_lt V3.lt
  have O4 := Old.ext O3 E4
  have F4_coder : Fld Z h4 b4 "java/lang/String" "coder" "B" (.int (0 : Int32)) := D4 (Or.inr (hw _ (List.mem_of_getElem? (i := 31) rfl))) (ty := .byte) (by decide)
  have F4_value : Fld Z h4 b4 "java/lang/String" "value" "[B" .null := D4 (Or.inr (hw _ (List.mem_of_getElem? (i := 33) rfl))) (ty := (.array .byte)) (by decide)
  have hp : ∀ c ∈ ([(nar .char ((p3 &&& (255 : Int32)).toUInt32.toUInt16.toUInt32.toInt32)), (nar .char ((((p3.toUInt32 >>> ((8 : Int32) &&& 31).toUInt32).toInt32) &&& (255 : Int32)).toUInt32.toUInt16.toUInt32.toInt32))] : List Int32), ¬ c < 0 ∧ ¬ (255 : Int32) < c := by
    intro c hc
    simp only [List.mem_cons, List.not_mem_nil, or_false] at hc
    rcases hc with rfl | rfl
    · exact own_and255 _
    · exact own_and255 _
  have hws : ∀ d ∈ StrChars.Road.words, d.before a0 Z = true := fun d hd => hw d ((by decide +kernel : ∀ d ∈ StrChars.Road.words, d ∈ tables_1) d hd)
  obtain ⟨_, _, ⟨T5, L5, k5, n5⟩, -, X5, ⟨Lc5, hQ5, l5, y5, z5⟩, st5⟩ := X4.specialBack hx (y := (⟨"java/lang/String", "<init>", "([C)V"⟩ : MethodName)) rfl hown (mvT hZ (hw _ (List.mem_of_getElem? (i := 8) rfl))) (mvT hZ (hw _ (List.mem_of_getElem? (i := 9) rfl))) (mvT hZ (hw _ (List.mem_of_getElem? (i := 10) rfl))) (by decide) (StrChars.Road.backV (W := 1) hZ hws (kI := 4) (hw _ (List.mem_of_getElem? (i := 6) rfl)) (cs := ([(nar .char ((p3 &&& (255 : Int32)).toUInt32.toUInt16.toUInt32.toInt32)), (nar .char ((((p3.toUInt32 >>> ((8 : Int32) &&& 31).toUInt32).toInt32) &&& (255 : Int32)).toUInt32.toUInt16.toUInt32.toInt32))] : List Int32)) (bs := (([(nar .char ((p3 &&& (255 : Int32)).toUInt32.toUInt16.toUInt32.toInt32)), (nar .char ((((p3.toUInt32 >>> ((8 : Int32) &&& 31).toUInt32).toInt32) &&& (255 : Int32)).toUInt32.toUInt16.toUInt32.toInt32))] : List Int32)).map (fun c => c.toInt8.toInt32)) (n := 2) (n0 := n0) g_b4 (show n0 ≤ h4.size from (O4).1 ▸ (O4).2.1) A4 F4_value F4_coder (V3.ext E4) (Sta.ext O4.2 SC) hz rfl rfl (by decide) (by decide) hp rfl (by decide) (by decide)) (g := (mkF m 219 #[.val (.int p0), .val (.int p1), .val (.int p2), .val (.int p3), .val (.int ((p0 &&& (2147483647 : Int32)) % (7 : Int32))), .val (.ref u), .val (.int lo), .val (.int hi), .val (.int (lo + ((p1 &&& (2147483647 : Int32)) % ((hi - lo) + (1 : Int32))))), .val (.int ((lo + ((p1 &&& (2147483647 : Int32)) % ((hi - lo) + (1 : Int32)))) + ((p2 &&& (2147483647 : Int32)) % ((hi - (lo + ((p1 &&& (2147483647 : Int32)) % ((hi - lo) + (1 : Int32))))) + (1 : Int32))))), .val (.ref b1), .unset] [(.ref b1), (.ref b4), (.ref b4)])) rfl (by rw [hml]; rfl) (Steps.refl _) (a := b4) (argsL := [(.ref b1)]) (rest := [(.ref b4)]) (lenOf own_pd0 rfl) rfl (by show 2 * 0 + _ ≤ _; exact Nat.le_of_eq rfl) (hb hby at_219) (fun _ _ => ⟨rfl, e4, (by decide : 2 + 1 ≤ _), (by decide : 6 + 2 ≤ _)⟩)
  dsimp only [Pt.U, Pt.locs, Pt.cells, Pt.slots] at X5 l5 y5 z5 st5 hQ5
  subst l5 y5 z5
  obtain ⟨rfl, N5q, KK5, g5_1, g5_2, t5, kb5, _, _, _, g5_3, g5_4⟩ := hQ5
  have N5 := Fr.app N3 N5q
  have O5 := Old.keep O4 KK5 (allS g_b4 all0)
  obtain ⟨cq6, kq6, q6a, q6b, q6c⟩ := isOf hZ rfl (EU.ext O5.2)
  obtain ⟨_, _, ⟨T6, L6, k6, n6⟩, -, X6, ⟨Lc6, hQ6, l6, y6, z6⟩, st6⟩ := X5.virtualBack hx (y := (⟨"com/example/vestwright/vestwright/plan/WholeFigure", "check", "(Ljava/lang/String;II)V"⟩ : MethodName)) (z := (⟨"com/example/vestwright/vestwright/plan/WholeFigure", "check", "(Ljava/lang/String;II)V"⟩ : MethodName)) hown (mvT hZ (hw _ (List.mem_of_getElem? (i := 34) rfl))) (mvT hZ (hw _ (List.mem_of_getElem? (i := 35) rfl))) (notFace_of_selects (args := #[]) (mvT hZ (hw _ (List.mem_of_getElem? (i := 37) rfl)))) (mvT hZ (hw _ (List.mem_of_getElem? (i := 37) rfl))) (mvT hZ (hw _ (List.mem_of_getElem? (i := 36) rfl))) (by decide) (backOf (W := 0) (rmC l Z a0 hw [] u b4 ((lo + ((p1 &&& (2147483647 : Int32)) % ((hi - lo) + (1 : Int32)))) + ((p2 &&& (2147483647 : Int32)) % ((hi - (lo + ((p1 &&& (2147483647 : Int32)) % ((hi - lo) + (1 : Int32))))) + (1 : Int32)))) (lo + ((p1 &&& (2147483647 : Int32)) % ((hi - lo) + (1 : Int32)))) hi T5.heap n0 (Fld.ext O5.2 FU) hfi.2.1 hfi.2.2) hZ (hw _ (List.mem_of_getElem? (i := 38) rfl)) (hw _ (List.mem_of_getElem? (i := 2) rfl)) (by decide) (by decide)) q6a q6c (g := (mkF m 232 #[.val (.int p0), .val (.int p1), .val (.int p2), .val (.int p3), .val (.int ((p0 &&& (2147483647 : Int32)) % (7 : Int32))), .val (.ref u), .val (.int lo), .val (.int hi), .val (.int (lo + ((p1 &&& (2147483647 : Int32)) % ((hi - lo) + (1 : Int32))))), .val (.int ((lo + ((p1 &&& (2147483647 : Int32)) % ((hi - lo) + (1 : Int32)))) + ((p2 &&& (2147483647 : Int32)) % ((hi - (lo + ((p1 &&& (2147483647 : Int32)) % ((hi - lo) + (1 : Int32))))) + (1 : Int32))))), .val (.ref b1), .val (.ref b4)] [(.int (lo + ((p1 &&& (2147483647 : Int32)) % ((hi - lo) + (1 : Int32))))), (.int ((lo + ((p1 &&& (2147483647 : Int32)) % ((hi - lo) + (1 : Int32)))) + ((p2 &&& (2147483647 : Int32)) % ((hi - (lo + ((p1 &&& (2147483647 : Int32)) % ((hi - lo) + (1 : Int32))))) + (1 : Int32))))), (.ref b4), (.ref u)])) rfl (by rw [hml]; rfl) (Steps.refl _) (argsL := [(.ref b4), (.int ((lo + ((p1 &&& (2147483647 : Int32)) % ((hi - lo) + (1 : Int32)))) + ((p2 &&& (2147483647 : Int32)) % ((hi - (lo + ((p1 &&& (2147483647 : Int32)) % ((hi - lo) + (1 : Int32))))) + (1 : Int32))))), (.int (lo + ((p1 &&& (2147483647 : Int32)) % ((hi - lo) + (1 : Int32)))))]) (rest := []) (lenOf own_pd1 rfl) rfl (by show 2 * 0 + _ ≤ _; exact Nat.le_of_eq rfl) (hb hby at_232) (fun _ _ => ⟨rfl, rfl, (by decide : 3 + 0 ≤ _), (by decide : 8 + 0 ≤ _)⟩)
  dsimp only [Pt.U, Pt.locs, Pt.cells, Pt.slots] at X6 l6 y6 z6 st6 hQ6
  subst l6 y6 z6
  obtain ⟨rfl, N6q, e6⟩ := hQ6
  have N6 := Fr.app N5 N6q
  obtain ⟨fs, hr, hrun, hended, hW, hsame⟩ := X6.leave (v := some (.int (1 : Int32))) (fun h => by rw [Bd.returns] at h; cases h)
  refine ⟨_, _, pre0 _ ?_, hrun, hended, _, _, rfl, ?_, ⟨_, rfl⟩, hW, hsame.mono (by decide) (by decide)⟩
  · show Steps p.tables e below (s₁.setTop (mkF m 0 #[.val (.int p0), .val (.int p1), .val (.int p2), .val (.int p3), .unset, .unset, .unset, .unset, .unset, .unset, .unset, .unset] [])) _
    refine st0 _ ?_
    show Steps p.tables e below (T0.setTop (mkF m 151 #[.val (.int p0), .val (.int p1), .val (.int p2), .val (.int p3), .val (.int ((p0 &&& (2147483647 : Int32)) % (7 : Int32))), .val (.ref u), .val (.int lo), .val (.int hi), .unset, .unset, .unset, .unset] [])) _
    refine XS.iload Y0.here hx rfl (hb hby at_151) rfl ?_
    show Steps p.tables e below (T0.setTop (mkF m 153 #[.val (.int p0), .val (.int p1), .val (.int p2), .val (.int p3), .val (.int ((p0 &&& (2147483647 : Int32)) % (7 : Int32))), .val (.ref u), .val (.int lo), .val (.int hi), .unset, .unset, .unset, .unset] [(.int lo)])) _
    refine XS.iloadN Y0.here hx rfl (hb hby at_153) rfl ?_
    show Steps p.tables e below (T0.setTop (mkF m 154 #[.val (.int p0), .val (.int p1), .val (.int p2), .val (.int p3), .val (.int ((p0 &&& (2147483647 : Int32)) % (7 : Int32))), .val (.ref u), .val (.int lo), .val (.int hi), .unset, .unset, .unset, .unset] [(.int p1), (.int lo)])) _
    refine Y0.ldcInt hx hown (mvT hZ (hw _ (List.mem_of_getElem? (i := 0) rfl))) (g := (mkF m 154 #[.val (.int p0), .val (.int p1), .val (.int p2), .val (.int p3), .val (.int ((p0 &&& (2147483647 : Int32)) % (7 : Int32))), .val (.ref u), .val (.int lo), .val (.int hi), .unset, .unset, .unset, .unset] [(.int p1), (.int lo)])) rfl (hb hby at_154) _ ?_
    show Steps p.tables e below (T0.setTop (mkF m 156 #[.val (.int p0), .val (.int p1), .val (.int p2), .val (.int p3), .val (.int ((p0 &&& (2147483647 : Int32)) % (7 : Int32))), .val (.ref u), .val (.int lo), .val (.int hi), .unset, .unset, .unset, .unset] [(.int (2147483647 : Int32)), (.int p1), (.int lo)])) _
    refine XS.iand Y0.here hx rfl (hb hby at_156) rfl ?_
    show Steps p.tables e below (T0.setTop (mkF m 157 #[.val (.int p0), .val (.int p1), .val (.int p2), .val (.int p3), .val (.int ((p0 &&& (2147483647 : Int32)) % (7 : Int32))), .val (.ref u), .val (.int lo), .val (.int hi), .unset, .unset, .unset, .unset] [(.int (p1 &&& (2147483647 : Int32))), (.int lo)])) _
    refine XS.iload Y0.here hx rfl (hb hby at_157) rfl ?_
    show Steps p.tables e below (T0.setTop (mkF m 159 #[.val (.int p0), .val (.int p1), .val (.int p2), .val (.int p3), .val (.int ((p0 &&& (2147483647 : Int32)) % (7 : Int32))), .val (.ref u), .val (.int lo), .val (.int hi), .unset, .unset, .unset, .unset] [(.int hi), (.int (p1 &&& (2147483647 : Int32))), (.int lo)])) _
    refine XS.iload Y0.here hx rfl (hb hby at_159) rfl ?_
    show Steps p.tables e below (T0.setTop (mkF m 161 #[.val (.int p0), .val (.int p1), .val (.int p2), .val (.int p3), .val (.int ((p0 &&& (2147483647 : Int32)) % (7 : Int32))), .val (.ref u), .val (.int lo), .val (.int hi), .unset, .unset, .unset, .unset] [(.int lo), (.int hi), (.int (p1 &&& (2147483647 : Int32))), (.int lo)])) _
    refine XS.isub Y0.here hx rfl (hb hby at_161) rfl ?_
    show Steps p.tables e below (T0.setTop (mkF m 162 #[.val (.int p0), .val (.int p1), .val (.int p2), .val (.int p3), .val (.int ((p0 &&& (2147483647 : Int32)) % (7 : Int32))), .val (.ref u), .val (.int lo), .val (.int hi), .unset, .unset, .unset, .unset] [(.int (hi - lo)), (.int (p1 &&& (2147483647 : Int32))), (.int lo)])) _
    refine XS.iconst Y0.here hx rfl (hb hby at_162) ?_
    show Steps p.tables e below (T0.setTop (mkF m 163 #[.val (.int p0), .val (.int p1), .val (.int p2), .val (.int p3), .val (.int ((p0 &&& (2147483647 : Int32)) % (7 : Int32))), .val (.ref u), .val (.int lo), .val (.int hi), .unset, .unset, .unset, .unset] [(.int (1 : Int32)), (.int (hi - lo)), (.int (p1 &&& (2147483647 : Int32))), (.int lo)])) _
    refine XS.iadd Y0.here hx rfl (hb hby at_163) rfl ?_
    show Steps p.tables e below (T0.setTop (mkF m 164 #[.val (.int p0), .val (.int p1), .val (.int p2), .val (.int p3), .val (.int ((p0 &&& (2147483647 : Int32)) % (7 : Int32))), .val (.ref u), .val (.int lo), .val (.int hi), .unset, .unset, .unset, .unset] [(.int ((hi - lo) + (1 : Int32))), (.int (p1 &&& (2147483647 : Int32))), (.int lo)])) _
    refine Jvm.RoadKit.iremM (g := (mkF m 164 #[.val (.int p0), .val (.int p1), .val (.int p2), .val (.int p3), .val (.int ((p0 &&& (2147483647 : Int32)) % (7 : Int32))), .val (.ref u), .val (.int lo), .val (.int hi), .unset, .unset, .unset, .unset] [(.int ((hi - lo) + (1 : Int32))), (.int (p1 &&& (2147483647 : Int32))), (.int lo)])) Y0 hx rfl (hb hby at_164) rfl hfr.1 ?_
    show Steps p.tables e below (T0.setTop (mkF m 165 #[.val (.int p0), .val (.int p1), .val (.int p2), .val (.int p3), .val (.int ((p0 &&& (2147483647 : Int32)) % (7 : Int32))), .val (.ref u), .val (.int lo), .val (.int hi), .unset, .unset, .unset, .unset] [(.int ((p1 &&& (2147483647 : Int32)) % ((hi - lo) + (1 : Int32)))), (.int lo)])) _
    refine XS.iadd Y0.here hx rfl (hb hby at_165) rfl ?_
    show Steps p.tables e below (T0.setTop (mkF m 166 #[.val (.int p0), .val (.int p1), .val (.int p2), .val (.int p3), .val (.int ((p0 &&& (2147483647 : Int32)) % (7 : Int32))), .val (.ref u), .val (.int lo), .val (.int hi), .unset, .unset, .unset, .unset] [(.int (lo + ((p1 &&& (2147483647 : Int32)) % ((hi - lo) + (1 : Int32)))))])) _
    refine XS.istore Y0.here hx rfl (hb hby at_166) rfl (l' := #[.val (.int p0), .val (.int p1), .val (.int p2), .val (.int p3), .val (.int ((p0 &&& (2147483647 : Int32)) % (7 : Int32))), .val (.ref u), .val (.int lo), .val (.int hi), .val (.int (lo + ((p1 &&& (2147483647 : Int32)) % ((hi - lo) + (1 : Int32))))), .unset, .unset, .unset]) rfl ?_
    show Steps p.tables e below (T0.setTop (mkF m 168 #[.val (.int p0), .val (.int p1), .val (.int p2), .val (.int p3), .val (.int ((p0 &&& (2147483647 : Int32)) % (7 : Int32))), .val (.ref u), .val (.int lo), .val (.int hi), .val (.int (lo + ((p1 &&& (2147483647 : Int32)) % ((hi - lo) + (1 : Int32))))), .unset, .unset, .unset] [])) _
    refine XS.iload Y0.here hx rfl (hb hby at_168) rfl ?_
    show Steps p.tables e below (T0.setTop (mkF m 170 #[.val (.int p0), .val (.int p1), .val (.int p2), .val (.int p3), .val (.int ((p0 &&& (2147483647 : Int32)) % (7 : Int32))), .val (.ref u), .val (.int lo), .val (.int hi), .val (.int (lo + ((p1 &&& (2147483647 : Int32)) % ((hi - lo) + (1 : Int32))))), .unset, .unset, .unset] [(.int (lo + ((p1 &&& (2147483647 : Int32)) % ((hi - lo) + (1 : Int32)))))])) _
    refine XS.iloadN Y0.here hx rfl (hb hby at_170) rfl ?_
    show Steps p.tables e below (T0.setTop (mkF m 171 #[.val (.int p0), .val (.int p1), .val (.int p2), .val (.int p3), .val (.int ((p0 &&& (2147483647 : Int32)) % (7 : Int32))), .val (.ref u), .val (.int lo), .val (.int hi), .val (.int (lo + ((p1 &&& (2147483647 : Int32)) % ((hi - lo) + (1 : Int32))))), .unset, .unset, .unset] [(.int p2), (.int (lo + ((p1 &&& (2147483647 : Int32)) % ((hi - lo) + (1 : Int32)))))])) _
    refine Y0.ldcInt hx hown (mvT hZ (hw _ (List.mem_of_getElem? (i := 0) rfl))) (g := (mkF m 171 #[.val (.int p0), .val (.int p1), .val (.int p2), .val (.int p3), .val (.int ((p0 &&& (2147483647 : Int32)) % (7 : Int32))), .val (.ref u), .val (.int lo), .val (.int hi), .val (.int (lo + ((p1 &&& (2147483647 : Int32)) % ((hi - lo) + (1 : Int32))))), .unset, .unset, .unset] [(.int p2), (.int (lo + ((p1 &&& (2147483647 : Int32)) % ((hi - lo) + (1 : Int32)))))])) rfl (hb hby at_171) _ ?_
    show Steps p.tables e below (T0.setTop (mkF m 173 #[.val (.int p0), .val (.int p1), .val (.int p2), .val (.int p3), .val (.int ((p0 &&& (2147483647 : Int32)) % (7 : Int32))), .val (.ref u), .val (.int lo), .val (.int hi), .val (.int (lo + ((p1 &&& (2147483647 : Int32)) % ((hi - lo) + (1 : Int32))))), .unset, .unset, .unset] [(.int (2147483647 : Int32)), (.int p2), (.int (lo + ((p1 &&& (2147483647 : Int32)) % ((hi - lo) + (1 : Int32)))))])) _
    refine XS.iand Y0.here hx rfl (hb hby at_173) rfl ?_
    show Steps p.tables e below (T0.setTop (mkF m 174 #[.val (.int p0), .val (.int p1), .val (.int p2), .val (.int p3), .val (.int ((p0 &&& (2147483647 : Int32)) % (7 : Int32))), .val (.ref u), .val (.int lo), .val (.int hi), .val (.int (lo + ((p1 &&& (2147483647 : Int32)) % ((hi - lo) + (1 : Int32))))), .unset, .unset, .unset] [(.int (p2 &&& (2147483647 : Int32))), (.int (lo + ((p1 &&& (2147483647 : Int32)) % ((hi - lo) + (1 : Int32)))))])) _
    refine XS.iload Y0.here hx rfl (hb hby at_174) rfl ?_
    show Steps p.tables e below (T0.setTop (mkF m 176 #[.val (.int p0), .val (.int p1), .val (.int p2), .val (.int p3), .val (.int ((p0 &&& (2147483647 : Int32)) % (7 : Int32))), .val (.ref u), .val (.int lo), .val (.int hi), .val (.int (lo + ((p1 &&& (2147483647 : Int32)) % ((hi - lo) + (1 : Int32))))), .unset, .unset, .unset] [(.int hi), (.int (p2 &&& (2147483647 : Int32))), (.int (lo + ((p1 &&& (2147483647 : Int32)) % ((hi - lo) + (1 : Int32)))))])) _
    refine XS.iload Y0.here hx rfl (hb hby at_176) rfl ?_
    show Steps p.tables e below (T0.setTop (mkF m 178 #[.val (.int p0), .val (.int p1), .val (.int p2), .val (.int p3), .val (.int ((p0 &&& (2147483647 : Int32)) % (7 : Int32))), .val (.ref u), .val (.int lo), .val (.int hi), .val (.int (lo + ((p1 &&& (2147483647 : Int32)) % ((hi - lo) + (1 : Int32))))), .unset, .unset, .unset] [(.int (lo + ((p1 &&& (2147483647 : Int32)) % ((hi - lo) + (1 : Int32))))), (.int hi), (.int (p2 &&& (2147483647 : Int32))), (.int (lo + ((p1 &&& (2147483647 : Int32)) % ((hi - lo) + (1 : Int32)))))])) _
    refine XS.isub Y0.here hx rfl (hb hby at_178) rfl ?_
    show Steps p.tables e below (T0.setTop (mkF m 179 #[.val (.int p0), .val (.int p1), .val (.int p2), .val (.int p3), .val (.int ((p0 &&& (2147483647 : Int32)) % (7 : Int32))), .val (.ref u), .val (.int lo), .val (.int hi), .val (.int (lo + ((p1 &&& (2147483647 : Int32)) % ((hi - lo) + (1 : Int32))))), .unset, .unset, .unset] [(.int (hi - (lo + ((p1 &&& (2147483647 : Int32)) % ((hi - lo) + (1 : Int32)))))), (.int (p2 &&& (2147483647 : Int32))), (.int (lo + ((p1 &&& (2147483647 : Int32)) % ((hi - lo) + (1 : Int32)))))])) _
    refine XS.iconst Y0.here hx rfl (hb hby at_179) ?_
    show Steps p.tables e below (T0.setTop (mkF m 180 #[.val (.int p0), .val (.int p1), .val (.int p2), .val (.int p3), .val (.int ((p0 &&& (2147483647 : Int32)) % (7 : Int32))), .val (.ref u), .val (.int lo), .val (.int hi), .val (.int (lo + ((p1 &&& (2147483647 : Int32)) % ((hi - lo) + (1 : Int32))))), .unset, .unset, .unset] [(.int (1 : Int32)), (.int (hi - (lo + ((p1 &&& (2147483647 : Int32)) % ((hi - lo) + (1 : Int32)))))), (.int (p2 &&& (2147483647 : Int32))), (.int (lo + ((p1 &&& (2147483647 : Int32)) % ((hi - lo) + (1 : Int32)))))])) _
    refine XS.iadd Y0.here hx rfl (hb hby at_180) rfl ?_
    show Steps p.tables e below (T0.setTop (mkF m 181 #[.val (.int p0), .val (.int p1), .val (.int p2), .val (.int p3), .val (.int ((p0 &&& (2147483647 : Int32)) % (7 : Int32))), .val (.ref u), .val (.int lo), .val (.int hi), .val (.int (lo + ((p1 &&& (2147483647 : Int32)) % ((hi - lo) + (1 : Int32))))), .unset, .unset, .unset] [(.int ((hi - (lo + ((p1 &&& (2147483647 : Int32)) % ((hi - lo) + (1 : Int32))))) + (1 : Int32))), (.int (p2 &&& (2147483647 : Int32))), (.int (lo + ((p1 &&& (2147483647 : Int32)) % ((hi - lo) + (1 : Int32)))))])) _
    refine Jvm.RoadKit.iremM (g := (mkF m 181 #[.val (.int p0), .val (.int p1), .val (.int p2), .val (.int p3), .val (.int ((p0 &&& (2147483647 : Int32)) % (7 : Int32))), .val (.ref u), .val (.int lo), .val (.int hi), .val (.int (lo + ((p1 &&& (2147483647 : Int32)) % ((hi - lo) + (1 : Int32))))), .unset, .unset, .unset] [(.int ((hi - (lo + ((p1 &&& (2147483647 : Int32)) % ((hi - lo) + (1 : Int32))))) + (1 : Int32))), (.int (p2 &&& (2147483647 : Int32))), (.int (lo + ((p1 &&& (2147483647 : Int32)) % ((hi - lo) + (1 : Int32)))))])) Y0 hx rfl (hb hby at_181) rfl hfi.1 ?_
    show Steps p.tables e below (T0.setTop (mkF m 182 #[.val (.int p0), .val (.int p1), .val (.int p2), .val (.int p3), .val (.int ((p0 &&& (2147483647 : Int32)) % (7 : Int32))), .val (.ref u), .val (.int lo), .val (.int hi), .val (.int (lo + ((p1 &&& (2147483647 : Int32)) % ((hi - lo) + (1 : Int32))))), .unset, .unset, .unset] [(.int ((p2 &&& (2147483647 : Int32)) % ((hi - (lo + ((p1 &&& (2147483647 : Int32)) % ((hi - lo) + (1 : Int32))))) + (1 : Int32)))), (.int (lo + ((p1 &&& (2147483647 : Int32)) % ((hi - lo) + (1 : Int32)))))])) _
    refine XS.iadd Y0.here hx rfl (hb hby at_182) rfl ?_
    show Steps p.tables e below (T0.setTop (mkF m 183 #[.val (.int p0), .val (.int p1), .val (.int p2), .val (.int p3), .val (.int ((p0 &&& (2147483647 : Int32)) % (7 : Int32))), .val (.ref u), .val (.int lo), .val (.int hi), .val (.int (lo + ((p1 &&& (2147483647 : Int32)) % ((hi - lo) + (1 : Int32))))), .unset, .unset, .unset] [(.int ((lo + ((p1 &&& (2147483647 : Int32)) % ((hi - lo) + (1 : Int32)))) + ((p2 &&& (2147483647 : Int32)) % ((hi - (lo + ((p1 &&& (2147483647 : Int32)) % ((hi - lo) + (1 : Int32))))) + (1 : Int32)))))])) _
    refine XS.istore Y0.here hx rfl (hb hby at_183) rfl (l' := #[.val (.int p0), .val (.int p1), .val (.int p2), .val (.int p3), .val (.int ((p0 &&& (2147483647 : Int32)) % (7 : Int32))), .val (.ref u), .val (.int lo), .val (.int hi), .val (.int (lo + ((p1 &&& (2147483647 : Int32)) % ((hi - lo) + (1 : Int32))))), .val (.int ((lo + ((p1 &&& (2147483647 : Int32)) % ((hi - lo) + (1 : Int32)))) + ((p2 &&& (2147483647 : Int32)) % ((hi - (lo + ((p1 &&& (2147483647 : Int32)) % ((hi - lo) + (1 : Int32))))) + (1 : Int32))))), .unset, .unset]) rfl ?_
    show Steps p.tables e below (T0.setTop (mkF m 185 #[.val (.int p0), .val (.int p1), .val (.int p2), .val (.int p3), .val (.int ((p0 &&& (2147483647 : Int32)) % (7 : Int32))), .val (.ref u), .val (.int lo), .val (.int hi), .val (.int (lo + ((p1 &&& (2147483647 : Int32)) % ((hi - lo) + (1 : Int32))))), .val (.int ((lo + ((p1 &&& (2147483647 : Int32)) % ((hi - lo) + (1 : Int32)))) + ((p2 &&& (2147483647 : Int32)) % ((hi - (lo + ((p1 &&& (2147483647 : Int32)) % ((hi - lo) + (1 : Int32))))) + (1 : Int32))))), .unset, .unset] [])) _
    refine XS.iconst Y0.here hx rfl (hb hby at_185) ?_
    show Steps p.tables e below (T0.setTop (mkF m 186 #[.val (.int p0), .val (.int p1), .val (.int p2), .val (.int p3), .val (.int ((p0 &&& (2147483647 : Int32)) % (7 : Int32))), .val (.ref u), .val (.int lo), .val (.int hi), .val (.int (lo + ((p1 &&& (2147483647 : Int32)) % ((hi - lo) + (1 : Int32))))), .val (.int ((lo + ((p1 &&& (2147483647 : Int32)) % ((hi - lo) + (1 : Int32)))) + ((p2 &&& (2147483647 : Int32)) % ((hi - (lo + ((p1 &&& (2147483647 : Int32)) % ((hi - lo) + (1 : Int32))))) + (1 : Int32))))), .unset, .unset] [(.int (2 : Int32))])) _
    refine st1 _ ?_
    show Steps p.tables e below (T1.setTop (mkF m 188 #[.val (.int p0), .val (.int p1), .val (.int p2), .val (.int p3), .val (.int ((p0 &&& (2147483647 : Int32)) % (7 : Int32))), .val (.ref u), .val (.int lo), .val (.int hi), .val (.int (lo + ((p1 &&& (2147483647 : Int32)) % ((hi - lo) + (1 : Int32))))), .val (.int ((lo + ((p1 &&& (2147483647 : Int32)) % ((hi - lo) + (1 : Int32)))) + ((p2 &&& (2147483647 : Int32)) % ((hi - (lo + ((p1 &&& (2147483647 : Int32)) % ((hi - lo) + (1 : Int32))))) + (1 : Int32))))), .unset, .unset] [(.ref b1)])) _
    refine XS.astore X1.here hx rfl (hb hby at_188) rfl rfl (l' := #[.val (.int p0), .val (.int p1), .val (.int p2), .val (.int p3), .val (.int ((p0 &&& (2147483647 : Int32)) % (7 : Int32))), .val (.ref u), .val (.int lo), .val (.int hi), .val (.int (lo + ((p1 &&& (2147483647 : Int32)) % ((hi - lo) + (1 : Int32))))), .val (.int ((lo + ((p1 &&& (2147483647 : Int32)) % ((hi - lo) + (1 : Int32)))) + ((p2 &&& (2147483647 : Int32)) % ((hi - (lo + ((p1 &&& (2147483647 : Int32)) % ((hi - lo) + (1 : Int32))))) + (1 : Int32))))), .val (.ref b1), .unset]) rfl ?_
    show Steps p.tables e below (T1.setTop (mkF m 190 #[.val (.int p0), .val (.int p1), .val (.int p2), .val (.int p3), .val (.int ((p0 &&& (2147483647 : Int32)) % (7 : Int32))), .val (.ref u), .val (.int lo), .val (.int hi), .val (.int (lo + ((p1 &&& (2147483647 : Int32)) % ((hi - lo) + (1 : Int32))))), .val (.int ((lo + ((p1 &&& (2147483647 : Int32)) % ((hi - lo) + (1 : Int32)))) + ((p2 &&& (2147483647 : Int32)) % ((hi - (lo + ((p1 &&& (2147483647 : Int32)) % ((hi - lo) + (1 : Int32))))) + (1 : Int32))))), .val (.ref b1), .unset] [])) _
    refine XS.aload X1.here hx rfl (hb hby at_190) rfl rfl ?_
    show Steps p.tables e below (T1.setTop (mkF m 192 #[.val (.int p0), .val (.int p1), .val (.int p2), .val (.int p3), .val (.int ((p0 &&& (2147483647 : Int32)) % (7 : Int32))), .val (.ref u), .val (.int lo), .val (.int hi), .val (.int (lo + ((p1 &&& (2147483647 : Int32)) % ((hi - lo) + (1 : Int32))))), .val (.int ((lo + ((p1 &&& (2147483647 : Int32)) % ((hi - lo) + (1 : Int32)))) + ((p2 &&& (2147483647 : Int32)) % ((hi - (lo + ((p1 &&& (2147483647 : Int32)) % ((hi - lo) + (1 : Int32))))) + (1 : Int32))))), .val (.ref b1), .unset] [(.ref b1)])) _
    refine XS.iconst X1.here hx rfl (hb hby at_192) ?_
    show Steps p.tables e below (T1.setTop (mkF m 193 #[.val (.int p0), .val (.int p1), .val (.int p2), .val (.int p3), .val (.int ((p0 &&& (2147483647 : Int32)) % (7 : Int32))), .val (.ref u), .val (.int lo), .val (.int hi), .val (.int (lo + ((p1 &&& (2147483647 : Int32)) % ((hi - lo) + (1 : Int32))))), .val (.int ((lo + ((p1 &&& (2147483647 : Int32)) % ((hi - lo) + (1 : Int32)))) + ((p2 &&& (2147483647 : Int32)) % ((hi - (lo + ((p1 &&& (2147483647 : Int32)) % ((hi - lo) + (1 : Int32))))) + (1 : Int32))))), .val (.ref b1), .unset] [(.int (0 : Int32)), (.ref b1)])) _
    refine XS.iloadN X1.here hx rfl (hb hby at_193) rfl ?_
    show Steps p.tables e below (T1.setTop (mkF m 194 #[.val (.int p0), .val (.int p1), .val (.int p2), .val (.int p3), .val (.int ((p0 &&& (2147483647 : Int32)) % (7 : Int32))), .val (.ref u), .val (.int lo), .val (.int hi), .val (.int (lo + ((p1 &&& (2147483647 : Int32)) % ((hi - lo) + (1 : Int32))))), .val (.int ((lo + ((p1 &&& (2147483647 : Int32)) % ((hi - lo) + (1 : Int32)))) + ((p2 &&& (2147483647 : Int32)) % ((hi - (lo + ((p1 &&& (2147483647 : Int32)) % ((hi - lo) + (1 : Int32))))) + (1 : Int32))))), .val (.ref b1), .unset] [(.int p3), (.int (0 : Int32)), (.ref b1)])) _
    refine XS.sipush X1.here hx rfl (hb hby at_194) ?_
    show Steps p.tables e below (T1.setTop (mkF m 197 #[.val (.int p0), .val (.int p1), .val (.int p2), .val (.int p3), .val (.int ((p0 &&& (2147483647 : Int32)) % (7 : Int32))), .val (.ref u), .val (.int lo), .val (.int hi), .val (.int (lo + ((p1 &&& (2147483647 : Int32)) % ((hi - lo) + (1 : Int32))))), .val (.int ((lo + ((p1 &&& (2147483647 : Int32)) % ((hi - lo) + (1 : Int32)))) + ((p2 &&& (2147483647 : Int32)) % ((hi - (lo + ((p1 &&& (2147483647 : Int32)) % ((hi - lo) + (1 : Int32))))) + (1 : Int32))))), .val (.ref b1), .unset] [(.int (255 : Int32)), (.int p3), (.int (0 : Int32)), (.ref b1)])) _
    refine XS.iand X1.here hx rfl (hb hby at_197) rfl ?_
    show Steps p.tables e below (T1.setTop (mkF m 198 #[.val (.int p0), .val (.int p1), .val (.int p2), .val (.int p3), .val (.int ((p0 &&& (2147483647 : Int32)) % (7 : Int32))), .val (.ref u), .val (.int lo), .val (.int hi), .val (.int (lo + ((p1 &&& (2147483647 : Int32)) % ((hi - lo) + (1 : Int32))))), .val (.int ((lo + ((p1 &&& (2147483647 : Int32)) % ((hi - lo) + (1 : Int32)))) + ((p2 &&& (2147483647 : Int32)) % ((hi - (lo + ((p1 &&& (2147483647 : Int32)) % ((hi - lo) + (1 : Int32))))) + (1 : Int32))))), .val (.ref b1), .unset] [(.int (p3 &&& (255 : Int32))), (.int (0 : Int32)), (.ref b1)])) _
    refine XS.i2c X1.here hx rfl (hb hby at_198) rfl ?_
    show Steps p.tables e below (T1.setTop (mkF m 199 #[.val (.int p0), .val (.int p1), .val (.int p2), .val (.int p3), .val (.int ((p0 &&& (2147483647 : Int32)) % (7 : Int32))), .val (.ref u), .val (.int lo), .val (.int hi), .val (.int (lo + ((p1 &&& (2147483647 : Int32)) % ((hi - lo) + (1 : Int32))))), .val (.int ((lo + ((p1 &&& (2147483647 : Int32)) % ((hi - lo) + (1 : Int32)))) + ((p2 &&& (2147483647 : Int32)) % ((hi - (lo + ((p1 &&& (2147483647 : Int32)) % ((hi - lo) + (1 : Int32))))) + (1 : Int32))))), .val (.ref b1), .unset] [(.int ((p3 &&& (255 : Int32)).toUInt32.toUInt16.toUInt32.toInt32)), (.int (0 : Int32)), (.ref b1)])) _
    refine st2 _ ?_
    show Steps p.tables e below (T2.setTop (mkF m 200 #[.val (.int p0), .val (.int p1), .val (.int p2), .val (.int p3), .val (.int ((p0 &&& (2147483647 : Int32)) % (7 : Int32))), .val (.ref u), .val (.int lo), .val (.int hi), .val (.int (lo + ((p1 &&& (2147483647 : Int32)) % ((hi - lo) + (1 : Int32))))), .val (.int ((lo + ((p1 &&& (2147483647 : Int32)) % ((hi - lo) + (1 : Int32)))) + ((p2 &&& (2147483647 : Int32)) % ((hi - (lo + ((p1 &&& (2147483647 : Int32)) % ((hi - lo) + (1 : Int32))))) + (1 : Int32))))), .val (.ref b1), .unset] [])) _
    refine XS.aload X2.here hx rfl (hb hby at_200) rfl rfl ?_
    show Steps p.tables e below (T2.setTop (mkF m 202 #[.val (.int p0), .val (.int p1), .val (.int p2), .val (.int p3), .val (.int ((p0 &&& (2147483647 : Int32)) % (7 : Int32))), .val (.ref u), .val (.int lo), .val (.int hi), .val (.int (lo + ((p1 &&& (2147483647 : Int32)) % ((hi - lo) + (1 : Int32))))), .val (.int ((lo + ((p1 &&& (2147483647 : Int32)) % ((hi - lo) + (1 : Int32)))) + ((p2 &&& (2147483647 : Int32)) % ((hi - (lo + ((p1 &&& (2147483647 : Int32)) % ((hi - lo) + (1 : Int32))))) + (1 : Int32))))), .val (.ref b1), .unset] [(.ref b1)])) _
    refine XS.iconst X2.here hx rfl (hb hby at_202) ?_
    show Steps p.tables e below (T2.setTop (mkF m 203 #[.val (.int p0), .val (.int p1), .val (.int p2), .val (.int p3), .val (.int ((p0 &&& (2147483647 : Int32)) % (7 : Int32))), .val (.ref u), .val (.int lo), .val (.int hi), .val (.int (lo + ((p1 &&& (2147483647 : Int32)) % ((hi - lo) + (1 : Int32))))), .val (.int ((lo + ((p1 &&& (2147483647 : Int32)) % ((hi - lo) + (1 : Int32)))) + ((p2 &&& (2147483647 : Int32)) % ((hi - (lo + ((p1 &&& (2147483647 : Int32)) % ((hi - lo) + (1 : Int32))))) + (1 : Int32))))), .val (.ref b1), .unset] [(.int (1 : Int32)), (.ref b1)])) _
    refine XS.iloadN X2.here hx rfl (hb hby at_203) rfl ?_
    show Steps p.tables e below (T2.setTop (mkF m 204 #[.val (.int p0), .val (.int p1), .val (.int p2), .val (.int p3), .val (.int ((p0 &&& (2147483647 : Int32)) % (7 : Int32))), .val (.ref u), .val (.int lo), .val (.int hi), .val (.int (lo + ((p1 &&& (2147483647 : Int32)) % ((hi - lo) + (1 : Int32))))), .val (.int ((lo + ((p1 &&& (2147483647 : Int32)) % ((hi - lo) + (1 : Int32)))) + ((p2 &&& (2147483647 : Int32)) % ((hi - (lo + ((p1 &&& (2147483647 : Int32)) % ((hi - lo) + (1 : Int32))))) + (1 : Int32))))), .val (.ref b1), .unset] [(.int p3), (.int (1 : Int32)), (.ref b1)])) _
    refine XS.bipush X2.here hx rfl (hb hby at_204) ?_
    show Steps p.tables e below (T2.setTop (mkF m 206 #[.val (.int p0), .val (.int p1), .val (.int p2), .val (.int p3), .val (.int ((p0 &&& (2147483647 : Int32)) % (7 : Int32))), .val (.ref u), .val (.int lo), .val (.int hi), .val (.int (lo + ((p1 &&& (2147483647 : Int32)) % ((hi - lo) + (1 : Int32))))), .val (.int ((lo + ((p1 &&& (2147483647 : Int32)) % ((hi - lo) + (1 : Int32)))) + ((p2 &&& (2147483647 : Int32)) % ((hi - (lo + ((p1 &&& (2147483647 : Int32)) % ((hi - lo) + (1 : Int32))))) + (1 : Int32))))), .val (.ref b1), .unset] [(.int (8 : Int32)), (.int p3), (.int (1 : Int32)), (.ref b1)])) _
    refine XS.iushr X2.here hx rfl (hb hby at_206) rfl ?_
    show Steps p.tables e below (T2.setTop (mkF m 207 #[.val (.int p0), .val (.int p1), .val (.int p2), .val (.int p3), .val (.int ((p0 &&& (2147483647 : Int32)) % (7 : Int32))), .val (.ref u), .val (.int lo), .val (.int hi), .val (.int (lo + ((p1 &&& (2147483647 : Int32)) % ((hi - lo) + (1 : Int32))))), .val (.int ((lo + ((p1 &&& (2147483647 : Int32)) % ((hi - lo) + (1 : Int32)))) + ((p2 &&& (2147483647 : Int32)) % ((hi - (lo + ((p1 &&& (2147483647 : Int32)) % ((hi - lo) + (1 : Int32))))) + (1 : Int32))))), .val (.ref b1), .unset] [(.int ((p3.toUInt32 >>> ((8 : Int32) &&& 31).toUInt32).toInt32)), (.int (1 : Int32)), (.ref b1)])) _
    refine XS.sipush X2.here hx rfl (hb hby at_207) ?_
    show Steps p.tables e below (T2.setTop (mkF m 210 #[.val (.int p0), .val (.int p1), .val (.int p2), .val (.int p3), .val (.int ((p0 &&& (2147483647 : Int32)) % (7 : Int32))), .val (.ref u), .val (.int lo), .val (.int hi), .val (.int (lo + ((p1 &&& (2147483647 : Int32)) % ((hi - lo) + (1 : Int32))))), .val (.int ((lo + ((p1 &&& (2147483647 : Int32)) % ((hi - lo) + (1 : Int32)))) + ((p2 &&& (2147483647 : Int32)) % ((hi - (lo + ((p1 &&& (2147483647 : Int32)) % ((hi - lo) + (1 : Int32))))) + (1 : Int32))))), .val (.ref b1), .unset] [(.int (255 : Int32)), (.int ((p3.toUInt32 >>> ((8 : Int32) &&& 31).toUInt32).toInt32)), (.int (1 : Int32)), (.ref b1)])) _
    refine XS.iand X2.here hx rfl (hb hby at_210) rfl ?_
    show Steps p.tables e below (T2.setTop (mkF m 211 #[.val (.int p0), .val (.int p1), .val (.int p2), .val (.int p3), .val (.int ((p0 &&& (2147483647 : Int32)) % (7 : Int32))), .val (.ref u), .val (.int lo), .val (.int hi), .val (.int (lo + ((p1 &&& (2147483647 : Int32)) % ((hi - lo) + (1 : Int32))))), .val (.int ((lo + ((p1 &&& (2147483647 : Int32)) % ((hi - lo) + (1 : Int32)))) + ((p2 &&& (2147483647 : Int32)) % ((hi - (lo + ((p1 &&& (2147483647 : Int32)) % ((hi - lo) + (1 : Int32))))) + (1 : Int32))))), .val (.ref b1), .unset] [(.int (((p3.toUInt32 >>> ((8 : Int32) &&& 31).toUInt32).toInt32) &&& (255 : Int32))), (.int (1 : Int32)), (.ref b1)])) _
    refine XS.i2c X2.here hx rfl (hb hby at_211) rfl ?_
    show Steps p.tables e below (T2.setTop (mkF m 212 #[.val (.int p0), .val (.int p1), .val (.int p2), .val (.int p3), .val (.int ((p0 &&& (2147483647 : Int32)) % (7 : Int32))), .val (.ref u), .val (.int lo), .val (.int hi), .val (.int (lo + ((p1 &&& (2147483647 : Int32)) % ((hi - lo) + (1 : Int32))))), .val (.int ((lo + ((p1 &&& (2147483647 : Int32)) % ((hi - lo) + (1 : Int32)))) + ((p2 &&& (2147483647 : Int32)) % ((hi - (lo + ((p1 &&& (2147483647 : Int32)) % ((hi - lo) + (1 : Int32))))) + (1 : Int32))))), .val (.ref b1), .unset] [(.int ((((p3.toUInt32 >>> ((8 : Int32) &&& 31).toUInt32).toInt32) &&& (255 : Int32)).toUInt32.toUInt16.toUInt32.toInt32)), (.int (1 : Int32)), (.ref b1)])) _
    refine st3 _ ?_
    show Steps p.tables e below (T3.setTop (mkF m 213 #[.val (.int p0), .val (.int p1), .val (.int p2), .val (.int p3), .val (.int ((p0 &&& (2147483647 : Int32)) % (7 : Int32))), .val (.ref u), .val (.int lo), .val (.int hi), .val (.int (lo + ((p1 &&& (2147483647 : Int32)) % ((hi - lo) + (1 : Int32))))), .val (.int ((lo + ((p1 &&& (2147483647 : Int32)) % ((hi - lo) + (1 : Int32)))) + ((p2 &&& (2147483647 : Int32)) % ((hi - (lo + ((p1 &&& (2147483647 : Int32)) % ((hi - lo) + (1 : Int32))))) + (1 : Int32))))), .val (.ref b1), .unset] [])) _
    refine st4 _ ?_
    show Steps p.tables e below (T4.setTop (mkF m 216 #[.val (.int p0), .val (.int p1), .val (.int p2), .val (.int p3), .val (.int ((p0 &&& (2147483647 : Int32)) % (7 : Int32))), .val (.ref u), .val (.int lo), .val (.int hi), .val (.int (lo + ((p1 &&& (2147483647 : Int32)) % ((hi - lo) + (1 : Int32))))), .val (.int ((lo + ((p1 &&& (2147483647 : Int32)) % ((hi - lo) + (1 : Int32)))) + ((p2 &&& (2147483647 : Int32)) % ((hi - (lo + ((p1 &&& (2147483647 : Int32)) % ((hi - lo) + (1 : Int32))))) + (1 : Int32))))), .val (.ref b1), .unset] [(.ref b4)])) _
    refine XS.dup X4.here hx rfl (hb hby at_216) rfl rfl ?_
    show Steps p.tables e below (T4.setTop (mkF m 217 #[.val (.int p0), .val (.int p1), .val (.int p2), .val (.int p3), .val (.int ((p0 &&& (2147483647 : Int32)) % (7 : Int32))), .val (.ref u), .val (.int lo), .val (.int hi), .val (.int (lo + ((p1 &&& (2147483647 : Int32)) % ((hi - lo) + (1 : Int32))))), .val (.int ((lo + ((p1 &&& (2147483647 : Int32)) % ((hi - lo) + (1 : Int32)))) + ((p2 &&& (2147483647 : Int32)) % ((hi - (lo + ((p1 &&& (2147483647 : Int32)) % ((hi - lo) + (1 : Int32))))) + (1 : Int32))))), .val (.ref b1), .unset] [(.ref b4), (.ref b4)])) _
    refine XS.aload X4.here hx rfl (hb hby at_217) rfl rfl ?_
    show Steps p.tables e below (T4.setTop (mkF m 219 #[.val (.int p0), .val (.int p1), .val (.int p2), .val (.int p3), .val (.int ((p0 &&& (2147483647 : Int32)) % (7 : Int32))), .val (.ref u), .val (.int lo), .val (.int hi), .val (.int (lo + ((p1 &&& (2147483647 : Int32)) % ((hi - lo) + (1 : Int32))))), .val (.int ((lo + ((p1 &&& (2147483647 : Int32)) % ((hi - lo) + (1 : Int32)))) + ((p2 &&& (2147483647 : Int32)) % ((hi - (lo + ((p1 &&& (2147483647 : Int32)) % ((hi - lo) + (1 : Int32))))) + (1 : Int32))))), .val (.ref b1), .unset] [(.ref b1), (.ref b4), (.ref b4)])) _
    refine st5.trans ?_
    show Steps p.tables e below (T5.setTop (mkF m 222 #[.val (.int p0), .val (.int p1), .val (.int p2), .val (.int p3), .val (.int ((p0 &&& (2147483647 : Int32)) % (7 : Int32))), .val (.ref u), .val (.int lo), .val (.int hi), .val (.int (lo + ((p1 &&& (2147483647 : Int32)) % ((hi - lo) + (1 : Int32))))), .val (.int ((lo + ((p1 &&& (2147483647 : Int32)) % ((hi - lo) + (1 : Int32)))) + ((p2 &&& (2147483647 : Int32)) % ((hi - (lo + ((p1 &&& (2147483647 : Int32)) % ((hi - lo) + (1 : Int32))))) + (1 : Int32))))), .val (.ref b1), .unset] [(.ref b4)])) _
    refine XS.astore X5.here hx rfl (hb hby at_222) rfl rfl (l' := #[.val (.int p0), .val (.int p1), .val (.int p2), .val (.int p3), .val (.int ((p0 &&& (2147483647 : Int32)) % (7 : Int32))), .val (.ref u), .val (.int lo), .val (.int hi), .val (.int (lo + ((p1 &&& (2147483647 : Int32)) % ((hi - lo) + (1 : Int32))))), .val (.int ((lo + ((p1 &&& (2147483647 : Int32)) % ((hi - lo) + (1 : Int32)))) + ((p2 &&& (2147483647 : Int32)) % ((hi - (lo + ((p1 &&& (2147483647 : Int32)) % ((hi - lo) + (1 : Int32))))) + (1 : Int32))))), .val (.ref b1), .val (.ref b4)]) rfl ?_
    show Steps p.tables e below (T5.setTop (mkF m 224 #[.val (.int p0), .val (.int p1), .val (.int p2), .val (.int p3), .val (.int ((p0 &&& (2147483647 : Int32)) % (7 : Int32))), .val (.ref u), .val (.int lo), .val (.int hi), .val (.int (lo + ((p1 &&& (2147483647 : Int32)) % ((hi - lo) + (1 : Int32))))), .val (.int ((lo + ((p1 &&& (2147483647 : Int32)) % ((hi - lo) + (1 : Int32)))) + ((p2 &&& (2147483647 : Int32)) % ((hi - (lo + ((p1 &&& (2147483647 : Int32)) % ((hi - lo) + (1 : Int32))))) + (1 : Int32))))), .val (.ref b1), .val (.ref b4)] [])) _
    refine XS.aload X5.here hx rfl (hb hby at_224) rfl rfl ?_
    show Steps p.tables e below (T5.setTop (mkF m 226 #[.val (.int p0), .val (.int p1), .val (.int p2), .val (.int p3), .val (.int ((p0 &&& (2147483647 : Int32)) % (7 : Int32))), .val (.ref u), .val (.int lo), .val (.int hi), .val (.int (lo + ((p1 &&& (2147483647 : Int32)) % ((hi - lo) + (1 : Int32))))), .val (.int ((lo + ((p1 &&& (2147483647 : Int32)) % ((hi - lo) + (1 : Int32)))) + ((p2 &&& (2147483647 : Int32)) % ((hi - (lo + ((p1 &&& (2147483647 : Int32)) % ((hi - lo) + (1 : Int32))))) + (1 : Int32))))), .val (.ref b1), .val (.ref b4)] [(.ref u)])) _
    refine XS.aload X5.here hx rfl (hb hby at_226) rfl rfl ?_
    show Steps p.tables e below (T5.setTop (mkF m 228 #[.val (.int p0), .val (.int p1), .val (.int p2), .val (.int p3), .val (.int ((p0 &&& (2147483647 : Int32)) % (7 : Int32))), .val (.ref u), .val (.int lo), .val (.int hi), .val (.int (lo + ((p1 &&& (2147483647 : Int32)) % ((hi - lo) + (1 : Int32))))), .val (.int ((lo + ((p1 &&& (2147483647 : Int32)) % ((hi - lo) + (1 : Int32)))) + ((p2 &&& (2147483647 : Int32)) % ((hi - (lo + ((p1 &&& (2147483647 : Int32)) % ((hi - lo) + (1 : Int32))))) + (1 : Int32))))), .val (.ref b1), .val (.ref b4)] [(.ref b4), (.ref u)])) _
    refine XS.iload X5.here hx rfl (hb hby at_228) rfl ?_
    show Steps p.tables e below (T5.setTop (mkF m 230 #[.val (.int p0), .val (.int p1), .val (.int p2), .val (.int p3), .val (.int ((p0 &&& (2147483647 : Int32)) % (7 : Int32))), .val (.ref u), .val (.int lo), .val (.int hi), .val (.int (lo + ((p1 &&& (2147483647 : Int32)) % ((hi - lo) + (1 : Int32))))), .val (.int ((lo + ((p1 &&& (2147483647 : Int32)) % ((hi - lo) + (1 : Int32)))) + ((p2 &&& (2147483647 : Int32)) % ((hi - (lo + ((p1 &&& (2147483647 : Int32)) % ((hi - lo) + (1 : Int32))))) + (1 : Int32))))), .val (.ref b1), .val (.ref b4)] [(.int ((lo + ((p1 &&& (2147483647 : Int32)) % ((hi - lo) + (1 : Int32)))) + ((p2 &&& (2147483647 : Int32)) % ((hi - (lo + ((p1 &&& (2147483647 : Int32)) % ((hi - lo) + (1 : Int32))))) + (1 : Int32))))), (.ref b4), (.ref u)])) _
    refine XS.iload X5.here hx rfl (hb hby at_230) rfl ?_
    show Steps p.tables e below (T5.setTop (mkF m 232 #[.val (.int p0), .val (.int p1), .val (.int p2), .val (.int p3), .val (.int ((p0 &&& (2147483647 : Int32)) % (7 : Int32))), .val (.ref u), .val (.int lo), .val (.int hi), .val (.int (lo + ((p1 &&& (2147483647 : Int32)) % ((hi - lo) + (1 : Int32))))), .val (.int ((lo + ((p1 &&& (2147483647 : Int32)) % ((hi - lo) + (1 : Int32)))) + ((p2 &&& (2147483647 : Int32)) % ((hi - (lo + ((p1 &&& (2147483647 : Int32)) % ((hi - lo) + (1 : Int32))))) + (1 : Int32))))), .val (.ref b1), .val (.ref b4)] [(.int (lo + ((p1 &&& (2147483647 : Int32)) % ((hi - lo) + (1 : Int32))))), (.int ((lo + ((p1 &&& (2147483647 : Int32)) % ((hi - lo) + (1 : Int32)))) + ((p2 &&& (2147483647 : Int32)) % ((hi - (lo + ((p1 &&& (2147483647 : Int32)) % ((hi - lo) + (1 : Int32))))) + (1 : Int32))))), (.ref b4), (.ref u)])) _
    refine st6.trans ?_
    show Steps p.tables e below (T6.setTop (mkF m 235 #[.val (.int p0), .val (.int p1), .val (.int p2), .val (.int p3), .val (.int ((p0 &&& (2147483647 : Int32)) % (7 : Int32))), .val (.ref u), .val (.int lo), .val (.int hi), .val (.int (lo + ((p1 &&& (2147483647 : Int32)) % ((hi - lo) + (1 : Int32))))), .val (.int ((lo + ((p1 &&& (2147483647 : Int32)) % ((hi - lo) + (1 : Int32)))) + ((p2 &&& (2147483647 : Int32)) % ((hi - (lo + ((p1 &&& (2147483647 : Int32)) % ((hi - lo) + (1 : Int32))))) + (1 : Int32))))), .val (.ref b1), .val (.ref b4)] [])) _
    refine XS.iconst X6.here hx rfl (hb hby at_235) ?_
    show Steps p.tables e below (T6.setTop (mkF m 236 #[.val (.int p0), .val (.int p1), .val (.int p2), .val (.int p3), .val (.int ((p0 &&& (2147483647 : Int32)) % (7 : Int32))), .val (.ref u), .val (.int lo), .val (.int hi), .val (.int (lo + ((p1 &&& (2147483647 : Int32)) % ((hi - lo) + (1 : Int32))))), .val (.int ((lo + ((p1 &&& (2147483647 : Int32)) % ((hi - lo) + (1 : Int32)))) + ((p2 &&& (2147483647 : Int32)) % ((hi - (lo + ((p1 &&& (2147483647 : Int32)) % ((hi - lo) + (1 : Int32))))) + (1 : Int32))))), .val (.ref b1), .val (.ref b4)] [(.int (1 : Int32))])) _
    exact retN X6 hx (t := .boolean) Bd.returns (by simp) (hb hby at_236) hr
  · show Qd1 Z p0 p1 p2 p3 w0 w1 w2 w3 w4 w5 w6 z h0 n0 _ T6.heap _
    rw [e6]
    exact ⟨rfl, N6⟩
theorem own_fe {t : Term} {C n d : String} {k : Int32} {args : Array Value} {s : State} {x : Addr} (h : (Jvm.Cond.eq (.field t C n d) (.int k)).value args s none s [] = some true) (ht : t.eval args s none [] s = some (.ref x)) : s.fieldOf? x C n d = some (.int k) := by
  obtain ⟨u, v, h1, h2, h3, h4⟩ := cmp_v (Or.inl h)
  rw [fld_at ht] at h1
  obtain rfl : v = .int k := (Option.some.inj ((Term.int_eval k).symm.trans h2)).symm
  obtain ⟨z, rfl⟩ := h4
  rw [h1]
  have h5 : (Jvm.Cond.eq (.field t C n d) (.int k)).value args s none s [] = some (decide (z = k)) := Cond.eq_ints ((fld_at ht).trans h1) (Term.int_eval k)
  rw [gotT h5 h]

set_option maxRecDepth 65536 in
set_option maxHeartbeats 40000000 in
theorem comes_1 {Post : Tables → Env → Array Value → State → Outcome → State → Prop} (hpost : ∀ tb e args s v u, (limb_1_1.after args s (.returned v) u = true ∧ limb_1_2.after args s (.returned v) u = true ∧ True) → FrameEnd s (.returned v) u (Jvm.fieldLocs frame_1_writes args s ++ Jvm.arrayLocs frame_1_arrays args s ++ Jvm.staticLocs frame_1_statics s) 16 128 → Post tb e args s (.returned v) u) :
    ArmFor flags0 classFile x code maxLocals ret World_1 tables_1 room_1 Calls_1 rest_1 Pre_1 Post := by
  intro l hfl _ _ p e ha hc hk s m args below hf hA hF happ hP
  obtain ⟨hcalls, hrest, hpre⟩ := hP
  obtain ⟨-, -, -, hnamed, -, -, -, hat⟩ := (Spec.applies_iff hf).mp happ
  obtain ⟨hg, hn⟩ := and_e (Cond.before_iff.mp (show (Jvm.Cond.and given_1 narrow_1).before args s = true from hpre))
  obtain ⟨gc, hg⟩ := and_e hg
  obtain ⟨g0, hg⟩ := and_e hg
  obtain ⟨g1, hg⟩ := and_e hg
  obtain ⟨g2, hg⟩ := and_e hg
  have g3 := hg
  obtain ⟨w0, w1, w2, w3, rfl⟩ : ∃ w0 w1 w2 w3 : Value, args = #[w0, w1, w2, w3] := by
    have hs : args.size = 4 := by simpa [Cond.value, given_1] using gc
    obtain ⟨L⟩ := args
    match L, hs with
    | [w0, w1, w2, w3], _ => exact ⟨w0, w1, w2, w3, rfl⟩
  have hw := fun d (hd : d ∈ tables_1) => atoms_spec (ws := Jvm.Cond.code x code maxLocals ret :: tables_1) hat d (List.mem_cons_of_mem _ hd)
  have hfit : Fit s := fun {y c} hc i hi => by
    obtain ⟨ha, rfl⟩ := Array.getElem?_eq_some_iff.mp hc
    have q := List.all_eq_true.mp ((Array.all_eq_true_iff_forall_mem.mp hF) _ (Array.getElem_mem ha)) i (List.mem_range.mpr hi)
    simpa [Array.getElem?_eq_getElem hi] using q
  obtain ⟨hsets, hown0⟩ := atoms_of _ (rest_1_c_eq ▸ (show rest_1_c.before _ s = true from hrest))
  have hr0 := Cond.before_iff.mp hown0
  obtain ⟨i0, ei0⟩ := is_v g0
  obtain rfl : w0 = (.int i0) := Option.some.inj ei0
  obtain ⟨i1, ei1⟩ := is_v g1
  obtain rfl : w1 = (.int i1) := Option.some.inj ei1
  obtain ⟨i2, ei2⟩ := is_v g2
  obtain rfl : w2 = (.int i2) := Option.some.inj ei2
  obtain ⟨i3, ei3⟩ := is_v g3
  obtain rfl : w3 = (.int i3) := Option.some.inj ei3
  obtain ⟨k0, hn⟩ := and_e hn
  obtain ⟨k1, hn⟩ := and_e hn
  obtain ⟨k2, hn⟩ := and_e hn
  obtain ⟨k3, hn⟩ := and_e hn
  obtain ⟨k4, hn⟩ := and_e hn
  obtain ⟨k5, hn⟩ := and_e hn
  obtain ⟨k6, hn⟩ := and_e hn
  obtain ⟨k7, hn⟩ := and_e hn
  obtain ⟨k8, hn⟩ := and_e hn
  obtain ⟨k9, hn⟩ := and_e hn
  obtain ⟨k10, hn⟩ := and_e hn
  obtain ⟨k11, hn⟩ := and_e hn
  obtain ⟨k12, hn⟩ := and_e hn
  have k13 := hn
  obtain ⟨w0, v0⟩ := exa_v k0
  obtain ⟨w1, v1⟩ := exa_v k6
  obtain ⟨w2, v2⟩ := exa_v k4
  obtain ⟨w3, v3⟩ := exa_v k8
  obtain ⟨w4, v4⟩ := exa_v k10
  obtain ⟨w5, v5⟩ := exa_v k2
  obtain ⟨w6, v6⟩ := exa_v k12
  have iM := (hw _ (List.mem_of_getElem? (i := 2) rfl))
  obtain ⟨z, ez⟩ := is_v (Cond.before_iff.mp (hsets _ (List.mem_of_getElem? (i := 1) rfl)))
  have SC : Sta s s.heap "java/lang/String" "COMPACT_STRINGS" "Z" (.int z) := Sta.start ez (Or.inl (hsets _ (List.mem_of_getElem? (i := 0) rfl)))
  have hz : ¬ (z = (0 : Int32)) := gotF (Cond.eq_ints ez (Term.int_eval (0))) (not_v (Cond.before_iff.mp (hsets _ (List.mem_of_getElem? (i := 2) rfl))))
  obtain ⟨n, o, h1, h2, h3, _, L, rfl, ⟨rfl, N⟩, hq⟩ := rm0 l s _ hw tables_1 i0 i1 i2 i3 w0 w1 w2 w3 w4 w5 w6 z s.heap s.heap.size (Old.start s) (Sta.start v0 (Or.inr ⟨iM, (hw _ (List.mem_of_getElem? (i := 3) rfl))⟩)) (Exa.start v0 k0) (Fld.start (own_fe k1 v0)) (Sta.start v1 (Or.inr ⟨iM, (hw _ (List.mem_of_getElem? (i := 46) rfl))⟩)) (Exa.start v1 k6) (Fld.start (own_fe k7 v1)) (Sta.start v2 (Or.inr ⟨iM, (hw _ (List.mem_of_getElem? (i := 44) rfl))⟩)) (Exa.start v2 k4) (Fld.start (own_fe k5 v2)) (Sta.start v3 (Or.inr ⟨iM, (hw _ (List.mem_of_getElem? (i := 48) rfl))⟩)) (Exa.start v3 k8) (Fld.start (own_fe k9 v3)) (Sta.start v4 (Or.inr ⟨iM, (hw _ (List.mem_of_getElem? (i := 51) rfl))⟩)) (Exa.start v4 k10) (Fld.start (own_fe k11 v4)) (Sta.start v5 (Or.inr ⟨iM, (hw _ (List.mem_of_getElem? (i := 42) rfl))⟩)) (Exa.start v5 k2) (Fld.start (own_fe k3 v5)) (Sta.start v6 (Or.inr ⟨iM, (hw _ (List.mem_of_getElem? (i := 53) rfl))⟩)) (Exa.start v6 k12) (Fld.start (own_fe k13 v6)) SC hz p e ha hc hk s m _ below hf ((Spec.applies_iff_loose hf).mp happ).1 ⟨rfl, State.Warmed39.refl s, rfl⟩ trivial
  refine ⟨n, _, h1, h2, h3, hpost _ _ _ _ _ _ ⟨Cond.after_iff.mpr rfl, Cond.after_iff.mpr (eq_i res_at (Term.int_eval (1)) rfl), trivial⟩ ⟨hq.1, hq.2.1, (hq.2.2.sift fun y hy => Or.inr (N y hy)).mono (by decide) (by decide)⟩⟩
theorem main_1_1 : Claimed_1_1 := comes_1 fun _ _ _ _ _ _ h hF => ⟨h.1, hF⟩
theorem main_1_2 : Claimed_1_2 := comes_1 fun _ _ _ _ _ _ h hF => ⟨h.2.1, hF⟩
end Jvm.Pilot.@@N@@
namespace Jvm.Pilot.@@N@@
open Jvm Jvm.ClassFile Sem Op Lib Jvm.Free Jvm.Stand Jvm.Pilot.@@N@@.Jvm.D
/-! MADE BY PROGRAM (witnessworld.py) out of the Statement's table words and the real class files: 21 classes; the members and pool entries that the words name. The judged class is class 1, her method 1. -/
namespace start1
open Jvm.ClassFile
def u (s : String) : CpInfo := .utf8 (stringToUtf16 s)
/-- a pool by its gaps: so many unusable entries, then the entry; so many at the end -/
def gap : Nat → List CpInfo → List CpInfo
  | 0, r => r
  | n + 1, r => .unusable :: gap n r
def poolList (es : List (Nat × CpInfo)) (last : Nat) : List CpInfo := es.foldr (fun e r => gap e.1 (e.2 :: r)) (gap last [])
def pool (es : List (Nat × CpInfo)) (last : Nat) : Array CpInfo := ⟨poolList es last⟩
def fileOf (pool : Array CpInfo) (this : Nat) (attrs : Array Attribute := #[]) (ms : Array MethodInfo := #[]) (fl : Nat := 33) (sup : Nat := 0) (ifs : Array Nat := #[]) (fds : Array FieldInfo := #[]) : ClassFile where
  minorVersion := 0
  majorVersion := 65
  constantPool := pool
  accessFlags := fl
  thisClass := this
  superClass := sup
  interfaces := ifs
  fields := fds
  methods := ms
  attributes := attrs
def plain (name : String) (sup : Option ClassId) : Class where
  name := name
  kind := .ordinary
  loader := none
  accessFlags := 33
  super := sup
  interfaces := #[]
  cf := none
  fields := #[]
  methods := #[]
  instanceTypes := #[]
  staticTypes := #[]
  resolved := #[]
  callSites := []
  init := .initialized
  statics := none
  mirror := none

def pool0 : Array CpInfo := pool [(5, u "<init>"), (0, u "()V"), (1, .class_ 10), (1, u "java/lang/Object")] 113

def k0c0 : Code := { maxStack := 0, maxLocals := 1, code := object_method_1_code, exceptionTable := #[], attributes := #[] }
def k0m0 : Method := { name := "<init>", desc := "()V", sig := { parameters := [], returnType := none }, accessFlags := 1, code := some k0c0 }
/-- java/lang/Object -/
def k0 : Class := { plain "java/lang/Object" none with
  accessFlags := 33
  interfaces := #[]
  cf := some (fileOf pool0 8 #[] #[{ accessFlags := 1, nameIndex := 5, descriptorIndex := 6, attributes := #[] }] 33 0 #[] #[])
  fields := #[]
  methods := #[k0m0]
  instanceTypes := #[]
  staticTypes := #[]
  resolved := Array.replicate 124 none
  statics := none }

def pool1 : Array CpInfo := pool [(2, .class_ 4), (1, u "java/lang/Object"), (0, u "<init>"), (0, u "()V"), (0, .integer 2147483647), (0, .fieldref 9 10), (0, .class_ 11), (0, .nameAndType 12 13), (0, u "com/example/vestwright/vestwright/plan/WholeFigure"), (0, u "YEARS"), (0, u "Lcom/example/vestwright/vestwright/plan/WholeFigure;"), (0, .fieldref 9 15), (0, .nameAndType 16 13), (0, u "AGE_AND_SERVICE"), (0, .fieldref 9 18), (0, .nameAndType 19 13), (0, u "MONTHS"), (0, .fieldref 9 21), (0, .nameAndType 22 13), (0, u "DAYS"), (0, .integer 43830), (0, .fieldref 9 25), (0, .nameAndType 26 13), (0, u "CALENDAR_YEAR"), (0, .fieldref 9 28), (0, .nameAndType 29 13), (0, u "CALENDAR_MONTH"), (0, .fieldref 9 31), (0, .nameAndType 32 13), (0, u "DECIMALS"), (0, .class_ 34), (0, u "java/lang/String"), (0, .methodref 33 36), (0, .nameAndType 5 37), (0, u "([C)V"), (0, .methodref 9 39), (0, .nameAndType 40 41), (0, u "check"), (0, u "(Ljava/lang/String;II)V"), (0, .class_ 43), (0, u "com/example/vestwright/vestwright/plan/WholeFigureCheckPinLaw"), (2, u "law"), (0, u "(IIII)Z")] 3

def k1m0 : Method := { name := "<init>", desc := "()V", sig := { parameters := [], returnType := none }, accessFlags := 1, code := none }
def k1c1 : Code := { maxStack := 4, maxLocals := 12, code := code, exceptionTable := #[], attributes := #[] }
def k1m1 : Method := { name := "law", desc := "(IIII)Z", sig := { parameters := [.int, .int, .int, .int], returnType := some .boolean }, accessFlags := 9, code := some k1c1 }
/-- com/example/vestwright/vestwright/plan/WholeFigureCheckPinLaw -/
def k1 : Class := { plain "com/example/vestwright/vestwright/plan/WholeFigureCheckPinLaw" (some 0) with
  accessFlags := 49
  interfaces := #[]
  cf := some (fileOf pool1 42 #[] #[{ accessFlags := 1, nameIndex := 5, descriptorIndex := 6, attributes := #[] }, { accessFlags := 9, nameIndex := 46, descriptorIndex := 47, attributes := #[] }] 49 2 #[] #[])
  fields := #[]
  methods := #[k1m0, k1m1]
  instanceTypes := #[]
  staticTypes := #[]
  resolved := Array.replicate 51 none
  statics := none }

def pool2 : Array CpInfo := pool [(1, .class_ 2), (0, u "java/lang/constant/Constable"), (0, .class_ 4), (0, u "java/lang/Object")] 6

/-- java/lang/constant/Constable -/
def k2 : Class := { plain "java/lang/constant/Constable" (some 0) with
  accessFlags := 1537
  interfaces := #[]
  cf := some (fileOf pool2 1 #[] #[] 1537 3 #[] #[])
  fields := #[]
  methods := #[]
  instanceTypes := #[]
  staticTypes := #[]
  resolved := Array.replicate 11 none
  statics := none }

def pool3 : Array CpInfo := pool [(1, .class_ 2), (0, u "java/lang/Comparable"), (0, .class_ 4), (0, u "java/lang/Object")] 7

/-- java/lang/Comparable -/
def k3 : Class := { plain "java/lang/Comparable" (some 0) with
  accessFlags := 1537
  interfaces := #[]
  cf := some (fileOf pool3 1 #[] #[] 1537 3 #[] #[])
  fields := #[]
  methods := #[]
  instanceTypes := #[]
  staticTypes := #[]
  resolved := Array.replicate 12 none
  statics := none }

def pool4 : Array CpInfo := pool [(1, .class_ 2), (0, u "java/io/Serializable"), (0, .class_ 4), (0, u "java/lang/Object")] 2

/-- java/io/Serializable -/
def k4 : Class := { plain "java/io/Serializable" (some 0) with
  accessFlags := 1537
  interfaces := #[]
  cf := some (fileOf pool4 1 #[] #[] 1537 3 #[] #[])
  fields := #[]
  methods := #[]
  instanceTypes := #[]
  staticTypes := #[]
  resolved := Array.replicate 7 none
  statics := none }

def pool5 : Array CpInfo := pool [(2, .class_ 4), (1, u "java/lang/Enum"), (0, u "name"), (0, u "Ljava/lang/String;"), (2, u "ordinal"), (0, u "I"), (1, .class_ 14), (1, u "java/lang/Object"), (4, u "hash"), (86, .class_ 108), (1, u "java/lang/Enum$EnumDesc"), (2, .class_ 112), (0, u "java/lang/constant/Constable"), (0, .class_ 114), (0, u "java/lang/Comparable"), (0, .class_ 116), (0, u "java/io/Serializable")] 87

/-- java/lang/Enum -/
def k5 : Class := { plain "java/lang/Enum" (some 0) with
  accessFlags := 1057
  interfaces := #[2, 3, 4]
  cf := some (fileOf pool5 2 #[.nestMembers #[106]] #[] 1057 12 #[111, 113, 115] #[{ accessFlags := 18, nameIndex := 5, descriptorIndex := 6, attributes := #[] }, { accessFlags := 18, nameIndex := 9, descriptorIndex := 10, attributes := #[] }, { accessFlags := 2, nameIndex := 19, descriptorIndex := 10, attributes := #[] }])
  fields := #[{ name := "name", type := (.object "java/lang/String"), accessFlags := 18, slot := 0, constantValue := 0 }, { name := "ordinal", type := .int, accessFlags := 18, slot := 1, constantValue := 0 }, { name := "hash", type := .int, accessFlags := 2, slot := 2, constantValue := 0 }]
  methods := #[]
  instanceTypes := #[(.object "java/lang/String"), .int, .int]
  staticTypes := #[]
  resolved := Array.replicate 204 none
  statics := none }

def pool6 : Array CpInfo := pool [(1, .class_ 2), (0, u "com/example/vestwright/vestwright/plan/WholeFigure"), (2, u "YEARS"), (0, u "Lcom/example/vestwright/vestwright/plan/WholeFigure;"), (2, u "AGE_AND_SERVICE"), (2, u "MONTHS"), (2, u "DAYS"), (2, u "CALENDAR_YEAR"), (2, u "CALENDAR_MONTH"), (2, u "DECIMALS"), (2, u "$VALUES"), (0, u "[Lcom/example/vestwright/vestwright/plan/WholeFigure;"), (6, .class_ 37), (1, u "java/lang/Enum"), (8, u "least"), (0, u "I"), (0, .fieldref 1 49), (0, .nameAndType 50 47), (0, u "most"), (2, u "check"), (0, u "(Ljava/lang/String;II)V")] 52

def k6c0 : Code := { maxStack := 6, maxLocals := 4, code := prog_35_method_5_code, exceptionTable := #[], attributes := #[] }
def k6m0 : Method := { name := "check", desc := "(Ljava/lang/String;II)V", sig := { parameters := [(.object "java/lang/String"), .int, .int], returnType := none }, accessFlags := 1, code := some k6c0 }
/-- com/example/vestwright/vestwright/plan/WholeFigure -/
def k6 : Class := { plain "com/example/vestwright/vestwright/plan/WholeFigure" (some 5) with
  accessFlags := 16433
  interfaces := #[]
  cf := some (fileOf pool6 1 #[] #[{ accessFlags := 1, nameIndex := 53, descriptorIndex := 54, attributes := #[] }] 16433 35 #[] #[{ accessFlags := 16409, nameIndex := 5, descriptorIndex := 6, attributes := #[] }, { accessFlags := 16409, nameIndex := 9, descriptorIndex := 6, attributes := #[] }, { accessFlags := 16409, nameIndex := 12, descriptorIndex := 6, attributes := #[] }, { accessFlags := 16409, nameIndex := 15, descriptorIndex := 6, attributes := #[] }, { accessFlags := 16409, nameIndex := 18, descriptorIndex := 6, attributes := #[] }, { accessFlags := 16409, nameIndex := 21, descriptorIndex := 6, attributes := #[] }, { accessFlags := 16409, nameIndex := 24, descriptorIndex := 6, attributes := #[] }, { accessFlags := 18, nameIndex := 46, descriptorIndex := 47, attributes := #[] }, { accessFlags := 18, nameIndex := 50, descriptorIndex := 47, attributes := #[] }, { accessFlags := 4122, nameIndex := 27, descriptorIndex := 28, attributes := #[] }])
  fields := #[{ name := "YEARS", type := (.object "com/example/vestwright/vestwright/plan/WholeFigure"), accessFlags := 16409, slot := 0, constantValue := 0 }, { name := "AGE_AND_SERVICE", type := (.object "com/example/vestwright/vestwright/plan/WholeFigure"), accessFlags := 16409, slot := 1, constantValue := 0 }, { name := "MONTHS", type := (.object "com/example/vestwright/vestwright/plan/WholeFigure"), accessFlags := 16409, slot := 2, constantValue := 0 }, { name := "DAYS", type := (.object "com/example/vestwright/vestwright/plan/WholeFigure"), accessFlags := 16409, slot := 3, constantValue := 0 }, { name := "CALENDAR_YEAR", type := (.object "com/example/vestwright/vestwright/plan/WholeFigure"), accessFlags := 16409, slot := 4, constantValue := 0 }, { name := "CALENDAR_MONTH", type := (.object "com/example/vestwright/vestwright/plan/WholeFigure"), accessFlags := 16409, slot := 5, constantValue := 0 }, { name := "DECIMALS", type := (.object "com/example/vestwright/vestwright/plan/WholeFigure"), accessFlags := 16409, slot := 6, constantValue := 0 }, { name := "least", type := .int, accessFlags := 18, slot := 3, constantValue := 0 }, { name := "most", type := .int, accessFlags := 18, slot := 4, constantValue := 0 }, { name := "$VALUES", type := (.array (.object "com/example/vestwright/vestwright/plan/WholeFigure")), accessFlags := 4122, slot := 7, constantValue := 0 }]
  methods := #[k6m0]
  instanceTypes := #[(.object "java/lang/String"), .int, .int, .int, .int]
  staticTypes := #[(.object "com/example/vestwright/vestwright/plan/WholeFigure"), (.object "com/example/vestwright/vestwright/plan/WholeFigure"), (.object "com/example/vestwright/vestwright/plan/WholeFigure"), (.object "com/example/vestwright/vestwright/plan/WholeFigure"), (.object "com/example/vestwright/vestwright/plan/WholeFigure"), (.object "com/example/vestwright/vestwright/plan/WholeFigure"), (.object "com/example/vestwright/vestwright/plan/WholeFigure"), (.array (.object "com/example/vestwright/vestwright/plan/WholeFigure"))]
  resolved := Array.replicate 107 none
  statics := some 0 }

def pool7 : Array CpInfo := pool [(2, .class_ 4), (1, u "java/lang/CharSequence"), (42, .class_ 48), (0, u "java/lang/CharSequence$1CodePointIterator"), (10, .class_ 60), (0, u "java/lang/CharSequence$1CharIterator"), (5, .class_ 67), (0, u "java/lang/Object")] 63

/-- java/lang/CharSequence -/
def k7 : Class := { plain "java/lang/CharSequence" (some 0) with
  accessFlags := 1537
  interfaces := #[]
  cf := some (fileOf pool7 2 #[.nestMembers #[47, 59]] #[] 1537 66 #[] #[])
  fields := #[]
  methods := #[]
  instanceTypes := #[]
  staticTypes := #[]
  resolved := Array.replicate 131 none
  statics := none }

def pool8 : Array CpInfo := pool [(1, .class_ 2), (0, u "java/lang/constant/ConstantDesc"), (0, .class_ 4), (0, u "java/lang/Object")] 32

/-- java/lang/constant/ConstantDesc -/
def k8 : Class := { plain "java/lang/constant/ConstantDesc" (some 0) with
  accessFlags := 1537
  interfaces := #[]
  cf := some (fileOf pool8 1 #[] #[] 1537 3 #[] #[])
  fields := #[]
  methods := #[]
  instanceTypes := #[]
  staticTypes := #[]
  resolved := Array.replicate 37 none
  statics := none }

def pool9 : Array CpInfo := pool [(1, .methodref 2 3), (0, .class_ 4), (0, .nameAndType 5 6), (0, u "java/lang/Object"), (0, u "<init>"), (0, u "()V"), (2, .fieldref 10 11), (0, .class_ 12), (0, .nameAndType 13 14), (0, u "java/lang/String"), (0, u "value"), (0, u "[B"), (0, .fieldref 10 16), (0, .nameAndType 17 18), (0, u "coder"), (0, u "B"), (2, u "hash"), (0, u "I"), (2, u "hashIsZero"), (0, u "Z"), (0, .methodref 10 28), (0, .nameAndType 5 29), (0, u "([CIILjava/lang/Void;)V"), (8, .fieldref 10 39), (0, .nameAndType 40 26), (0, u "COMPACT_STRINGS"), (1, .class_ 44), (1, u "java/lang/StringUTF16"), (0, u "compress"), (1, .methodref 42 48), (0, .nameAndType 49 50), (0, u "coderFromArrayLen"), (0, u "([BI)B"), (126, .methodref 42 178), (0, .nameAndType 45 179), (0, u "([CII)[B"), (395, .class_ 576), (0, u "java/lang/CharSequence"), (22, u "CASE_INSENSITIVE_ORDER"), (0, u "Ljava/util/Comparator;"), (409, u "([C)V"), (90, u "serialPersistentFields"), (0, u "[Ljava/io/ObjectStreamField;"), (0, .class_ 1104), (0, u "java/lang/String$CaseInsensitiveComparator"), (1, .class_ 1107), (0, u "java/io/Serializable"), (0, .class_ 1109), (0, u "java/lang/Comparable"), (0, .class_ 1111), (0, u "java/lang/constant/Constable"), (0, .class_ 1113), (0, u "java/lang/constant/ConstantDesc"), (2, u "serialVersionUID"), (0, u "J"), (3, u "REPL"), (0, u "C"), (2, u "LATIN1"), (1, u "UTF16")] 323

def k9m0 : Method := { name := "<init>", desc := "()V", sig := { parameters := [], returnType := none }, accessFlags := 1, code := none }
def k9c1 : Code := { maxStack := 5, maxLocals := 2, code := jdk_42_method_3_code, exceptionTable := #[], attributes := #[] }
def k9m1 : Method := { name := "<init>", desc := "([C)V", sig := { parameters := [(.array .char)], returnType := none }, accessFlags := 1, code := some k9c1 }
def k9c2 : Code := { maxStack := 4, maxLocals := 6, code := jdk_42_method_149_code, exceptionTable := #[], attributes := #[] }
def k9m2 : Method := { name := "<init>", desc := "([CIILjava/lang/Void;)V", sig := { parameters := [(.array .char), .int, .int, (.object "java/lang/Void")], returnType := none }, accessFlags := 2, code := some k9c2 }
/-- java/lang/String -/
def k9 : Class := { plain "java/lang/String" (some 0) with
  accessFlags := 49
  interfaces := #[4, 3, 7, 2, 8]
  cf := some (fileOf pool9 10 #[.nestMembers #[1103]] #[{ accessFlags := 1, nameIndex := 5, descriptorIndex := 6, attributes := #[] }, { accessFlags := 1, nameIndex := 5, descriptorIndex := 1010, attributes := #[] }, { accessFlags := 2, nameIndex := 5, descriptorIndex := 29, attributes := #[] }] 49 2 #[1106, 1108, 575, 1110, 1112] #[{ accessFlags := 18, nameIndex := 13, descriptorIndex := 14, attributes := #[] }, { accessFlags := 18, nameIndex := 17, descriptorIndex := 18, attributes := #[] }, { accessFlags := 2, nameIndex := 21, descriptorIndex := 22, attributes := #[] }, { accessFlags := 2, nameIndex := 25, descriptorIndex := 26, attributes := #[] }, { accessFlags := 26, nameIndex := 1116, descriptorIndex := 1117, attributes := #[] }, { accessFlags := 24, nameIndex := 40, descriptorIndex := 26, attributes := #[] }, { accessFlags := 26, nameIndex := 1101, descriptorIndex := 1102, attributes := #[] }, { accessFlags := 26, nameIndex := 1121, descriptorIndex := 1122, attributes := #[] }, { accessFlags := 25, nameIndex := 599, descriptorIndex := 600, attributes := #[] }, { accessFlags := 24, nameIndex := 1125, descriptorIndex := 18, attributes := #[] }, { accessFlags := 24, nameIndex := 1127, descriptorIndex := 18, attributes := #[] }])
  fields := #[{ name := "value", type := (.array .byte), accessFlags := 18, slot := 0, constantValue := 0 }, { name := "coder", type := .byte, accessFlags := 18, slot := 1, constantValue := 0 }, { name := "hash", type := .int, accessFlags := 2, slot := 2, constantValue := 0 }, { name := "hashIsZero", type := .boolean, accessFlags := 2, slot := 3, constantValue := 0 }, { name := "serialVersionUID", type := .long, accessFlags := 26, slot := 0, constantValue := 0 }, { name := "COMPACT_STRINGS", type := .boolean, accessFlags := 24, slot := 1, constantValue := 0 }, { name := "serialPersistentFields", type := (.array (.object "java/io/ObjectStreamField")), accessFlags := 26, slot := 2, constantValue := 0 }, { name := "REPL", type := .char, accessFlags := 26, slot := 3, constantValue := 0 }, { name := "CASE_INSENSITIVE_ORDER", type := (.object "java/util/Comparator"), accessFlags := 25, slot := 4, constantValue := 0 }, { name := "LATIN1", type := .byte, accessFlags := 24, slot := 5, constantValue := 0 }, { name := "UTF16", type := .byte, accessFlags := 24, slot := 6, constantValue := 0 }]
  methods := #[k9m0, k9m1, k9m2]
  instanceTypes := #[(.array .byte), .byte, .int, .boolean]
  staticTypes := #[.long, .boolean, (.array (.object "java/io/ObjectStreamField")), .char, (.object "java/util/Comparator"), .byte, .byte]
  resolved := Array.replicate 1451 none
  statics := some 1 }

def pool10 : Array CpInfo := pool [(6, .class_ 8), (1, u "java/lang/Object"), (0, u "<init>"), (0, u "()V"), (1, .class_ 14), (1, u "java/lang/StringUTF16"), (31, u "$assertionsDisabled"), (0, u "Z"), (13, u "HI_BYTE_SHIFT"), (0, u "I"), (2, u "LO_BYTE_SHIFT"), (49, .methodref 12 116), (0, .nameAndType 117 118), (0, u "compress"), (0, u "([CI[BII)I"), (3, u "([CII)[B"), (138, u "coderFromArrayLen"), (0, u "([BI)B"), (106, .class_ 371), (1, u "java/lang/StringUTF16$LinesSpliterator"), (58, u "MAX_LENGTH"), (196, .class_ 628), (0, u "java/lang/StringUTF16$CodePointsSpliterator"), (0, .class_ 630), (0, u "java/lang/StringUTF16$CharsSpliterator")] 4

def k10m0 : Method := { name := "<init>", desc := "()V", sig := { parameters := [], returnType := none }, accessFlags := 0, code := none }
def k10c1 : Code := { maxStack := 2, maxLocals := 2, code := jdk_52_method_15_code, exceptionTable := #[], attributes := #[] }
def k10m1 : Method := { name := "coderFromArrayLen", desc := "([BI)B", sig := { parameters := [(.array .byte), .int], returnType := some .byte }, accessFlags := 8, code := some k10c1 }
def k10c2 : Code := { maxStack := 5, maxLocals := 6, code := jdk_52_method_16_code, exceptionTable := #[], attributes := #[] }
def k10m2 : Method := { name := "compress", desc := "([CII)[B", sig := { parameters := [(.array .char), .int, .int], returnType := some (.array .byte) }, accessFlags := 9, code := some k10c2 }
def k10c3 : Code := { maxStack := 3, maxLocals := 7, code := jdk_52_method_21_code, exceptionTable := #[], attributes := #[] }
def k10m3 : Method := { name := "compress", desc := "([CI[BII)I", sig := { parameters := [(.array .char), .int, (.array .byte), .int, .int], returnType := some .int }, accessFlags := 9, code := some k10c3 }
/-- java/lang/StringUTF16 -/
def k10 : Class := { plain "java/lang/StringUTF16" (some 0) with
  accessFlags := 48
  interfaces := #[]
  cf := some (fileOf pool10 12 #[.nestMembers #[627, 629, 369]] #[{ accessFlags := 0, nameIndex := 9, descriptorIndex := 10, attributes := #[] }, { accessFlags := 8, nameIndex := 261, descriptorIndex := 262, attributes := #[] }, { accessFlags := 9, nameIndex := 117, descriptorIndex := 122, attributes := #[] }, { accessFlags := 9, nameIndex := 117, descriptorIndex := 118, attributes := #[] }] 48 6 #[] #[{ accessFlags := 26, nameIndex := 61, descriptorIndex := 62, attributes := #[] }, { accessFlags := 26, nameIndex := 65, descriptorIndex := 62, attributes := #[] }, { accessFlags := 24, nameIndex := 430, descriptorIndex := 62, attributes := #[] }, { accessFlags := 4120, nameIndex := 46, descriptorIndex := 47, attributes := #[] }])
  fields := #[{ name := "HI_BYTE_SHIFT", type := .int, accessFlags := 26, slot := 0, constantValue := 0 }, { name := "LO_BYTE_SHIFT", type := .int, accessFlags := 26, slot := 1, constantValue := 0 }, { name := "MAX_LENGTH", type := .int, accessFlags := 24, slot := 2, constantValue := 0 }, { name := "$assertionsDisabled", type := .boolean, accessFlags := 4120, slot := 3, constantValue := 0 }]
  methods := #[k10m0, k10m1, k10m2, k10m3]
  instanceTypes := #[]
  staticTypes := #[.int, .int, .int, .boolean]
  resolved := Array.replicate 635 none
  statics := none }

def pool11 : Array CpInfo := pool [(4, .class_ 6), (1, u "java/lang/Object"), (0, u "<init>"), (0, u "()V"), (5, .class_ 16), (1, u "java/lang/StringLatin1"), (104, u "$assertionsDisabled"), (0, u "Z"), (98, .class_ 223), (1, u "java/lang/StringLatin1$LinesSpliterator"), (166, .class_ 391), (0, u "java/lang/StringLatin1$CharsSpliterator")] 3

def k11m0 : Method := { name := "<init>", desc := "()V", sig := { parameters := [], returnType := none }, accessFlags := 0, code := none }
/-- java/lang/StringLatin1 -/
def k11 : Class := { plain "java/lang/StringLatin1" (some 0) with
  accessFlags := 48
  interfaces := #[]
  cf := some (fileOf pool11 14 #[.nestMembers #[390, 221]] #[{ accessFlags := 0, nameIndex := 7, descriptorIndex := 8, attributes := #[] }] 48 4 #[] #[{ accessFlags := 4120, nameIndex := 121, descriptorIndex := 122, attributes := #[] }])
  fields := #[{ name := "$assertionsDisabled", type := .boolean, accessFlags := 4120, slot := 0, constantValue := 0 }]
  methods := #[k11m0]
  instanceTypes := #[]
  staticTypes := #[.boolean]
  resolved := Array.replicate 395 none
  statics := none }

def pool12 : Array CpInfo := pool [(2, .class_ 4), (1, u "java/lang/Object"), (0, u "<init>"), (0, u "()V"), (17, .class_ 26), (1, u "jdk/internal/util/Preconditions"), (28, .class_ 56), (0, u "jdk/internal/util/Preconditions$4"), (57, .class_ 115), (0, u "jdk/internal/util/Preconditions$1"), (7, u "SIOOBE_FORMATTER"), (0, u "Ljava/util/function/BiFunction;"), (0, .class_ 126), (0, u "jdk/internal/util/Preconditions$2"), (3, u "AIOOBE_FORMATTER"), (0, .class_ 132), (0, u "jdk/internal/util/Preconditions$3"), (3, u "IOOBE_FORMATTER")] 57

def k12m0 : Method := { name := "<init>", desc := "()V", sig := { parameters := [], returnType := none }, accessFlags := 1, code := none }
/-- jdk/internal/util/Preconditions -/
def k12 : Class := { plain "jdk/internal/util/Preconditions" (some 0) with
  accessFlags := 33
  interfaces := #[]
  cf := some (fileOf pool12 24 #[.nestMembers #[55, 131, 125, 114]] #[{ accessFlags := 1, nameIndex := 5, descriptorIndex := 6, attributes := #[] }] 33 2 #[] #[{ accessFlags := 25, nameIndex := 123, descriptorIndex := 124, attributes := #[] }, { accessFlags := 25, nameIndex := 130, descriptorIndex := 124, attributes := #[] }, { accessFlags := 25, nameIndex := 136, descriptorIndex := 124, attributes := #[] }])
  fields := #[{ name := "SIOOBE_FORMATTER", type := (.object "java/util/function/BiFunction"), accessFlags := 25, slot := 0, constantValue := 0 }, { name := "AIOOBE_FORMATTER", type := (.object "java/util/function/BiFunction"), accessFlags := 25, slot := 1, constantValue := 0 }, { name := "IOOBE_FORMATTER", type := (.object "java/util/function/BiFunction"), accessFlags := 25, slot := 2, constantValue := 0 }]
  methods := #[k12m0]
  instanceTypes := #[]
  staticTypes := #[(.object "java/util/function/BiFunction"), (.object "java/util/function/BiFunction"), (.object "java/util/function/BiFunction")]
  resolved := Array.replicate 194 none
  statics := some 2 }

def pool13 : Array CpInfo := pool [(9, u "<init>"), (6, .class_ 18), (1, u "java/lang/Object"), (0, u "()V"), (1, .class_ 23), (1, u "jdk/internal/util/ArraysSupport"), (0, u "LOG2_ARRAY_LONG_INDEX_SCALE"), (0, u "I"), (2, u "U"), (0, u "Ljdk/internal/misc/Unsafe;"), (8, u "BIG_ENDIAN"), (0, u "Z"), (8, u "LOG2_BYTE_BIT_SIZE"), (4, u "LOG2_ARRAY_INT_INDEX_SCALE"), (54, u "JLA"), (0, u "Ljdk/internal/access/JavaLangAccess;"), (11, u "LOG2_ARRAY_BOOLEAN_INDEX_SCALE"), (9, u "LOG2_ARRAY_BYTE_INDEX_SCALE"), (5, u "LOG2_ARRAY_CHAR_INDEX_SCALE"), (5, u "LOG2_ARRAY_SHORT_INDEX_SCALE"), (18, u "LOG2_ARRAY_FLOAT_INDEX_SCALE"), (24, u "LOG2_ARRAY_DOUBLE_INDEX_SCALE"), (89, u "T_BOOLEAN"), (2, u "T_CHAR"), (1, u "T_FLOAT"), (1, u "T_DOUBLE"), (1, u "T_BYTE"), (1, u "T_SHORT"), (1, u "T_INT"), (1, u "T_LONG"), (1, u "SOFT_MAX_ARRAY_LENGTH")] 83

def k13m0 : Method := { name := "<init>", desc := "()V", sig := { parameters := [], returnType := none }, accessFlags := 2, code := none }
/-- jdk/internal/util/ArraysSupport -/
def k13 : Class := { plain "jdk/internal/util/ArraysSupport" (some 0) with
  accessFlags := 33
  interfaces := #[]
  cf := some (fileOf pool13 21 #[] #[{ accessFlags := 2, nameIndex := 9, descriptorIndex := 19, attributes := #[] }] 33 16 #[] #[{ accessFlags := 24, nameIndex := 28, descriptorIndex := 29, attributes := #[] }, { accessFlags := 26, nameIndex := 38, descriptorIndex := 39, attributes := #[] }, { accessFlags := 25, nameIndex := 121, descriptorIndex := 25, attributes := #[] }, { accessFlags := 25, nameIndex := 131, descriptorIndex := 25, attributes := #[] }, { accessFlags := 25, nameIndex := 137, descriptorIndex := 25, attributes := #[] }, { accessFlags := 25, nameIndex := 143, descriptorIndex := 25, attributes := #[] }, { accessFlags := 25, nameIndex := 53, descriptorIndex := 25, attributes := #[] }, { accessFlags := 25, nameIndex := 24, descriptorIndex := 25, attributes := #[] }, { accessFlags := 25, nameIndex := 162, descriptorIndex := 25, attributes := #[] }, { accessFlags := 25, nameIndex := 187, descriptorIndex := 25, attributes := #[] }, { accessFlags := 26, nameIndex := 48, descriptorIndex := 25, attributes := #[] }, { accessFlags := 25, nameIndex := 277, descriptorIndex := 25, attributes := #[] }, { accessFlags := 25, nameIndex := 280, descriptorIndex := 25, attributes := #[] }, { accessFlags := 25, nameIndex := 282, descriptorIndex := 25, attributes := #[] }, { accessFlags := 25, nameIndex := 284, descriptorIndex := 25, attributes := #[] }, { accessFlags := 25, nameIndex := 286, descriptorIndex := 25, attributes := #[] }, { accessFlags := 25, nameIndex := 288, descriptorIndex := 25, attributes := #[] }, { accessFlags := 25, nameIndex := 290, descriptorIndex := 25, attributes := #[] }, { accessFlags := 25, nameIndex := 292, descriptorIndex := 25, attributes := #[] }, { accessFlags := 26, nameIndex := 108, descriptorIndex := 109, attributes := #[] }, { accessFlags := 25, nameIndex := 294, descriptorIndex := 25, attributes := #[] }])
  fields := #[{ name := "U", type := (.object "jdk/internal/misc/Unsafe"), accessFlags := 24, slot := 0, constantValue := 0 }, { name := "BIG_ENDIAN", type := .boolean, accessFlags := 26, slot := 1, constantValue := 0 }, { name := "LOG2_ARRAY_BOOLEAN_INDEX_SCALE", type := .int, accessFlags := 25, slot := 2, constantValue := 0 }, { name := "LOG2_ARRAY_BYTE_INDEX_SCALE", type := .int, accessFlags := 25, slot := 3, constantValue := 0 }, { name := "LOG2_ARRAY_CHAR_INDEX_SCALE", type := .int, accessFlags := 25, slot := 4, constantValue := 0 }, { name := "LOG2_ARRAY_SHORT_INDEX_SCALE", type := .int, accessFlags := 25, slot := 5, constantValue := 0 }, { name := "LOG2_ARRAY_INT_INDEX_SCALE", type := .int, accessFlags := 25, slot := 6, constantValue := 0 }, { name := "LOG2_ARRAY_LONG_INDEX_SCALE", type := .int, accessFlags := 25, slot := 7, constantValue := 0 }, { name := "LOG2_ARRAY_FLOAT_INDEX_SCALE", type := .int, accessFlags := 25, slot := 8, constantValue := 0 }, { name := "LOG2_ARRAY_DOUBLE_INDEX_SCALE", type := .int, accessFlags := 25, slot := 9, constantValue := 0 }, { name := "LOG2_BYTE_BIT_SIZE", type := .int, accessFlags := 26, slot := 10, constantValue := 0 }, { name := "T_BOOLEAN", type := .int, accessFlags := 25, slot := 11, constantValue := 0 }, { name := "T_CHAR", type := .int, accessFlags := 25, slot := 12, constantValue := 0 }, { name := "T_FLOAT", type := .int, accessFlags := 25, slot := 13, constantValue := 0 }, { name := "T_DOUBLE", type := .int, accessFlags := 25, slot := 14, constantValue := 0 }, { name := "T_BYTE", type := .int, accessFlags := 25, slot := 15, constantValue := 0 }, { name := "T_SHORT", type := .int, accessFlags := 25, slot := 16, constantValue := 0 }, { name := "T_INT", type := .int, accessFlags := 25, slot := 17, constantValue := 0 }, { name := "T_LONG", type := .int, accessFlags := 25, slot := 18, constantValue := 0 }, { name := "JLA", type := (.object "jdk/internal/access/JavaLangAccess"), accessFlags := 26, slot := 19, constantValue := 0 }, { name := "SOFT_MAX_ARRAY_LENGTH", type := .int, accessFlags := 25, slot := 20, constantValue := 0 }]
  methods := #[k13m0]
  instanceTypes := #[]
  staticTypes := #[(.object "jdk/internal/misc/Unsafe"), .boolean, .int, .int, .int, .int, .int, .int, .int, .int, .int, .int, .int, .int, .int, .int, .int, .int, .int, (.object "jdk/internal/access/JavaLangAccess"), .int]
  resolved := Array.replicate 378 none
  statics := none }

def pool14 : Array CpInfo := pool [(1, u "java/lang/Cloneable"), (0, .class_ 1), (0, u "java/lang/Object"), (0, .class_ 3)] 3

/-- java/lang/Cloneable -/
def k14 : Class := { plain "java/lang/Cloneable" (some 0) with
  accessFlags := 1537
  interfaces := #[]
  cf := some (fileOf pool14 2 #[] #[] 1537 4 #[] #[])
  fields := #[]
  methods := #[]
  instanceTypes := #[]
  staticTypes := #[]
  resolved := Array.replicate 8 none
  statics := none }

/-- the primitive byte -/
def k15 : Class := { plain "byte" none with kind := .primitive 'B', accessFlags := 0x411 }
/-- [B -/
def k16 : Class := { plain "[B" (some 0) with kind := .array 15 .byte, interfaces := #[14, 4], accessFlags := 1041 }

/-- the primitive char -/
def k17 : Class := { plain "char" none with kind := .primitive 'C', accessFlags := 0x411 }
/-- [C -/
def k18 : Class := { plain "[C" (some 0) with kind := .array 17 .char, interfaces := #[14, 4], accessFlags := 1041 }

/-- the primitive int -/
def k19 : Class := { plain "int" none with kind := .primitive 'I', accessFlags := 0x411 }
/-- [I -/
def k20 : Class := { plain "[I" (some 0) with kind := .array 19 .int, interfaces := #[14, 4], accessFlags := 1041 }

def heap : Heap := #[{ cls := 6, slots := #[.ref 3, .ref 4, .ref 5, .ref 6, .ref 7, .ref 8, .ref 9, .null], vm := .statics 6 },
  { cls := 9, slots := #[.long 0, .int 1, .null, .int 0, .null, .int 0, .int 0], vm := .statics 9 },
  { cls := 12, slots := #[.null, .null, .null], vm := .statics 12 },
  { cls := 6, slots := #[.null, .int 0, .int 0, .int 0, .int 120], vm := .none },
  { cls := 6, slots := #[.null, .int 1, .int 0, .int 0, .int 240], vm := .none },
  { cls := 6, slots := #[.null, .int 2, .int 0, .int 0, .int 1440], vm := .none },
  { cls := 6, slots := #[.null, .int 3, .int 0, .int 0, .int 43830], vm := .none },
  { cls := 6, slots := #[.null, .int 4, .int 0, .int 1900, .int 9999], vm := .none },
  { cls := 6, slots := #[.null, .int 5, .int 0, .int 1, .int 12], vm := .none },
  { cls := 6, slots := #[.null, .int 6, .int 0, .int 0, .int 10], vm := .none }]
def classes : Array Class := #[k0, k1, k2, k3, k4, k5, k6, k7, k8, k9, k10, k11, k12, k13, k14, k15, k16, k17, k18, k19, k20]
def interned : List (Array UInt16 × Addr) := []
def slotsUsed : Nat := 53
def theMethod : MethodId := ⟨1, 1⟩
def args0 : Array Value := #[.int 5, .int 5, .int 5, .int 5]
def aboutOver (below : List Frame) : State where
  vm := { classes := classes, interned := interned.toArray }
  heap := heap
  slotsUsed := slotsUsed
  threads := #[{ frames := .invoking theMethod args0 :: below }]
def below0 : List Frame := [.native { method := ⟨0, 0⟩, args := #[] }]
def about1 : State := aboutOver below0
def p0 : Program := .bare "" "" ""
def e0 : Env := launch0.env 0 0 0
theorem w_frames : about1.frames = Frame.invoking theMethod args0 :: below0 := rfl
set_option maxRecDepth 65536 in
theorem w_args : argsFit about1.vm theMethod args0 = true := by decide +kernel
set_option maxRecDepth 65536 in
theorem w_heap : heapFits about1 = true := by decide +kernel
set_option maxRecDepth 65536 in
theorem w_runnable : about1.curStatus? = some .runnable := by decide +kernel
set_option maxRecDepth 65536 in
theorem w_alone : about1.alone = true := by decide +kernel
set_option maxRecDepth 65536 in
theorem w_named : about1.methodNamed? x = some theMethod := by decide +kernel
set_option maxRecDepth 65536 in
theorem w_hears : about1.hears theMethod below0 = true := by decide +kernel
set_option maxRecDepth 65536 in
theorem w_ripe : about1.ripe theMethod args0 below0 = true := by decide +kernel
theorem w_running : about1.status = .running := rfl
set_option maxRecDepth 65536 in
theorem w_room : about1.hasRoom e0.platform room_1 = true :=
  launch0.hasRoom_least _ room_1 (by decide +kernel) (by decide +kernel) (by decide +kernel) (by decide +kernel) (by decide +kernel) (by decide +kernel)
theorem allAtoms_all (ts : List Jvm.Cond) (a : Array Jvm.Value) (st : Jvm.State) : (allAtoms ts).before a st = ts.all (fun c => c.before a st) := by
  induction ts with
  | nil => rfl
  | cons c t ih =>
    show (Jvm.Cond.and c (allAtoms t)).before a st = _
    rw [Jvm.Cond.before_and, ih, List.all_cons]
def words1 : List Jvm.Cond := Jvm.Cond.code x code maxLocals ret :: tables_1
/-- a 'code' word, met by the world's own term for the bytes: nothing is compared byte by byte -/
theorem code_word {y : MethodName} {bytes : ByteArray} {mx : Nat} {rt : Option FieldType} {a : Array Value} {s : State} {m : MethodId} {meth : Method} {c : Code} (h1 : s.methodNamed? y = some m) (h2 : s.vm.method? m = some meth) (h3 : meth.code = some c) (h4 : c.code = bytes)
    (h5 : (c.maxLocals == mx && c.exceptionTable.isEmpty && decide (c.maxStack ≤ mostOperands) && decide (meth.sig.returnType = rt) && !meth.locks && decide (parseMethodDescriptor y.desc = some meth.sig)) = true) : (Jvm.Cond.code y bytes mx rt).before a s = true := by
  simp only [Bool.and_eq_true, beq_iff_eq, Bool.not_eq_true', decide_eq_true_eq] at h5
  obtain ⟨⟨⟨⟨⟨g1, g2⟩, g3⟩, g4⟩, g5⟩, g6⟩ := h5
  simp [Cond.before, Cond.holds, Cond.value, h1, h2, h3, h4, g1, g2, g3, g4, g5, g6]
def isCode : Jvm.Cond → Bool
  | .code _ _ _ _ => true
  | _ => false
theorem all_split {L : List Jvm.Cond} {P : Jvm.Cond → Bool} (h1 : L.all (fun c => isCode c || P c) = true) (h2 : ∀ c ∈ L.filter isCode, P c = true) : L.all P = true := by
  refine List.all_eq_true.mpr fun c hc => ?_
  have h := List.all_eq_true.mp h1 c hc
  rcases Bool.eq_false_or_eq_true (isCode c) with hi | hi
  · exact h2 c (List.mem_filter.mpr ⟨hc, hi⟩)
  · simpa [hi] using h
set_option maxRecDepth 65536 in
theorem w_c0 : (Jvm.Cond.code x code maxLocals ret).before args0 about1 = true := code_word (m := ⟨1, 1⟩) (meth := k1m1) (c := k1c1) (by decide +kernel) rfl rfl rfl (by decide +kernel)
set_option maxRecDepth 65536 in
theorem w_c1 : (Jvm.Cond.code ({ cls := "java/lang/String", name := "<init>", desc := "([C)V" } : Jvm.MethodName) jdk_42_method_3_code (2 : Nat) (Option.none : Option Jvm.ClassFile.FieldType)).before args0 about1 = true := code_word (m := ⟨9, 1⟩) (meth := k9m1) (c := k9c1) (by decide +kernel) rfl rfl rfl (by decide +kernel)
set_option maxRecDepth 65536 in
theorem w_c2 : (Jvm.Cond.code ({ cls := "java/lang/String", name := "<init>", desc := "([CIILjava/lang/Void;)V" } : Jvm.MethodName) jdk_42_method_149_code (6 : Nat) (Option.none : Option Jvm.ClassFile.FieldType)).before args0 about1 = true := code_word (m := ⟨9, 2⟩) (meth := k9m2) (c := k9c2) (by decide +kernel) rfl rfl rfl (by decide +kernel)
set_option maxRecDepth 65536 in
theorem w_c3 : (Jvm.Cond.code ({ cls := "java/lang/Object", name := "<init>", desc := "()V" } : Jvm.MethodName) object_method_1_code (1 : Nat) (Option.none : Option Jvm.ClassFile.FieldType)).before args0 about1 = true := code_word (m := ⟨0, 0⟩) (meth := k0m0) (c := k0c0) (by decide +kernel) rfl rfl rfl (by decide +kernel)
set_option maxRecDepth 65536 in
theorem w_c4 : (Jvm.Cond.code ({ cls := "java/lang/StringUTF16", name := "compress", desc := "([CII)[B" } : Jvm.MethodName) jdk_52_method_16_code (6 : Nat) (Option.some (Jvm.ClassFile.FieldType.array Jvm.ClassFile.FieldType.byte))).before args0 about1 = true := code_word (m := ⟨10, 2⟩) (meth := k10m2) (c := k10c2) (by decide +kernel) rfl rfl rfl (by decide +kernel)
set_option maxRecDepth 65536 in
theorem w_c5 : (Jvm.Cond.code ({ cls := "java/lang/StringUTF16", name := "compress", desc := "([CI[BII)I" } : Jvm.MethodName) jdk_52_method_21_code (7 : Nat) (Option.some Jvm.ClassFile.FieldType.int)).before args0 about1 = true := code_word (m := ⟨10, 3⟩) (meth := k10m3) (c := k10c3) (by decide +kernel) rfl rfl rfl (by decide +kernel)
set_option maxRecDepth 65536 in
theorem w_c6 : (Jvm.Cond.code ({ cls := "java/lang/StringUTF16", name := "coderFromArrayLen", desc := "([BI)B" } : Jvm.MethodName) jdk_52_method_15_code (2 : Nat) (Option.some Jvm.ClassFile.FieldType.byte)).before args0 about1 = true := code_word (m := ⟨10, 1⟩) (meth := k10m1) (c := k10c1) (by decide +kernel) rfl rfl rfl (by decide +kernel)
set_option maxRecDepth 65536 in
theorem w_c7 : (Jvm.Cond.code ({ cls := "com/example/vestwright/vestwright/plan/WholeFigure", name := "check", desc := "(Ljava/lang/String;II)V" } : Jvm.MethodName) prog_35_method_5_code (4 : Nat) (Option.none : Option Jvm.ClassFile.FieldType)).before args0 about1 = true := code_word (m := ⟨6, 0⟩) (meth := k6m0) (c := k6c0) (by decide +kernel) rfl rfl rfl (by decide +kernel)
def codes1 : List Jvm.Cond := [Jvm.Cond.code x code maxLocals ret, Jvm.Cond.code ({ cls := "java/lang/String", name := "<init>", desc := "([C)V" } : Jvm.MethodName) jdk_42_method_3_code (2 : Nat) (Option.none : Option Jvm.ClassFile.FieldType), Jvm.Cond.code ({ cls := "java/lang/String", name := "<init>", desc := "([CIILjava/lang/Void;)V" } : Jvm.MethodName) jdk_42_method_149_code (6 : Nat) (Option.none : Option Jvm.ClassFile.FieldType), Jvm.Cond.code ({ cls := "java/lang/Object", name := "<init>", desc := "()V" } : Jvm.MethodName) object_method_1_code (1 : Nat) (Option.none : Option Jvm.ClassFile.FieldType), Jvm.Cond.code ({ cls := "java/lang/StringUTF16", name := "compress", desc := "([CII)[B" } : Jvm.MethodName) jdk_52_method_16_code (6 : Nat) (Option.some (Jvm.ClassFile.FieldType.array Jvm.ClassFile.FieldType.byte)), Jvm.Cond.code ({ cls := "java/lang/StringUTF16", name := "compress", desc := "([CI[BII)I" } : Jvm.MethodName) jdk_52_method_21_code (7 : Nat) (Option.some Jvm.ClassFile.FieldType.int), Jvm.Cond.code ({ cls := "java/lang/StringUTF16", name := "coderFromArrayLen", desc := "([BI)B" } : Jvm.MethodName) jdk_52_method_15_code (2 : Nat) (Option.some Jvm.ClassFile.FieldType.byte), Jvm.Cond.code ({ cls := "com/example/vestwright/vestwright/plan/WholeFigure", name := "check", desc := "(Ljava/lang/String;II)V" } : Jvm.MethodName) prog_35_method_5_code (4 : Nat) (Option.none : Option Jvm.ClassFile.FieldType)]
set_option maxRecDepth 65536 in
theorem codes_eq : words1.filter isCode = codes1 := rfl
theorem w_codes : ∀ c ∈ words1.filter isCode, c.before args0 about1 = true := by
  rw [codes_eq]
  intro c hc
  simp only [codes1, List.mem_cons, List.not_mem_nil, or_false] at hc
  rcases hc with rfl | rfl | rfl | rfl | rfl | rfl | rfl | rfl
  · exact w_c0
  · exact w_c1
  · exact w_c2
  · exact w_c3
  · exact w_c4
  · exact w_c5
  · exact w_c6
  · exact w_c7
set_option maxRecDepth 65536 in
theorem w_t1 : (words1.take 24).all (fun c => isCode c || c.before args0 about1) = true := by decide +kernel
set_option maxRecDepth 65536 in
theorem w_t2 : ((words1.drop 24).take 24).all (fun c => isCode c || c.before args0 about1) = true := by decide +kernel
set_option maxRecDepth 65536 in
theorem w_t3 : ((words1.drop 24).drop 24).all (fun c => isCode c || c.before args0 about1) = true := by decide +kernel
theorem w_tables : (allAtoms (Jvm.Cond.code x code maxLocals ret :: tables_1)).before args0 about1 = true := by
  rw [allAtoms_all]
  show words1.all (fun c => c.before args0 about1) = true
  refine all_split ?_ w_codes
  rw [← List.take_append_drop 24 words1, List.all_append, w_t1, ← List.take_append_drop 24 (words1.drop 24), List.all_append, w_t2, w_t3]
  rfl
set_option maxRecDepth 65536 in
theorem w_rest : rest_1_c.before args0 about1 = true := by decide +kernel
set_option maxRecDepth 65536 in
theorem w_case : (Jvm.Cond.and given_1 narrow_1).before args0 about1 = true := by decide +kernel
theorem w_applies : (headSpec (Jvm.Cond.code x code maxLocals ret :: tables_1) room_1).applies x e0.platform about1 = true :=
  (Spec.applies_iff w_frames).mpr ⟨w_running, w_runnable, w_alone, w_named, w_hears, w_ripe, w_room, w_tables⟩
theorem atStart : AtStart classFile x code maxLocals ret World_1 tables_1 room_1 Calls_1 rest_1 Pre_1 launch0 p0 e0 about1 theMethod args0 below0 :=
  ⟨lists_1, trivial, launch0.admits_env _ _ _, launch0.least_env, fairChoices_fair.cas, fairChoices_fair.clock, w_frames, w_args, w_heap, w_applies, trivial, w_rest, w_case⟩
end start1
theorem witness_1 : WitnessClaimed_1 := ⟨start1.p0, start1.e0, start1.about1, start1.theMethod, start1.args0, start1.below0, start1.atStart⟩
end Jvm.Pilot.@@N@@
