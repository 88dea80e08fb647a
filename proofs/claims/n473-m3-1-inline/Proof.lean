import JvmDerived
import JvmDerived.Pilot.@@N@@Statement
import JvmDerived.Pilot.@@N@@Code
set_option linter.unusedVariables false
set_option linter.unusedSimpArgs false
namespace Jvm.RoadKit
open Sem ClassFile Op Lib Jvm.Stand Jvm.Free Jvm.LawKit
section New
variable {p : Program} {l : Launch} {e : Env} {R : Room} {s : State} {m : MethodId} {args : Array Value} {below : List Frame} {meth : Method} {c : Code} {T : State} {locs : List Loc} {cells slots : Nat}
theorem retI (X : Stand p l e R s m args below meth c T locs cells slots) (hx : p.tables.exec = Jvm.exec) {pc : Nat} {Ls : Array Slot} {z : Int32} {rest : List Value} (hret : meth.sig.returnType = some .int) (hd : decode c.code pc = .ok (.ireturn, 1)) {fs : List Frame}
    (hl : ∀ (f : JFrame) (acts : List Action), f.method = m → f.locked = none → f.entered = [] → (doReturn e (T.setTop f) acts (some (.int z))).1 = T.setFrames fs) : Steps p.tables e below (T.setTop (mkF m pc Ls (.int z :: rest))) (T.setFrames fs) := by
  have hm' : T.vm.method? m = some meth := X.method'
  have hn : narrow .int (.int z) = .int z := rfl
  show Steps p.tables e below (T.setTop { method := m, pc := pc, locals := Ls, stack := _ :: rest, locked := none }) _
  jvm_step X.here [X.here.top, hx, hd, hm', hret, hn]
  first | (intro acts; rw [hl _ acts rfl rfl rfl]) | rw [hl _ _ rfl rfl rfl]
  exact Steps.refl _
end New
end Jvm.RoadKit
/- laws to paste: Road.backV, Road.lenW, Road.chN, Road.codOf (cut by pick.py; bodies as the Statement names them) -/
namespace Jvm.Pilot.@@N@@
namespace StrChars
open Jvm Sem ClassFile Op Lib Jvm.Stand Jvm.Free.XT Jvm.Free.ALB Jvm.Free.JM Jvm.Free
open Jvm.Lib.Cold (StaticIs)
/-- a char array whose places are chars -/
def Ch (a : Addr) (A : Cell) (U : State) : Prop := Arr .char a A U ∧ Typed .char A
theorem Ch.mv {a : Addr} {A : Cell} {U U' : State} (h : Ch a A U) (hal : U.vm.Alike U'.vm) (hh : U'.heap = U.heap) : Ch a A U' := ⟨h.1.mv hal hh, h.2⟩
theorem Ch.keep {a : Addr} {A : Cell} {U U' : State} (h : Ch a A U) (hal : U.vm.Alike U'.vm) (hk : U'.heap[a]? = some A) : Ch a A U' := ⟨h.1.keep hal hk, h.2⟩
/-- what place i of a char[]'s cell holds -/
def cv (A : Cell) (i : Nat) : Int32 := match A.slots[i]? with | some (.int x) => x | _ => 0
theorem Ch.get {a : Addr} {A : Cell} {U : State} (h : Ch a A U) {i : Nat} (hi : i < A.slots.size) : A.slots[i]? = some (.int (cv A i)) := by
  have e := Array.getElem?_eq_getElem hi
  have f := h.2 i _ e
  unfold cv; rw [e]
  generalize A.slots[i] = v at f
  cases v <;> simp [fits] at f ⊢
/-- the byte that i2b leaves of a char -/
def lo8 (x : Int32) : Int32 := x.toInt8.toInt32
theorem fits_lo8 (y : Int32) : fits .byte (.int (lo8 y)) = true := by
  have h1 := y.toInt8.le_toInt
  have h2 := y.toInt8.toInt_lt
  simp only [lo8, fits, Bool.and_eq_true, decide_eq_true_eq, Int32.le_iff_toInt_le, Int8.toInt_toInt32, show (-128 : Int32).toInt = -128 from by decide, show (127 : Int32).toInt = 127 from by decide]
  omega
/-- A' is A but that each place j of lo .. hi - 1 holds f j -/
def Laid (A A' : Cell) (lo hi : Nat) (f : Nat → Value) : Prop := A'.cls = A.cls ∧ A'.vm = A.vm ∧ A'.slots.size = A.slots.size ∧ ∀ i, A'.slots[i]? = if lo ≤ i ∧ i < hi then some (f i) else A.slots[i]?
theorem Laid.zero (A : Cell) (lo : Nat) (f : Nat → Value) : Laid A A lo (lo + 0) f := ⟨rfl, rfl, rfl, fun i => by rw [if_neg (by omega)]⟩
theorem Laid.step {A Ak : Cell} {lo k : Nat} {f : Nat → Value} {v : Value} (h : Laid A Ak lo k f) (hlo : lo ≤ k) (hk : k < Ak.slots.size) (hv : v = f k) : Laid A (Ak.setSlot k v) lo (k + 1) f := by
  refine ⟨h.1, h.2.1, by simpa [Cell.setSlot] using h.2.2.1, fun i => ?_⟩
  by_cases e : k = i
  · subst e; rw [Cell.slots_setSlot_self v hk, if_pos (by omega), hv]
  · rw [Cell.slots_setSlot_ne v e, h.2.2.2 i]
    by_cases q : lo ≤ i ∧ i < k
    · rw [if_pos q, if_pos (by omega)]
    · rw [if_neg q, if_neg (by omega)]
def U16 : String := "java/lang/StringUTF16"
namespace Cmp5
def yN : MethodName := ⟨"java/lang/StringUTF16", "compress", "([CI[BII)I"⟩
abbrev yB : ByteArray := jdk_52_method_21_code
theorem d0 : decode yB 0 = .ok (.iconst 0, 1) := by decide +kernel
theorem d1 : decode yB 1 = .ok (.istore 5, 2) := by decide +kernel
theorem d3 : decode yB 3 = .ok (.iload 5, 2) := by decide +kernel
theorem d5 : decode yB 5 = .ok (.iload 4, 2) := by decide +kernel
theorem d7 : decode yB 7 = .ok (.if_icmp (.ge) 37, 3) := by decide +kernel
theorem d10 : decode yB 10 = .ok (.aload_n 0, 1) := by decide +kernel
theorem d11 : decode yB 11 = .ok (.iload_n 1, 1) := by decide +kernel
theorem d12 : decode yB 12 = .ok (.caload, 1) := by decide +kernel
theorem d13 : decode yB 13 = .ok (.istore 6, 2) := by decide +kernel
theorem d15 : decode yB 15 = .ok (.iload 6, 2) := by decide +kernel
theorem d17 : decode yB 17 = .ok (.sipush 255, 3) := by decide +kernel
theorem d20 : decode yB 20 = .ok (.if_icmp (.le) 6, 3) := by decide +kernel
theorem d26 : decode yB 26 = .ok (.aload_n 2, 1) := by decide +kernel
theorem d27 : decode yB 27 = .ok (.iload_n 3, 1) := by decide +kernel
theorem d28 : decode yB 28 = .ok (.iload 6, 2) := by decide +kernel
theorem d30 : decode yB 30 = .ok (.i2b, 1) := by decide +kernel
theorem d31 : decode yB 31 = .ok (.bastore, 1) := by decide +kernel
theorem d32 : decode yB 32 = .ok (.iinc 1 1, 3) := by decide +kernel
theorem d35 : decode yB 35 = .ok (.iinc 3 1, 3) := by decide +kernel
theorem d38 : decode yB 38 = .ok (.iinc 5 1, 3) := by decide +kernel
theorem d41 : decode yB 41 = .ok (.goto (-38), 3) := by decide +kernel
theorem d44 : decode yB 44 = .ok (.iload 4, 2) := by decide +kernel
theorem d46 : decode yB 46 = .ok (.ireturn, 1) := by decide +kernel
def site : List Cond := []
def tab : Cond := tabOf yN yB 7 (some .int) site
def P (b : Addr) (A : Cell) (d : Addr) (B : Cell) (o q len : Nat) (args : Array Value) (s : State) : Prop := args = #[.ref b, .int (Int32.ofNat o), .ref d, .int (Int32.ofNat q), .int (Int32.ofNat len)] ∧ Ch b A s ∧ Arr .byte d B s ∧ b ≠ d ∧ o + len ≤ A.slots.size ∧ q + len ≤ B.slots.size ∧ ∀ i, i < len → ¬ 255 < cv A (o + i)
def E (b : Addr) (A : Cell) (d : Addr) (B : Cell) (o q len : Nat) (r : Option Value) (s u : State) : Prop := r = some (.int (Int32.ofNat len)) ∧ ∃ B', Put d B' s u ∧ Laid B B' q (q + len) (fun j => Value.int (lo8 (cv A (o + (j - q)))))
/-- no char of the range above 255: len; the places written hold each char's low byte -/
theorem law (l : Launch) (b : Addr) (A : Cell) (d : Addr) (B : Cell) (o q len : Nat) : Law l yN 5 5 0 0 yB 7 (some .int) site (P b A d B o q len) (E b A d B o q len) (copyLocs d q len) 0 0 := by
  refine Law.of_walk (plainFor_of_name (by decide +kernel)) (by decide +kernel) (by decide +kernel) (by decide) (fun _ _ h => by rw [h.1]; rfl) (fun _ U U' hal hh h => ⟨h.1, h.2.1.mv hal hh, h.2.2.1.mv hal hh, h.2.2.2⟩) (fun r U U' V V' h1 hal h2 h => ⟨h.1, h.2.elim fun B' q => ⟨B', q.1.mv h1 h2, q.2⟩⟩) ?_
  intro p e s m args below meth c s₁ X0 hexec hbytes hml hret hlk hnm hown hh0 W hP
  obtain ⟨rfl, hA, hB, hne, l1, l2, hp⟩ := hP
  have c1 : Steps p.tables e below (s₁.setTop (entryFrame m #[.ref b, .int (Int32.ofNat o), .ref d, .int (Int32.ofNat q), .int (Int32.ofNat len)] 7)) (s₁.setTop (mkF m 0 #[.val (.ref b), .val (.int (Int32.ofNat o)), .val (.ref d), .val (.int (Int32.ofNat q)), .val (.int (Int32.ofNat len)), .unset, .unset] [])) := entry rfl
  have hA0 := hA.1.mv X0.warmed.alike hh0
  have hB0 := hB.mv X0.warmed.alike hh0
  have a31 := hA.1.2.2.2
  have c2 : Steps p.tables e below (s₁.setTop (entryFrame m #[.ref b, .int (Int32.ofNat o), .ref d, .int (Int32.ofNat q), .int (Int32.ofNat len)] 7)) (s₁.setTop (mkF m 3 #[.val (.ref b), .val (.int (Int32.ofNat o)), .val (.ref d), .val (.int (Int32.ofNat q)), .val (.int (Int32.ofNat len)), .val (.int 0), .unset] [])) := c1.trans (by
    refine iconstV X0.here hexec rfl 0 (hb hbytes d0) (by decide) ?_
    refine XS.istore X0.here hexec rfl (hb hbytes d1) rfl rfl ?_
    exact Steps.refl _)
  have loop : ∀ (r i : Nat), i + r = len → ∀ (z : Slot), (z = .unset ∨ ∃ w, z = .val w ∧ w.category = 1) → ∀ (Tl : State) (Bk : Cell), Stand p l e { frames := 0, locals := 0, cells := 0, slots := 0 } s m #[.ref b, .int (Int32.ofNat o), .ref d, .int (Int32.ofNat q), .int (Int32.ofNat len)] below meth c Tl ([] ++ copyLocs d q i) 0 0 → Put d Bk s₁ Tl → Laid B Bk q (q + i) (fun j => Value.int (lo8 (cv A (o + (j - q))))) →
      Steps p.tables e below (s₁.setTop (entryFrame m #[.ref b, .int (Int32.ofNat o), .ref d, .int (Int32.ofNat q), .int (Int32.ofNat len)] 7)) (Tl.setTop (mkF m 3 #[.val (.ref b), .val (.int (Int32.ofNat (o + i))), .val (.ref d), .val (.int (Int32.ofNat (q + i))), .val (.int (Int32.ofNat len)), .val (.int (Int32.ofNat i)), z] [])) → ∃ (T' : State) (B' : Cell) (z' : Slot), Stand p l e { frames := 0, locals := 0, cells := 0, slots := 0 } s m #[.ref b, .int (Int32.ofNat o), .ref d, .int (Int32.ofNat q), .int (Int32.ofNat len)] below meth c T' ([] ++ copyLocs d q len) 0 0 ∧ Put d B' s₁ T' ∧ Laid B B' q (q + len) (fun j => Value.int (lo8 (cv A (o + (j - q))))) ∧
      Steps p.tables e below (s₁.setTop (entryFrame m #[.ref b, .int (Int32.ofNat o), .ref d, .int (Int32.ofNat q), .int (Int32.ofNat len)] 7)) (T'.setTop (mkF m 3 #[.val (.ref b), .val (.int (Int32.ofNat (o + len))), .val (.ref d), .val (.int (Int32.ofNat (q + len))), .val (.int (Int32.ofNat len)), .val (.int (Int32.ofNat len)), z'] [])) := by
    intro r
    induction r with
    | zero =>
      intro i hi z hz Tl Bk Xl pl fl cl
      have hil : i = len := by omega
      rw [hil] at Xl fl cl
      exact ⟨Tl, Bk, z, Xl, pl, fl, cl⟩
    | succ r ih =>
      intro i hi z hz Tl Bk Xl pl fl cl
      have all := X0.warmed.alike.symm.trans Xl.warmed.alike
      have hAl := hA0.keep all (pl.other hne hA0.1)
      have hBk := hB0.like all pl.1 fl.1 fl.2.1 fl.2.2.1
      have hlt : q + i < Bk.slots.size := by rw [fl.2.2.1]; omega
      have c3 : Steps p.tables e below (s₁.setTop (entryFrame m #[.ref b, .int (Int32.ofNat o), .ref d, .int (Int32.ofNat q), .int (Int32.ofNat len)] 7)) (Tl.setTop (mkF m 12 #[.val (.ref b), .val (.int (Int32.ofNat (o + i))), .val (.ref d), .val (.int (Int32.ofNat (q + i))), .val (.int (Int32.ofNat len)), .val (.int (Int32.ofNat i)), z] [.int (Int32.ofNat (o + i)), .ref b])) := cl.trans (by
        refine XS.iload Xl.here hexec rfl (hb hbytes d3) rfl ?_
        refine XS.iload Xl.here hexec rfl (hb hbytes d5) rfl ?_
        refine XS.icmpNo Xl.here hexec rfl (hb hbytes d7) rfl (ii_ge_f (lt32 (by omega) (by omega))) ?_
        refine XS.aloadN Xl.here hexec rfl (hb hbytes d10) rfl rfl ?_
        refine XS.iloadN Xl.here hexec rfl (hb hbytes d11) rfl ?_
        exact Steps.refl _)
      have c4 : Steps p.tables e below (s₁.setTop (entryFrame m #[.ref b, .int (Int32.ofNat o), .ref d, .int (Int32.ofNat q), .int (Int32.ofNat len)] 7)) (Tl.setTop (mkF m 13 #[.val (.ref b), .val (.int (Int32.ofNat (o + i))), .val (.ref d), .val (.int (Int32.ofNat (q + i))), .val (.int (Int32.ofNat len)), .val (.int (Int32.ofNat i)), z] [.int (cv A (o + i))])) := c3.trans (by
        refine Xl.aget hexec hAl rfl (hA.get (i := o + i) (by omega)) rfl rfl (hb hbytes d12) ?_
        exact Steps.refl _)
      have c5 : Steps p.tables e below (s₁.setTop (entryFrame m #[.ref b, .int (Int32.ofNat o), .ref d, .int (Int32.ofNat q), .int (Int32.ofNat len)] 7)) (Tl.setTop (mkF m 15 #[.val (.ref b), .val (.int (Int32.ofNat (o + i))), .val (.ref d), .val (.int (Int32.ofNat (q + i))), .val (.int (Int32.ofNat len)), .val (.int (Int32.ofNat i)), .val (.int (cv A (o + i)))] [])) := c4.trans (by
        refine XS.istoreS Xl.here hexec rfl (hb hbytes d13) rfl rfl hz ?_
        exact Steps.refl _)
      have c6 : Steps p.tables e below (s₁.setTop (entryFrame m #[.ref b, .int (Int32.ofNat o), .ref d, .int (Int32.ofNat q), .int (Int32.ofNat len)] 7)) (Tl.setTop (mkF m 31 #[.val (.ref b), .val (.int (Int32.ofNat (o + i))), .val (.ref d), .val (.int (Int32.ofNat (q + i))), .val (.int (Int32.ofNat len)), .val (.int (Int32.ofNat i)), .val (.int (cv A (o + i)))] [.int (lo8 (cv A (o + i))), .int (Int32.ofNat (q + i)), .ref d])) := c5.trans (by
        refine XS.iload Xl.here hexec rfl (hb hbytes d15) rfl ?_
        refine sipushV Xl.here hexec rfl 255 (hb hbytes d17) (by decide) ?_
        refine XS.icmpYes Xl.here hexec rfl (pc0 := 20) rfl (hb hbytes d20) rfl (ii_le_t (hp i (by omega))) (by decide) rfl ?_
        refine XS.aloadN Xl.here hexec rfl (hb hbytes d26) rfl rfl ?_
        refine XS.iloadN Xl.here hexec rfl (hb hbytes d27) rfl ?_
        refine XS.iload Xl.here hexec rfl (hb hbytes d28) rfl ?_
        refine i2b Xl.here hexec rfl (hb hbytes d30) rfl ?_
        exact Steps.refl _)
      obtain ⟨T7, X7, p7, st7⟩ := Xl.aput hexec hBk rfl hlt rfl (fits_lo8 (cv A (o + i))) (g := (mkF m 31 #[.val (.ref b), .val (.int (Int32.ofNat (o + i))), .val (.ref d), .val (.int (Int32.ofNat (q + i))), .val (.int (Int32.ofNat len)), .val (.int (Int32.ofNat i)), .val (.int (cv A (o + i)))] [.int (lo8 (cv A (o + i))), .int (Int32.ofNat (q + i)), .ref d])) rfl (rest := []) rfl (hb hbytes d31)
      have c8 : Steps p.tables e below (s₁.setTop (entryFrame m #[.ref b, .int (Int32.ofNat o), .ref d, .int (Int32.ofNat q), .int (Int32.ofNat len)] 7)) (T7.setTop (mkF m 32 #[.val (.ref b), .val (.int (Int32.ofNat (o + i))), .val (.ref d), .val (.int (Int32.ofNat (q + i))), .val (.int (Int32.ofNat len)), .val (.int (Int32.ofNat i)), .val (.int (cv A (o + i)))] [])) := c6.trans (st7 _ (Steps.refl _))
      have c9 : Steps p.tables e below (s₁.setTop (entryFrame m #[.ref b, .int (Int32.ofNat o), .ref d, .int (Int32.ofNat q), .int (Int32.ofNat len)] 7)) (T7.setTop (mkF m 3 #[.val (.ref b), .val (.int (Int32.ofNat (o + i) + 1)), .val (.ref d), .val (.int (Int32.ofNat (q + i) + 1)), .val (.int (Int32.ofNat len)), .val (.int (Int32.ofNat i + 1)), .val (.int (cv A (o + i)))] [])) := c8.trans (by
        refine iincV X7.here hexec rfl 1 (hb hbytes d32) (by decide) rfl rfl ?_
        refine iincV X7.here hexec rfl 1 (hb hbytes d35) (by decide) rfl rfl ?_
        refine iincV X7.here hexec rfl 1 (hb hbytes d38) (by decide) rfl rfl ?_
        refine XS.goto X7.here hexec rfl (pc0 := 41) rfl (hb hbytes d41) (by decide) rfl ?_
        exact Steps.refl _)
      have c10 : Steps p.tables e below (s₁.setTop (entryFrame m #[.ref b, .int (Int32.ofNat o), .ref d, .int (Int32.ofNat q), .int (Int32.ofNat len)] 7)) (T7.setTop (mkF m 3 #[.val (.ref b), .val (.int (Int32.ofNat (o + (i + 1)))), .val (.ref d), .val (.int (Int32.ofNat (q + (i + 1)))), .val (.int (Int32.ofNat len)), .val (.int (Int32.ofNat (i + 1))), .val (.int (cv A (o + i)))] [])) := by
        have := c9
        rw [succ32, succ32, succ32] at this
        exact this
      exact ih (i + 1) (by omega) _ (Or.inr ⟨_, rfl, rfl⟩) T7 _ (by rw [copyLocs_step, ← List.append_assoc]; exact X7) (pl.trans p7) (fl.step (by omega) hlt (by simp)) c10
  obtain ⟨T9, B9, z9, X9, p9, f9, g9⟩ := loop len 0 (by omega) .unset (Or.inl rfl) s₁ B (by simpa [copyLocs] using X0) ⟨hB0.1, fun _ _ => rfl, rfl⟩ (Laid.zero _ _ _) c2
  have c11 : Steps p.tables e below (s₁.setTop (entryFrame m #[.ref b, .int (Int32.ofNat o), .ref d, .int (Int32.ofNat q), .int (Int32.ofNat len)] 7)) (T9.setTop (mkF m 46 #[.val (.ref b), .val (.int (Int32.ofNat (o + len))), .val (.ref d), .val (.int (Int32.ofNat (q + len))), .val (.int (Int32.ofNat len)), .val (.int (Int32.ofNat len)), z9] [.int (Int32.ofNat len)])) := g9.trans (by
    refine XS.iload X9.here hexec rfl (hb hbytes d3) rfl ?_
    refine XS.iload X9.here hexec rfl (hb hbytes d5) rfl ?_
    refine XS.icmpYes X9.here hexec rfl (pc0 := 7) rfl (hb hbytes d7) rfl (ii_ge_t (nlt32 (by omega) (Nat.le_refl _))) (by decide) rfl ?_
    refine XS.iload X9.here hexec rfl (hb hbytes d44) rfl ?_
    exact Steps.refl _)
  exact ⟨T9, some (.int (Int32.ofNat len)), _, _, _, X9, by simp, rfl, rfl, (fun h => by cases h), ⟨rfl, B9, p9.from hh0, f9⟩, fun fs hl => c11.trans (X9.ireturnOut hexec hret rfl (Or.inl rfl) (hb hbytes d46) hl)⟩
end Cmp5
namespace Cmp3
def yN : MethodName := ⟨"java/lang/StringUTF16", "compress", "([CII)[B"⟩
abbrev yB : ByteArray := jdk_52_method_16_code
theorem d0 : decode yB 0 = .ok (.iload_n 2, 1) := by decide +kernel
theorem d1 : decode yB 1 = .ok (.newarray .byte, 2) := by decide +kernel
theorem d3 : decode yB 3 = .ok (.astore_n 3, 1) := by decide +kernel
theorem d4 : decode yB 4 = .ok (.aload_n 0, 1) := by decide +kernel
theorem d5 : decode yB 5 = .ok (.iload_n 1, 1) := by decide +kernel
theorem d6 : decode yB 6 = .ok (.aload_n 3, 1) := by decide +kernel
theorem d7 : decode yB 7 = .ok (.iconst 0, 1) := by decide +kernel
theorem d8 : decode yB 8 = .ok (.iload_n 2, 1) := by decide +kernel
theorem d9 : decode yB 9 = .ok (.invokestatic 115, 3) := by decide +kernel
theorem d12 : decode yB 12 = .ok (.istore 4, 2) := by decide +kernel
theorem d14 : decode yB 14 = .ok (.iload 4, 2) := by decide +kernel
theorem d16 : decode yB 16 = .ok (.iload_n 2, 1) := by decide +kernel
theorem d17 : decode yB 17 = .ok (.if_icmp (.eq) 40, 3) := by decide +kernel
theorem d57 : decode yB 57 = .ok (.aload_n 3, 1) := by decide +kernel
theorem d58 : decode yB 58 = .ok (.areturn, 1) := by decide +kernel
def site : List Cond := [.arrayClass .byte, Cmp5.tab] ++ staticW U16 115 Cmp5.yN
def tab : Cond := tabOf yN yB 6 (some (.array .byte)) site
def P (b : Addr) (A : Cell) (o len : Nat) (args : Array Value) (s : State) : Prop := args = #[.ref b, .int (Int32.ofNat o), .int (Int32.ofNat len)] ∧ Ch b A s ∧ o + len ≤ A.slots.size ∧ len ≤ 536870912 ∧ ∀ i, i < len → ¬ 255 < cv A (o + i)
def E (b : Addr) (A : Cell) (o len : Nat) (r : Option Value) (s u : State) : Prop := NewArr .byte "[B" len (fun j => .int (lo8 (cv A (o + j)))) r s u ∧ u.heap.size = s.heap.size + 1
/-- no char of the range above 255: a new byte[] of their low bytes -/
theorem law (l : Launch) (b : Addr) (A : Cell) (o len : Nat) : Law l yN 3 3 1 18 yB 6 (some (.array .byte)) site (P b A o len) (E b A o len) [] 1 len := by
  refine Law.of_walk (plainFor_of_name (by decide +kernel)) (by decide +kernel) (by decide +kernel) (by decide) (fun _ _ h => by rw [h.1]; rfl) (fun _ U U' hal hh h => ⟨h.1, h.2.1.mv hal hh, h.2.2⟩) (fun r U U' V V' h1 hal h2 h => ⟨NewArr.mv r U U' V V' h1 hal h2 h.1, by rw [h1, h2]; exact h.2⟩) ?_
  intro p e s m args below meth c s₁ X0 hexec hbytes hml hret hlk hnm hown hh0 W hP
  obtain ⟨rfl, hA, l1, l2, hp⟩ := hP
  have a31 := hA.1.2.2.2
  have c1 : Steps p.tables e below (s₁.setTop (entryFrame m #[.ref b, .int (Int32.ofNat o), .int (Int32.ofNat len)] 6)) (s₁.setTop (mkF m 0 #[.val (.ref b), .val (.int (Int32.ofNat o)), .val (.int (Int32.ofNat len)), .unset, .unset, .unset] [])) := entry rfl
  have c2 : Steps p.tables e below (s₁.setTop (entryFrame m #[.ref b, .int (Int32.ofNat o), .int (Int32.ofNat len)] 6)) (s₁.setTop (mkF m 1 #[.val (.ref b), .val (.int (Int32.ofNat o)), .val (.int (Int32.ofNat len)), .unset, .unset, .unset] [.int (Int32.ofNat len)])) := c1.trans (by
    refine XS.iloadN X0.here hexec rfl (hb hbytes d0) rfl ?_
    exact Steps.refl _)
  obtain ⟨T3, B3, X3, ba3, bs3, bv3, bh3, bf3, st3⟩ := X0.anew hexec (atype := .byte) (wk W (.arrayClass .byte)) rfl (by show len * 1 ≤ _; omega) (by omega) (g := (mkF m 1 #[.val (.ref b), .val (.int (Int32.ofNat o)), .val (.int (Int32.ofNat len)), .unset, .unset, .unset] [.int (Int32.ofNat len)])) rfl (hb hbytes d1) (rest := []) rfl (Nat.le_refl _) (by show 0 + len ≤ len; omega)
  rw [hh0] at ba3 st3
  have kp3 : XT.Kept s T3 := (XT.Kept.of_eq hh0).push bh3
  have hA3 := hA.keep X3.warmed.alike (kp3 _ _ hA.1.1)
  have hne : b ≠ s.heap.size := hA.1.ne
  have c4 : Steps p.tables e below (s₁.setTop (entryFrame m #[.ref b, .int (Int32.ofNat o), .int (Int32.ofNat len)] 6)) (T3.setTop (mkF m 3 #[.val (.ref b), .val (.int (Int32.ofNat o)), .val (.int (Int32.ofNat len)), .unset, .unset, .unset] [.ref s.heap.size])) := c2.trans (st3 _ (Steps.refl _))
  have c5 : Steps p.tables e below (s₁.setTop (entryFrame m #[.ref b, .int (Int32.ofNat o), .int (Int32.ofNat len)] 6)) (T3.setTop (mkF m 9 #[.val (.ref b), .val (.int (Int32.ofNat o)), .val (.int (Int32.ofNat len)), .val (.ref s.heap.size), .unset, .unset] [.int (Int32.ofNat len), .int 0, .ref s.heap.size, .int (Int32.ofNat o), .ref b])) := c4.trans (by
    refine XS.astoreN X3.here hexec rfl (hb hbytes d3) rfl rfl rfl ?_
    refine XS.aloadN X3.here hexec rfl (hb hbytes d4) rfl rfl ?_
    refine XS.iloadN X3.here hexec rfl (hb hbytes d5) rfl ?_
    refine XS.aloadN X3.here hexec rfl (hb hbytes d6) rfl rfl ?_
    refine iconstV X3.here hexec rfl 0 (hb hbytes d7) (by decide) ?_
    refine XS.iloadN X3.here hexec rfl (hb hbytes d8) rfl ?_
    exact Steps.refl _)
  obtain ⟨v6, T6, X6, E6, g6⟩ := X3.callS hexec (Cmp5.law l b A s.heap.size B3 o 0 len) hown (wks W (staticW U16 115 Cmp5.yN)) (wk W Cmp5.tab) (W := 0) (Nat.le_of_ble_eq_true rfl) (Nat.le_of_ble_eq_true rfl) (Nat.le_refl _) (by show 0 + len + 0 ≤ len; omega) (g := (mkF m 9 #[.val (.ref b), .val (.int (Int32.ofNat o)), .val (.int (Int32.ofNat len)), .val (.ref s.heap.size), .unset, .unset] [.int (Int32.ofNat len), .int (Int32.ofNat 0), .ref s.heap.size, .int (Int32.ofNat o), .ref b])) rfl (by rw [hml]; rfl) c5 (argsL := [.ref b, .int (Int32.ofNat o), .ref s.heap.size, .int (Int32.ofNat 0), .int (Int32.ofNat len)]) (rest := []) rfl rfl (by show 2 * 0 + 0 ≤ _; decide) (hb hbytes d9) (⟨rfl, hA3, ba3, hne, l1, by rw [bs3]; simp, hp⟩)
  obtain ⟨rfl, B6, p6, f6⟩ := E6
  have c7 : Steps p.tables e below (s₁.setTop (entryFrame m #[.ref b, .int (Int32.ofNat o), .int (Int32.ofNat len)] 6)) (T6.setTop (mkF m 12 #[.val (.ref b), .val (.int (Int32.ofNat o)), .val (.int (Int32.ofNat len)), .val (.ref s.heap.size), .unset, .unset] [.int (Int32.ofNat len)])) := g6
  have c8 : Steps p.tables e below (s₁.setTop (entryFrame m #[.ref b, .int (Int32.ofNat o), .int (Int32.ofNat len)] 6)) (T6.setTop (mkF m 58 #[.val (.ref b), .val (.int (Int32.ofNat o)), .val (.int (Int32.ofNat len)), .val (.ref s.heap.size), .val (.int (Int32.ofNat len)), .unset] [.ref s.heap.size])) := c7.trans (by
    refine XS.istore X6.here hexec rfl (hb hbytes d12) rfl rfl ?_
    refine XS.iload X6.here hexec rfl (hb hbytes d14) rfl ?_
    refine XS.iloadN X6.here hexec rfl (hb hbytes d16) rfl ?_
    refine XS.icmpYes X6.here hexec rfl (pc0 := 17) rfl (hb hbytes d17) rfl (ii_eq_t rfl) (by decide) rfl ?_
    refine XS.aloadN X6.here hexec rfl (hb hbytes d57) rfl rfl ?_
    exact Steps.refl _)
  have X8 := X6.wide (L' := []) (cells' := 1) (slots' := len) (fun x hx hlt => by
    simp only [List.nil_append, copyLocs, List.mem_map, List.mem_range] at hx
    obtain ⟨i, -, rfl⟩ := hx
    exact absurd hlt (Nat.lt_irrefl _)) (Nat.le_refl _) (by omega)
  exact ⟨T6, some (.ref s.heap.size), _, _, _, X8, rfl, rfl, rfl, (fun h => by cases h), ⟨⟨rfl, B6, ba3.like (X3.warmed.alike.symm.trans X6.warmed.alike) p6.1 f6.1 f6.2.1 f6.2.2.1, f6.2.1.trans bv3, by rw [X6.warmed.alike.findClass, f6.1]; exact bf3, by rw [f6.2.2.1, bs3]; simp, fun j hj => by rw [f6.2.2.2 j, if_pos (by omega)]; rfl, kp3.put p6 (Nat.le_refl _)⟩, by rw [p6.2.2, bh3, hh0]; simp⟩, fun fs hl => c8.trans (X8.areturnOut hexec rfl hret rfl (hb hbytes d58) hl)⟩
end Cmp3
namespace CodL
def yN : MethodName := ⟨"java/lang/StringUTF16", "coderFromArrayLen", "([BI)B"⟩
abbrev yB : ByteArray := jdk_52_method_15_code
theorem d0 : decode yB 0 = .ok (.iload_n 1, 1) := by decide +kernel
theorem d1 : decode yB 1 = .ok (.aload_n 0, 1) := by decide +kernel
theorem d2 : decode yB 2 = .ok (.arraylength, 1) := by decide +kernel
theorem d3 : decode yB 3 = .ok (.isub, 1) := by decide +kernel
theorem d4 : decode yB 4 = .ok (.bipush 31, 2) := by decide +kernel
theorem d6 : decode yB 6 = .ok (.iushr, 1) := by decide +kernel
theorem d7 : decode yB 7 = .ok (.i2b, 1) := by decide +kernel
theorem d8 : decode yB 8 = .ok (.ireturn, 1) := by decide +kernel
def site : List Cond := []
def tab : Cond := tabOf yN yB 2 (some .byte) site
def P (d : Addr) (B : Cell) (args : Array Value) (s : State) : Prop := args = #[.ref d, .int (Int32.ofNat B.slots.size)] ∧ Arr .byte d B s
def E (r : Option Value) (s u : State) : Prop := XT.PureE (some (.int 0)) r s u
/-- an array as long as the number of chars: LATIN1 -/
theorem law (l : Launch) (d : Addr) (B : Cell) : Law l yN 2 2 0 0 yB 2 (some .byte) site (P d B) E [] 0 0 := by
  refine Law.of_walk (plainFor_of_name (by decide +kernel)) (by decide +kernel) (by decide +kernel) (by decide) (fun _ _ h => by rw [h.1]; rfl) (fun _ U U' hal hh h => ⟨h.1, h.2.mv hal hh⟩) (fun r U U' V V' h1 hal h2 h => XT.PureE.mv r U U' V V' h1 hal h2 h) ?_
  intro p e s m args below meth c s₁ X0 hexec hbytes hml hret hlk hnm hown hh0 W hP
  obtain ⟨rfl, hB⟩ := hP
  have hB0 := hB.mv X0.warmed.alike hh0
  have c1 : Steps p.tables e below (s₁.setTop (entryFrame m #[.ref d, .int (Int32.ofNat B.slots.size)] 2)) (s₁.setTop (mkF m 0 #[.val (.ref d), .val (.int (Int32.ofNat B.slots.size))] [])) := entry rfl
  have c2 : Steps p.tables e below (s₁.setTop (entryFrame m #[.ref d, .int (Int32.ofNat B.slots.size)] 2)) (s₁.setTop (mkF m 2 #[.val (.ref d), .val (.int (Int32.ofNat B.slots.size))] [.ref d, .int (Int32.ofNat B.slots.size)])) := c1.trans (by
    refine XS.iloadN X0.here hexec rfl (hb hbytes d0) rfl ?_
    refine XS.aloadN X0.here hexec rfl (hb hbytes d1) rfl rfl ?_
    exact Steps.refl _)
  have c3 : Steps p.tables e below (s₁.setTop (entryFrame m #[.ref d, .int (Int32.ofNat B.slots.size)] 2)) (s₁.setTop (mkF m 8 #[.val (.ref d), .val (.int (Int32.ofNat B.slots.size))] [.int (lo8 (ushr (Int32.ofNat B.slots.size - Int32.ofNat B.slots.size) 31))])) := c2.trans (by
    refine X0.alen hexec hB0 rfl rfl (hb hbytes d2) ?_
    refine XS.isub X0.here hexec rfl (hb hbytes d3) rfl ?_
    refine bipushV X0.here hexec rfl 31 (hb hbytes d4) (by decide) ?_
    refine iushr X0.here hexec rfl (hb hbytes d6) rfl ?_
    refine i2b X0.here hexec rfl (hb hbytes d7) rfl ?_
    exact Steps.refl _)
  have e0 : lo8 (ushr (Int32.ofNat B.slots.size - Int32.ofNat B.slots.size) 31) = 0 := by rw [Int32.sub_self]; decide
  rw [e0] at c3
  exact ⟨s₁, some (.int 0), _, _, _, X0, rfl, rfl, rfl, (fun h => by cases h), ⟨rfl, hh0⟩, fun fs hl => c3.trans (X0.ireturnOut hexec hret rfl (Or.inr (Or.inr (Or.inl rfl))) (hb hbytes d8) hl)⟩
end CodL
/-- the String at a is Latin-1 over a new byte[] (the heap's one new cell): the low bytes of the len chars of A from o on; every cell but a is kept -/
def Got (a : Addr) (D : Cell) (fV fC : Field) (A : Cell) (o len : Nat) (r : Option Value) (s u : State) : Prop := r = none ∧ ∃ D' V : Cell, Blank "java/lang/String" a D' u ∧ Same D D' [fV.slot, fC.slot] ∧ D'.slots[fV.slot]? = some (.ref s.heap.size) ∧ D'.slots[fC.slot]? = some (.int 0) ∧ Arr .byte s.heap.size V u ∧ V.vm = .none ∧ u.vm.findClass "[B" = some V.cls ∧ V.slots.size = len ∧ (∀ j, j < len → V.slots[j]? = some (.int (lo8 (cv A (o + j))))) ∧ (∀ (y : Addr) (c : Cell), y ≠ a → s.heap[y]? = some c → u.heap[y]? = some c) ∧ u.heap.size = s.heap.size + 1
theorem Got.mv {a : Addr} {D A : Cell} {fV fC : Field} {o len : Nat} : ∀ r (U U' V V' : State), U'.heap = U.heap → V.vm.Alike V'.vm → V'.heap = V.heap → Got a D fV fC A o len r U V → Got a D fV fC A o len r U' V' :=
  fun r U U' V V' h1 hal h2 ⟨e0, D', X, a1, a2, a3, a4, a5, a6, a7, a8, a9, a10, a11⟩ => ⟨e0, D', X, a1.mv hal h2, a2, by rw [h1]; exact a3, a4, by rw [h1]; exact a5.mv hal h2, a6, by rw [hal.findClass]; exact a7, a8, a9, by rw [h1, h2]; exact a10, by rw [h1, h2]; exact a11⟩
namespace New4
def yN : MethodName := ⟨"java/lang/String", "<init>", "([CIILjava/lang/Void;)V"⟩
abbrev yB : ByteArray := jdk_42_method_149_code
theorem d0 : decode yB 0 = .ok (.aload_n 0, 1) := by decide +kernel
theorem d1 : decode yB 1 = .ok (.invokespecial 1, 3) := by decide +kernel
theorem d4 : decode yB 4 = .ok (.iload_n 3, 1) := by decide +kernel
theorem d5 : decode yB 5 = .ok (.ifCond (.ne) 22, 3) := by decide +kernel
theorem d27 : decode yB 27 = .ok (.getstatic 38, 3) := by decide +kernel
theorem d30 : decode yB 30 = .ok (.ifCond (.eq) 28, 3) := by decide +kernel
theorem d33 : decode yB 33 = .ok (.aload_n 1, 1) := by decide +kernel
theorem d34 : decode yB 34 = .ok (.iload_n 2, 1) := by decide +kernel
theorem d35 : decode yB 35 = .ok (.iload_n 3, 1) := by decide +kernel
theorem d36 : decode yB 36 = .ok (.invokestatic 177, 3) := by decide +kernel
theorem d39 : decode yB 39 = .ok (.astore 5, 2) := by decide +kernel
theorem d41 : decode yB 41 = .ok (.aload_n 0, 1) := by decide +kernel
theorem d42 : decode yB 42 = .ok (.aload 5, 2) := by decide +kernel
theorem d44 : decode yB 44 = .ok (.iload_n 3, 1) := by decide +kernel
theorem d45 : decode yB 45 = .ok (.invokestatic 47, 3) := by decide +kernel
theorem d48 : decode yB 48 = .ok (.putfield 15, 3) := by decide +kernel
theorem d51 : decode yB 51 = .ok (.aload_n 0, 1) := by decide +kernel
theorem d52 : decode yB 52 = .ok (.aload 5, 2) := by decide +kernel
theorem d54 : decode yB 54 = .ok (.putfield 9, 3) := by decide +kernel
theorem d57 : decode yB 57 = .ok (.return_, 1) := by decide +kernel
def site : List Cond := [.fieldLink "java/lang/String" 38 "java/lang/String" "COMPACT_STRINGS" "Z", Cmp3.tab, CodL.tab, .laysFinal "java/lang/String" "java/lang/String" "value" "[B", .fieldLink "java/lang/String" 9 "java/lang/String" "value" "[B", .laysFinal "java/lang/String" "java/lang/String" "coder" "B", .fieldLink "java/lang/String" 15 "java/lang/String" "coder" "B"] ++ objW "java/lang/String" 1 ++ staticW "java/lang/String" 177 Cmp3.yN ++ staticW "java/lang/String" 47 CodL.yN
def tab : Cond := tabOf yN yB 6 none site
def P (a : Addr) (D : Cell) (fV fC : Field) (b : Addr) (A : Cell) (z : Int32) (o len : Nat) (args : Array Value) (s : State) : Prop := args = #[.ref a, .ref b, .int (Int32.ofNat o), .int (Int32.ofNat len), .null] ∧ Blank "java/lang/String" a D s ∧ Found "java/lang/String" "value" "[B" fV s ∧ Found "java/lang/String" "coder" "B" fC s ∧ Ch b A s ∧ StaticIs s "java/lang/String" "COMPACT_STRINGS" "Z" (.int z) ∧ ¬ z = 0 ∧ 0 < len ∧ o + len ≤ A.slots.size ∧ len ≤ 536870912 ∧ ∀ i, i < len → ¬ 255 < cv A (o + i)
def E (a : Addr) (D : Cell) (fV fC : Field) (A : Cell) (o len : Nat) (r : Option Value) (s u : State) : Prop := Got a D fV fC A o len r s u
/-- len > 0, no char of the range above 255: a Latin-1 String of their low bytes -/
theorem law (l : Launch) (a : Addr) (D : Cell) (fV fC : Field) (b : Addr) (A : Cell) (z : Int32) (o len : Nat) : Law l yN 5 4 2 35 yB 6 none site (P a D fV fC b A z o len) (E a D fV fC A o len) [⟨a, fC.slot⟩, ⟨a, fV.slot⟩] 1 len := by
  refine Law.of_walk (plainFor_of_name (by decide +kernel)) (by decide +kernel) (by decide +kernel) (by decide) (fun _ _ h => by rw [h.1]; rfl) (fun _ U U' hal hh h => ⟨h.1, h.2.1.mv hal hh, h.2.2.1.al hal, h.2.2.2.1.al hal, h.2.2.2.2.1.mv hal hh, h.2.2.2.2.2.1.there hal hh, h.2.2.2.2.2.2⟩) (fun r U U' V V' h1 hal h2 h => Got.mv r U U' V V' h1 hal h2 h) ?_
  intro p e s m args below meth c s₁ X0 hexec hbytes hml hret hlk hnm hown hh0 W hP
  obtain ⟨rfl, hB, f1, f2, hA, s1, hz, l0, l1, l2, hp⟩ := hP
  have a31 := hA.1.2.2.2
  have c1 : Steps p.tables e below (s₁.setTop (entryFrame m #[.ref a, .ref b, .int (Int32.ofNat o), .int (Int32.ofNat len), .null] 6)) (s₁.setTop (mkF m 0 #[.val (.ref a), .val (.ref b), .val (.int (Int32.ofNat o)), .val (.int (Int32.ofNat len)), .val .null, .unset] [])) := entry rfl
  have c2 : Steps p.tables e below (s₁.setTop (entryFrame m #[.ref a, .ref b, .int (Int32.ofNat o), .int (Int32.ofNat len), .null] 6)) (s₁.setTop (mkF m 1 #[.val (.ref a), .val (.ref b), .val (.int (Int32.ofNat o)), .val (.int (Int32.ofNat len)), .val .null, .unset] [.ref a])) := c1.trans (by
    refine XS.aloadN X0.here hexec rfl (hb hbytes d0) rfl rfl ?_
    exact Steps.refl _)
  obtain ⟨T3, X3, q3, st3⟩ := X0.oinit hexec hown (wks W (objW "java/lang/String" 1)) (g := (mkF m 1 #[.val (.ref a), .val (.ref b), .val (.int (Int32.ofNat o)), .val (.int (Int32.ofNat len)), .val .null, .unset] [.ref a])) rfl (by rw [hml]; rfl) (rest := []) rfl (hb hbytes d1) (W := 0) (by show 2 * 0 + 0 ≤ _; decide) (Nat.le_of_ble_eq_true rfl) (Nat.le_of_ble_eq_true rfl)
  have hh3 := q3.trans hh0
  have c4 : Steps p.tables e below (s₁.setTop (entryFrame m #[.ref a, .ref b, .int (Int32.ofNat o), .int (Int32.ofNat len), .null] 6)) (T3.setTop (mkF m 27 #[.val (.ref a), .val (.ref b), .val (.int (Int32.ofNat o)), .val (.int (Int32.ofNat len)), .val .null, .unset] [])) := (c2.trans (st3 _ (Steps.refl _))).trans (by
    refine XS.iloadN X3.here hexec rfl (hb hbytes d4) rfl ?_
    refine XS.ifYes X3.here hexec rfl (pc0 := 5) rfl (hb hbytes d5) rfl (i0_ne_t (nz32 (by omega) l0)) (by decide) rfl ?_
    exact Steps.refl _)
  obtain ⟨T5, X5, q5, st5⟩ := X3.sget hexec hown (wk W (.fieldLink "java/lang/String" 38 "java/lang/String" "COMPACT_STRINGS" "Z")) s1 (fun _ _ h => by rw [hh3]; exact h) (g := (mkF m 27 #[.val (.ref a), .val (.ref b), .val (.int (Int32.ofNat o)), .val (.int (Int32.ofNat len)), .val .null, .unset] [])) rfl (hb hbytes d27)
  have hh5 := q5.trans hh3
  have c6 : Steps p.tables e below (s₁.setTop (entryFrame m #[.ref a, .ref b, .int (Int32.ofNat o), .int (Int32.ofNat len), .null] 6)) (T5.setTop (mkF m 30 #[.val (.ref a), .val (.ref b), .val (.int (Int32.ofNat o)), .val (.int (Int32.ofNat len)), .val .null, .unset] [.int z])) := c4.trans (st5 _ (Steps.refl _))
  have c7 : Steps p.tables e below (s₁.setTop (entryFrame m #[.ref a, .ref b, .int (Int32.ofNat o), .int (Int32.ofNat len), .null] 6)) (T5.setTop (mkF m 36 #[.val (.ref a), .val (.ref b), .val (.int (Int32.ofNat o)), .val (.int (Int32.ofNat len)), .val .null, .unset] [.int (Int32.ofNat len), .int (Int32.ofNat o), .ref b])) := c6.trans (by
    refine XS.ifNo X5.here hexec rfl (hb hbytes d30) rfl (i0_eq_f hz) ?_
    refine XS.aloadN X5.here hexec rfl (hb hbytes d33) rfl rfl ?_
    refine XS.iloadN X5.here hexec rfl (hb hbytes d34) rfl ?_
    refine XS.iloadN X5.here hexec rfl (hb hbytes d35) rfl ?_
    exact Steps.refl _)
  obtain ⟨v8, T8, X8, E8, g8⟩ := X5.callS hexec (Cmp3.law l b A o len) hown (wks W (staticW "java/lang/String" 177 Cmp3.yN)) (wk W Cmp3.tab) (W := 0) (Nat.le_of_ble_eq_true rfl) (Nat.le_of_ble_eq_true rfl) (Nat.le_refl _) (by show 0 + len ≤ len; omega) (g := (mkF m 36 #[.val (.ref a), .val (.ref b), .val (.int (Int32.ofNat o)), .val (.int (Int32.ofNat len)), .val .null, .unset] [.int (Int32.ofNat len), .int (Int32.ofNat o), .ref b])) rfl (by rw [hml]; rfl) c7 (argsL := [.ref b, .int (Int32.ofNat o), .int (Int32.ofNat len)]) (rest := []) rfl rfl (by show 2 * 0 + 0 ≤ _; decide) (hb hbytes d36) (⟨rfl, hA.mv X5.warmed.alike hh5, l1, l2, hp⟩)
  obtain ⟨e8, z8⟩ := E8
  obtain ⟨rfl, N, n1, n2, n3, n4, n5, n6⟩ := NewArr.mv _ T5 s _ _ hh5.symm (Vm.Alike.refl _) rfl e8
  rw [hh5] at z8
  have hB1 := hB.keep X8.warmed.alike (n6 _ _ hB.1)
  have hne : s.heap.size ≠ a := (Nat.ne_of_lt (Array.getElem?_eq_some_iff.mp hB.1).1).symm
  have c9 : Steps p.tables e below (s₁.setTop (entryFrame m #[.ref a, .ref b, .int (Int32.ofNat o), .int (Int32.ofNat len), .null] 6)) (T8.setTop (mkF m 39 #[.val (.ref a), .val (.ref b), .val (.int (Int32.ofNat o)), .val (.int (Int32.ofNat len)), .val .null, .unset] [.ref s.heap.size])) := g8
  have c10 : Steps p.tables e below (s₁.setTop (entryFrame m #[.ref a, .ref b, .int (Int32.ofNat o), .int (Int32.ofNat len), .null] 6)) (T8.setTop (mkF m 45 #[.val (.ref a), .val (.ref b), .val (.int (Int32.ofNat o)), .val (.int (Int32.ofNat len)), .val .null, .val (.ref s.heap.size)] [.int (Int32.ofNat N.slots.size), .ref s.heap.size, .ref a])) := by
    have hc : Steps p.tables e below (s₁.setTop (entryFrame m #[.ref a, .ref b, .int (Int32.ofNat o), .int (Int32.ofNat len), .null] 6)) (T8.setTop (mkF m 45 #[.val (.ref a), .val (.ref b), .val (.int (Int32.ofNat o)), .val (.int (Int32.ofNat len)), .val .null, .val (.ref s.heap.size)] [.int (Int32.ofNat len), .ref s.heap.size, .ref a])) := c9.trans (by
      refine XS.astore X8.here hexec rfl (hb hbytes d39) rfl rfl rfl ?_
      refine XS.aloadN X8.here hexec rfl (hb hbytes d41) rfl rfl ?_
      refine XS.aload X8.here hexec rfl (hb hbytes d42) rfl rfl ?_
      refine XS.iloadN X8.here hexec rfl (hb hbytes d44) rfl ?_
      exact Steps.refl _)
    rw [n4]; exact hc
  obtain ⟨v11, T11, X11, E11, g11⟩ := X8.callS hexec (CodL.law l s.heap.size N) hown (wks W (staticW "java/lang/String" 47 CodL.yN)) (wk W CodL.tab) (W := 1) (Nat.le_of_ble_eq_true rfl) (Nat.le_of_ble_eq_true rfl) (Nat.le_refl _) (by show 0 + len + 0 ≤ len; omega) (g := (mkF m 45 #[.val (.ref a), .val (.ref b), .val (.int (Int32.ofNat o)), .val (.int (Int32.ofNat len)), .val .null, .val (.ref s.heap.size)] [.int (Int32.ofNat N.slots.size), .ref s.heap.size, .ref a])) rfl (by rw [hml]; rfl) c10 (argsL := [.ref s.heap.size, .int (Int32.ofNat N.slots.size)]) (rest := [.ref a]) rfl rfl (by show 2 * 0 + (1 + 0) ≤ _; decide) (hb hbytes d45) (⟨rfl, n1⟩)
  obtain ⟨rfl, q11⟩ := E11
  have hB11 := hB1.mv (X8.warmed.alike.symm.trans X11.warmed.alike) q11
  have c12 : Steps p.tables e below (s₁.setTop (entryFrame m #[.ref a, .ref b, .int (Int32.ofNat o), .int (Int32.ofNat len), .null] 6)) (T11.setTop (mkF m 48 #[.val (.ref a), .val (.ref b), .val (.int (Int32.ofNat o)), .val (.int (Int32.ofNat len)), .val .null, .val (.ref s.heap.size)] [.int 0, .ref a])) := g11
  obtain ⟨T13, X13, p13, bl13, sl13, st13⟩ := X11.finit hexec hown (wk W (.fieldLink "java/lang/String" 15 "java/lang/String" "coder" "B")) (Or.inr ⟨_, (wk W (.laysFinal "java/lang/String" "java/lang/String" "coder" "B"))⟩) (Or.inl ⟨rfl, hnm⟩) f2 (Or.inl rfl) hB11 (t := .byte) (by decide +kernel) rfl (g := (mkF m 48 #[.val (.ref a), .val (.ref b), .val (.int (Int32.ofNat o)), .val (.int (Int32.ofNat len)), .val .null, .val (.ref s.heap.size)] [.int 0, .ref a])) rfl (rest := []) rfl (hb hbytes d48)
  have c14 : Steps p.tables e below (s₁.setTop (entryFrame m #[.ref a, .ref b, .int (Int32.ofNat o), .int (Int32.ofNat len), .null] 6)) (T13.setTop (mkF m 54 #[.val (.ref a), .val (.ref b), .val (.int (Int32.ofNat o)), .val (.int (Int32.ofNat len)), .val .null, .val (.ref s.heap.size)] [.ref s.heap.size, .ref a])) := (c12.trans (st13 _ (Steps.refl _))).trans (by
    refine XS.aloadN X13.here hexec rfl (hb hbytes d51) rfl rfl ?_
    refine XS.aload X13.here hexec rfl (hb hbytes d52) rfl rfl ?_
    exact Steps.refl _)
  obtain ⟨T15, X15, p15, bl15, sl15, st15⟩ := X13.finit hexec hown (wk W (.fieldLink "java/lang/String" 9 "java/lang/String" "value" "[B")) (Or.inr ⟨_, (wk W (.laysFinal "java/lang/String" "java/lang/String" "value" "[B"))⟩) (Or.inl ⟨rfl, hnm⟩) f1 (Or.inl rfl) bl13 (t := (.array .byte)) (by decide +kernel) rfl (g := (mkF m 54 #[.val (.ref a), .val (.ref b), .val (.int (Int32.ofNat o)), .val (.int (Int32.ofNat len)), .val .null, .val (.ref s.heap.size)] [.ref s.heap.size, .ref a])) rfl (rest := []) rfl (hb hbytes d54)
  have c16 : Steps p.tables e below (s₁.setTop (entryFrame m #[.ref a, .ref b, .int (Int32.ofNat o), .int (Int32.ofNat len), .null] 6)) (T15.setTop (mkF m 57 #[.val (.ref a), .val (.ref b), .val (.int (Int32.ofNat o)), .val (.int (Int32.ofNat len)), .val .null, .val (.ref s.heap.size)] [])) := c14.trans (st15 _ (Steps.refl _))
  have ap := apart (Or.inr ⟨_, (wk W (.laysFinal "java/lang/String" "java/lang/String" "value" "[B"))⟩) (Or.inr ⟨_, (wk W (.laysFinal "java/lang/String" "java/lang/String" "coder" "B"))⟩) f1 f2 (t₁ := .array .byte) (t₂ := .byte) (by decide +kernel) (by decide +kernel) (by decide)
  have al := X8.warmed.alike.symm.trans X15.warmed.alike
  have n7 : T11.heap[s.heap.size]? = some N := by rw [q11]; exact n1.1
  exact ⟨T15, none, _, _, _, X15, by simp, rfl, by omega, (fun _ => rfl), ⟨rfl, _, N, bl15, ((Same.refl D _).set _ (by simp)).set _ (by simp), sl15, (Cell.slots_setSlot_ne _ ap).trans sl13, n1.keep al (p15.other hne (p13.other hne n7)), n2, by rw [al.findClass]; exact n3, n4, n5, fun y c h1 h2 => p15.other h1 (p13.other h1 (by rw [q11]; exact n6 y c h2)), by rw [p15.2.2, p13.2.2, q11]; exact z8⟩, fun fs hl => c16.trans (X15.returnOut hexec hret (hb hbytes d57) hl)⟩
end New4
namespace New1
def yN : MethodName := ⟨"java/lang/String", "<init>", "([C)V"⟩
abbrev yB : ByteArray := jdk_42_method_3_code
theorem d0 : decode yB 0 = .ok (.aload_n 0, 1) := by decide +kernel
theorem d1 : decode yB 1 = .ok (.aload_n 1, 1) := by decide +kernel
theorem d2 : decode yB 2 = .ok (.iconst 0, 1) := by decide +kernel
theorem d3 : decode yB 3 = .ok (.aload_n 1, 1) := by decide +kernel
theorem d4 : decode yB 4 = .ok (.arraylength, 1) := by decide +kernel
theorem d5 : decode yB 5 = .ok (.aconst_null, 1) := by decide +kernel
theorem d6 : decode yB 6 = .ok (.invokespecial 27, 3) := by decide +kernel
theorem d9 : decode yB 9 = .ok (.return_, 1) := by decide +kernel
def site : List Cond := [New4.tab] ++ initW "java/lang/String" 27 New4.yN
def tab : Cond := tabOf yN yB 2 none site
def P (a : Addr) (D : Cell) (fV fC : Field) (b : Addr) (A : Cell) (z : Int32) (args : Array Value) (s : State) : Prop := args = #[.ref a, .ref b] ∧ Blank "java/lang/String" a D s ∧ Found "java/lang/String" "value" "[B" fV s ∧ Found "java/lang/String" "coder" "B" fC s ∧ Ch b A s ∧ StaticIs s "java/lang/String" "COMPACT_STRINGS" "Z" (.int z) ∧ ¬ z = 0 ∧ 0 < A.slots.size ∧ A.slots.size ≤ 536870912 ∧ ∀ i, i < A.slots.size → ¬ 255 < cv A i
def E (a : Addr) (D : Cell) (fV fC : Field) (A : Cell) (r : Option Value) (s u : State) : Prop := Got a D fV fC A 0 A.slots.size r s u
/-- new String(chars), not empty, no char above 255: a Latin-1 String of their low bytes -/
theorem law (l : Launch) (a : Addr) (D : Cell) (fV fC : Field) (b : Addr) (A : Cell) (z : Int32) : Law l yN 2 1 3 52 yB 2 none site (P a D fV fC b A z) (E a D fV fC A) [⟨a, fC.slot⟩, ⟨a, fV.slot⟩] 1 A.slots.size := by
  refine Law.of_walk (plainFor_of_name (by decide +kernel)) (by decide +kernel) (by decide +kernel) (by decide) (fun _ _ h => by rw [h.1]; rfl) (fun _ U U' hal hh h => ⟨h.1, h.2.1.mv hal hh, h.2.2.1.al hal, h.2.2.2.1.al hal, h.2.2.2.2.1.mv hal hh, h.2.2.2.2.2.1.there hal hh, h.2.2.2.2.2.2⟩) (fun r U U' V V' h1 hal h2 h => Got.mv r U U' V V' h1 hal h2 h) ?_
  intro p e s m args below meth c s₁ X0 hexec hbytes hml hret hlk hnm hown hh0 W hP
  obtain ⟨rfl, hB, f1, f2, hA, s1, hz, l0, l2, hp⟩ := hP
  have c1 : Steps p.tables e below (s₁.setTop (entryFrame m #[.ref a, .ref b] 2)) (s₁.setTop (mkF m 0 #[.val (.ref a), .val (.ref b)] [])) := entry rfl
  have c2 : Steps p.tables e below (s₁.setTop (entryFrame m #[.ref a, .ref b] 2)) (s₁.setTop (mkF m 6 #[.val (.ref a), .val (.ref b)] [.null, .int (Int32.ofNat A.slots.size), .int 0, .ref b, .ref a])) := c1.trans (by
    refine XS.aloadN X0.here hexec rfl (hb hbytes d0) rfl rfl ?_
    refine XS.aloadN X0.here hexec rfl (hb hbytes d1) rfl rfl ?_
    refine iconstV X0.here hexec rfl 0 (hb hbytes d2) (by decide) ?_
    refine XS.aloadN X0.here hexec rfl (hb hbytes d3) rfl rfl ?_
    refine X0.alen hexec (hA.1.mv X0.warmed.alike hh0) rfl rfl (hb hbytes d4) ?_
    refine XS.aconstNull X0.here hexec rfl (hb hbytes d5) ?_
    exact Steps.refl _)
  obtain ⟨v3, T3, X3, E3, g3⟩ := X0.callN hexec (New4.law l a D fV fC b A z 0 A.slots.size) rfl hown (wks W (initW "java/lang/String" 27 New4.yN)) (W New4.tab (by simp only [site, List.mem_cons, List.mem_append, true_or, or_true])) (W := 0) (Nat.le_of_ble_eq_true rfl) (Nat.le_of_ble_eq_true rfl) (Nat.le_refl _) (by show 0 + A.slots.size ≤ A.slots.size; omega) (g := (mkF m 6 #[.val (.ref a), .val (.ref b)] [.null, .int (Int32.ofNat A.slots.size), .int (Int32.ofNat 0), .ref b, .ref a])) rfl (by rw [hml]; rfl) c2 (argsL := [.ref b, .int (Int32.ofNat 0), .int (Int32.ofNat A.slots.size), .null]) (rest := []) rfl rfl (by show 2 * 0 + 0 ≤ _; decide) (hb hbytes d6) (⟨rfl, hB.mv X0.warmed.alike hh0, f1.al X0.warmed.alike, f2.al X0.warmed.alike, hA.mv X0.warmed.alike hh0, s1.there X0.warmed.alike hh0, hz, l0, by omega, l2, fun i hi => by rw [Nat.zero_add]; exact hp i hi⟩)
  have e0 := Got.mv _ s₁ s _ _ hh0.symm (Vm.Alike.refl _) rfl E3
  obtain rfl := e0.1
  have c4 : Steps p.tables e below (s₁.setTop (entryFrame m #[.ref a, .ref b] 2)) (T3.setTop (mkF m 9 #[.val (.ref a), .val (.ref b)] [])) := g3
  exact ⟨T3, none, _, _, _, X3, by simp, rfl, by omega, (fun _ => rfl), e0, fun fs hl => c4.trans (X3.returnOut hexec hret (hb hbytes d9) hl)⟩
theorem pays {l : Launch} {R : Room} {p : Program} {e : Env} {below : List Frame} {s : State} {sargs : Array Value} {len W : Nat} (a : Addr) (D : Cell) (fV fC : Field) (b : Addr) (A : Cell) (z : Int32) (htab : tab.before sargs s = true) (hfr : 4 ≤ R.frames) (hlo : W + 65 ≤ R.locals) :
    Back l R p e below s sargs yN len W (fun A₁ a₁ => A₁.cells + 1 ≤ R.cells ∧ A₁.slots + A.slots.size ≤ R.slots ∧ P a D fV fC b A z a₁ A₁.U) (fun A₁ _ v₁ B₁ => E a D fV fC A v₁ A₁.U B₁.U ∧ B₁.locs = A₁.locs ++ [⟨a, fC.slot⟩, ⟨a, fV.slot⟩] ∧ B₁.cells = A₁.cells + 1 ∧ B₁.slots = A₁.slots + A.slots.size) :=
  (law l a D fV fC b A z).pays htab hfr (by omega)
end New1
/-- the byte, read back as charAt reads it, is the char -/
theorem lo8_mask {x : Int32} (h0 : ¬ x < 0) (h1 : ¬ 255 < x) : lo8 x &&& 255 = x := by
  have t : ∀ k : Fin 256, lo8 (Int32.ofNat k.val) &&& 255 = Int32.ofNat k.val := by decide +kernel
  rw [Int32.lt_iff_toInt_lt] at h0 h1
  have e0 : (0 : Int32).toInt = 0 := rfl
  have e1 : (255 : Int32).toInt = 255 := rfl
  obtain ⟨k, hk⟩ : ∃ k : Nat, x.toInt = k := ⟨x.toInt.toNat, by omega⟩
  have hx : x = Int32.ofNat k := Int32.toInt_inj.mp (by rw [hk, Int32.toInt_ofNat_small (by omega)])
  rw [hx]
  exact t ⟨k, by omega⟩
end StrChars
namespace StrChars.Road
open Jvm Sem ClassFile Op Lib Jvm.Stand Jvm.Free Jvm.Free.XT
open Jvm.Lib.Cold (StaticIs)
abbrev ST : String := "java/lang/String"
/-- every table word that New1's law asks, flat -/
abbrev words : List Jvm.Cond := [.code New1.yN New1.yB 2 none, .initialized ST, .methodLink ST 27 New4.yN, .instanceMethod New4.yN,
  .code New4.yN New4.yB 6 none, .fieldLink ST 38 ST "COMPACT_STRINGS" "Z", .laysFinal ST ST "value" "[B", .fieldLink ST 9 ST "value" "[B", .laysFinal ST ST "coder" "B", .fieldLink ST 15 ST "coder" "B",
  .methodLink ST 1 Lib.objectInit, .instanceMethod Lib.objectInit, .code Lib.objectInit ⟨#[0xb1]⟩ 1 none, .methodLink ST 177 Cmp3.yN, .static Cmp3.yN, .methodLink ST 47 CodL.yN, .static CodL.yN,
  .code Cmp3.yN Cmp3.yB 6 (some (.array .byte)), .initialized U16, .arrayClass .byte, .methodLink U16 115 Cmp5.yN, .static Cmp5.yN, .code Cmp5.yN Cmp5.yB 7 (some .int), .code CodL.yN CodL.yB 2 (some .byte)]
theorem tab_of {a : Array Value} {s : State} (h : ∀ w ∈ words, w.before a s = true) : New1.tab.before a s = true := by
  have h5 : Cmp5.tab.before a s = true := unparts (wk h (.code Cmp5.yN Cmp5.yB 7 (some .int))) (wks h (.initialized Cmp5.yN.cls :: Cmp5.site))
  have hc : CodL.tab.before a s = true := unparts (wk h (.code CodL.yN CodL.yB 2 (some .byte))) (wks h (.initialized CodL.yN.cls :: CodL.site))
  have q5 : ∀ w ∈ Cmp5.tab :: words, w.before a s = true := fun w hw => (List.mem_cons.mp hw).elim (fun e => e ▸ h5) (h w)
  have h3 : Cmp3.tab.before a s = true := unparts (wk q5 (.code Cmp3.yN Cmp3.yB 6 (some (.array .byte)))) (wks q5 (.initialized Cmp3.yN.cls :: Cmp3.site))
  have q3 : ∀ w ∈ Cmp3.tab :: CodL.tab :: words, w.before a s = true := fun w hw => (List.mem_cons.mp hw).elim (fun e => e ▸ h3) fun hw => (List.mem_cons.mp hw).elim (fun e => e ▸ hc) (h w)
  have h4 : New4.tab.before a s = true := unparts (wk q3 (.code New4.yN New4.yB 6 none)) (wks q3 (.initialized New4.yN.cls :: New4.site))
  have q4 : ∀ w ∈ New4.tab :: words, w.before a s = true := fun w hw => (List.mem_cons.mp hw).elim (fun e => e ▸ h4) (h w)
  exact unparts (wk q4 (.code New1.yN New1.yB 2 none)) (wks q4 (.initialized New1.yN.cls :: New1.site))
/-- the words ride from the start Z to the walk's own state -/
theorem moved {Z s : State} {a0 args : Array Value} (hZ : Z.Warmed39 s.vm) (hw : ∀ d ∈ words, d.before a0 Z = true) : ∀ d ∈ words, d.before args s = true := fun d hd => by
  have q := hw d hd
  have t : ∀ d ∈ words, d = .arrayClass .byte ∨ (d.onTables && d.keepsFace) = true := by decide +kernel
  rcases t d hd with rfl | t
  · exact RoadKit.mvA hZ q
  · exact RoadKit.mv hZ q t
/-- WHAT COMES BACK, over the tables of the start Z: h the heap at the call, h' behind it -/
def Q (Z : State) (x : Addr) (A : Cell) (h : Heap) (v : Option Value) (h' : Heap) (L : List Loc) : Prop := v = none ∧ (∀ y ∈ L, y.base = x) ∧ RoadKit.Keep h h' [x] ∧ h'.size = h.size + 1 ∧ RoadKit.Exa Z h' x ST ∧ RoadKit.Fld Z h' x ST "value" "[B" (.ref h.size) ∧ RoadKit.Fld Z h' x ST "coder" "B" (.int 0) ∧
  (∃ V : Cell, RoadKit.Arr Z h' h.size V .byte ∧ V.vm = .none ∧ Z.vm.findClass "[B" = some V.cls ∧ V.slots.size = A.slots.size ∧ ∀ j, j < A.slots.size → V.slots[j]? = some (.int (lo8 (cv A j)))) ∧
  ∀ (O n d : String) (w : Value), RoadKit.Fld Z h x O n d w → RoadKit.slotOf Z O n d ≠ RoadKit.slotOf Z ST "value" "[B" → RoadKit.slotOf Z O n d ≠ RoadKit.slotOf Z ST "coder" "B" → RoadKit.Fld Z h' x O n d w
/-- **new String(chars) AT A CALL, IN THE ROAD'S FORM**: for specialBack behind newO: x the fresh String, b the char[] with the cell A -/
theorem back {p : Program} {l : Launch} {e : Env} {R : Room} {s : State} {args : Array Value} {below : List Frame} {len W : Nat} {Z : State} {a0 : Array Value} {h : Heap} (hZ : Z.Warmed39 s.vm) (hw : ∀ d ∈ words, d.before a0 Z = true) {kI : Nat} (wi : (Jvm.Cond.instantiable ST kI).before a0 Z = true)
    {x b : Addr} {A : Cell} {z : Int32} {v0 c0 : Value} (E : RoadKit.Exa Z h x ST) (V : RoadKit.Fld Z h x ST "value" "[B" v0) (C : RoadKit.Fld Z h x ST "coder" "B" c0) (K : RoadKit.Arr Z h b A .char) (hty : Typed .char A) (S : RoadKit.Sta Z h ST "COMPACT_STRINGS" "Z" (.int z)) (hz : ¬ z = 0)
    (l0 : 0 < A.slots.size) (l2 : A.slots.size ≤ 536870912) (hp : ∀ i, i < A.slots.size → ¬ 255 < cv A i) (hfr : 4 ≤ R.frames) (hlo : W + 65 ≤ R.locals) :
    Back l R p e below s args New1.yN len W (fun P a => a = #[.ref x, .ref b] ∧ P.U.heap = h ∧ P.cells + 1 ≤ R.cells ∧ P.slots + A.slots.size ≤ R.slots)
      (fun P _ v B => ∃ L, Q Z x A h v B.U.heap L ∧ B.locs = P.locs ++ L ∧ B.cells = P.cells + 1 ∧ B.slots = P.slots + A.slots.size) := by
  intro m meth c P g ig mk a X hg hsize hdg hW hn hp'
  obtain ⟨rfl, rfl, r1, r2⟩ := hp'
  have al : Z.vm.Alike P.U.vm := hZ.alike.trans X.warmed.alike
  obtain ⟨D, cfV, kV, iV, fV, hD, gV, stV, knV, obV, asV, slV⟩ := id V
  obtain ⟨D', cfC, kC, iC, fC, hD', gC, stC, -, -, asC, slC⟩ := id C
  cases hD.symm.trans hD'
  obtain ⟨D2, kD, e1, e2, e3, e4, e5⟩ := id E
  cases hD.symm.trans e1
  obtain ⟨c2, k2, i1, i2, i3, -⟩ := Cond.instantiable_spec wi
  cases e2.symm.trans i1
  cases e3.symm.trans i2
  obtain ⟨kU, u1, u2⟩ := al.2.2 _ _ e3
  have hB : Blank ST x D P.U := ⟨hD, ⟨knV, fun q hq => by rw [hq] at obV; cases obV⟩, by rw [al.findClass]; exact e2, kU, u1, by rw [u2]; exact i3, by rw [u2]; exact e5 i3⟩
  have F1 : Found ST "value" "[B" fV P.U := ⟨SBG.found_only al ⟨cfV, kV, iV, gV⟩, stV⟩
  have F2 : Found ST "coder" "B" fC P.U := ⟨SBG.found_only al ⟨cfC, kC, iC, gC⟩, stC⟩
  have hA : Ch b A P.U := ⟨⟨K.1, State.isArrayOf_alike al K.2.1, K.2.2, by omega⟩, hty⟩
  have hS : StaticIs P.U ST "COMPACT_STRINGS" "Z" (.int z) := by
    obtain ⟨cfS, iS, kS, fS, st, cS, t1, t2, t3, t4, t5, t6, t7⟩ := S
    exact StaticIs.there (s := { Z with heap := P.U.heap }) ⟨cfS, iS, kS, fS, st, cS, t1, t2, t3, t4, t5, (fun q => by rw [q] at t6; cases t6), t7⟩ al rfl
  obtain ⟨v, B, X', ⟨⟨hv, E', V', q1, q2, q3, q4, q5, q6, q7, q8, q9, q10, q11⟩, hl, hc, hs⟩, st⟩ := New1.pays x D fV fC b A z (tab_of (moved hZ hw)) hfr hlo m meth c P g ig mk _ X hg hsize hdg hW hn ⟨r1, r2, rfl, hB, F1, F2, hA, hS, hz, l0, l2, hp⟩
  have al' : Z.vm.Alike B.U.vm := hZ.alike.trans X'.warmed.alike
  have hsz : E'.slots.size = D.slots.size := by
    obtain ⟨-, -, -, kB, w1, w2, w3⟩ := q1
    obtain ⟨kB', y1, y2⟩ := al'.2.2 _ _ e3
    rw [q2.2.1] at w1
    cases w1.symm.trans y1
    rw [w3, e5 i3, y2]
  refine ⟨v, B, X', ⟨_, ⟨hv, ?_, ⟨by omega, fun y cy hy hn' => q10 y cy (by simpa using hn') hy, fun y cy hy => ?_⟩, q11, ⟨E', _, q1.1, by rw [q2.2.1]; exact e2, by rw [q2.2.1]; exact e3, by rw [q2.1]; exact obV, fun _ => by rw [hsz]; exact e5 i3⟩,
    ⟨E', cfV, kV, iV, fV, q1.1, gV, stV, by rw [q2.1]; exact knV, by rw [q2.1]; exact obV, by rw [q2.2.1]; exact asV, q3⟩, ⟨E', cfC, kC, iC, fC, q1.1, gC, stC, by rw [q2.1]; exact knV, by rw [q2.1]; exact obV, by rw [q2.2.1]; exact asC, q4⟩,
    ⟨V', ⟨q5.1, State.isArrayOf_alike al'.symm q5.2.1, q5.2.2.1⟩, q6, by rw [← al'.findClass]; exact q7, q8, fun j hj => by have := q9 j hj; rwa [Nat.zero_add] at this⟩, fun O n d w F n1 n2 => ?_⟩, hl, hc, hs⟩, st⟩
  · intro y hy
    simp only [List.mem_cons, List.not_mem_nil, or_false] at hy
    rcases hy with rfl | rfl <;> rfl
  · by_cases q : y = x
    · subst q
      cases hD.symm.trans hy
      exact ⟨E', q1.1, q2.2.1, q2.1, hsz⟩
    · exact ⟨cy, q10 y cy q hy, rfl, rfl, rfl⟩
  · obtain ⟨D3, cf, k, i, f, g1, g2, g3, g4, g5, g6, g7⟩ := F
    cases hD.symm.trans g1
    simp only [RoadKit.slotOf, g2, gV, gC, Option.map_some, Option.getD_some] at n1 n2
    exact ⟨E', cf, k, i, f, q1.1, g2, g3, by rw [q2.1]; exact g4, by rw [q2.1]; exact g5, by rw [q2.2.1]; exact g6, by rw [q2.2.2 f.slot (by simp [n1, n2])]; exact g7⟩
end StrChars.Road
namespace StrChars.Road
open Jvm Sem ClassFile Op Lib Jvm.Stand Jvm.Free Jvm.Free.XT
/-- WHAT COMES BACK, the byte[] as a list of values -/
def QA (Z : State) (x : Addr) (zn : Int32) (cs : List Int32) (h : Heap) (v : Option Value) (h' : Heap) (L : List Loc) : Prop := v = none ∧ (∀ y ∈ L, y.base = x) ∧ RoadKit.Keep h h' [x] ∧ h'.size = h.size + 1 ∧ RoadKit.Exa Z h' x ST ∧ RoadKit.Fld Z h' x ST "value" "[B" (.ref h.size) ∧ RoadKit.Fld Z h' x ST "coder" "B" (.int 0) ∧
  (∃ kb, Z.vm.findClass "[B" = some kb ∧ RoadKit.Arv Z h' h.size kb .byte zn (cs.map fun c => .int (lo8 c)) (.int 0)) ∧
  ∀ (O n d : String) (w : Value), RoadKit.Fld Z h x O n d w → RoadKit.slotOf Z O n d ≠ RoadKit.slotOf Z ST "value" "[B" → RoadKit.slotOf Z O n d ≠ RoadKit.slotOf Z ST "coder" "B" → RoadKit.Fld Z h' x O n d w
/-- **new String(chars) AT A CALL, THE ARRAYS AS LISTS**: the char[] at b holds cs, not empty, no char above 255 -/
theorem backArv {p : Program} {l : Launch} {e : Env} {R : Room} {s : State} {args : Array Value} {below : List Frame} {len W : Nat} {Z : State} {a0 : Array Value} {h : Heap} (hZ : Z.Warmed39 s.vm) (hw : ∀ d ∈ words, d.before a0 Z = true) {kI : Nat} (wi : (Jvm.Cond.instantiable ST kI).before a0 Z = true)
    {x b : Addr} {k : ClassId} {zn z : Int32} {cs : List Int32} {dv v0 c0 : Value} (E : RoadKit.Exa Z h x ST) (V : RoadKit.Fld Z h x ST "value" "[B" v0) (C : RoadKit.Fld Z h x ST "coder" "B" c0) (K : RoadKit.Arv Z h b k .char zn (cs.map Value.int) dv) (S : RoadKit.Sta Z h ST "COMPACT_STRINGS" "Z" (.int z)) (hz : ¬ z = 0)
    (hlen : zn.toNatClampNeg = cs.length) (h0 : 0 < cs.length) (hbig : cs.length ≤ 536870912) (hall : ∀ c ∈ cs, ¬ 255 < c) (hfr : 4 ≤ R.frames) (hlo : W + 65 ≤ R.locals) :
    Back l R p e below s args New1.yN len W (fun P a => a = #[.ref x, .ref b] ∧ P.U.heap = h ∧ P.cells + 1 ≤ R.cells ∧ P.slots + cs.length ≤ R.slots)
      (fun P _ v B => ∃ L, QA Z x zn cs h v B.U.heap L ∧ B.locs = P.locs ++ L ∧ B.cells = P.cells + 1 ∧ B.slots = P.slots + cs.length) := by
  obtain ⟨A, K1, K2, K3, K4, K5, K6⟩ := K
  have e : A.slots.size = cs.length := K3.trans hlen
  have hat : ∀ (i : Nat) (hi : i < cs.length), A.slots[i]? = some (.int cs[i]) := fun i hi => by rw [K5 i (by omega)]; simp [List.getD_eq_getElem?_getD, hi]
  have hcv : ∀ (i : Nat) (hi : i < cs.length), cv A i = cs[i] := fun i hi => by unfold cv; rw [hat i hi]
  have hty : Typed .char A := fun i v hv => by
    have hi : i < A.slots.size := (Array.getElem?_eq_some_iff.mp hv).1
    have q := K5 i hi
    rw [hv] at q
    rw [Option.some.inj q]
    exact K6 i hi
  refine Back.mono (back hZ hw wi E V C K1 hty S hz (by omega) (by omega) (fun i hi => by rw [hcv i (by omega)]; exact hall _ (List.getElem_mem _)) hfr hlo) (fun P a hp => ⟨hp.1, hp.2.1, hp.2.2.1, by rw [e]; exact hp.2.2.2⟩) (fun P a v B hp hq => ?_)
  obtain ⟨L, ⟨q1, q2, q3, q4, q5, q6, q7, ⟨V', v1, v2, v3, v4, v5⟩, q9⟩, hl, hc, hs⟩ := hq
  refine ⟨L, ⟨q1, q2, q3, q4, q5, q6, q7, ⟨V'.cls, v3, V', v1, rfl, by rw [v4, e, hlen], K4, fun i hi => ?_, fun i hi => ?_⟩, q9⟩, hl, hc, by rw [hs, e]⟩
  · have hi' : i < cs.length := by omega
    rw [v5 i (by omega), hcv i hi']; simp [List.getD_eq_getElem?_getD, hi']
  · have hi' : i < cs.length := by omega
    simp only [List.getD_eq_getElem?_getD, List.getElem?_map, List.getElem?_eq_getElem hi', Option.map_some, Option.getD_some]
    exact fits_lo8 _
end StrChars.Road
namespace StrChars.Road
open Jvm Sem ClassFile Op Lib Jvm.Stand Jvm.Free Jvm.Free.XT
/-- WHAT COMES BACK, in the writer's own shape -/
def QV (Z : State) (x : Addr) (N : Int32) (bs : List Int32) (h : Heap) (n0 : Nat) (v : Option Value) (h' : Heap) (L : List Loc) : Prop := v = none ∧ RoadKit.Fr n0 L ∧ RoadKit.Keep h h' [x] ∧ RoadKit.Exa Z h' x ST ∧ RoadKit.Fld Z h' x ST "coder" "B" (.int 0) ∧
  ∃ (t : Addr) (kb : ClassId), n0 ≤ t ∧ h.size ≤ t ∧ ¬ t = x ∧ RoadKit.Fld Z h' x ST "value" "[B" (.ref t) ∧ RoadKit.Arv Z h' t kb .byte N (bs.map Value.int) (.int 0)
/-- **new String(chars) AT A CALL, FOR THE WRITER**: a char[] of n known ints, each 0 to 255 -/
theorem backV {p : Program} {l : Launch} {e : Env} {R : Room} {s : State} {args : Array Value} {below : List Frame} {len W : Nat} {Z : State} {a0 : Array Value} {h : Heap} (hZ : Z.Warmed39 s.vm) (hw : ∀ d ∈ words, d.before a0 Z = true) {kI : Nat} (wi : (Jvm.Cond.instantiable ST kI).before a0 Z = true)
    {x b : Addr} {kC : ClassId} {cs bs : List Int32} {d v0 c0 : Value} {z N : Int32} {n n0 : Nat} (hx0 : n0 ≤ x) (hh0 : n0 ≤ h.size) (E : RoadKit.Exa Z h x ST) (V : RoadKit.Fld Z h x ST "value" "[B" v0) (C : RoadKit.Fld Z h x ST "coder" "B" c0) (K : RoadKit.Arv Z h b kC .char N (cs.map Value.int) d) (S : RoadKit.Sta Z h ST "COMPACT_STRINGS" "Z" (.int z)) (hz : ¬ z = 0)
    (hn : cs.length = n) (hN : N = Int32.ofNat n) (l0 : 0 < n) (l2 : n ≤ 4000) (hp : ∀ c ∈ cs, ¬ c < 0 ∧ ¬ (255 : Int32) < c) (hb : bs = cs.map (fun c => c.toInt8.toInt32)) (hfr : 4 ≤ R.frames) (hlo : W + 65 ≤ R.locals) :
    Back l R p e below s args (⟨"java/lang/String", "<init>", "([C)V"⟩ : MethodName) len W (fun P a => a = #[.ref x, .ref b] ∧ P.U.heap = h ∧ P.cells + 1 ≤ R.cells ∧ P.slots + n ≤ R.slots)
      (fun P _ v B => ∃ L, QV Z x N bs h n0 v B.U.heap L ∧ B.locs = P.locs ++ L ∧ B.cells = P.cells + 1 ∧ B.slots = P.slots + n) := by
  subst hn hN hb
  refine Back.mono (backArv hZ hw wi E V C K S hz (n32 (by omega)) l0 (by omega) (fun c hc => (hp c hc).2) hfr hlo) (fun P a hp => hp) (fun P a v B hp hq => ?_)
  obtain ⟨L, ⟨q1, q2, q3, q4, q5, q6, q7, ⟨kb, v1, v2⟩, q9⟩, hl, hc, hs⟩ := hq
  exact ⟨L, ⟨q1, fun y hy => by rw [q2 y hy]; exact hx0, q3, q5, q7, h.size, kb, hh0, Nat.le_refl _, Nat.ne_of_gt E.lt, q6, by rw [List.map_map]; exact v2⟩, hl, hc, hs⟩
end StrChars.Road
namespace StrChars
open Jvm Sem ClassFile Op Lib Jvm.Stand Jvm.Free.XT Jvm.Free.ALB Jvm.Free.JM Jvm.Free
open Jvm.Lib.Cold (StaticIs)
def hi8 (x : Int32) : Int32 := lo8 (x >>> ((8 : Int32) &&& 31))
/-- what StringUTF16.getChar makes of two bytes -/
def pairCh (u v : Int32) : Int32 := (((u &&& 255) <<< ((0 : Int32) &&& 31)) ||| ((v &&& 255) <<< ((8 : Int32) &&& 31))).toUInt32.toUInt16.toUInt32.toInt32
theorem shr0 (c : Int32) : c >>> ((0 : Int32) &&& 31) = c := by
  have e : ((0 : Int32) &&& 31) = 0 := by decide
  rw [e]
  apply Int32.toBitVec_inj.mp
  rw [Int32.toBitVec_shiftRight]
  have e1 : ((0 : Int32).toBitVec.smod 32) = 0#32 := by decide
  rw [e1, BitVec.sshiftRight_eq']
  exact BitVec.sshiftRight_zero
theorem lo8_and (x : Int32) : (lo8 x &&& 255).toBitVec.toNat = x.toBitVec.toNat % 256 := by
  have h : (lo8 x).toBitVec = (x.toBitVec.signExtend 8).signExtend 32 := by rw [lo8, Int8.toBitVec_toInt32, Int32.toBitVec_toInt8]
  rw [Int32.toBitVec_and, BitVec.toNat_and, h]
  have e : ((x.toBitVec.signExtend 8).signExtend 32).toNat % 256 = x.toBitVec.toNat % 256 := by
    rw [BitVec.toNat_signExtend]
    have hlt := x.toBitVec.isLt
    simp only [BitVec.toNat_setWidth, BitVec.toNat_signExtend]
    split <;> split <;> omega
  rw [← e]
  exact Nat.and_two_pow_sub_one_eq_mod _ 8
theorem pair_says {c : Int32} (h0 : ¬ c < 0) (h1 : ¬ 65535 < c) : pairCh (lo8 c) (hi8 c) = c := by
  rw [Int32.lt_iff_toInt_lt] at h0 h1
  have e0 : (0 : Int32).toInt = 0 := rfl
  have e1 : (65535 : Int32).toInt = 65535 := rfl
  have hc : c.toInt = c.toBitVec.toNat := by
    have := c.toBitVec.isLt
    have e : c.toInt = c.toBitVec.toInt := rfl
    rw [e] at h0 h1
    rw [e]
    rw [BitVec.toInt_eq_toNat_cond] at h0 h1 ⊢
    split at h0 <;> split <;> omega
  have hn : c.toBitVec.toNat < 65536 := by omega
  have a1 := lo8_and c
  have a2 : (hi8 c &&& 255).toBitVec.toNat = c.toBitVec.toNat / 256 := by
    rw [hi8, lo8_and]
    have e : ((8 : Int32) &&& 31) = 8 := by decide
    rw [e, Int32.toBitVec_shiftRight]
    have e2 : ((8 : Int32).toBitVec.smod 32) = 8#32 := by decide
    rw [e2, BitVec.sshiftRight_eq', BitVec.toNat_sshiftRight_of_msb_false (by rw [BitVec.msb_eq_false_iff_two_mul_lt]; omega)]
    show c.toBitVec.toNat >>> 8 % 256 = _
    rw [Nat.shiftRight_eq_div_pow]
    omega
  unfold pairCh
  apply Int32.toBitVec_inj.mp
  apply BitVec.eq_of_toNat_eq
  have f0 : ((0 : Int32) &&& 31) = 0 := by decide
  have f8 : ((8 : Int32) &&& 31) = 8 := by decide
  rw [f0, f8]
  have g : (((lo8 c &&& 255) <<< (0 : Int32)) ||| ((hi8 c &&& 255) <<< (8 : Int32))).toBitVec.toNat = c.toBitVec.toNat := by
    rw [Int32.toBitVec_or, Int32.toBitVec_shiftLeft, Int32.toBitVec_shiftLeft]
    have s0 : ((0 : Int32).toBitVec.smod 32) = 0#32 := by decide
    have s8 : ((8 : Int32).toBitVec.smod 32) = 8#32 := by decide
    rw [s0, s8, BitVec.toNat_or]
    simp only [BitVec.shiftLeft_eq', BitVec.toNat_shiftLeft, a1, a2]
    show (c.toBitVec.toNat % 256) <<< 0 % 2 ^ 32 ||| (c.toBitVec.toNat / 256) <<< 8 % 2 ^ 32 = _
    rw [Nat.shiftLeft_zero, Nat.mod_eq_of_lt (show c.toBitVec.toNat % 256 < 2 ^ 32 by omega), Nat.mod_eq_of_lt (show (c.toBitVec.toNat / 256) <<< 8 < 2 ^ 32 by rw [Nat.shiftLeft_eq]; omega), Nat.or_comm, ← Nat.shiftLeft_add_eq_or_of_lt (by omega), Nat.shiftLeft_eq]
    omega
  show BitVec.toNat (((((lo8 c &&& 255) <<< (0 : Int32)) ||| ((hi8 c &&& 255) <<< (8 : Int32))).toBitVec.setWidth 16).setWidth 32) = _
  rw [BitVec.toNat_setWidth, BitVec.toNat_setWidth, g]
  omega
end StrChars
namespace StrChars
open Jvm Sem ClassFile Op Lib Jvm.Stand Jvm.Free.XT Jvm.Free.ALB Jvm.Free.JM Jvm.Free
open Jvm.Lib.Cold (StaticIs)
theorem shr1 {n : Nat} (h : 2 * n < 2 ^ 31) : Int32.ofNat (2 * n) >>> ((1 : Int32) &&& 31) = Int32.ofNat n := by
  have e : ((1 : Int32) &&& 31) = 1 := by decide
  rw [e]
  apply Int32.toBitVec_inj.mp
  rw [Int32.toBitVec_shiftRight]
  have e1 : ((1 : Int32).toBitVec.smod 32) = 1#32 := by decide
  have hm : (BitVec.ofNat 32 (2 * n)).toNat = 2 * n := by rw [BitVec.toNat_ofNat, Nat.mod_eq_of_lt (by omega)]
  rw [e1, BitVec.sshiftRight_eq']
  apply BitVec.eq_of_toNat_eq
  show ((BitVec.ofNat 32 (2 * n)).sshiftRight 1).toNat = (BitVec.ofNat 32 n).toNat
  rw [BitVec.toNat_sshiftRight_of_msb_false (by rw [BitVec.msb_eq_false_iff_two_mul_lt, hm]; omega), hm, BitVec.toNat_ofNat, Nat.shiftRight_eq_div_pow]
  omega
/-- charAt's cast of a byte read back -/
def chr8 (u : Int32) : Int32 := (u &&& 255).toUInt32.toUInt16.toUInt32.toInt32
theorem chr8_lo8 {c : Int32} (h0 : ¬ c < 0) (h1 : ¬ 255 < c) : chr8 (lo8 c) = c := by
  have t : ∀ k : Fin 256, (Int32.ofNat k.val).toUInt32.toUInt16.toUInt32.toInt32 = Int32.ofNat k.val := by decide +kernel
  unfold chr8
  rw [lo8_mask h0 h1]
  rw [Int32.lt_iff_toInt_lt] at h0 h1
  have e0 : (0 : Int32).toInt = 0 := rfl
  have e1 : (255 : Int32).toInt = 255 := rfl
  obtain ⟨k, hk⟩ : ∃ k : Nat, c.toInt = k := ⟨c.toInt.toNat, by omega⟩
  have hx : c = Int32.ofNat k := Int32.toInt_inj.mp (by rw [hk, Int32.toInt_ofNat_small (by omega)])
  rw [hx]
  exact t ⟨k, by omega⟩
theorem narrow_ch {c : Int32} (h0 : ¬ c < 0) (h1 : ¬ 65535 < c) : narrow .char (.int c) = .int c := by
  have q : narrow .char (.int (pairCh (lo8 c) (hi8 c))) = .int (pairCh (lo8 c) (hi8 c)) := narrow_c _
  rwa [pair_says h0 h1] at q
/-- the array's cell V codes the n chars f 0 .. f (n - 1) by the coder cd, as the JDK does: coder 1 just where some char is above 255 -/
def Cod (cd : Int32) (n : Nat) (f : Nat → Int32) (V : Cell) : Prop := (cd = 0 ∧ V.slots.size = n ∧ ∀ j, j < n → V.slots[j]? = some (.int (lo8 (f j))) ∧ ¬ 255 < f j) ∨ (cd = 1 ∧ V.slots.size = 2 * n ∧ (∀ j, j < n → V.slots[2 * j]? = some (.int (lo8 (f j))) ∧ V.slots[2 * j + 1]? = some (.int (hi8 (f j)))) ∧ ∃ j, j < n ∧ 255 < f j)
theorem Cod.cd {cd : Int32} {n : Nat} {f : Nat → Int32} {V : Cell} (h : Cod cd n f V) : cd = 0 ∨ cd = 1 := h.imp (fun q => q.1) fun q => q.1
theorem Cod.len {cd : Int32} {n : Nat} {f : Nat → Int32} {V : Cell} (h : Cod cd n f V) (hs : V.slots.size < 2 ^ 31) : Int32.ofNat V.slots.size >>> (cd &&& 31) = Int32.ofNat n := by
  rcases h with ⟨rfl, h, -⟩ | ⟨rfl, h, -⟩
  · rw [shr0, h]
  · rw [h, shr1 (by omega)]
/-- **x is a String of the n chars f 0 .. f (n - 1)**, Latin-1 or UTF-16; its array at t has the cell V -/
def Txt (x t : Addr) (V : Cell) (cd : Int32) (n : Nat) (f : Nat → Int32) (U : State) : Prop := Exact "java/lang/String" x U ∧ Has x "java/lang/String" "value" "[B" (.ref t) U ∧ Has x "java/lang/String" "coder" "B" (.int cd) U ∧ XT.Arr .byte t V U ∧ Cod cd n f V ∧ ∀ j, j < n → ¬ f j < 0 ∧ ¬ 65535 < f j
theorem Txt.mv {x t : Addr} {V : Cell} {cd : Int32} {n : Nat} {f : Nat → Int32} {U U' : State} (h : Txt x t V cd n f U) (hal : U.vm.Alike U'.vm) (hh : U'.heap = U.heap) : Txt x t V cd n f U' := ⟨h.1.mv hal hh, h.2.1.mv hal hh, h.2.2.1.mv hal hh, h.2.2.2.1.mv hal hh, h.2.2.2.2⟩
namespace Cdr
def yN : MethodName := ⟨"java/lang/String", "coder", "()B"⟩
abbrev yB : ByteArray := jdk_42_method_152_code
theorem d0 : decode yB 0 = .ok (.getstatic 38, 3) := by decide +kernel
theorem d3 : decode yB 3 = .ok (.ifCond (.eq) 10, 3) := by decide +kernel
theorem d6 : decode yB 6 = .ok (.aload_n 0, 1) := by decide +kernel
theorem d7 : decode yB 7 = .ok (.getfield 15, 3) := by decide +kernel
theorem d10 : decode yB 10 = .ok (.goto 4, 3) := by decide +kernel
theorem d14 : decode yB 14 = .ok (.ireturn, 1) := by decide +kernel
def site : List Cond := [.fieldLink "java/lang/String" 38 "java/lang/String" "COMPACT_STRINGS" "Z", .fieldLink "java/lang/String" 15 "java/lang/String" "coder" "B"]
def tab : Cond := tabOf yN yB 1 (some .byte) site
def P (x : Addr) (cd z : Int32) (args : Array Value) (s : State) : Prop := args = #[.ref x] ∧ Has x "java/lang/String" "coder" "B" (.int cd) s ∧ (cd = 0 ∨ cd = 1) ∧ StaticIs s "java/lang/String" "COMPACT_STRINGS" "Z" (.int z) ∧ ¬ z = 0
def E (cd : Int32) (r : Option Value) (s u : State) : Prop := XT.PureE (some (.int cd)) r s u
theorem law (l : Launch) (x : Addr) (cd z : Int32) : Law l yN 1 0 0 0 yB 1 (some .byte) site (P x cd z) (E cd) [] 0 0 := by
  refine Law.of_walk (plainFor_of_name (by decide +kernel)) (by decide +kernel) (by decide +kernel) (by decide) (fun _ _ h => by rw [h.1]; rfl) (fun _ U U' hal hh h => ⟨h.1, h.2.1.mv hal hh, h.2.2.1, h.2.2.2.1.there hal hh, h.2.2.2.2⟩) (fun r U U' V V' h1 hal h2 h => XT.PureE.mv r U U' V V' h1 hal h2 h) ?_
  intro p e s m args below meth c s₁ X0 hexec hbytes hml hret hlk hnm hown hh0 W hP
  obtain ⟨rfl, hx, hc, s1, hz⟩ := hP
  have c1 : Steps p.tables e below (s₁.setTop (entryFrame m #[.ref x] 1)) (s₁.setTop (mkF m 0 #[.val (.ref x)] [])) := entry rfl
  obtain ⟨T2, X2, q2, st2⟩ := X0.sget hexec hown (wk W (.fieldLink "java/lang/String" 38 "java/lang/String" "COMPACT_STRINGS" "Z")) s1 (fun _ _ h => by rw [hh0]; exact h) (g := (mkF m 0 #[.val (.ref x)] [])) rfl (hb hbytes d0)
  have hh2 := q2.trans hh0
  have c3 : Steps p.tables e below (s₁.setTop (entryFrame m #[.ref x] 1)) (T2.setTop (mkF m 7 #[.val (.ref x)] [.ref x])) := (c1.trans (st2 _ (Steps.refl _))).trans (by
    refine XS.ifNo X2.here hexec rfl (hb hbytes d3) rfl (i0_eq_f hz) ?_
    refine XS.aloadN X2.here hexec rfl (hb hbytes d6) rfl rfl ?_
    exact Steps.refl _)
  obtain ⟨T4, X4, q4, st4⟩ := X2.hget hexec hown (wk W (.fieldLink "java/lang/String" 15 "java/lang/String" "coder" "B")) (hx.mv X2.warmed.alike hh2) (g := (mkF m 7 #[.val (.ref x)] [.ref x])) rfl (rest := []) rfl (hb hbytes d7)
  have c5 : Steps p.tables e below (s₁.setTop (entryFrame m #[.ref x] 1)) (T4.setTop (mkF m 14 #[.val (.ref x)] [.int cd])) := (c3.trans (st4 _ (Steps.refl _))).trans (by
    refine XS.goto X4.here hexec rfl (pc0 := 10) rfl (hb hbytes d10) (by decide) rfl ?_
    exact Steps.refl _)
  exact ⟨T4, some (.int cd), _, _, _, X4, rfl, rfl, rfl, (fun h => by cases h), ⟨rfl, q4.trans hh2⟩, fun fs hl => c5.trans (X4.ireturnOut hexec hret (by rcases hc with rfl | rfl <;> rfl) (Or.inr (Or.inr (Or.inl rfl))) (hb hbytes d14) hl)⟩
end Cdr
namespace Len
def yN : MethodName := ⟨"java/lang/String", "length", "()I"⟩
abbrev yB : ByteArray := jdk_42_method_54_code
theorem d0 : decode yB 0 = .ok (.aload_n 0, 1) := by decide +kernel
theorem d1 : decode yB 1 = .ok (.getfield 9, 3) := by decide +kernel
theorem d4 : decode yB 4 = .ok (.arraylength, 1) := by decide +kernel
theorem d5 : decode yB 5 = .ok (.aload_n 0, 1) := by decide +kernel
theorem d6 : decode yB 6 = .ok (.invokevirtual 335, 3) := by decide +kernel
theorem d9 : decode yB 9 = .ok (.ishr, 1) := by decide +kernel
theorem d10 : decode yB 10 = .ok (.ireturn, 1) := by decide +kernel
def site : List Cond := [.fieldLink "java/lang/String" 9 "java/lang/String" "value" "[B", Cdr.tab] ++ virtW "java/lang/String" 335 "java/lang/String" Cdr.yN Cdr.yN
def tab : Cond := tabOf yN yB 1 (some .int) site
def P (x t : Addr) (V : Cell) (cd : Int32) (n : Nat) (f : Nat → Int32) (z : Int32) (args : Array Value) (s : State) : Prop := args = #[.ref x] ∧ Txt x t V cd n f s ∧ StaticIs s "java/lang/String" "COMPACT_STRINGS" "Z" (.int z) ∧ ¬ z = 0
def E (n : Nat) (r : Option Value) (s u : State) : Prop := XT.PureE (some (.int (Int32.ofNat n))) r s u
/-- length() of a String of n chars, in either coding -/
theorem law (l : Launch) (x t : Addr) (V : Cell) (cd : Int32) (n : Nat) (f : Nat → Int32) (z : Int32) : Law l yN 1 0 1 13 yB 1 (some .int) site (P x t V cd n f z) (E n) [] 0 0 := by
  refine Law.of_walk (plainFor_of_name (by decide +kernel)) (by decide +kernel) (by decide +kernel) (by decide) (fun _ _ h => by rw [h.1]; rfl) (fun _ U U' hal hh h => ⟨h.1, h.2.1.mv hal hh, h.2.2.1.there hal hh, h.2.2.2⟩) (fun r U U' V V' h1 hal h2 h => XT.PureE.mv r U U' V V' h1 hal h2 h) ?_
  intro p e s m args below meth c s₁ X0 hexec hbytes hml hret hlk hnm hown hh0 W hP
  obtain ⟨rfl, hx, s1, hz⟩ := hP
  have v31 := hx.2.2.2.1.2.2.2
  have c1 : Steps p.tables e below (s₁.setTop (entryFrame m #[.ref x] 1)) (s₁.setTop (mkF m 1 #[.val (.ref x)] [.ref x])) := Steps.trans (entry rfl) (by
    show Steps p.tables e below (s₁.setTop (mkF m 0 #[.val (.ref x)] [])) _
    refine XS.aloadN X0.here hexec rfl (hb hbytes d0) rfl rfl ?_
    exact Steps.refl _)
  obtain ⟨T2, X2, q2, st2⟩ := X0.hget hexec hown (wk W (.fieldLink "java/lang/String" 9 "java/lang/String" "value" "[B")) (hx.mv X0.warmed.alike hh0).2.1 (g := (mkF m 1 #[.val (.ref x)] [.ref x])) rfl (rest := []) rfl (hb hbytes d1)
  have hh2 := q2.trans hh0
  have hx2 := hx.mv X2.warmed.alike hh2
  have c3 : Steps p.tables e below (s₁.setTop (entryFrame m #[.ref x] 1)) (T2.setTop (mkF m 6 #[.val (.ref x)] [.ref x, .int (Int32.ofNat V.slots.size)])) := (c1.trans (st2 _ (Steps.refl _))).trans (by
    refine X2.alen hexec hx2.2.2.2.1 rfl rfl (hb hbytes d4) ?_
    refine XS.aloadN X2.here hexec rfl (hb hbytes d5) rfl rfl ?_
    exact Steps.refl _)
  obtain ⟨v4, T4, X4, E4, g4⟩ := X2.callV hexec (Cdr.law l x cd z) hown (wks W (virtW "java/lang/String" 335 "java/lang/String" Cdr.yN Cdr.yN)) rfl (by decide) (wk W Cdr.tab) (W := 1) (Nat.le_of_ble_eq_true rfl) (Nat.le_of_ble_eq_true rfl) (Nat.le_refl _) (Nat.le_refl _) (hx2.1.fc X2.warmed.alike) hx2.1.is (g := (mkF m 6 #[.val (.ref x)] [.ref x, .int (Int32.ofNat V.slots.size)])) rfl (by rw [hml]; rfl) c3 (argsL := []) (rest := [.int (Int32.ofNat V.slots.size)]) rfl rfl (by show 2 * 0 + (1 + 0) ≤ _; decide) (hb hbytes d6) (⟨rfl, hx2.2.2.1, hx.2.2.2.2.1.cd, s1.there X2.warmed.alike hh2, hz⟩)
  obtain ⟨rfl, q4⟩ := E4
  have c5 : Steps p.tables e below (s₁.setTop (entryFrame m #[.ref x] 1)) (T4.setTop (mkF m 10 #[.val (.ref x)] [.int (Int32.ofNat V.slots.size >>> (cd &&& 31))])) := Steps.trans g4 (by
    refine ishr X4.here hexec rfl (hb hbytes d9) rfl ?_
    exact Steps.refl _)
  rw [hx.2.2.2.2.1.len v31] at c5
  exact ⟨T4, some (.int (Int32.ofNat n)), _, _, _, X4, rfl, rfl, rfl, (fun h => by cases h), ⟨rfl, q4.trans hh2⟩, fun fs hl => c5.trans (X4.ireturnOut hexec hret rfl (Or.inl rfl) (hb hbytes d10) hl)⟩
theorem pays {l : Launch} {R : Room} {p : Program} {e : Env} {below : List Frame} {s : State} {sargs : Array Value} {len W : Nat} (x t : Addr) (V : Cell) (cd : Int32) (n : Nat) (f : Nat → Int32) (z : Int32) (htab : tab.before sargs s = true) (hfr : 2 ≤ R.frames) (hlo : W + 25 ≤ R.locals) :
    Back l R p e below s sargs yN len W (fun A₁ a₁ => A₁.cells + 0 ≤ R.cells ∧ A₁.slots + 0 ≤ R.slots ∧ P x t V cd n f z a₁ A₁.U) (fun A₁ _ v₁ B₁ => E n v₁ A₁.U B₁.U ∧ B₁.locs = A₁.locs ++ [] ∧ B₁.cells = A₁.cells + 0 ∧ B₁.slots = A₁.slots + 0) :=
  (law l x t V cd n f z).pays htab hfr (by omega)
end Len
namespace IsL
def yN : MethodName := ⟨"java/lang/String", "isLatin1", "()Z"⟩
abbrev yB : ByteArray := jdk_42_method_154_code
theorem d0 : decode yB 0 = .ok (.getstatic 38, 3) := by decide +kernel
theorem d3 : decode yB 3 = .ok (.ifCond (.eq) 14, 3) := by decide +kernel
theorem d6 : decode yB 6 = .ok (.aload_n 0, 1) := by decide +kernel
theorem d7 : decode yB 7 = .ok (.getfield 15, 3) := by decide +kernel
theorem d10 : decode yB 10 = .ok (.ifCond (.ne) 7, 3) := by decide +kernel
theorem d13 : decode yB 13 = .ok (.iconst 1, 1) := by decide +kernel
theorem d14 : decode yB 14 = .ok (.goto 4, 3) := by decide +kernel
theorem d17 : decode yB 17 = .ok (.iconst 0, 1) := by decide +kernel
theorem d18 : decode yB 18 = .ok (.ireturn, 1) := by decide +kernel
def site : List Cond := [.fieldLink "java/lang/String" 38 "java/lang/String" "COMPACT_STRINGS" "Z", .fieldLink "java/lang/String" 15 "java/lang/String" "coder" "B"]
def tab : Cond := tabOf yN yB 1 (some .boolean) site
def P (x : Addr) (cd z : Int32) (args : Array Value) (s : State) : Prop := args = #[.ref x] ∧ Has x "java/lang/String" "coder" "B" (.int cd) s ∧ (cd = 0 ∨ cd = 1) ∧ StaticIs s "java/lang/String" "COMPACT_STRINGS" "Z" (.int z) ∧ ¬ z = 0
def E (cd : Int32) (r : Option Value) (s u : State) : Prop := XT.PureE (some (.int (1 - cd))) r s u
theorem law (l : Launch) (x : Addr) (cd z : Int32) : Law l yN 1 0 0 0 yB 1 (some .boolean) site (P x cd z) (E cd) [] 0 0 := by
  refine Law.of_walk (plainFor_of_name (by decide +kernel)) (by decide +kernel) (by decide +kernel) (by decide) (fun _ _ h => by rw [h.1]; rfl) (fun _ U U' hal hh h => ⟨h.1, h.2.1.mv hal hh, h.2.2.1, h.2.2.2.1.there hal hh, h.2.2.2.2⟩) (fun r U U' V V' h1 hal h2 h => XT.PureE.mv r U U' V V' h1 hal h2 h) ?_
  intro p e s m args below meth c s₁ X0 hexec hbytes hml hret hlk hnm hown hh0 W hP
  obtain ⟨rfl, hx, hc, s1, hz⟩ := hP
  have c1 : Steps p.tables e below (s₁.setTop (entryFrame m #[.ref x] 1)) (s₁.setTop (mkF m 0 #[.val (.ref x)] [])) := entry rfl
  obtain ⟨T2, X2, q2, st2⟩ := X0.sget hexec hown (wk W (.fieldLink "java/lang/String" 38 "java/lang/String" "COMPACT_STRINGS" "Z")) s1 (fun _ _ h => by rw [hh0]; exact h) (g := (mkF m 0 #[.val (.ref x)] [])) rfl (hb hbytes d0)
  have hh2 := q2.trans hh0
  have c3 : Steps p.tables e below (s₁.setTop (entryFrame m #[.ref x] 1)) (T2.setTop (mkF m 7 #[.val (.ref x)] [.ref x])) := (c1.trans (st2 _ (Steps.refl _))).trans (by
    refine XS.ifNo X2.here hexec rfl (hb hbytes d3) rfl (i0_eq_f hz) ?_
    refine XS.aloadN X2.here hexec rfl (hb hbytes d6) rfl rfl ?_
    exact Steps.refl _)
  obtain ⟨T4, X4, q4, st4⟩ := X2.hget hexec hown (wk W (.fieldLink "java/lang/String" 15 "java/lang/String" "coder" "B")) (hx.mv X2.warmed.alike hh2) (g := (mkF m 7 #[.val (.ref x)] [.ref x])) rfl (rest := []) rfl (hb hbytes d7)
  have c5 : Steps p.tables e below (s₁.setTop (entryFrame m #[.ref x] 1)) (T4.setTop (mkF m 10 #[.val (.ref x)] [.int cd])) := c3.trans (st4 _ (Steps.refl _))
  have c6 : Steps p.tables e below (s₁.setTop (entryFrame m #[.ref x] 1)) (T4.setTop (mkF m 18 #[.val (.ref x)] [.int (1 - cd)])) := by
    rcases hc with rfl | rfl
    · exact c5.trans (by
        refine XS.ifNo X4.here hexec rfl (hb hbytes d10) rfl (i0_ne_f rfl) ?_
        refine iconstV X4.here hexec rfl 1 (hb hbytes d13) (by decide) ?_
        refine XS.goto X4.here hexec rfl (pc0 := 14) rfl (hb hbytes d14) (by decide) rfl ?_
        exact Steps.refl _)
    · exact c5.trans (by
        refine XS.ifYes X4.here hexec rfl (pc0 := 10) rfl (hb hbytes d10) rfl (i0_ne_t (by decide)) (by decide) rfl ?_
        refine iconstV X4.here hexec rfl 0 (hb hbytes d17) (by decide) ?_
        exact Steps.refl _)
  exact ⟨T4, some (.int (1 - cd)), _, _, _, X4, rfl, rfl, rfl, (fun h => by cases h), ⟨rfl, q4.trans hh2⟩, fun fs hl => c6.trans (X4.ireturnOut hexec hret (by rcases hc with rfl | rfl <;> rfl) (Or.inr (Or.inl rfl)) (hb hbytes d18) hl)⟩
end IsL
namespace LChA
def yN : MethodName := ⟨"java/lang/StringLatin1", "charAt", "([BI)C"⟩
abbrev yB : ByteArray := jdk_43_method_2_code
theorem d0 : decode yB 0 = .ok (.iload_n 1, 1) := by decide +kernel
theorem d1 : decode yB 1 = .ok (.aload_n 0, 1) := by decide +kernel
theorem d2 : decode yB 2 = .ok (.arraylength, 1) := by decide +kernel
theorem d3 : decode yB 3 = .ok (.invokestatic 9, 3) := by decide +kernel
theorem d6 : decode yB 6 = .ok (.aload_n 0, 1) := by decide +kernel
theorem d7 : decode yB 7 = .ok (.iload_n 1, 1) := by decide +kernel
theorem d8 : decode yB 8 = .ok (.baload, 1) := by decide +kernel
theorem d9 : decode yB 9 = .ok (.sipush 255, 3) := by decide +kernel
theorem d12 : decode yB 12 = .ok (.iand, 1) := by decide +kernel
theorem d13 : decode yB 13 = .ok (.i2c, 1) := by decide +kernel
theorem d14 : decode yB 14 = .ok (.ireturn, 1) := by decide +kernel
def site : List Cond := [JO.Str_checkIndex.tab] ++ staticW "java/lang/StringLatin1" 9 JO.Str_checkIndex.yN
def tab : Cond := tabOf yN yB 2 (some .char) site
def P (t : Addr) (V : Cell) (i : Nat) (u : Int32) (fm : Value) (args : Array Value) (s : State) : Prop := args = #[.ref t, .int (Int32.ofNat i)] ∧ XT.Arr .byte t V s ∧ V.slots[i]? = some (.int u) ∧ (StaticIs s "jdk/internal/util/Preconditions" "SIOOBE_FORMATTER" "Ljava/util/function/BiFunction;" fm ∧ fm.isRef = true)
def E (u : Int32) (r : Option Value) (s w : State) : Prop := XT.PureE (some (.int (chr8 u))) r s w
theorem law (l : Launch) (t : Addr) (V : Cell) (i : Nat) (u : Int32) (fm : Value) : Law l yN 2 2 2 27 yB 2 (some .char) site (P t V i u fm) (E u) [] 0 0 := by
  refine Law.of_walk (plainFor_of_name (by decide +kernel)) (by decide +kernel) (by decide +kernel) (by decide) (fun _ _ h => by rw [h.1]; rfl) (fun _ U U' hal hh h => ⟨h.1, h.2.1.mv hal hh, h.2.2.1, h.2.2.2.1.there hal hh, h.2.2.2.2⟩) (fun r U U' V V' h1 hal h2 h => XT.PureE.mv r U U' V V' h1 hal h2 h) ?_
  intro p e s m args below meth c s₁ X0 hexec hbytes hml hret hlk hnm hown hh0 W hP
  obtain ⟨rfl, hV, hu, s1, rf⟩ := hP
  have v31 := hV.2.2.2
  have hi : i < V.slots.size := (Array.getElem?_eq_some_iff.mp hu).1
  have c1 : Steps p.tables e below (s₁.setTop (entryFrame m #[.ref t, .int (Int32.ofNat i)] 2)) (s₁.setTop (mkF m 0 #[.val (.ref t), .val (.int (Int32.ofNat i))] [])) := entry rfl
  have c2 : Steps p.tables e below (s₁.setTop (entryFrame m #[.ref t, .int (Int32.ofNat i)] 2)) (s₁.setTop (mkF m 3 #[.val (.ref t), .val (.int (Int32.ofNat i))] [.int (Int32.ofNat V.slots.size), .int (Int32.ofNat i)])) := c1.trans (by
    refine XS.iloadN X0.here hexec rfl (hb hbytes d0) rfl ?_
    refine XS.aloadN X0.here hexec rfl (hb hbytes d1) rfl rfl ?_
    refine X0.alen hexec (hV.mv X0.warmed.alike hh0) rfl rfl (hb hbytes d2) ?_
    exact Steps.refl _)
  obtain ⟨v3, T3, X3, E3, g3⟩ := X0.callS hexec (JO.Str_checkIndex.law l (Int32.ofNat i) (Int32.ofNat V.slots.size) fm) hown (wks W (staticW "java/lang/StringLatin1" 9 JO.Str_checkIndex.yN)) (wk W JO.Str_checkIndex.tab) (W := 0) (Nat.le_of_ble_eq_true rfl) (Nat.le_of_ble_eq_true rfl) (Nat.le_refl _) (Nat.le_refl _) (g := (mkF m 3 #[.val (.ref t), .val (.int (Int32.ofNat i))] [.int (Int32.ofNat V.slots.size), .int (Int32.ofNat i)])) rfl (by rw [hml]; rfl) c2 (argsL := [.int (Int32.ofNat i), .int (Int32.ofNat V.slots.size)]) (rest := []) rfl rfl (by show 2 * 0 + 0 ≤ _; decide) (hb hbytes d3) (⟨rfl, rf, s1.there X0.warmed.alike hh0, Int32.ofNat_not_neg (by omega), lt32 v31 hi⟩)
  obtain ⟨rfl, q3⟩ := E3
  have hh3 := q3.trans hh0
  have c4 : Steps p.tables e below (s₁.setTop (entryFrame m #[.ref t, .int (Int32.ofNat i)] 2)) (T3.setTop (mkF m 14 #[.val (.ref t), .val (.int (Int32.ofNat i))] [.int (chr8 u)])) := Steps.trans g3 (by
    refine XS.aloadN X3.here hexec rfl (hb hbytes d6) rfl rfl ?_
    refine XS.iloadN X3.here hexec rfl (hb hbytes d7) rfl ?_
    refine X3.aget hexec (hV.mv X3.warmed.alike hh3) rfl hu rfl rfl (hb hbytes d8) ?_
    refine sipushV X3.here hexec rfl 255 (hb hbytes d9) (by decide) ?_
    refine XS.iand X3.here hexec rfl (hb hbytes d12) rfl ?_
    refine i2c X3.here hexec rfl (hb hbytes d13) rfl ?_
    exact Steps.refl _)
  exact ⟨T3, some (.int (chr8 u)), _, _, _, X3, rfl, rfl, rfl, (fun h => by cases h), ⟨rfl, hh3⟩, fun fs hl => c4.trans (X3.ireturnOut hexec hret (narrow_c _) (Or.inr (Or.inr (Or.inr (Or.inl rfl)))) (hb hbytes d14) hl)⟩
end LChA
end StrChars
namespace StrChars.Road
open Jvm Sem ClassFile Op Lib Jvm.Stand Jvm.Free Jvm.Free.XT
open Jvm.Lib.Cold (StaticIs)
theorem consq {a : Array Value} {s : State} {c : Jvm.Cond} {L : List Jvm.Cond} (h0 : c.before a s = true) (h : ∀ w ∈ L, w.before a s = true) : ∀ w ∈ c :: L, w.before a s = true := fun w hw => (List.mem_cons.mp hw).elim (fun e => e ▸ h0) (h w)
/-- the words of String.length(), either coding -/
abbrev wordsLen : List Jvm.Cond := [.code Len.yN Len.yB 1 (some .int), .initialized ST, .fieldLink ST 9 ST "value" "[B", .fieldLink ST 38 ST "COMPACT_STRINGS" "Z", .fieldLink ST 15 ST "coder" "B", .code Cdr.yN Cdr.yB 1 (some .byte), .methodLink ST 335 Cdr.yN, .declares Cdr.yN, .selects ST Cdr.yN Cdr.yN, .instanceMethod Cdr.yN]
theorem tabLen_of {a : Array Value} {s : State} (h : ∀ w ∈ wordsLen, w.before a s = true) : Len.tab.before a s = true := by
  have hc : Cdr.tab.before a s = true := unparts (wk h (.code Cdr.yN Cdr.yB 1 (some .byte))) (wks h (.initialized Cdr.yN.cls :: Cdr.site))
  have q := consq hc h
  exact unparts (wk q (.code Len.yN Len.yB 1 (some .int))) (wks q (.initialized Len.yN.cls :: Len.site))
theorem movedLen {Z s : State} {a0 args : Array Value} (hZ : Z.Warmed39 s.vm) (hw : ∀ d ∈ wordsLen, d.before a0 Z = true) : ∀ d ∈ wordsLen, d.before args s = true := fun d hd => by
  have q := hw d hd
  have t : ∀ d ∈ wordsLen, d = .arrayClass .byte ∨ (d.onTables && d.keepsFace) = true := by decide +kernel
  rcases t d hd with rfl | t
  · exact RoadKit.mvA hZ q
  · exact RoadKit.mv hZ q t
/-- the bytes of the chars cs, low before high -/
def wideBytes : List Int32 → List Value
  | [] => []
  | c :: cs => .int (lo8 c) :: .int (hi8 c) :: wideBytes cs
theorem wide_lo (d : Value) : ∀ (cs : List Int32) (j : Nat), j < cs.length → (wideBytes cs).getD (2 * j) d = .int (lo8 (cs.getD j 0))
  | [], j, h => absurd h (Nat.not_lt_zero j)
  | c :: cs, 0, _ => rfl
  | c :: cs, j + 1, h => by
    have q := wide_lo d cs j (by simpa using h)
    rw [show 2 * (j + 1) = 2 * j + 1 + 1 from by omega]
    simpa [wideBytes] using q
theorem wide_hi (d : Value) : ∀ (cs : List Int32) (j : Nat), j < cs.length → (wideBytes cs).getD (2 * j + 1) d = .int (hi8 (cs.getD j 0))
  | [], j, h => absurd h (Nat.not_lt_zero j)
  | c :: cs, 0, _ => rfl
  | c :: cs, j + 1, h => by
    have q := wide_hi d cs j (by simpa using h)
    rw [show 2 * (j + 1) + 1 = 2 * j + 1 + 1 + 1 from by omega]
    simpa [wideBytes] using q
theorem low_at (d : Value) (cs : List Int32) (j : Nat) (h : j < cs.length) : (cs.map fun c => Value.int (lo8 c)).getD j d = .int (lo8 (cs.getD j 0)) := by
  simp [List.getD_eq_getElem?_getD, h]
/-- an array of N2 bytes vs codes the chars cs by the coder cd -/
def CodA (cs : List Int32) (cd N2 : Int32) (vs : List Value) : Prop := (cd = 0 ∧ N2 = Int32.ofNat cs.length ∧ vs = (cs.map fun c => Value.int (lo8 c)) ∧ ∀ c ∈ cs, ¬ 255 < c) ∨ (cd = 1 ∧ N2 = Int32.ofNat (2 * cs.length) ∧ vs = wideBytes cs ∧ ∃ c ∈ cs, 255 < c)
theorem CodA.cod {cs : List Int32} {cd N2 : Int32} {vs : List Value} {V : Cell} (h : CodA cs cd N2 vs) (hn : 2 * cs.length < 2 ^ 31) (hs : V.slots.size = N2.toNatClampNeg) (hv : RoadKit.Has V vs (.int 0)) : Cod cd cs.length (fun j => cs.getD j 0) V := by
  rcases h with ⟨rfl, rfl, rfl, h⟩ | ⟨rfl, rfl, rfl, c, hc, hw⟩
  · rw [n32 (by omega)] at hs
    exact Or.inl ⟨rfl, hs, fun j hj => ⟨by rw [hv j (by omega), low_at _ _ _ hj], by
      have e : cs.getD j 0 = cs[j] := by simp [List.getD_eq_getElem?_getD, hj]
      show ¬ 255 < cs.getD j 0
      rw [e]; exact h _ (List.getElem_mem _)⟩⟩
  · rw [n32 (by omega)] at hs
    obtain ⟨j, hj, rfl⟩ := List.getElem_of_mem hc
    exact Or.inr ⟨rfl, hs, fun j hj => ⟨by rw [hv _ (by omega), wide_lo _ _ _ hj], by rw [hv _ (by omega), wide_hi _ _ _ hj]⟩, j, hj, by
      have e : cs.getD j 0 = cs[j] := by simp [List.getD_eq_getElem?_getD, hj]
      show 255 < cs.getD j 0
      rw [e]; exact hw⟩
/-- an object of exactly java/lang/String, its two fields found: as the laws ask it -/
theorem strObj {Z U : State} {a0 : Array Value} {kI : Nat} (wi : (Jvm.Cond.instantiable ST kI).before a0 Z = true) (al : Z.vm.Alike U.vm) {x : Addr} {v0 c0 : Value} (E : RoadKit.Exa Z U.heap x ST) (V : RoadKit.Fld Z U.heap x ST "value" "[B" v0) (C : RoadKit.Fld Z U.heap x ST "coder" "B" c0) :
    ∃ (D : Cell) (fV fC : Field), Blank ST x D U ∧ Found ST "value" "[B" fV U ∧ Found ST "coder" "B" fC U ∧ D.slots[fV.slot]? = some v0 ∧ D.slots[fC.slot]? = some c0 ∧ RoadKit.slotOf Z ST "value" "[B" = fV.slot ∧ RoadKit.slotOf Z ST "coder" "B" = fC.slot := by
  obtain ⟨D, cfV, kV, iV, fV, hD, gV, stV, knV, obV, asV, slV⟩ := V
  obtain ⟨D', cfC, kC, iC, fC, hD', gC, stC, -, -, asC, slC⟩ := C
  cases hD.symm.trans hD'
  obtain ⟨D2, kD, e1, e2, e3, e4, e5⟩ := E
  cases hD.symm.trans e1
  obtain ⟨c2, k2, i1, i2, i3, -⟩ := Cond.instantiable_spec wi
  cases e2.symm.trans i1
  cases e3.symm.trans i2
  obtain ⟨kU, u1, u2⟩ := al.2.2 _ _ e3
  exact ⟨D, fV, fC, ⟨hD, ⟨knV, fun q hq => by rw [hq] at obV; cases obV⟩, by rw [al.findClass]; exact e2, kU, u1, by rw [u2]; exact i3, by rw [u2]; exact e5 i3⟩, ⟨SBG.found_only al ⟨cfV, kV, iV, gV⟩, stV⟩, ⟨SBG.found_only al ⟨cfC, kC, iC, gC⟩, stC⟩, slV, slC, by simp [RoadKit.slotOf, gV], by simp [RoadKit.slotOf, gC]⟩
theorem sta_is {Z U : State} (al : Z.vm.Alike U.vm) {C n d : String} {v : Value} (S : RoadKit.Sta Z U.heap C n d v) : StaticIs U C n d v := by
  obtain ⟨cfS, iS, kS, fS, st, cS, t1, t2, t3, t4, t5, t6, t7⟩ := S
  exact StaticIs.there (s := { Z with heap := U.heap }) ⟨cfS, iS, kS, fS, st, cS, t1, t2, t3, t4, t5, (fun q => by rw [q] at t6; cases t6), t7⟩ al rfl
/-- **length() OF SUCH A STRING** -/
theorem lenW {p : Program} {l : Launch} {e : Env} {R : Room} {s : State} {args : Array Value} {below : List Frame} {len W : Nat} {Z : State} {a0 : Array Value} {h : Heap} (hZ : Z.Warmed39 s.vm) (hw : ∀ d ∈ wordsLen, d.before a0 Z = true) {kI : Nat} (wi : (Jvm.Cond.instantiable ST kI).before a0 Z = true)
    {x t : Addr} {kb : ClassId} {cs : List Int32} {cd N2 z : Int32} {vs : List Value} (E : RoadKit.Exa Z h x ST) (V : RoadKit.Fld Z h x ST "value" "[B" (.ref t)) (C : RoadKit.Fld Z h x ST "coder" "B" (.int cd)) (K : RoadKit.Arv Z h t kb .byte N2 vs (.int 0)) (hc : CodA cs cd N2 vs) (hb : ∀ c ∈ cs, ¬ c < 0 ∧ ¬ (65535 : Int32) < c)
    (S : RoadKit.Sta Z h ST "COMPACT_STRINGS" "Z" (.int z)) (hz : ¬ z = 0) (l2 : cs.length ≤ 4000) (hfr : 2 ≤ R.frames) (hlo : W + 25 ≤ R.locals) :
    Back l R p e below s args (⟨"java/lang/String", "length", "()I"⟩ : MethodName) len W (fun P a => a = #[.ref x] ∧ P.U.heap = h ∧ P.cells + 0 ≤ R.cells ∧ P.slots + 0 ≤ R.slots)
      (fun P _ v B => ∃ L, (v = some (.int (Int32.ofNat cs.length)) ∧ L = [] ∧ B.U.heap = h) ∧ B.locs = P.locs ++ L ∧ B.cells = P.cells + 0 ∧ B.slots = P.slots + 0) := by
  obtain ⟨A, K1, K2, K3, K4, K5, K6⟩ := K
  have hcod := hc.cod (by omega) K3 K5
  intro m meth c P g ig mk a X hg hsize hdg hW hn hp'
  obtain ⟨rfl, rfl, r1, r2⟩ := hp'
  have al : Z.vm.Alike P.U.vm := hZ.alike.trans X.warmed.alike
  obtain ⟨D, fV, fC, hB, F1, F2, g1, g2, -, -⟩ := strObj wi al E V C
  have hx : Txt x t A cd cs.length (fun j => cs.getD j 0) P.U := ⟨⟨_, hB.2.2.1, D, hB.1, rfl, by cases q : D.vm <;> first | rfl | exact absurd q (hB.2.1.2 _)⟩, Has.of hB F1 g1, Has.of hB F2 g2, ⟨K1.1, State.isArrayOf_alike al K1.2.1, K1.2.2, by rcases hcod with ⟨-, q, -⟩ | ⟨-, q, -⟩ <;> omega⟩, hcod, fun j hj => by
    have e : cs.getD j 0 = cs[j] := by simp [List.getD_eq_getElem?_getD, hj]
    show ¬ cs.getD j 0 < 0 ∧ ¬ 65535 < cs.getD j 0
    rw [e]; exact hb _ (List.getElem_mem _)⟩
  obtain ⟨v, B, X', ⟨⟨hv, hh⟩, hl, hk, hs⟩, st⟩ := Len.pays x t A cd cs.length (fun j => cs.getD j 0) z (tabLen_of (movedLen hZ hw)) hfr hlo m meth c P g ig mk _ X hg hsize hdg hW hn ⟨r1, r2, rfl, hx, sta_is al S, hz⟩
  exact ⟨v, B, X', ⟨[], ⟨hv, rfl, hh⟩, hl, hk, hs⟩, st⟩
end StrChars.Road
namespace StrChars.Road
open Jvm Sem ClassFile Op Lib Jvm.Stand Jvm.Free Jvm.Free.XT
open Jvm.Lib.Cold (StaticIs)
/-- the road's facts of a String, as the laws ask it -/
theorem txt_of {Z U : State} {a0 : Array Value} {kI : Nat} (wi : (Jvm.Cond.instantiable ST kI).before a0 Z = true) (al : Z.vm.Alike U.vm) {x t : Addr} {kb : ClassId} {cs : List Int32} {cd N2 : Int32} {vs : List Value} (E : RoadKit.Exa Z U.heap x ST) (V : RoadKit.Fld Z U.heap x ST "value" "[B" (.ref t)) (C : RoadKit.Fld Z U.heap x ST "coder" "B" (.int cd)) (K : RoadKit.Arv Z U.heap t kb .byte N2 vs (.int 0)) (hc : CodA cs cd N2 vs) (hb : ∀ c ∈ cs, ¬ c < 0 ∧ ¬ (65535 : Int32) < c) (l2 : cs.length ≤ 4000) :
    ∃ A, Txt x t A cd cs.length (fun j => cs.getD j 0) U := by
  obtain ⟨A, K1, K2, K3, K4, K5, K6⟩ := K
  have hcod := hc.cod (by omega) K3 K5
  obtain ⟨D, fV, fC, hB, F1, F2, g1, g2, -, -⟩ := strObj wi al E V C
  exact ⟨A, ⟨_, hB.2.2.1, D, hB.1, rfl, by cases q : D.vm <;> first | rfl | exact absurd q (hB.2.1.2 _)⟩, Has.of hB F1 g1, Has.of hB F2 g2, ⟨K1.1, State.isArrayOf_alike al K1.2.1, K1.2.2, by rcases hcod with ⟨-, q, -⟩ | ⟨-, q, -⟩ <;> omega⟩, hcod, fun j hj => by
    have e : cs.getD j 0 = cs[j] := by simp [List.getD_eq_getElem?_getD, hj]
    show ¬ cs.getD j 0 < 0 ∧ ¬ 65535 < cs.getD j 0
    rw [e]; exact hb _ (List.getElem_mem _)⟩
end StrChars.Road
namespace StrChars
open Jvm Sem ClassFile Op Lib Jvm.Stand Jvm.Free.XT Jvm.Free.ALB Jvm.Free.JM Jvm.Free
open Jvm.Lib.Cold (StaticIs)
namespace ChN
def yN : MethodName := ⟨"java/lang/String", "charAt", "(I)C"⟩
abbrev yB : ByteArray := jdk_42_method_56_code
theorem d0 : decode yB 0 = .ok (.aload_n 0, 1) := by decide +kernel
theorem d1 : decode yB 1 = .ok (.invokevirtual 492, 3) := by decide +kernel
theorem d4 : decode yB 4 = .ok (.ifCond (.eq) 12, 3) := by decide +kernel
theorem d7 : decode yB 7 = .ok (.aload_n 0, 1) := by decide +kernel
theorem d8 : decode yB 8 = .ok (.getfield 9, 3) := by decide +kernel
theorem d11 : decode yB 11 = .ok (.iload_n 1, 1) := by decide +kernel
theorem d12 : decode yB 12 = .ok (.invokestatic 495, 3) := by decide +kernel
theorem d15 : decode yB 15 = .ok (.ireturn, 1) := by decide +kernel
def site : List Cond := [.fieldLink "java/lang/String" 9 "java/lang/String" "value" "[B", IsL.tab, LChA.tab] ++ virtW "java/lang/String" 492 "java/lang/String" IsL.yN IsL.yN ++ staticW "java/lang/String" 495 LChA.yN
def tab : Cond := tabOf yN yB 2 (some .char) site
def P (x t : Addr) (V : Cell) (n : Nat) (f : Nat → Int32) (z : Int32) (fm : Value) (i : Nat) (args : Array Value) (s : State) : Prop := args = #[.ref x, .int (Int32.ofNat i)] ∧ Txt x t V 0 n f s ∧ i < n ∧ StaticIs s "java/lang/String" "COMPACT_STRINGS" "Z" (.int z) ∧ ¬ z = 0 ∧ StaticIs s "jdk/internal/util/Preconditions" "SIOOBE_FORMATTER" "Ljava/util/function/BiFunction;" fm ∧ fm.isRef = true
def E (f : Nat → Int32) (i : Nat) (r : Option Value) (s u : State) : Prop := XT.PureE (some (.int (f i))) r s u
/-- charAt(i) of a Latin-1 String of n chars, i < n: f i -/
theorem law (l : Launch) (x t : Addr) (V : Cell) (n : Nat) (f : Nat → Int32) (z : Int32) (fm : Value) (i : Nat) : Law l yN 2 1 3 40 yB 2 (some .char) site (P x t V n f z fm i) (E f i) [] 0 0 := by
  refine Law.of_walk (plainFor_of_name (by decide +kernel)) (by decide +kernel) (by decide +kernel) (by decide) (fun _ _ h => by rw [h.1]; rfl) (fun _ U U' hal hh h => ⟨h.1, h.2.1.mv hal hh, h.2.2.1, h.2.2.2.1.there hal hh, h.2.2.2.2.1, h.2.2.2.2.2.1.there hal hh, h.2.2.2.2.2.2⟩) (fun r U U' V V' h1 hal h2 h => XT.PureE.mv r U U' V V' h1 hal h2 h) ?_
  intro p e s m args below meth c s₁ X0 hexec hbytes hml hret hlk hnm hown hh0 W hP
  obtain ⟨rfl, hx, hi, s1, hz, s3, rf⟩ := hP
  have v31 := hx.2.2.2.1.2.2.2
  have hr := hx.2.2.2.2.2 i hi
  have hx0 := hx.mv X0.warmed.alike hh0
  have c1 : Steps p.tables e below (s₁.setTop (entryFrame m #[.ref x, .int (Int32.ofNat i)] 2)) (s₁.setTop (mkF m 1 #[.val (.ref x), .val (.int (Int32.ofNat i))] [.ref x])) := Steps.trans (entry rfl) (by
    show Steps p.tables e below (s₁.setTop (mkF m 0 #[.val (.ref x), .val (.int (Int32.ofNat i))] [])) _
    refine XS.aloadN X0.here hexec rfl (hb hbytes d0) rfl rfl ?_
    exact Steps.refl _)
  obtain ⟨v2, T2, X2, E2, g2⟩ := X0.callV hexec (IsL.law l x 0 z) hown (wks W (virtW "java/lang/String" 492 "java/lang/String" IsL.yN IsL.yN)) rfl (by decide) (wk W IsL.tab) (W := 0) (Nat.le_of_ble_eq_true rfl) (Nat.le_of_ble_eq_true rfl) (Nat.le_refl _) (Nat.le_refl _) (hx0.1.fc X0.warmed.alike) hx0.1.is (g := (mkF m 1 #[.val (.ref x), .val (.int (Int32.ofNat i))] [.ref x])) rfl (by rw [hml]; rfl) c1 (argsL := []) (rest := []) rfl rfl (by show 2 * 0 + 0 ≤ _; decide) (hb hbytes d1) (⟨rfl, hx0.2.2.1, hx.2.2.2.2.1.cd, s1.there X0.warmed.alike hh0, hz⟩)
  obtain ⟨rfl, q2⟩ := E2
  have hh2 := q2.trans hh0
  have hx2 := hx.mv X2.warmed.alike hh2
  obtain ⟨-, k1, k2⟩ | ⟨k0, -⟩ := hx.2.2.2.2.1
  · have c3 : Steps p.tables e below (s₁.setTop (entryFrame m #[.ref x, .int (Int32.ofNat i)] 2)) (T2.setTop (mkF m 8 #[.val (.ref x), .val (.int (Int32.ofNat i))] [.ref x])) := Steps.trans g2 (by
      refine XS.ifNo X2.here hexec rfl (hb hbytes d4) rfl (i0_eq_f (by decide)) ?_
      refine XS.aloadN X2.here hexec rfl (hb hbytes d7) rfl rfl ?_
      exact Steps.refl _)
    obtain ⟨T4, X4, q4, st4⟩ := X2.hget hexec hown (wk W (.fieldLink "java/lang/String" 9 "java/lang/String" "value" "[B")) hx2.2.1 (g := (mkF m 8 #[.val (.ref x), .val (.int (Int32.ofNat i))] [.ref x])) rfl (rest := []) rfl (hb hbytes d8)
    have hh4 := q4.trans hh2
    have c5 : Steps p.tables e below (s₁.setTop (entryFrame m #[.ref x, .int (Int32.ofNat i)] 2)) (T4.setTop (mkF m 12 #[.val (.ref x), .val (.int (Int32.ofNat i))] [.int (Int32.ofNat i), .ref t])) := (c3.trans (st4 _ (Steps.refl _))).trans (by
      refine XS.iloadN X4.here hexec rfl (hb hbytes d11) rfl ?_
      exact Steps.refl _)
    obtain ⟨v6, T6, X6, E6, g6⟩ := X4.callS hexec (LChA.law l t V i (lo8 (f i)) fm) hown (wks W (staticW "java/lang/String" 495 LChA.yN)) (wk W LChA.tab) (W := 0) (Nat.le_of_ble_eq_true rfl) (Nat.le_of_ble_eq_true rfl) (Nat.le_refl _) (Nat.le_refl _) (g := (mkF m 12 #[.val (.ref x), .val (.int (Int32.ofNat i))] [.int (Int32.ofNat i), .ref t])) rfl (by rw [hml]; rfl) c5 (argsL := [.ref t, .int (Int32.ofNat i)]) (rest := []) rfl rfl (by show 2 * 0 + 0 ≤ _; decide) (hb hbytes d12) (⟨rfl, hx.2.2.2.1.mv X4.warmed.alike hh4, (k2 i hi).1, s3.there X4.warmed.alike hh4, rf⟩)
    obtain ⟨rfl, q6⟩ := E6
    rw [chr8_lo8 hr.1 (k2 i hi).2] at g6
    exact ⟨T6, some (.int (f i)), _, _, _, X6, rfl, rfl, rfl, (fun h => by cases h), ⟨rfl, q6.trans hh4⟩, fun fs hl => Steps.trans g6 (X6.ireturnOut hexec hret (narrow_ch hr.1 hr.2) (Or.inr (Or.inr (Or.inr (Or.inl rfl)))) (hb hbytes d15) hl)⟩
  · exact absurd k0 (by decide)
theorem pays {l : Launch} {R : Room} {p : Program} {e : Env} {below : List Frame} {s : State} {sargs : Array Value} {len W : Nat} (x t : Addr) (V : Cell) (n : Nat) (f : Nat → Int32) (z : Int32) (fm : Value) (i : Nat) (htab : tab.before sargs s = true) (hfr : 4 ≤ R.frames) (hlo : W + 53 ≤ R.locals) :
    Back l R p e below s sargs yN len W (fun A₁ a₁ => A₁.cells + 0 ≤ R.cells ∧ A₁.slots + 0 ≤ R.slots ∧ P x t V n f z fm i a₁ A₁.U) (fun A₁ _ v₁ B₁ => E f i v₁ A₁.U B₁.U ∧ B₁.locs = A₁.locs ++ [] ∧ B₁.cells = A₁.cells + 0 ∧ B₁.slots = A₁.slots + 0) :=
  (law l x t V n f z fm i).pays htab hfr (by omega)
end ChN
end StrChars
namespace StrChars.Road
open Jvm Sem ClassFile Op Lib Jvm.Stand Jvm.Free Jvm.Free.XT
open Jvm.Lib.Cold (StaticIs)
/-- the words of String.charAt(int), the Latin-1 road alone -/
abbrev wordsChN : List Jvm.Cond := [.code ChN.yN ChN.yB 2 (some .char), .initialized ST, .fieldLink ST 9 ST "value" "[B", .fieldLink ST 38 ST "COMPACT_STRINGS" "Z", .fieldLink ST 15 ST "coder" "B", .code IsL.yN IsL.yB 1 (some .boolean), .methodLink ST 492 IsL.yN, .declares IsL.yN, .selects ST IsL.yN IsL.yN, .instanceMethod IsL.yN,
  .methodLink ST 495 LChA.yN, .static LChA.yN, .code LChA.yN LChA.yB 2 (some .char), .initialized "java/lang/StringLatin1", .methodLink "java/lang/StringLatin1" 9 JO.Str_checkIndex.yN, .static JO.Str_checkIndex.yN, .code JO.Str_checkIndex.yN JO.Str_checkIndex.yB 2 none,
  .fieldLink ST 1053 "jdk/internal/util/Preconditions" "SIOOBE_FORMATTER" "Ljava/util/function/BiFunction;", .methodLink ST 1059 JC.PreCheck.yN, .static JC.PreCheck.yN, .code JC.PreCheck.yN JC.PreCheck.yB 3 (some .int), .initialized "jdk/internal/util/Preconditions"]
theorem tabChN_of {a : Array Value} {s : State} (h : ∀ w ∈ wordsChN, w.before a s = true) : ChN.tab.before a s = true := by
  have hp : JC.PreCheck.tab.before a s = true := unparts (wk h (.code JC.PreCheck.yN JC.PreCheck.yB 3 (some .int))) (wks h (.initialized JC.PreCheck.yN.cls :: JC.PreCheck.site))
  have qk := consq hp h
  have hk : JO.Str_checkIndex.tab.before a s = true := unparts (wk qk (.code JO.Str_checkIndex.yN JO.Str_checkIndex.yB 2 none)) (wks qk (.initialized JO.Str_checkIndex.yN.cls :: JO.Str_checkIndex.site))
  have ql := consq hk h
  have hl : LChA.tab.before a s = true := unparts (wk ql (.code LChA.yN LChA.yB 2 (some .char))) (wks ql (.initialized LChA.yN.cls :: LChA.site))
  have hi : IsL.tab.before a s = true := unparts (wk h (.code IsL.yN IsL.yB 1 (some .boolean))) (wks h (.initialized IsL.yN.cls :: IsL.site))
  have q := consq hi (consq hl h)
  exact unparts (wk q (.code ChN.yN ChN.yB 2 (some .char))) (wks q (.initialized ChN.yN.cls :: ChN.site))
theorem movedChN {Z s : State} {a0 args : Array Value} (hZ : Z.Warmed39 s.vm) (hw : ∀ d ∈ wordsChN, d.before a0 Z = true) : ∀ d ∈ wordsChN, d.before args s = true := fun d hd => by
  have t : ∀ d ∈ wordsChN, (d.onTables && d.keepsFace) = true := by decide +kernel
  exact RoadKit.mv hZ (hw d hd) (t d hd)
/-- **charAt(i) OF A LATIN-1 STRING**, i < n: the char -/
theorem chN {p : Program} {l : Launch} {e : Env} {R : Room} {s : State} {args : Array Value} {below : List Frame} {len W : Nat} {Z : State} {a0 : Array Value} {h : Heap} (hZ : Z.Warmed39 s.vm) (hw : ∀ d ∈ wordsChN, d.before a0 Z = true) {kI : Nat} (wi : (Jvm.Cond.instantiable ST kI).before a0 Z = true)
    {x t : Addr} {kb : ClassId} {cs : List Int32} {N2 z : Int32} {vs : List Value} {fm : Value} {i : Nat} {j : Int32} (E : RoadKit.Exa Z h x ST) (V : RoadKit.Fld Z h x ST "value" "[B" (.ref t)) (C : RoadKit.Fld Z h x ST "coder" "B" (.int 0)) (K : RoadKit.Arv Z h t kb .byte N2 vs (.int 0)) (hc : CodA cs 0 N2 vs) (hb : ∀ c ∈ cs, ¬ c < 0 ∧ ¬ (65535 : Int32) < c)
    (S : RoadKit.Sta Z h ST "COMPACT_STRINGS" "Z" (.int z)) (hz : ¬ z = 0) (F : RoadKit.Sta Z h "jdk/internal/util/Preconditions" "SIOOBE_FORMATTER" "Ljava/util/function/BiFunction;" fm) (rf : fm.isRef = true) (l2 : cs.length ≤ 4000) (hi : i < cs.length) (hj : j = Int32.ofNat i) (hfr : 4 ≤ R.frames) (hlo : W + 53 ≤ R.locals) :
    Back l R p e below s args (⟨"java/lang/String", "charAt", "(I)C"⟩ : MethodName) len W (fun P a => a = #[.ref x, .int j] ∧ P.U.heap = h ∧ P.cells + 0 ≤ R.cells ∧ P.slots + 0 ≤ R.slots)
      (fun P _ v B => ∃ L, (v = some (.int (cs.getD i 0)) ∧ L = [] ∧ B.U.heap = h) ∧ B.locs = P.locs ++ L ∧ B.cells = P.cells + 0 ∧ B.slots = P.slots + 0) := by
  subst hj
  intro m meth c P g ig mk a X hg hsize hdg hW hn hp'
  obtain ⟨rfl, rfl, r1, r2⟩ := hp'
  have al : Z.vm.Alike P.U.vm := hZ.alike.trans X.warmed.alike
  obtain ⟨A, hx⟩ := txt_of wi al E V C K hc hb l2
  obtain ⟨v, B, X', ⟨⟨hv, hh⟩, hl, hk, hs⟩, st⟩ := ChN.pays x t A cs.length (fun j => cs.getD j 0) z fm i (tabChN_of (movedChN hZ hw)) hfr hlo m meth c P g ig mk _ X hg hsize hdg hW hn ⟨r1, r2, rfl, hx, hi, sta_is al S, hz, sta_is al F, rf⟩
  exact ⟨v, B, X', ⟨[], ⟨hv, rfl, hh⟩, hl, hk, hs⟩, st⟩
/-- what backV says of its String, as the contracts of this text ask it: cs's low bytes, coder 0 -/
theorem codOf {cs : List Int32} {n : Nat} (hn : cs.length = n) (hb : ∀ c ∈ cs, ¬ 255 < c) : CodA cs 0 (Int32.ofNat n) ((cs.map lo8).map Value.int) := Or.inl ⟨rfl, by rw [hn], by simp [List.map_map, Function.comp_def], hb⟩
end StrChars.Road
end Jvm.Pilot.@@N@@

namespace Jvm.Pilot.@@N@@
open Jvm Jvm.ClassFile Sem Op Lib Jvm.Free Jvm.Stand Jvm.LawKit Jvm.RoadKit Bundle Jvm.Pilot.@@N@@.Jvm.D


theorem own_putC {p : Program} {l : Launch} {e : Env} {R : Room} {s : State} {m : MethodId} {args : Array Value} {below : List Frame} {meth : Method} {c : Code} {T : State} {locs : List Loc} {cells slots : Nat} {Z : State} {h : Heap} (X : Stand p l e R s m args below meth c T locs cells slots) (hx : p.tables.exec = Jvm.exec) (hZ : Z.Warmed39 s.vm) (eT : T.heap = h) {a : Addr} {k : ClassId} {z : Int32} {vs : List Value} (F : Arv Z h a k .char z vs (.int (0 : Int32))) {x : Int32} {j : Int32} (hj : j.toNatClampNeg = vs.length) (h0 : ¬ j < 0) (hl : vs.length < z.toNatClampNeg) {g : JFrame} (hg : g.method = m) {rest : List Value} (hs : g.stack = .int x :: .int j :: .ref a :: rest) (hd : decode c.code g.pc = .ok (.castore, 1)) :
    ∃ T' h', Stand p l e R s m args below meth c T' (locs ++ [⟨a, j.toNatClampNeg⟩]) cells slots ∧ T'.heap = h' ∧ Wr h h' a j.toNatClampNeg (.int (nar .char x)) ∧ Arv Z h' a k .char z (vs ++ [(.int (nar .char x))]) (.int (0 : Int32)) ∧ ∀ target, Steps p.tables e below (T'.setTop { g with pc := g.pc + 1, stack := rest }) target → Steps p.tables e below (T.setTop g) target := by
  have V' : Arv Z h a k .char z (vs ++ [(.int (0 : Int32))]) (.int (0 : Int32)) := F.pad (pad_rep vs (.int (0 : Int32)) 1)
  obtain ⟨cl, Ar, q, S, M, H, U⟩ := V'
  have hin : ¬ (j < 0 ∨ cl.slots.size ≤ j.toNatClampNeg) := by
    rw [S, hj]; exact fun q => q.elim h0 (fun q => absurd hl (Nat.not_lt.mpr q))
  obtain ⟨T', h', X', e', W, st⟩ := stC X hx hZ eT Ar hin hg hs hd
  have V3 := Arv.set Ar q S M H U (v := (.int (nar .char x))) (fits_nar_char _) W vs.length hj (by simp)
  rw [show (vs ++ [(Value.int (0 : Int32))]).set vs.length (Value.int (nar .char x)) = vs ++ [(Value.int (nar .char x))] by simp] at V3
  exact ⟨T', h', X', e', W, V3, st⟩

theorem ww {Z : State} {a0 : Array Value} (hw : ∀ d ∈ tables_1, d.before a0 Z = true) {d : Jvm.Cond} (i : Nat) (h : tables_1[i]? = some d) : d.before a0 Z = true := hw _ (List.mem_of_getElem? h)

theorem own_castV {p : Program} {l : Launch} {e : Env} {R : Room} {s : State} {m : MethodId} {args : Array Value} {below : List Frame} {meth : Method} {c : Code} {T : State} {locs : List Loc} {cells slots : Nat} {Z : State} {a0 : Array Value} {h : Heap} (X : Stand p l e R s m args below meth c T locs cells slots) (hx : p.tables.exec = Jvm.exec) (hZ : Z.Warmed39 s.vm) {own K : String} {index : Nat} (hown : s.vm.findClass own = some m.cls) (w : (Cond.classLink own index K).before a0 Z = true) (eT : T.heap = h) {v : Value} (F : v = .null ∨ ∃ a, v = .ref a ∧ Ins Z h a K true)
    {g : JFrame} (hg : g.method = m) {rest : List Value} (hs : g.stack = v :: rest) (hd : decode c.code g.pc = .ok (.checkcast index, 3)) : ∃ T', Stand p l e R s m args below meth c T' locs cells slots ∧ T'.heap = h ∧ ∀ target, Steps p.tables e below (T'.setTop { g with pc := g.pc + 3 }) target → Steps p.tables e below (T.setTop g) target := by
  rcases F with rfl | ⟨a, rfl, F⟩
  · exact ⟨T, X, eT, X.checkcastNull hx hg hs hd⟩
  · exact castY X hx hZ hown w eT F hg hs hd
theorem own_bk {l : Launch} {R : Room} {p : Program} {e : Env} {below : List Frame} {s : State} {args : Array Value} {y : MethodName} {len W : Nat} {h : Heap} {n0 : Nat} {Pre : Pt → Array Value → Prop} {A A' : Option Value → Prop} (hA : ∀ v, A v → A' v)
    (hB : Back l R p e below s args y len W Pre (fun P _ v B => ∃ L, (A v ∧ L = [] ∧ B.U.heap = h) ∧ B.locs = P.locs ++ L ∧ B.cells = P.cells + 0 ∧ B.slots = P.slots + 0)) :
    Back l R p e below s args y len W Pre (fun P _ v B => ∃ L, (A' v ∧ Fr n0 L ∧ B.U.heap = h) ∧ B.locs = P.locs ++ L ∧ B.cells = P.cells + 0 ∧ B.slots = P.slots + 0) :=
  Back.mono hB (fun _ _ q => q) (fun _ _ _ _ _ ⟨L, ⟨q1, q2, q3⟩, q4⟩ => ⟨L, ⟨hA _ q1, by subst q2; exact Fr.nil n0, q3⟩, q4⟩)
theorem own_eqv {cs ds : List Int32} (v : Option Value) (h : (v = some (.int 1) ∧ cs = ds) ∨ (v = some (.int 0) ∧ ¬ cs = ds)) : v = some (.int (if cs = ds then (1 : Int32) else 0)) := by
  rcases h with ⟨rfl, q⟩ | ⟨rfl, q⟩
  · rw [if_pos q]
  · rw [if_neg q]
theorem own_t {P : Prop} [Decidable P] (h : ¬ (if P then (1 : Int32) else 0) = 0) : P := by
  by_cases q : P
  · exact q
  · exact absurd (if_neg q) h
theorem own_f {P : Prop} [Decidable P] (h : (if P then (1 : Int32) else 0) = 0) : ¬ P := fun q => by
  rw [if_pos q] at h; exact absurd h (by decide)
theorem own_wide {l : Launch} {R : Room} {p : Program} {e : Env} {below : List Frame} {s : State} {args : Array Value} {y : MethodName} {len W n N : Nat} {as' : Array Value} {h : Heap} {Q : Option Value → Heap → List Loc → Prop} (hn : n ≤ N)
    (hB : Back l R p e below s args y len W (fun P a => a = as' ∧ P.U.heap = h ∧ P.cells + 1 ≤ R.cells ∧ P.slots + n ≤ R.slots) (fun P _ v B => ∃ L, Q v B.U.heap L ∧ B.locs = P.locs ++ L ∧ B.cells = P.cells + 1 ∧ B.slots = P.slots + n)) :
    Back l R p e below s args y len W (fun P a => a = as' ∧ P.U.heap = h ∧ P.cells + 1 ≤ R.cells ∧ P.slots + N ≤ R.slots) (fun P _ v B => ∃ L, Q v B.U.heap L ∧ B.locs = P.locs ++ L ∧ B.cells = P.cells + 1 ∧ B.slots = P.slots + N) := by
  intro m meth c A g ig mk a X hg hs hd hW hnm hp
  obtain ⟨v, B, X', ⟨L, q1, q2, q3, q4⟩, st⟩ := hB m meth c A g ig mk a X hg hs hd hW hnm ⟨hp.1, hp.2.1, hp.2.2.1, by have := hp.2.2.2; omega⟩
  exact ⟨v, ⟨B.U, B.locs, B.cells, A.slots + N⟩, X'.mono (Nat.le_refl _) (show B.slots ≤ A.slots + N by rw [q4]; omega), ⟨L, q1, q2, q3, rfl⟩, st⟩

theorem own_nf2 {Z : State} {a0 : Array Value} {y1 y2 : MethodName} (h : NotFace Z y1) (wd : (Cond.declares y1).before a0 Z = true) (hc : y1.cls = y2.cls) : NotFace Z y2 := fun r0 h0 => by
  obtain ⟨r1, r, hn, -⟩ := Cond.declares_spec wd
  have e1 := findClass_of_methodNamed hn
  have e2 := findClass_of_methodNamed h0
  rw [hc] at e1
  have ec : r1.cls = r0.cls := Option.some.inj (e1.symm.trans e2)
  obtain ⟨kr, hk, hi⟩ := h r1 hn
  exact ⟨kr, ec ▸ hk, hi⟩
theorem own_sameM {Z : State} {a0 : Array Value} {y : MethodName} (wd : (Cond.declares y).before a0 Z = true) (hnf : NotFace Z y) (hy : y.cls ≠ "java/lang/invoke/MethodHandle" ∧ y.cls ≠ "java/lang/invoke/VarHandle") : (Cond.sameMethod y.cls y.cls y.name y.desc).before a0 Z = true := by
  obtain ⟨r0, r, hn, -⟩ := Cond.declares_spec wd
  have hf := State.methodFound?_of_named hn hy
  have hc := findClass_of_methodNamed hn
  obtain ⟨kr, hkr, hni⟩ := hnf r0 hn
  have hn' : Z.methodNamed? ⟨y.cls, y.name, y.desc⟩ = some r0 := hn
  simp [Cond.before, Cond.holds, Cond.value, hc, hf, hn', hkr, hni]
theorem own_decl {Z : State} {a0 : Array Value} {y : MethodName} {bytes : ByteArray} {maxL : Nat} {ret : Option FieldType} (wi : (Cond.instanceMethod y).before a0 Z = true) (wc : (Cond.code y bytes maxL ret).before a0 Z = true) : (Cond.declares y).before a0 Z = true := by
  obtain ⟨mk, methM, hnamed, hmethM, hst, -⟩ := Cond.instanceMethod_spec wi
  obtain ⟨m2, cM, q1, -, -, -, -, -, -, hsig⟩ := Cond.code_spec hnamed wc
  cases hmethM.symm.trans q1
  simp [Cond.before, Cond.holds, Cond.value, hnamed, hmethM, hst, hsig]
theorem own_n (n : Nat) (hn : n ≤ 4000) : ¬ Int32.ofNat n < 0 ∧ (Int32.ofNat n).toNatClampNeg = n := by
  have e : (Int32.ofNat n).toInt = n := Int32.toInt_ofNat_of_lt (by omega)
  refine ⟨?_, ?_⟩
  · rw [Int32.lt_iff_toInt_lt, e, show (0 : Int32).toInt = 0 from rfl]; omega
  · rw [Int32.toNatClampNeg, e]; rfl
theorem own_cp {p : Program} {l : Launch} {e : Env} {R : Room} {s : State} {m : MethodId} {args : Array Value} {below : List Frame} {meth : Method} {c : Code} {T : State} {locs : List Loc} {cells slots : Nat} {Z : State} {h : Heap} (X : Stand p l e R s m args below meth c T locs cells slots) (hx : p.tables.exec = Jvm.exec) (hZ : Z.Warmed39 s.vm) {a0 : Array Value} {own : String} {index : Nat} (hown : s.vm.findClass own = some m.cls)
    (w1 : (Cond.methodLink own index Jvm.Stand.acN).before a0 Z = true) (w2 : (Cond.native Jvm.Stand.acN).before a0 Z = true) (w3 : (Cond.static Jvm.Stand.acN).before a0 Z = true) (w4 : (Cond.initialized "java/lang/System").before a0 Z = true) (eT : T.heap = h)
    {a b : Addr} {k k' : ClassId} {z : Int32} {vs ys : List Value} {M : Nat} {dp nn : Int32} (A : Arv Z h a k .byte z vs (.int 0)) (B : Arv Z h b k' .byte (Int32.ofNat M) ys (.int 0)) (hz : vs.length ≤ z.toNatClampNeg) (hM : M ≤ 4000) (hl : ys.length + vs.length ≤ M) (hdp : dp = Int32.ofNat ys.length) (hnn : nn = Int32.ofNat vs.length) {n0 : Nat} (N : Fr n0 locs) (ge : n0 ≤ b)
    {g : JFrame} (hg : g.method = m) (hsize : g.locals.size = c.maxLocals) {rest : List Value} (hs : g.stack = .int nn :: .int dp :: .ref b :: .int (0 : Int32) :: .ref a :: rest) (hd : decode c.code g.pc = .ok (.invokestatic index, 3))
    (hf : 1 ≤ R.frames) {W : Nat} (hW : 2 * g.monitorRoom + (rest.map fun v => v.category).sum ≤ W) (hlo : W + (nativeFrameWords "java/lang/System" "arraycopy" 5 + 11) ≤ R.locals) :
    ∃ T' h' L, Stand p l e R s m args below meth c T' L cells slots ∧ T'.heap = h' ∧ Fr n0 L ∧ Keep h h' [b] ∧ Arv Z h' b k' .byte (Int32.ofNat M) (ys ++ vs) (.int 0) ∧
      ∀ target, Steps p.tables e below (T'.setTop { g with pc := g.pc + 3, stack := rest }) target → Steps p.tables e below (T.setTop g) target := by
  subst hdp hnn
  obtain ⟨d1, d2⟩ := own_n ys.length (by omega)
  obtain ⟨v1, v2⟩ := own_n vs.length (by omega)
  obtain ⟨m1, m2⟩ := own_n M hM
  have B' : Arv Z h b k' .byte (Int32.ofNat M) (ys ++ List.replicate (M - ys.length) (.int 0)) (.int 0) := B.pad (pad_rep ys (.int 0) _)
  have hus : vs = (List.range (Int32.ofNat vs.length).toNatClampNeg).map fun i => vs.getD ((0 : Int32).toNatClampNeg + i) (.int 0) := by
    rw [v2]
    apply List.ext_getElem
    · simp
    · intro i h1 h2
      simp [List.getD_eq_getElem?_getD, h1, show (0 : Int32).toNatClampNeg = 0 from rfl]
  obtain ⟨T', h', L, X', e', N', K', V', st⟩ := cpA (a := a) (b := b) X hx hZ hown w1 w2 w3 w4 eT A B' (Or.inl ⟨rfl, rfl⟩) (by decide) d1 v1 (by rw [v2, show (0 : Int32).toNatClampNeg = 0 from rfl]; omega) (by rw [d2, v2, m2]; exact hl) hus (by rw [d2, v2, List.length_append, List.length_replicate]; omega) N ge hg hsize hs hd hf hW hlo
  refine ⟨T', h', L, X', e', N', K', ?_, st⟩
  rw [d2, v2] at V'
  rw [show (ys ++ List.replicate (M - ys.length) (Value.int 0)).take ys.length = ys by simp, show (ys ++ List.replicate (M - ys.length) (Value.int 0)).drop (ys.length + vs.length) = List.replicate (M - ys.length - vs.length) (Value.int 0) by rw [List.drop_append, List.drop_replicate]; simp] at V'
  exact V'.pad fun i => ((pad_rep (ys ++ vs) (.int 0) _) i).symm

theorem own_atoms {Z : State} {a0 : Array Value} (hw : ∀ d ∈ tables_1, d.before a0 Z = true) : ∀ a ∈ Bundle.stringAtoms, a.before a0 Z = true := fun d hd => by
  simp only [Bundle.stringAtoms, List.mem_cons, List.not_mem_nil, or_false] at hd
  rcases hd with rfl | rfl | rfl | rfl | rfl | rfl | rfl
  · exact hw _ (List.mem_of_getElem? (i := 6) rfl)
  · exact hw _ (List.mem_of_getElem? (i := 5) rfl)
  · exact hw _ (List.mem_of_getElem? (i := 23) rfl)
  · exact hw _ (List.mem_of_getElem? (i := 33) rfl)
  · exact hw _ (List.mem_of_getElem? (i := 31) rfl)
  · exact hw _ (List.mem_of_getElem? (i := 35) rfl)
  · exact hw _ (List.mem_of_getElem? (i := 36) rfl)
theorem own_EW {Z : State} {a0 : Array Value} (hw : ∀ d ∈ tables_1, d.before a0 Z = true) : EW Z a0 consts_1 := (EW.cons (text := "library") (ww hw 49 rfl) (by decide +kernel) (EW.cons (text := "barcode") (ww hw 54 rfl) (by decide +kernel) (EW.cons (text := " of ") (ww hw 129 rfl) (by decide +kernel) (EW.cons (text := "") (ww hw 34 rfl) (by decide +kernel) EW.nil))))
theorem own_and255 (x : Int32) : ¬ nar .char ((x &&& (255 : Int32)).toUInt32.toUInt16.toUInt32.toInt32) < 0 ∧ ¬ (255 : Int32) < nar .char ((x &&& (255 : Int32)).toUInt32.toUInt16.toUInt32.toInt32) := by
  have t : ∀ k : Fin 256, ¬ nar .char ((Int32.ofNat k.val).toUInt32.toUInt16.toUInt32.toInt32) < 0 ∧ ¬ (255 : Int32) < nar .char ((Int32.ofNat k.val).toUInt32.toUInt16.toUInt32.toInt32) := by decide +kernel
  have h : (x &&& 255).toBitVec.toNat < 256 := by
    simp only [Int32.toBitVec_and, BitVec.toNat_and]
    exact Nat.lt_succ_of_le Nat.and_le_right
  have e : (x &&& 255) = Int32.ofNat (x &&& 255).toBitVec.toNat := by
    apply Int32.toBitVec_inj.mp
    show _ = BitVec.ofNat 32 _
    rw [BitVec.ofNat_toNat]; simp
  rw [e]
  exact t ⟨_, h⟩
theorem own_up (cs : List Int32) (h : ∀ c ∈ cs, ¬ c < 0 ∧ ¬ (255 : Int32) < c) : ∀ c ∈ cs, ¬ c < 0 ∧ ¬ (65535 : Int32) < c := fun c hc => ⟨(h c hc).1, fun q => (h c hc).2 (by rw [Int32.lt_iff_toInt_lt] at q ⊢; have e1 : (65535 : Int32).toInt = 65535 := rfl; have e2 : (255 : Int32).toInt = 255 := rfl; omega)⟩

theorem own_wB {Z : State} {a0 : Array Value} (hw : ∀ d ∈ tables_1, d.before a0 Z = true) : ∀ d ∈ StrChars.Road.words, d.before a0 Z = true := fun d hd => hw d ((by decide +kernel : ∀ d ∈ StrChars.Road.words, d ∈ tables_1) d hd)
theorem own_wL {Z : State} {a0 : Array Value} (hw : ∀ d ∈ tables_1, d.before a0 Z = true) : ∀ d ∈ StrChars.Road.wordsLen, d.before a0 Z = true := fun d hd => hw d ((by decide +kernel : ∀ d ∈ StrChars.Road.wordsLen, d ∈ tables_1) d hd)
theorem own_wC {Z : State} {a0 : Array Value} (hw : ∀ d ∈ tables_1, d.before a0 Z = true) : ∀ d ∈ StrChars.Road.wordsChN, d.before a0 Z = true := fun d hd => hw d ((by decide +kernel : ∀ d ∈ StrChars.Road.wordsChN, d ∈ tables_1) d hd)
def own_good (cs : List Int32) : Prop := cs.length ≤ 17 ∧ ∀ c ∈ cs, ¬ c < 0 ∧ ¬ (255 : Int32) < c
theorem own_hb {cs : List Int32} (h : own_good cs) : ∀ c ∈ cs, ¬ c < 0 ∧ ¬ (65535 : Int32) < c := own_up cs h.2
theorem own_cd {cs : List Int32} (h : own_good cs) : StrChars.Road.CodA cs 0 (Int32.ofNat cs.length) ((cs.map StrChars.lo8).map Value.int) := StrChars.Road.codOf rfl (fun c hc => (h.2 c hc).2)
theorem own_bl (cs : List Int32) : ((cs.map StrChars.lo8).map Value.int).length = cs.length := by simp
theorem own_sh0 (x : Int32) : x <<< ((0 : Int32) &&& 31) = x := by simp
theorem own_sr0 (x : Int32) : x >>> ((0 : Int32) &&& 31) = x := by simp
theorem own_cap {a b : Nat} (h : a + b ≤ 16) : ¬ ((0 : Int32) < ((Int32.ofNat a + Int32.ofNat b) - ((Int32.ofNat 16) >>> ((0 : Int32) &&& 31)))) := by
  rw [own_sr0, Int32.lt_iff_toInt_lt, ← Int32.ofNat_add]
  have a2 := c_isub (Int32.ofNat (a + b)) (Int32.ofNat 16)
  have e1 : (Int32.ofNat (a + b)).toInt = ((a + b : Nat) : Int) := Int32.toInt_ofNat_of_lt (by omega)
  have e2 : (Int32.ofNat 16).toInt = 16 := rfl
  have e0 : (0 : Int32).toInt = 0 := rfl
  have r1 := rng32 (Int32.ofNat (a + b) - Int32.ofNat 16)
  omega
theorem own_cnt (ys cs : List Int32) : Int32.ofNat ys.length + Int32.ofNat cs.length = Int32.ofNat (ys ++ cs).length := by rw [List.length_append, Int32.ofNat_add]
theorem d17_0 : decode jdk_42_method_152_code 0 = .ok (.getstatic 38, 3) := by decide +kernel
theorem d17_3 : decode jdk_42_method_152_code 3 = .ok (.ifCond .eq 10, 3) := by decide +kernel
theorem d17_6 : decode jdk_42_method_152_code 6 = .ok (.aload_n 0, 1) := by decide +kernel
theorem d17_7 : decode jdk_42_method_152_code 7 = .ok (.getfield 15, 3) := by decide +kernel
theorem d17_10 : decode jdk_42_method_152_code 10 = .ok (.goto 4, 3) := by decide +kernel
theorem d17_14 : decode jdk_42_method_152_code 14 = .ok (.ireturn, 1) := by decide +kernel
theorem ef_17 (m : MethodId) (x0 : Addr) : entryFrame m #[(.ref x0)] 1 = mkF m 0 #[.val (.ref x0)] [] := by first | (simp [entryFrame, mkF, argsToLocals, Value.category]; done) | rfl
theorem pn_17 : plainName "java/lang/String" = true := by first | (simp [plainName, overriddenIn]; done) | decide +kernel
def Qd0 (Z : State) (xs : Addr) (z : Int32) (h0 : Heap) (n0 : Nat) (v : Option Value) (h : Heap) (L : List Loc) : Prop := v = some (.int (0 : Int32)) ∧ Fr n0 L ∧ h = h0
set_option maxRecDepth 65536 in
set_option maxHeartbeats 40000000 in
theorem rmCo (l : Launch) (Z : State) (a0 : Array Value) (hw : ∀ d ∈ tables_1, d.before a0 Z = true) (ws : List Jvm.Cond) (xs : Addr) (z : Int32) (h0 : Heap) (n0 : Nat) (O0 : Old Z n0 h0) (Cx : Fld Z h0 xs "java/lang/String" "coder" "B" (.int (0 : Int32))) (SC : Sta Z Z.heap "java/lang/String" "COMPACT_STRINGS" "Z" (.int z)) (hz : ¬ z = 0) :
    MetFree l (⟨"java/lang/String", "coder", "()B"⟩ : MethodName) (head1 (Jvm.Cond.code (⟨"java/lang/String", "coder", "()B"⟩ : MethodName) jdk_42_method_152_code 1 (some .byte) :: ws) ({ frames := 0, cells := 0, slots := 0, locals := 0 } : Room)) (fun qq U => qq = #[(.ref xs)] ∧ Z.Warmed39 U.vm ∧ U.heap = h0) (fun _ _ _ _ _ => True) (fun _ UU oo UU' => ∃ vv LL, oo = .returned vv ∧ Qd0 Z xs z h0 n0 vv UU'.heap LL ∧ FrameEnd UU oo UU' LL ({ frames := 0, cells := 0, slots := 0, locals := 0 } : Room).cells ({ frames := 0, cells := 0, slots := 0, locals := 0 } : Room).slots) := by
  refine MetFree.of_bodySF (plainFor_of_name pn_17) hisR ?_
  intro p e s m args below meth c s₁ Bd hml0 hP hK
  obtain ⟨rfl, hZ, hh⟩ := hP
  have hx := Bd.exec
  have hby := Bd.bytes
  have hml : c.maxLocals = 1 := hml0
  have hown : s.vm.findClass "java/lang/String" = some m.cls := findClass_of_methodNamed Bd.named
  have hnm := (name_of_methodNamed Bd.named Bd.method).1
  have X0 : Stand p l e ({ frames := 0, cells := 0, slots := 0, locals := 0 } : Room) s m #[(.ref xs)] below meth c s₁ [] 0 0 := Stand.of_body Bd
  have e0 : s₁.heap = h0 := by rw [← hh, Bd.state]; rfl
  have N0 := Fr.nil n0
  have pre0 : ∀ tgt, Steps p.tables e below (s₁.setTop (mkF m 0 #[.val (.ref xs)] [])) tgt → Steps p.tables e below (s₁.setTop (entryFrame m #[(.ref xs)] 1)) tgt := fun tt kk => castTop (ef_17 m xs) kk
  obtain ⟨T1, X1, e1, st1⟩ := getS2 X0 hx hZ hown (host := "") (Or.inl (ww hw 18 rfl)) Via.refl e0 (SC.ext O0.2) (g := (mkF m 0 #[.val (.ref xs)] [])) rfl (hb hby d17_0)
  obtain ⟨T2, X2, e2, st2⟩ := getF X1 hx hZ hown (host := "") (Or.inl (ww hw 30 rfl)) Via.refl e1 Cx (g := (mkF m 7 #[.val (.ref xs)] [(.ref xs)])) rfl rfl (hb hby d17_7)
  obtain ⟨fs, hr, hrun, hended, hW, hsame⟩ := X2.leave (v := some (.int (0 : Int32))) (fun h => by rw [Bd.returns] at h; cases h)
  refine ⟨_, _, pre0 _ ?_, hrun, hended, _, _, rfl, ?_, ⟨_, rfl⟩, hW, hsame.mono (by decide) (by decide)⟩
  · show Steps p.tables e below (s₁.setTop (mkF m 0 #[.val (.ref xs)] [])) _
    refine st1 _ ?_
    show Steps p.tables e below (T1.setTop (mkF m 3 #[.val (.ref xs)] [(.int z)])) _
    refine XS.ifNo X1.here hx rfl (hb hby d17_3) rfl ((if0 _ _).trans (feq (hz : ¬ (z = (0 : Int32)))).1) ?_
    show Steps p.tables e below (T1.setTop (mkF m 6 #[.val (.ref xs)] [])) _
    refine XS.aloadN X1.here hx rfl (hb hby d17_6) rfl rfl ?_
    show Steps p.tables e below (T1.setTop (mkF m 7 #[.val (.ref xs)] [(.ref xs)])) _
    refine st2 _ ?_
    show Steps p.tables e below (T2.setTop (mkF m 10 #[.val (.ref xs)] [(.int (0 : Int32))])) _
    refine XS.goto X2.here hx rfl (pc0 := 10) (pc' := 14) rfl (hb hby d17_10) (by decide) (by decide) ?_
    show Steps p.tables e below (T2.setTop (mkF m 14 #[.val (.ref xs)] [(.int (0 : Int32))])) _
    exact retN X2 hx (t := .byte) Bd.returns (by simp) (hb hby d17_14) hr
  · show Qd0 Z xs z h0 n0 _ T2.heap _
    rw [e2]
    exact ⟨rfl, N0, rfl⟩
theorem d13_0 : decode jdk_68_method_2_code 0 = .ok (.aload_n 0, 1) := by decide +kernel
theorem d13_1 : decode jdk_68_method_2_code 1 = .ok (.invokespecial 3, 3) := by decide +kernel
theorem d13_4 : decode jdk_68_method_2_code 4 = .ok (.getstatic 18, 3) := by decide +kernel
theorem d13_7 : decode jdk_68_method_2_code 7 = .ok (.ifCond .eq 18, 3) := by decide +kernel
theorem d13_10 : decode jdk_68_method_2_code 10 = .ok (.aload_n 0, 1) := by decide +kernel
theorem d13_11 : decode jdk_68_method_2_code 11 = .ok (.iload_n 1, 1) := by decide +kernel
theorem d13_12 : decode jdk_68_method_2_code 12 = .ok (.newarray .byte, 2) := by decide +kernel
theorem d13_14 : decode jdk_68_method_2_code 14 = .ok (.putfield 15, 3) := by decide +kernel
theorem d13_17 : decode jdk_68_method_2_code 17 = .ok (.aload_n 0, 1) := by decide +kernel
theorem d13_18 : decode jdk_68_method_2_code 18 = .ok (.iconst 0, 1) := by decide +kernel
theorem d13_19 : decode jdk_68_method_2_code 19 = .ok (.putfield 22, 3) := by decide +kernel
theorem d13_22 : decode jdk_68_method_2_code 22 = .ok (.goto 16, 3) := by decide +kernel
theorem d13_38 : decode jdk_68_method_2_code 38 = .ok (.return_, 1) := by decide +kernel
theorem ef_13 (m : MethodId) (x0 : Addr) (x1 : Int32) : entryFrame m #[(.ref x0), (.int x1)] 2 = mkF m 0 #[.val (.ref x0), .val (.int x1)] [] := by first | (simp [entryFrame, mkF, argsToLocals, Value.category]; done) | rfl
theorem pn_13 : plainName "java/lang/AbstractStringBuilder" = true := by first | (simp [plainName, overriddenIn]; done) | decide +kernel
def Qd1 (Z : State) (sb : Addr) (z : Int32) (h0 : Heap) (n0 : Nat) (v : Option Value) (h : Heap) (L : List Loc) : Prop := ∃ vb kv, v = none ∧ Fr n0 L ∧ Keep h0 h [sb] ∧ h0.size ≤ vb ∧ n0 ≤ vb ∧ Exa Z h sb "java/lang/StringBuilder" ∧ Fld Z h sb "java/lang/AbstractStringBuilder" "value" "[B" (.ref vb) ∧ Fld Z h sb "java/lang/AbstractStringBuilder" "coder" "B" (.int (0 : Int32)) ∧ Fld Z h sb "java/lang/AbstractStringBuilder" "count" "I" (.int (Int32.ofNat (([] : List Int32)).length)) ∧ Arv Z h vb kv .byte (Int32.ofNat 16) (((([] : List Int32)).map StrChars.lo8).map Value.int) (.int 0)
set_option maxRecDepth 65536 in
set_option maxHeartbeats 40000000 in
theorem rmAI (l : Launch) (Z : State) (a0 : Array Value) (hw : ∀ d ∈ tables_1, d.before a0 Z = true) (ws : List Jvm.Cond) (sb : Addr) (z : Int32) (h0 : Heap) (n0 : Nat) (O0 : Old Z n0 h0) (gs : n0 ≤ sb) (Eb : Exa Z h0 sb "java/lang/StringBuilder") (Vb : Fld Z h0 sb "java/lang/AbstractStringBuilder" "value" "[B" .null) (Cb : Fld Z h0 sb "java/lang/AbstractStringBuilder" "coder" "B" (.int (0 : Int32))) (Nb : Fld Z h0 sb "java/lang/AbstractStringBuilder" "count" "I" (.int (0 : Int32))) (SC : Sta Z Z.heap "java/lang/String" "COMPACT_STRINGS" "Z" (.int z)) (hz : ¬ z = 0) :
    MetFree l (⟨"java/lang/AbstractStringBuilder", "<init>", "(I)V"⟩ : MethodName) (head1 (Jvm.Cond.code (⟨"java/lang/AbstractStringBuilder", "<init>", "(I)V"⟩ : MethodName) jdk_68_method_2_code 2 none :: ws) ({ frames := 1, cells := 1, slots := 16, locals := 12 } : Room)) (fun qq U => qq = #[(.ref sb), (.int (16 : Int32))] ∧ Z.Warmed39 U.vm ∧ U.heap = h0) (fun _ _ _ _ _ => True) (fun _ UU oo UU' => ∃ vv LL, oo = .returned vv ∧ Qd1 Z sb z h0 n0 vv UU'.heap LL ∧ FrameEnd UU oo UU' LL ({ frames := 1, cells := 1, slots := 16, locals := 12 } : Room).cells ({ frames := 1, cells := 1, slots := 16, locals := 12 } : Room).slots) := by
  refine MetFree.of_bodySF (plainFor_of_name pn_13) hisR ?_
  intro p e s m args below meth c s₁ Bd hml0 hP hK
  obtain ⟨rfl, hZ, hh⟩ := hP
  have hx := Bd.exec
  have hby := Bd.bytes
  have hml : c.maxLocals = 2 := hml0
  have hown : s.vm.findClass "java/lang/AbstractStringBuilder" = some m.cls := findClass_of_methodNamed Bd.named
  have hnm := (name_of_methodNamed Bd.named Bd.method).1
  have X0 : Stand p l e ({ frames := 1, cells := 1, slots := 16, locals := 12 } : Room) s m #[(.ref sb), (.int (16 : Int32))] below meth c s₁ [] 0 0 := Stand.of_body Bd
  have e0 : s₁.heap = h0 := by rw [← hh, Bd.state]; rfl
  have N0 := Fr.nil n0
  have pre0 : ∀ tgt, Steps p.tables e below (s₁.setTop (mkF m 0 #[.val (.ref sb), .val (.int (16 : Int32))] [])) tgt → Steps p.tables e below (s₁.setTop (entryFrame m #[(.ref sb), (.int (16 : Int32))] 2)) tgt := fun tt kk => castTop (ef_13 m sb (16 : Int32)) kk
  obtain ⟨T1, X1, e1, st1⟩ := initO X0 hx hZ hown (ww hw 76 rfl) (ww hw 16 rfl) (ww hw 17 rfl) e0 (g := (mkF m 1 #[.val (.ref sb), .val (.int (16 : Int32))] [(.ref sb)])) rfl (by rw [hml]; rfl) rfl (hb hby d13_1) (by decide) (W := 0) (by show 2 * 0 + _ ≤ _; exact Nat.le_of_eq rfl) (by decide)
  obtain ⟨T2, X2, e2, st2⟩ := getS2 X1 hx hZ hown (host := "") (Or.inl (ww hw 77 rfl)) Via.refl e1 (SC.ext O0.2) (g := (mkF m 4 #[.val (.ref sb), .val (.int (16 : Int32))] [])) rfl (hb hby d13_4)
  obtain ⟨T3, h3, k3, X3, e3, E3, A3, st3⟩ := newP X2 hx hZ (ww hw 23 rfl) e2 (g := (mkF m 12 #[.val (.ref sb), .val (.int (16 : Int32))] [(.int (16 : Int32)), (.ref sb)])) rfl (hb hby d13_12) rfl (by decide) (cap := 16) (by decide) (by decide) (by decide) (by decide)
  obtain ⟨b3, q3⟩ : ∃ z, z = h0.size := ⟨_, rfl⟩
  rw [← q3] at A3 st3
  have g_b3 : n0 ≤ b3 := by rw [q3]; exact (O0).1 ▸ (O0).2.1
  have ne_sb_b3 : sb ≠ b3 := by rw [q3]; exact Nat.ne_of_lt Eb.lt
  have sz_b3 : h0.size ≤ b3 := by rw [q3]; exact ((Keep.refl h0 [sb])).1
  have O3 := Old.ext O0 E3
  have K3 := Keep.ext (Keep.refl h0 [sb]) E3
  have V3 : Arv Z h3 b3 k3 .byte (16 : Int32) [] (.int (0 : Int32)) := Arv.new A3 (by decide)
  obtain ⟨T4, h4, X4, e4, W4, st4⟩ := putF X3 hx hZ hown (host := "") (Or.inl (ww hw 78 rfl)) Via.refl e3 (Fld.ext E3 Vb) (Exa.ext E3 Eb) (Or.inl (ww hw 79 rfl)) (ww hw 65 rfl) (ty := (.array .byte)) (by decide) rfl rfl (g := (mkF m 14 #[.val (.ref sb), .val (.int (16 : Int32))] [(.ref b3), (.ref sb)])) rfl rfl (hb hby d13_14)
  have Fw4 := Fld.same W4 (Fld.ext E3 Vb)
  have N4 := Fr.snoc X4 N0 gs
  have O4 := Old.wr O3 W4 gs
  have K4 := Keep.wr K3 W4 (Or.inl (List.mem_of_getElem? (i := 0) rfl))
  have c5 := (Fld.other W4 (Fld.ext E3 Cb) (Or.inr (slot_ne (a0 := a0) (Or.inl (ww hw 81 rfl)) (Or.inl (ww hw 79 rfl)) (by decide) (t := .byte) (t' := (.array .byte)) (by decide) (by decide))))
  obtain ⟨T6, h6, X6, e6, W6, st6⟩ := putFN X4 hx hZ hown (ww hw 80 rfl) Via.refl e4 c5 (Exa.wr W4 (Exa.ext E3 Eb)) (Or.inl (ww hw 81 rfl)) (ww hw 65 rfl) (ty := .byte) (v' := (.int (0 : Int32))) (by decide) rfl rfl (g := (mkF m 19 #[.val (.ref sb), .val (.int (16 : Int32))] [(.int (0 : Int32)), (.ref sb)])) rfl rfl (hb hby d13_19)
  have Fw6 := Fld.same W6 c5
  have N6 := Fr.snoc X6 N4 gs
  have O6 := Old.wr O4 W6 gs
  have K6 := Keep.wr K4 W6 (Or.inl (List.mem_of_getElem? (i := 0) rfl))
  have c7 := (Fld.other W6 Fw4 (Or.inr (slot_ne (a0 := a0) (Or.inl (ww hw 79 rfl)) (Or.inl (ww hw 81 rfl)) (by decide) (t := (.array .byte)) (t' := .byte) (by decide) (by decide))))
  have c8 := (Fld.other W6 (Fld.other W4 (Fld.ext E3 Nb) (Or.inr (slot_ne (a0 := a0) (Or.inl (ww hw 103 rfl)) (Or.inl (ww hw 79 rfl)) (by decide) (t := .int) (t' := (.array .byte)) (by decide) (by decide)))) (Or.inr (slot_ne (a0 := a0) (Or.inl (ww hw 103 rfl)) (Or.inl (ww hw 81 rfl)) (by decide) (t := .int) (t' := .byte) (by decide) (by decide))))
  have c9 := ((V3.other W4 (Ne.symm ne_sb_b3)).other W6 (Ne.symm ne_sb_b3))
  obtain ⟨fs, hr, hrun, hended, hW, hsame⟩ := X6.leave (v := none) (fun _ => rfl)
  refine ⟨_, _, pre0 _ ?_, hrun, hended, _, _, rfl, ?_, ⟨_, rfl⟩, hW, hsame.mono (by decide) (by decide)⟩
  · show Steps p.tables e below (s₁.setTop (mkF m 0 #[.val (.ref sb), .val (.int (16 : Int32))] [])) _
    refine XS.aloadN X0.here hx rfl (hb hby d13_0) rfl rfl ?_
    show Steps p.tables e below (s₁.setTop (mkF m 1 #[.val (.ref sb), .val (.int (16 : Int32))] [(.ref sb)])) _
    refine st1 _ ?_
    show Steps p.tables e below (T1.setTop (mkF m 4 #[.val (.ref sb), .val (.int (16 : Int32))] [])) _
    refine st2 _ ?_
    show Steps p.tables e below (T2.setTop (mkF m 7 #[.val (.ref sb), .val (.int (16 : Int32))] [(.int z)])) _
    refine XS.ifNo X2.here hx rfl (hb hby d13_7) rfl ((if0 _ _).trans (feq (hz : ¬ (z = (0 : Int32)))).1) ?_
    show Steps p.tables e below (T2.setTop (mkF m 10 #[.val (.ref sb), .val (.int (16 : Int32))] [])) _
    refine XS.aloadN X2.here hx rfl (hb hby d13_10) rfl rfl ?_
    show Steps p.tables e below (T2.setTop (mkF m 11 #[.val (.ref sb), .val (.int (16 : Int32))] [(.ref sb)])) _
    refine XS.iloadN X2.here hx rfl (hb hby d13_11) rfl ?_
    show Steps p.tables e below (T2.setTop (mkF m 12 #[.val (.ref sb), .val (.int (16 : Int32))] [(.int (16 : Int32)), (.ref sb)])) _
    refine st3 _ ?_
    show Steps p.tables e below (T3.setTop (mkF m 14 #[.val (.ref sb), .val (.int (16 : Int32))] [(.ref b3), (.ref sb)])) _
    refine st4 _ ?_
    show Steps p.tables e below (T4.setTop (mkF m 17 #[.val (.ref sb), .val (.int (16 : Int32))] [])) _
    refine XS.aloadN X4.here hx rfl (hb hby d13_17) rfl rfl ?_
    show Steps p.tables e below (T4.setTop (mkF m 18 #[.val (.ref sb), .val (.int (16 : Int32))] [(.ref sb)])) _
    refine XS.iconst X4.here hx rfl (hb hby d13_18) ?_
    show Steps p.tables e below (T4.setTop (mkF m 19 #[.val (.ref sb), .val (.int (16 : Int32))] [(.int (0 : Int32)), (.ref sb)])) _
    refine st6 _ ?_
    show Steps p.tables e below (T6.setTop (mkF m 22 #[.val (.ref sb), .val (.int (16 : Int32))] [])) _
    refine XS.goto X6.here hx rfl (pc0 := 22) (pc' := 38) rfl (hb hby d13_22) (by decide) (by decide) ?_
    show Steps p.tables e below (T6.setTop (mkF m 38 #[.val (.ref sb), .val (.int (16 : Int32))] [])) _
    exact X6.returnOut hx Bd.returns (hb hby d13_38) hr
  · show Qd1 Z sb z h0 n0 _ T6.heap _
    rw [e6]
    exact ⟨b3, k3, rfl, N6, K6, sz_b3, g_b3, (Exa.wr W6 (Exa.wr W4 (Exa.ext E3 Eb))), c7, Fw6, c8, c9⟩
theorem d12_0 : decode jdk_67_method_1_code 0 = .ok (.aload_n 0, 1) := by decide +kernel
theorem d12_1 : decode jdk_67_method_1_code 1 = .ok (.bipush 16, 2) := by decide +kernel
theorem d12_3 : decode jdk_67_method_1_code 3 = .ok (.invokespecial 1, 3) := by decide +kernel
theorem own_pd0 : parseMethodDescriptor "(I)V" = some ⟨[.int], none⟩ := by decide +kernel
theorem d12_6 : decode jdk_67_method_1_code 6 = .ok (.return_, 1) := by decide +kernel
theorem ef_12 (m : MethodId) (x0 : Addr) : entryFrame m #[(.ref x0)] 1 = mkF m 0 #[.val (.ref x0)] [] := by first | (simp [entryFrame, mkF, argsToLocals, Value.category]; done) | rfl
theorem pn_12 : plainName "java/lang/StringBuilder" = true := by first | (simp [plainName, overriddenIn]; done) | decide +kernel
set_option maxRecDepth 65536 in
set_option maxHeartbeats 40000000 in
theorem rmBI (l : Launch) (Z : State) (a0 : Array Value) (hw : ∀ d ∈ tables_1, d.before a0 Z = true) (ws : List Jvm.Cond) (sb : Addr) (z : Int32) (h0 : Heap) (n0 : Nat) (O0 : Old Z n0 h0) (gs : n0 ≤ sb) (Eb : Exa Z h0 sb "java/lang/StringBuilder") (Vb : Fld Z h0 sb "java/lang/AbstractStringBuilder" "value" "[B" .null) (Cb : Fld Z h0 sb "java/lang/AbstractStringBuilder" "coder" "B" (.int (0 : Int32))) (Nb : Fld Z h0 sb "java/lang/AbstractStringBuilder" "count" "I" (.int (0 : Int32))) (SC : Sta Z Z.heap "java/lang/String" "COMPACT_STRINGS" "Z" (.int z)) (hz : ¬ z = 0) :
    MetFree l (⟨"java/lang/StringBuilder", "<init>", "()V"⟩ : MethodName) (head1 (Jvm.Cond.code (⟨"java/lang/StringBuilder", "<init>", "()V"⟩ : MethodName) jdk_67_method_1_code 1 none :: ws) ({ frames := 2, cells := 1, slots := 16, locals := 25 } : Room)) (fun qq U => qq = #[(.ref sb)] ∧ Z.Warmed39 U.vm ∧ U.heap = h0) (fun _ _ _ _ _ => True) (fun _ UU oo UU' => ∃ vv LL, oo = .returned vv ∧ Qd1 Z sb z h0 n0 vv UU'.heap LL ∧ FrameEnd UU oo UU' LL ({ frames := 2, cells := 1, slots := 16, locals := 25 } : Room).cells ({ frames := 2, cells := 1, slots := 16, locals := 25 } : Room).slots) := by
  refine MetFree.of_bodySF (plainFor_of_name pn_12) hisR ?_
  intro p e s m args below meth c s₁ Bd hml0 hP hK
  obtain ⟨rfl, hZ, hh⟩ := hP
  have hx := Bd.exec
  have hby := Bd.bytes
  have hml : c.maxLocals = 1 := hml0
  have hown : s.vm.findClass "java/lang/StringBuilder" = some m.cls := findClass_of_methodNamed Bd.named
  have hnm := (name_of_methodNamed Bd.named Bd.method).1
  have X0 : Stand p l e ({ frames := 2, cells := 1, slots := 16, locals := 25 } : Room) s m #[(.ref sb)] below meth c s₁ [] 0 0 := Stand.of_body Bd
  have e0 : s₁.heap = h0 := by rw [← hh, Bd.state]; rfl
  have N0 := Fr.nil n0
  have pre0 : ∀ tgt, Steps p.tables e below (s₁.setTop (mkF m 0 #[.val (.ref sb)] [])) tgt → Steps p.tables e below (s₁.setTop (entryFrame m #[(.ref sb)] 1)) tgt := fun tt kk => castTop (ef_12 m sb) kk
  obtain ⟨_, _, ⟨T1, L1, k1, n1⟩, -, X1, ⟨Lc1, hQ1, l1, y1, z1⟩, st1⟩ := X0.specialBack hx (y := (⟨"java/lang/AbstractStringBuilder", "<init>", "(I)V"⟩ : MethodName)) rfl hown (mvT hZ (ww hw 70 rfl)) (mvT hZ (ww hw 71 rfl)) (mvT hZ (ww hw 75 rfl)) (by decide) (backOf (W := 0) (rmAI l Z a0 hw [] sb z h0 n0 O0 gs Eb Vb Cb Nb SC hz) hZ (ww hw 75 rfl) (ww hw 74 rfl) (by decide) (by decide)) (g := (mkF m 3 #[.val (.ref sb)] [(.int (16 : Int32)), (.ref sb)])) rfl (by rw [hml]; rfl) (Steps.refl _) (a := sb) (argsL := [(.int (16 : Int32))]) (rest := []) (lenOf own_pd0 rfl) rfl (by show 2 * 0 + _ ≤ _; exact Nat.le_of_eq rfl) (hb hby d12_3) (fun _ _ => ⟨rfl, e0, (by decide : 0 + 1 ≤ _), (by decide : 0 + 16 ≤ _)⟩)
  dsimp only [Pt.U, Pt.locs, Pt.cells, Pt.slots] at X1 l1 y1 z1 st1 hQ1
  subst l1 y1 z1
  obtain ⟨vb, kv, rfl, N1q, KK1, szv, gv, fE, fV, fC, fN, fK⟩ := hQ1
  have N1 := Fr.app N0 N1q
  have O1 := Old.keep O0 KK1 (allS gs all0)
  have K1 := Keep.trans (Keep.refl h0 [sb]) KK1 (allS (Or.inl (List.mem_of_getElem? (i := 0) rfl)) all0)
  obtain ⟨fs, hr, hrun, hended, hW, hsame⟩ := X1.leave (v := none) (fun _ => rfl)
  refine ⟨_, _, pre0 _ ?_, hrun, hended, _, _, rfl, ?_, ⟨_, rfl⟩, hW, hsame.mono (by decide) (by decide)⟩
  · show Steps p.tables e below (s₁.setTop (mkF m 0 #[.val (.ref sb)] [])) _
    refine XS.aloadN X0.here hx rfl (hb hby d12_0) rfl rfl ?_
    show Steps p.tables e below (s₁.setTop (mkF m 1 #[.val (.ref sb)] [(.ref sb)])) _
    refine XS.bipush X0.here hx rfl (hb hby d12_1) ?_
    show Steps p.tables e below (s₁.setTop (mkF m 3 #[.val (.ref sb)] [(.int (16 : Int32)), (.ref sb)])) _
    refine st1.trans ?_
    show Steps p.tables e below (T1.setTop (mkF m 6 #[.val (.ref sb)] [])) _
    exact X1.returnOut hx Bd.returns (hb hby d12_6) hr
  · show Qd1 Z sb z h0 n0 _ T1.heap _
    exact ⟨vb, kv, rfl, N1, K1, szv, gv, fE, fV, fC, fN, fK⟩
theorem d18_0 : decode jdk_68_method_9_code 0 = .ok (.aload_n 0, 1) := by decide +kernel
theorem d18_1 : decode jdk_68_method_9_code 1 = .ok (.getfield 15, 3) := by decide +kernel
theorem d18_4 : decode jdk_68_method_9_code 4 = .ok (.arraylength, 1) := by decide +kernel
theorem d18_5 : decode jdk_68_method_9_code 5 = .ok (.aload_n 0, 1) := by decide +kernel
theorem d18_6 : decode jdk_68_method_9_code 6 = .ok (.getfield 22, 3) := by decide +kernel
theorem d18_9 : decode jdk_68_method_9_code 9 = .ok (.ishr, 1) := by decide +kernel
theorem d18_10 : decode jdk_68_method_9_code 10 = .ok (.istore_n 2, 1) := by decide +kernel
theorem d18_11 : decode jdk_68_method_9_code 11 = .ok (.iload_n 1, 1) := by decide +kernel
theorem d18_12 : decode jdk_68_method_9_code 12 = .ok (.iload_n 2, 1) := by decide +kernel
theorem d18_13 : decode jdk_68_method_9_code 13 = .ok (.isub, 1) := by decide +kernel
theorem d18_14 : decode jdk_68_method_9_code 14 = .ok (.ifCond .le 24, 3) := by decide +kernel
theorem d18_38 : decode jdk_68_method_9_code 38 = .ok (.return_, 1) := by decide +kernel
theorem ef_18 (m : MethodId) (x0 : Addr) (x1 : Int32) : entryFrame m #[(.ref x0), (.int x1)] 3 = mkF m 0 #[.val (.ref x0), .val (.int x1), .unset] [] := by first | (simp [entryFrame, mkF, argsToLocals, Value.category]; done) | rfl
theorem pn_18 : plainName "java/lang/AbstractStringBuilder" = true := by first | (simp [plainName, overriddenIn]; done) | decide +kernel
def Qd2 (Z : State) (sb vb : Addr) (kv : ClassId) (ys cs : List Int32) (h0 : Heap) (n0 : Nat) (v : Option Value) (h : Heap) (L : List Loc) : Prop := v = none ∧ Fr n0 L ∧ h = h0
set_option maxRecDepth 65536 in
set_option maxHeartbeats 40000000 in
theorem rmEC (l : Launch) (Z : State) (a0 : Array Value) (hw : ∀ d ∈ tables_1, d.before a0 Z = true) (ws : List Jvm.Cond) (sb vb : Addr) (kv : ClassId) (ys cs : List Int32) (h0 : Heap) (n0 : Nat) (Eb : Exa Z h0 sb "java/lang/StringBuilder") (Vb : Fld Z h0 sb "java/lang/AbstractStringBuilder" "value" "[B" (.ref vb)) (Cb : Fld Z h0 sb "java/lang/AbstractStringBuilder" "coder" "B" (.int (0 : Int32))) (Nb : Fld Z h0 sb "java/lang/AbstractStringBuilder" "count" "I" (.int (Int32.ofNat (ys).length))) (Kb : Arv Z h0 vb kv .byte (Int32.ofNat 16) (((ys).map StrChars.lo8).map Value.int) (.int 0)) (hc : ys.length + cs.length ≤ 16) :
    MetFree l (⟨"java/lang/AbstractStringBuilder", "ensureCapacityInternal", "(I)V"⟩ : MethodName) (head1 (Jvm.Cond.code (⟨"java/lang/AbstractStringBuilder", "ensureCapacityInternal", "(I)V"⟩ : MethodName) jdk_68_method_9_code 3 none :: ws) ({ frames := 0, cells := 0, slots := 0, locals := 0 } : Room)) (fun qq U => qq = #[(.ref sb), (.int (Int32.ofNat ys.length + Int32.ofNat cs.length))] ∧ Z.Warmed39 U.vm ∧ U.heap = h0) (fun _ _ _ _ _ => True) (fun _ UU oo UU' => ∃ vv LL, oo = .returned vv ∧ Qd2 Z sb vb kv ys cs h0 n0 vv UU'.heap LL ∧ FrameEnd UU oo UU' LL ({ frames := 0, cells := 0, slots := 0, locals := 0 } : Room).cells ({ frames := 0, cells := 0, slots := 0, locals := 0 } : Room).slots) := by
  refine MetFree.of_bodySF (plainFor_of_name pn_18) hisR ?_
  intro p e s m args below meth c s₁ Bd hml0 hP hK
  obtain ⟨rfl, hZ, hh⟩ := hP
  have hx := Bd.exec
  have hby := Bd.bytes
  have hml : c.maxLocals = 3 := hml0
  have hown : s.vm.findClass "java/lang/AbstractStringBuilder" = some m.cls := findClass_of_methodNamed Bd.named
  have hnm := (name_of_methodNamed Bd.named Bd.method).1
  have X0 : Stand p l e ({ frames := 0, cells := 0, slots := 0, locals := 0 } : Room) s m #[(.ref sb), (.int (Int32.ofNat ys.length + Int32.ofNat cs.length))] below meth c s₁ [] 0 0 := Stand.of_body Bd
  have e0 : s₁.heap = h0 := by rw [← hh, Bd.state]; rfl
  have N0 := Fr.nil n0
  have pre0 : ∀ tgt, Steps p.tables e below (s₁.setTop (mkF m 0 #[.val (.ref sb), .val (.int (Int32.ofNat ys.length + Int32.ofNat cs.length)), .unset] [])) tgt → Steps p.tables e below (s₁.setTop (entryFrame m #[(.ref sb), (.int (Int32.ofNat ys.length + Int32.ofNat cs.length))] 3)) tgt := fun tt kk => castTop (ef_18 m sb (Int32.ofNat ys.length + Int32.ofNat cs.length)) kk
  obtain ⟨T1, X1, e1, st1⟩ := getF X0 hx hZ hown (host := "") (Or.inl (ww hw 78 rfl)) Via.refl e0 Vb (g := (mkF m 1 #[.val (.ref sb), .val (.int (Int32.ofNat ys.length + Int32.ofNat cs.length)), .unset] [(.ref sb)])) rfl rfl (hb hby d18_1)
  obtain ⟨cl, Ar, qk, Sz, Mz, Hz, Uz⟩ := id Kb
  obtain ⟨T2, X2, e2, st2⟩ := getF X1 hx hZ hown (host := "") (Or.inl (ww hw 80 rfl)) Via.refl e1 Cb (g := (mkF m 6 #[.val (.ref sb), .val (.int (Int32.ofNat ys.length + Int32.ofNat cs.length)), .unset] [(.ref sb), (.int (Int32.ofNat 16))])) rfl rfl (hb hby d18_6)
  obtain ⟨fs, hr, hrun, hended, hW, hsame⟩ := X2.leave (v := none) (fun _ => rfl)
  refine ⟨_, _, pre0 _ ?_, hrun, hended, _, _, rfl, ?_, ⟨_, rfl⟩, hW, hsame.mono (by decide) (by decide)⟩
  · show Steps p.tables e below (s₁.setTop (mkF m 0 #[.val (.ref sb), .val (.int (Int32.ofNat ys.length + Int32.ofNat cs.length)), .unset] [])) _
    refine XS.aloadN X0.here hx rfl (hb hby d18_0) rfl rfl ?_
    show Steps p.tables e below (s₁.setTop (mkF m 1 #[.val (.ref sb), .val (.int (Int32.ofNat ys.length + Int32.ofNat cs.length)), .unset] [(.ref sb)])) _
    refine st1 _ ?_
    show Steps p.tables e below (T1.setTop (mkF m 4 #[.val (.ref sb), .val (.int (Int32.ofNat ys.length + Int32.ofNat cs.length)), .unset] [(.ref vb)])) _
    refine X1.arraylength hx (by rw [e1]; exact Ar.1) (State.isArrayOf_alike hZ.alike Ar.2.1) (g := (mkF m 4 #[.val (.ref sb), .val (.int (Int32.ofNat ys.length + Int32.ofNat cs.length)), .unset] [(.ref vb)])) rfl rfl (hb hby d18_4) _ ?_
    rw [len_of Sz Mz]
    show Steps p.tables e below (T1.setTop (mkF m 5 #[.val (.ref sb), .val (.int (Int32.ofNat ys.length + Int32.ofNat cs.length)), .unset] [(.int (Int32.ofNat 16))])) _
    refine XS.aloadN X1.here hx rfl (hb hby d18_5) rfl rfl ?_
    show Steps p.tables e below (T1.setTop (mkF m 6 #[.val (.ref sb), .val (.int (Int32.ofNat ys.length + Int32.ofNat cs.length)), .unset] [(.ref sb), (.int (Int32.ofNat 16))])) _
    refine st2 _ ?_
    show Steps p.tables e below (T2.setTop (mkF m 9 #[.val (.ref sb), .val (.int (Int32.ofNat ys.length + Int32.ofNat cs.length)), .unset] [(.int (0 : Int32)), (.int (Int32.ofNat 16))])) _
    refine XS.ishr X2.here hx rfl (hb hby d18_9) rfl ?_
    show Steps p.tables e below (T2.setTop (mkF m 10 #[.val (.ref sb), .val (.int (Int32.ofNat ys.length + Int32.ofNat cs.length)), .unset] [(.int ((Int32.ofNat 16) >>> ((0 : Int32) &&& 31)))])) _
    refine XS.istoreN X2.here hx rfl (hb hby d18_10) rfl (l' := #[.val (.ref sb), .val (.int (Int32.ofNat ys.length + Int32.ofNat cs.length)), .val (.int ((Int32.ofNat 16) >>> ((0 : Int32) &&& 31)))]) rfl ?_
    show Steps p.tables e below (T2.setTop (mkF m 11 #[.val (.ref sb), .val (.int (Int32.ofNat ys.length + Int32.ofNat cs.length)), .val (.int ((Int32.ofNat 16) >>> ((0 : Int32) &&& 31)))] [])) _
    refine XS.iloadN X2.here hx rfl (hb hby d18_11) rfl ?_
    show Steps p.tables e below (T2.setTop (mkF m 12 #[.val (.ref sb), .val (.int (Int32.ofNat ys.length + Int32.ofNat cs.length)), .val (.int ((Int32.ofNat 16) >>> ((0 : Int32) &&& 31)))] [(.int (Int32.ofNat ys.length + Int32.ofNat cs.length))])) _
    refine XS.iloadN X2.here hx rfl (hb hby d18_12) rfl ?_
    show Steps p.tables e below (T2.setTop (mkF m 13 #[.val (.ref sb), .val (.int (Int32.ofNat ys.length + Int32.ofNat cs.length)), .val (.int ((Int32.ofNat 16) >>> ((0 : Int32) &&& 31)))] [(.int ((Int32.ofNat 16) >>> ((0 : Int32) &&& 31))), (.int (Int32.ofNat ys.length + Int32.ofNat cs.length))])) _
    refine XS.isub X2.here hx rfl (hb hby d18_13) rfl ?_
    show Steps p.tables e below (T2.setTop (mkF m 14 #[.val (.ref sb), .val (.int (Int32.ofNat ys.length + Int32.ofNat cs.length)), .val (.int ((Int32.ofNat 16) >>> ((0 : Int32) &&& 31)))] [(.int ((Int32.ofNat ys.length + Int32.ofNat cs.length) - ((Int32.ofNat 16) >>> ((0 : Int32) &&& 31))))])) _
    refine XS.ifYes X2.here hx rfl (pc0 := 14) (pc' := 38) rfl (hb hby d18_14) rfl ((if0 _ _).trans (flt (own_cap hc : ¬ ((0 : Int32) < ((Int32.ofNat ys.length + Int32.ofNat cs.length) - ((Int32.ofNat 16) >>> ((0 : Int32) &&& 31)))))).2.2.2) (by decide) (by decide) ?_
    show Steps p.tables e below (T2.setTop (mkF m 38 #[.val (.ref sb), .val (.int (Int32.ofNat ys.length + Int32.ofNat cs.length)), .val (.int ((Int32.ofNat 16) >>> ((0 : Int32) &&& 31)))] [])) _
    exact X2.returnOut hx Bd.returns (hb hby d18_38) hr
  · show Qd2 Z sb vb kv ys cs h0 n0 _ T2.heap _
    rw [e2]
    exact ⟨rfl, N0, rfl⟩
theorem d20_0 : decode jdk_68_method_71_code 0 = .ok (.getstatic 18, 3) := by decide +kernel
theorem d20_3 : decode jdk_68_method_71_code 3 = .ok (.ifCond .eq 18, 3) := by decide +kernel
theorem d20_6 : decode jdk_68_method_71_code 6 = .ok (.aload_n 0, 1) := by decide +kernel
theorem d20_7 : decode jdk_68_method_71_code 7 = .ok (.getfield 22, 3) := by decide +kernel
theorem d20_10 : decode jdk_68_method_71_code 10 = .ok (.aload_n 1, 1) := by decide +kernel
theorem d20_11 : decode jdk_68_method_71_code 11 = .ok (.invokevirtual 40, 3) := by decide +kernel
theorem own_pd1 : parseMethodDescriptor "()B" = some ⟨[], some .byte⟩ := by decide +kernel
theorem d20_14 : decode jdk_68_method_71_code 14 = .ok (.if_icmp .eq 7, 3) := by decide +kernel
theorem d20_21 : decode jdk_68_method_71_code 21 = .ok (.return_, 1) := by decide +kernel
theorem ef_20 (m : MethodId) (x0 : Addr) (x1 : Addr) : entryFrame m #[(.ref x0), (.ref x1)] 2 = mkF m 0 #[.val (.ref x0), .val (.ref x1)] [] := by first | (simp [entryFrame, mkF, argsToLocals, Value.category]; done) | rfl
theorem pn_20 : plainName "java/lang/AbstractStringBuilder" = true := by first | (simp [plainName, overriddenIn]; done) | decide +kernel
def Qd3 (Z : State) (sb vb xs tt : Addr) (kv kb : ClassId) (ys cs : List Int32) (z : Int32) (h0 : Heap) (n0 : Nat) (v : Option Value) (h : Heap) (L : List Loc) : Prop := v = none ∧ Fr n0 L ∧ h = h0
set_option maxRecDepth 65536 in
set_option maxHeartbeats 40000000 in
theorem rmIn (l : Launch) (Z : State) (a0 : Array Value) (hw : ∀ d ∈ tables_1, d.before a0 Z = true) (ws : List Jvm.Cond) (sb vb xs tt : Addr) (kv kb : ClassId) (ys cs : List Int32) (z : Int32) (h0 : Heap) (n0 : Nat) (O0 : Old Z n0 h0) (gs : n0 ≤ sb) (gv : n0 ≤ vb) (Eb : Exa Z h0 sb "java/lang/StringBuilder") (Vb : Fld Z h0 sb "java/lang/AbstractStringBuilder" "value" "[B" (.ref vb)) (Cb : Fld Z h0 sb "java/lang/AbstractStringBuilder" "coder" "B" (.int (0 : Int32))) (Nb : Fld Z h0 sb "java/lang/AbstractStringBuilder" "count" "I" (.int (Int32.ofNat (ys).length))) (Kb : Arv Z h0 vb kv .byte (Int32.ofNat 16) (((ys).map StrChars.lo8).map Value.int) (.int 0)) (Ex : Exa Z h0 xs "java/lang/String") (Vx : Fld Z h0 xs "java/lang/String" "value" "[B" (.ref tt)) (Cx : Fld Z h0 xs "java/lang/String" "coder" "B" (.int 0)) (Kx : Arv Z h0 tt kb .byte (Int32.ofNat (cs).length) (((cs).map StrChars.lo8).map Value.int) (.int 0)) (SC : Sta Z Z.heap "java/lang/String" "COMPACT_STRINGS" "Z" (.int z)) (hz : ¬ z = 0) (hg : own_good cs) (hc : ys.length + cs.length ≤ 16) (hne : sb ≠ vb) (hnt : tt ≠ vb) :
    MetFree l (⟨"java/lang/AbstractStringBuilder", "inflateIfNeededFor", "(Ljava/lang/String;)V"⟩ : MethodName) (head1 (Jvm.Cond.code (⟨"java/lang/AbstractStringBuilder", "inflateIfNeededFor", "(Ljava/lang/String;)V"⟩ : MethodName) jdk_68_method_71_code 2 none :: ws) ({ frames := 1, cells := 0, slots := 0, locals := 13 } : Room)) (fun qq U => qq = #[(.ref sb), (.ref xs)] ∧ Z.Warmed39 U.vm ∧ U.heap = h0) (fun _ _ _ _ _ => True) (fun _ UU oo UU' => ∃ vv LL, oo = .returned vv ∧ Qd3 Z sb vb xs tt kv kb ys cs z h0 n0 vv UU'.heap LL ∧ FrameEnd UU oo UU' LL ({ frames := 1, cells := 0, slots := 0, locals := 13 } : Room).cells ({ frames := 1, cells := 0, slots := 0, locals := 13 } : Room).slots) := by
  refine MetFree.of_bodySF (plainFor_of_name pn_20) hisR ?_
  intro p e s m args below meth c s₁ Bd hml0 hP hK
  obtain ⟨rfl, hZ, hh⟩ := hP
  have hx := Bd.exec
  have hby := Bd.bytes
  have hml : c.maxLocals = 2 := hml0
  have hown : s.vm.findClass "java/lang/AbstractStringBuilder" = some m.cls := findClass_of_methodNamed Bd.named
  have hnm := (name_of_methodNamed Bd.named Bd.method).1
  have X0 : Stand p l e ({ frames := 1, cells := 0, slots := 0, locals := 13 } : Room) s m #[(.ref sb), (.ref xs)] below meth c s₁ [] 0 0 := Stand.of_body Bd
  have e0 : s₁.heap = h0 := by rw [← hh, Bd.state]; rfl
  have N0 := Fr.nil n0
  have pre0 : ∀ tgt, Steps p.tables e below (s₁.setTop (mkF m 0 #[.val (.ref sb), .val (.ref xs)] [])) tgt → Steps p.tables e below (s₁.setTop (entryFrame m #[(.ref sb), (.ref xs)] 2)) tgt := fun tt kk => castTop (ef_20 m sb xs) kk
  obtain ⟨T1, X1, e1, st1⟩ := getS2 X0 hx hZ hown (host := "") (Or.inl (ww hw 77 rfl)) Via.refl e0 (SC.ext O0.2) (g := (mkF m 0 #[.val (.ref sb), .val (.ref xs)] [])) rfl (hb hby d20_0)
  obtain ⟨T2, X2, e2, st2⟩ := getF X1 hx hZ hown (host := "") (Or.inl (ww hw 80 rfl)) Via.refl e1 Cb (g := (mkF m 7 #[.val (.ref sb), .val (.ref xs)] [(.ref sb)])) rfl rfl (hb hby d20_7)
  obtain ⟨cq3, kq3, q3a, q3b, q3c⟩ := isOf hZ e2 Ex
  obtain ⟨_, _, ⟨T3, L3, k3, n3⟩, -, X3, ⟨Lc3, hQ3, l3, y3, z3⟩, st3⟩ := X2.virtualBack hx (y := (⟨"java/lang/String", "coder", "()B"⟩ : MethodName)) (z := (⟨"java/lang/String", "coder", "()B"⟩ : MethodName)) hown (mvT hZ (ww hw 119 rfl)) (mvT hZ (ww hw 98 rfl)) (notFace_of_selects (args := #[]) (mvT hZ (ww hw 100 rfl))) (mvT hZ (ww hw 100 rfl)) (mvT hZ (ww hw 99 rfl)) (by decide) (backOf (W := 1) (rmCo l Z a0 hw [] xs z h0 n0 O0 Cx SC hz) hZ (ww hw 101 rfl) (ww hw 6 rfl) (by decide) (by decide)) q3a q3c (g := (mkF m 11 #[.val (.ref sb), .val (.ref xs)] [(.ref xs), (.int (0 : Int32))])) rfl (by rw [hml]; rfl) (Steps.refl _) (argsL := []) (rest := [(.int (0 : Int32))]) (lenOf own_pd1 rfl) rfl (by show 2 * 0 + _ ≤ _; exact Nat.le_of_eq rfl) (hb hby d20_11) (fun _ _ => ⟨rfl, e2, (by decide : 0 + 0 ≤ _), (by decide : 0 + 0 ≤ _)⟩)
  dsimp only [Pt.U, Pt.locs, Pt.cells, Pt.slots] at X3 l3 y3 z3 st3 hQ3
  subst l3 y3 z3
  obtain ⟨rfl, N3q, e3⟩ := hQ3
  have N3 := Fr.app N0 N3q
  obtain ⟨fs, hr, hrun, hended, hW, hsame⟩ := X3.leave (v := none) (fun _ => rfl)
  refine ⟨_, _, pre0 _ ?_, hrun, hended, _, _, rfl, ?_, ⟨_, rfl⟩, hW, hsame.mono (by decide) (by decide)⟩
  · show Steps p.tables e below (s₁.setTop (mkF m 0 #[.val (.ref sb), .val (.ref xs)] [])) _
    refine st1 _ ?_
    show Steps p.tables e below (T1.setTop (mkF m 3 #[.val (.ref sb), .val (.ref xs)] [(.int z)])) _
    refine XS.ifNo X1.here hx rfl (hb hby d20_3) rfl ((if0 _ _).trans (feq (hz : ¬ (z = (0 : Int32)))).1) ?_
    show Steps p.tables e below (T1.setTop (mkF m 6 #[.val (.ref sb), .val (.ref xs)] [])) _
    refine XS.aloadN X1.here hx rfl (hb hby d20_6) rfl rfl ?_
    show Steps p.tables e below (T1.setTop (mkF m 7 #[.val (.ref sb), .val (.ref xs)] [(.ref sb)])) _
    refine st2 _ ?_
    show Steps p.tables e below (T2.setTop (mkF m 10 #[.val (.ref sb), .val (.ref xs)] [(.int (0 : Int32))])) _
    refine XS.aloadN X2.here hx rfl (hb hby d20_10) rfl rfl ?_
    show Steps p.tables e below (T2.setTop (mkF m 11 #[.val (.ref sb), .val (.ref xs)] [(.ref xs), (.int (0 : Int32))])) _
    refine st3.trans ?_
    show Steps p.tables e below (T3.setTop (mkF m 14 #[.val (.ref sb), .val (.ref xs)] [(.int (0 : Int32)), (.int (0 : Int32))])) _
    refine XS.icmpYes X3.here hx rfl (pc0 := 14) (pc' := 21) rfl (hb hby d20_14) rfl (teq (rfl : (0 : Int32) = (0 : Int32))).1 (by decide) (by decide) ?_
    show Steps p.tables e below (T3.setTop (mkF m 21 #[.val (.ref sb), .val (.ref xs)] [])) _
    exact X3.returnOut hx Bd.returns (hb hby d20_21) hr
  · show Qd3 Z sb vb xs tt kv kb ys cs z h0 n0 _ T3.heap _
    rw [e3]
    exact ⟨rfl, N3, rfl⟩
theorem d21_0 : decode jdk_42_method_147_code 0 = .ok (.aload_n 0, 1) := by decide +kernel
theorem d21_1 : decode jdk_42_method_147_code 1 = .ok (.invokevirtual 335, 3) := by decide +kernel
theorem d21_4 : decode jdk_42_method_147_code 4 = .ok (.iload_n 3, 1) := by decide +kernel
theorem d21_5 : decode jdk_42_method_147_code 5 = .ok (.if_icmp .ne 23, 3) := by decide +kernel
theorem d21_8 : decode jdk_42_method_147_code 8 = .ok (.aload_n 0, 1) := by decide +kernel
theorem d21_9 : decode jdk_42_method_147_code 9 = .ok (.getfield 9, 3) := by decide +kernel
theorem d21_12 : decode jdk_42_method_147_code 12 = .ok (.iconst 0, 1) := by decide +kernel
theorem d21_13 : decode jdk_42_method_147_code 13 = .ok (.aload_n 1, 1) := by decide +kernel
theorem d21_14 : decode jdk_42_method_147_code 14 = .ok (.iload_n 2, 1) := by decide +kernel
theorem d21_15 : decode jdk_42_method_147_code 15 = .ok (.iload_n 3, 1) := by decide +kernel
theorem d21_16 : decode jdk_42_method_147_code 16 = .ok (.ishl, 1) := by decide +kernel
theorem d21_17 : decode jdk_42_method_147_code 17 = .ok (.aload_n 0, 1) := by decide +kernel
theorem d21_18 : decode jdk_42_method_147_code 18 = .ok (.getfield 9, 3) := by decide +kernel
theorem d21_21 : decode jdk_42_method_147_code 21 = .ok (.arraylength, 1) := by decide +kernel
theorem d21_22 : decode jdk_42_method_147_code 22 = .ok (.invokestatic 212, 3) := by decide +kernel
theorem d21_25 : decode jdk_42_method_147_code 25 = .ok (.goto 18, 3) := by decide +kernel
theorem d21_43 : decode jdk_42_method_147_code 43 = .ok (.return_, 1) := by decide +kernel
theorem ef_21 (m : MethodId) (x0 : Addr) (x1 : Addr) (x2 : Int32) (x3 : Int32) : entryFrame m #[(.ref x0), (.ref x1), (.int x2), (.int x3)] 4 = mkF m 0 #[.val (.ref x0), .val (.ref x1), .val (.int x2), .val (.int x3)] [] := by first | (simp [entryFrame, mkF, argsToLocals, Value.category]; done) | rfl
theorem pn_21 : plainName "java/lang/String" = true := by first | (simp [plainName, overriddenIn]; done) | decide +kernel
def Qd4 (Z : State) (sb vb xs tt : Addr) (kv kb : ClassId) (ys cs : List Int32) (z : Int32) (h0 : Heap) (n0 : Nat) (v : Option Value) (h : Heap) (L : List Loc) : Prop := v = none ∧ Fr n0 L ∧ Keep h0 h [vb] ∧ Arv Z h vb kv .byte (Int32.ofNat 16) (((ys ++ cs).map StrChars.lo8).map Value.int) (.int 0)
set_option maxRecDepth 65536 in
set_option maxHeartbeats 40000000 in
theorem rmGB (l : Launch) (Z : State) (a0 : Array Value) (hw : ∀ d ∈ tables_1, d.before a0 Z = true) (ws : List Jvm.Cond) (sb vb xs tt : Addr) (kv kb : ClassId) (ys cs : List Int32) (z : Int32) (h0 : Heap) (n0 : Nat) (O0 : Old Z n0 h0) (gs : n0 ≤ sb) (gv : n0 ≤ vb) (Eb : Exa Z h0 sb "java/lang/StringBuilder") (Vb : Fld Z h0 sb "java/lang/AbstractStringBuilder" "value" "[B" (.ref vb)) (Cb : Fld Z h0 sb "java/lang/AbstractStringBuilder" "coder" "B" (.int (0 : Int32))) (Nb : Fld Z h0 sb "java/lang/AbstractStringBuilder" "count" "I" (.int (Int32.ofNat (ys).length))) (Kb : Arv Z h0 vb kv .byte (Int32.ofNat 16) (((ys).map StrChars.lo8).map Value.int) (.int 0)) (Ex : Exa Z h0 xs "java/lang/String") (Vx : Fld Z h0 xs "java/lang/String" "value" "[B" (.ref tt)) (Cx : Fld Z h0 xs "java/lang/String" "coder" "B" (.int 0)) (Kx : Arv Z h0 tt kb .byte (Int32.ofNat (cs).length) (((cs).map StrChars.lo8).map Value.int) (.int 0)) (SC : Sta Z Z.heap "java/lang/String" "COMPACT_STRINGS" "Z" (.int z)) (hz : ¬ z = 0) (hg : own_good cs) (hc : ys.length + cs.length ≤ 16) (hne : sb ≠ vb) (hnt : tt ≠ vb) :
    MetFree l (⟨"java/lang/String", "getBytes", "([BIB)V"⟩ : MethodName) (head1 (Jvm.Cond.code (⟨"java/lang/String", "getBytes", "([BIB)V"⟩ : MethodName) jdk_42_method_147_code 4 none :: ws) ({ frames := 1, cells := 0, slots := 0, locals := 18 } : Room)) (fun qq U => qq = #[(.ref xs), (.ref vb), (.int (Int32.ofNat ys.length)), (.int (0 : Int32))] ∧ Z.Warmed39 U.vm ∧ U.heap = h0) (fun _ _ _ _ _ => True) (fun _ UU oo UU' => ∃ vv LL, oo = .returned vv ∧ Qd4 Z sb vb xs tt kv kb ys cs z h0 n0 vv UU'.heap LL ∧ FrameEnd UU oo UU' LL ({ frames := 1, cells := 0, slots := 0, locals := 18 } : Room).cells ({ frames := 1, cells := 0, slots := 0, locals := 18 } : Room).slots) := by
  refine MetFree.of_bodySF (plainFor_of_name pn_21) hisR ?_
  intro p e s m args below meth c s₁ Bd hml0 hP hK
  obtain ⟨rfl, hZ, hh⟩ := hP
  have hx := Bd.exec
  have hby := Bd.bytes
  have hml : c.maxLocals = 4 := hml0
  have hown : s.vm.findClass "java/lang/String" = some m.cls := findClass_of_methodNamed Bd.named
  have hnm := (name_of_methodNamed Bd.named Bd.method).1
  have X0 : Stand p l e ({ frames := 1, cells := 0, slots := 0, locals := 18 } : Room) s m #[(.ref xs), (.ref vb), (.int (Int32.ofNat ys.length)), (.int (0 : Int32))] below meth c s₁ [] 0 0 := Stand.of_body Bd
  have e0 : s₁.heap = h0 := by rw [← hh, Bd.state]; rfl
  have N0 := Fr.nil n0
  have pre0 : ∀ tgt, Steps p.tables e below (s₁.setTop (mkF m 0 #[.val (.ref xs), .val (.ref vb), .val (.int (Int32.ofNat ys.length)), .val (.int (0 : Int32))] [])) tgt → Steps p.tables e below (s₁.setTop (entryFrame m #[(.ref xs), (.ref vb), (.int (Int32.ofNat ys.length)), (.int (0 : Int32))] 4)) tgt := fun tt kk => castTop (ef_21 m xs vb (Int32.ofNat ys.length) (0 : Int32)) kk
  obtain ⟨cq1, kq1, q1a, q1b, q1c⟩ := isOf hZ e0 Ex
  obtain ⟨_, _, ⟨T1, L1, k1, n1⟩, -, X1, ⟨Lc1, hQ1, l1, y1, z1⟩, st1⟩ := X0.virtualBack hx (y := (⟨"java/lang/String", "coder", "()B"⟩ : MethodName)) (z := (⟨"java/lang/String", "coder", "()B"⟩ : MethodName)) hown (mvT hZ (ww hw 97 rfl)) (mvT hZ (ww hw 98 rfl)) (notFace_of_selects (args := #[]) (mvT hZ (ww hw 100 rfl))) (mvT hZ (ww hw 100 rfl)) (mvT hZ (ww hw 99 rfl)) (by decide) (backOf (W := 0) (rmCo l Z a0 hw [] xs z h0 n0 O0 Cx SC hz) hZ (ww hw 101 rfl) (ww hw 6 rfl) (by decide) (by decide)) q1a q1c (g := (mkF m 1 #[.val (.ref xs), .val (.ref vb), .val (.int (Int32.ofNat ys.length)), .val (.int (0 : Int32))] [(.ref xs)])) rfl (by rw [hml]; rfl) (Steps.refl _) (argsL := []) (rest := []) (lenOf own_pd1 rfl) rfl (by show 2 * 0 + _ ≤ _; exact Nat.le_of_eq rfl) (hb hby d21_1) (fun _ _ => ⟨rfl, e0, (by decide : 0 + 0 ≤ _), (by decide : 0 + 0 ≤ _)⟩)
  dsimp only [Pt.U, Pt.locs, Pt.cells, Pt.slots] at X1 l1 y1 z1 st1 hQ1
  subst l1 y1 z1
  obtain ⟨rfl, N1q, e1⟩ := hQ1
  have N1 := Fr.app N0 N1q
  obtain ⟨T2, X2, e2, st2⟩ := getF X1 hx hZ hown (host := "") (Or.inl (ww hw 32 rfl)) Via.refl e1 Vx (g := (mkF m 9 #[.val (.ref xs), .val (.ref vb), .val (.int (Int32.ofNat ys.length)), .val (.int (0 : Int32))] [(.ref xs)])) rfl rfl (hb hby d21_9)
  obtain ⟨T3, X3, e3, st3⟩ := getF X2 hx hZ hown (host := "") (Or.inl (ww hw 32 rfl)) Via.refl e2 Vx (g := (mkF m 18 #[.val (.ref xs), .val (.ref vb), .val (.int (Int32.ofNat ys.length)), .val (.int (0 : Int32))] [(.ref xs), (.int ((Int32.ofNat ys.length) <<< ((0 : Int32) &&& 31))), (.ref vb), (.int (0 : Int32)), (.ref tt)])) rfl rfl (hb hby d21_18)
  obtain ⟨cl, Ar, qk, Sz, Mz, Hz, Uz⟩ := id Kx
  obtain ⟨T4, h4, L4, X4, e4, N4, KK4, V4, st4⟩ := own_cp X3 hx hZ hown (ww hw 125 rfl) (ww hw 128 rfl) (ww hw 126 rfl) (ww hw 127 rfl) e3 (M := 16) Kx Kb (by rw [own_bl]; exact Nat.le_of_eq (own_n _ (Nat.le_trans hg.1 (by decide))).2.symm) (by decide) (by rw [own_bl, own_bl]; exact hc) (by rw [own_sh0, own_bl]) (by rw [own_bl]) N1 gv (g := (mkF m 22 #[.val (.ref xs), .val (.ref vb), .val (.int (Int32.ofNat ys.length)), .val (.int (0 : Int32))] [(.int (Int32.ofNat cs.length)), (.int ((Int32.ofNat ys.length) <<< ((0 : Int32) &&& 31))), (.ref vb), (.int (0 : Int32)), (.ref tt)])) rfl (by rw [hml]; rfl) rfl (hb hby d21_22) (by decide) (W := 0) (by show 2 * 0 + _ ≤ _; exact Nat.le_of_eq rfl) (by decide)
  have O4 := Old.keep O0 KK4 (allS gv all0)
  have K4 := Keep.trans (Keep.refl h0 [vb]) KK4 (allS (Or.inl (List.mem_of_getElem? (i := 0) rfl)) all0)
  have VF : Arv Z h4 vb kv .byte (Int32.ofNat 16) (((ys ++ cs).map StrChars.lo8).map Value.int) (.int 0) := by
    rw [List.map_append, List.map_append]
    exact V4
  obtain ⟨fs, hr, hrun, hended, hW, hsame⟩ := X4.leave (v := none) (fun _ => rfl)
  refine ⟨_, _, pre0 _ ?_, hrun, hended, _, _, rfl, ?_, ⟨_, rfl⟩, hW, hsame.mono (by decide) (by decide)⟩
  · show Steps p.tables e below (s₁.setTop (mkF m 0 #[.val (.ref xs), .val (.ref vb), .val (.int (Int32.ofNat ys.length)), .val (.int (0 : Int32))] [])) _
    refine XS.aloadN X0.here hx rfl (hb hby d21_0) rfl rfl ?_
    show Steps p.tables e below (s₁.setTop (mkF m 1 #[.val (.ref xs), .val (.ref vb), .val (.int (Int32.ofNat ys.length)), .val (.int (0 : Int32))] [(.ref xs)])) _
    refine st1.trans ?_
    show Steps p.tables e below (T1.setTop (mkF m 4 #[.val (.ref xs), .val (.ref vb), .val (.int (Int32.ofNat ys.length)), .val (.int (0 : Int32))] [(.int (0 : Int32))])) _
    refine XS.iloadN X1.here hx rfl (hb hby d21_4) rfl ?_
    show Steps p.tables e below (T1.setTop (mkF m 5 #[.val (.ref xs), .val (.ref vb), .val (.int (Int32.ofNat ys.length)), .val (.int (0 : Int32))] [(.int (0 : Int32)), (.int (0 : Int32))])) _
    refine XS.icmpNo X1.here hx rfl (hb hby d21_5) rfl (teq (rfl : (0 : Int32) = (0 : Int32))).2 ?_
    show Steps p.tables e below (T1.setTop (mkF m 8 #[.val (.ref xs), .val (.ref vb), .val (.int (Int32.ofNat ys.length)), .val (.int (0 : Int32))] [])) _
    refine XS.aloadN X1.here hx rfl (hb hby d21_8) rfl rfl ?_
    show Steps p.tables e below (T1.setTop (mkF m 9 #[.val (.ref xs), .val (.ref vb), .val (.int (Int32.ofNat ys.length)), .val (.int (0 : Int32))] [(.ref xs)])) _
    refine st2 _ ?_
    show Steps p.tables e below (T2.setTop (mkF m 12 #[.val (.ref xs), .val (.ref vb), .val (.int (Int32.ofNat ys.length)), .val (.int (0 : Int32))] [(.ref tt)])) _
    refine XS.iconst X2.here hx rfl (hb hby d21_12) ?_
    show Steps p.tables e below (T2.setTop (mkF m 13 #[.val (.ref xs), .val (.ref vb), .val (.int (Int32.ofNat ys.length)), .val (.int (0 : Int32))] [(.int (0 : Int32)), (.ref tt)])) _
    refine XS.aloadN X2.here hx rfl (hb hby d21_13) rfl rfl ?_
    show Steps p.tables e below (T2.setTop (mkF m 14 #[.val (.ref xs), .val (.ref vb), .val (.int (Int32.ofNat ys.length)), .val (.int (0 : Int32))] [(.ref vb), (.int (0 : Int32)), (.ref tt)])) _
    refine XS.iloadN X2.here hx rfl (hb hby d21_14) rfl ?_
    show Steps p.tables e below (T2.setTop (mkF m 15 #[.val (.ref xs), .val (.ref vb), .val (.int (Int32.ofNat ys.length)), .val (.int (0 : Int32))] [(.int (Int32.ofNat ys.length)), (.ref vb), (.int (0 : Int32)), (.ref tt)])) _
    refine XS.iloadN X2.here hx rfl (hb hby d21_15) rfl ?_
    show Steps p.tables e below (T2.setTop (mkF m 16 #[.val (.ref xs), .val (.ref vb), .val (.int (Int32.ofNat ys.length)), .val (.int (0 : Int32))] [(.int (0 : Int32)), (.int (Int32.ofNat ys.length)), (.ref vb), (.int (0 : Int32)), (.ref tt)])) _
    refine XS.ishl X2.here hx rfl (hb hby d21_16) rfl ?_
    show Steps p.tables e below (T2.setTop (mkF m 17 #[.val (.ref xs), .val (.ref vb), .val (.int (Int32.ofNat ys.length)), .val (.int (0 : Int32))] [(.int ((Int32.ofNat ys.length) <<< ((0 : Int32) &&& 31))), (.ref vb), (.int (0 : Int32)), (.ref tt)])) _
    refine XS.aloadN X2.here hx rfl (hb hby d21_17) rfl rfl ?_
    show Steps p.tables e below (T2.setTop (mkF m 18 #[.val (.ref xs), .val (.ref vb), .val (.int (Int32.ofNat ys.length)), .val (.int (0 : Int32))] [(.ref xs), (.int ((Int32.ofNat ys.length) <<< ((0 : Int32) &&& 31))), (.ref vb), (.int (0 : Int32)), (.ref tt)])) _
    refine st3 _ ?_
    show Steps p.tables e below (T3.setTop (mkF m 21 #[.val (.ref xs), .val (.ref vb), .val (.int (Int32.ofNat ys.length)), .val (.int (0 : Int32))] [(.ref tt), (.int ((Int32.ofNat ys.length) <<< ((0 : Int32) &&& 31))), (.ref vb), (.int (0 : Int32)), (.ref tt)])) _
    refine X3.arraylength hx (by rw [e3]; exact Ar.1) (State.isArrayOf_alike hZ.alike Ar.2.1) (g := (mkF m 21 #[.val (.ref xs), .val (.ref vb), .val (.int (Int32.ofNat ys.length)), .val (.int (0 : Int32))] [(.ref tt), (.int ((Int32.ofNat ys.length) <<< ((0 : Int32) &&& 31))), (.ref vb), (.int (0 : Int32)), (.ref tt)])) rfl rfl (hb hby d21_21) _ ?_
    rw [len_of Sz Mz]
    show Steps p.tables e below (T3.setTop (mkF m 22 #[.val (.ref xs), .val (.ref vb), .val (.int (Int32.ofNat ys.length)), .val (.int (0 : Int32))] [(.int (Int32.ofNat cs.length)), (.int ((Int32.ofNat ys.length) <<< ((0 : Int32) &&& 31))), (.ref vb), (.int (0 : Int32)), (.ref tt)])) _
    refine st4 _ ?_
    show Steps p.tables e below (T4.setTop (mkF m 25 #[.val (.ref xs), .val (.ref vb), .val (.int (Int32.ofNat ys.length)), .val (.int (0 : Int32))] [])) _
    refine XS.goto X4.here hx rfl (pc0 := 25) (pc' := 43) rfl (hb hby d21_25) (by decide) (by decide) ?_
    show Steps p.tables e below (T4.setTop (mkF m 43 #[.val (.ref xs), .val (.ref vb), .val (.int (Int32.ofNat ys.length)), .val (.int (0 : Int32))] [])) _
    exact X4.returnOut hx Bd.returns (hb hby d21_43) hr
  · show Qd4 Z sb vb xs tt kv kb ys cs z h0 n0 _ T4.heap _
    rw [e4]
    exact ⟨rfl, N4, K4, VF⟩
theorem d19_0 : decode jdk_68_method_73_code 0 = .ok (.aload_n 0, 1) := by decide +kernel
theorem d19_1 : decode jdk_68_method_73_code 1 = .ok (.aload_n 2, 1) := by decide +kernel
theorem d19_2 : decode jdk_68_method_73_code 2 = .ok (.invokevirtual 397, 3) := by decide +kernel
theorem own_pd2 : parseMethodDescriptor "(Ljava/lang/String;)V" = some ⟨[(.object "java/lang/String")], none⟩ := by decide +kernel
theorem d19_5 : decode jdk_68_method_73_code 5 = .ok (.aload_n 2, 1) := by decide +kernel
theorem d19_6 : decode jdk_68_method_73_code 6 = .ok (.aload_n 0, 1) := by decide +kernel
theorem d19_7 : decode jdk_68_method_73_code 7 = .ok (.getfield 15, 3) := by decide +kernel
theorem d19_10 : decode jdk_68_method_73_code 10 = .ok (.iload_n 1, 1) := by decide +kernel
theorem d19_11 : decode jdk_68_method_73_code 11 = .ok (.aload_n 0, 1) := by decide +kernel
theorem d19_12 : decode jdk_68_method_73_code 12 = .ok (.getfield 22, 3) := by decide +kernel
theorem d19_15 : decode jdk_68_method_73_code 15 = .ok (.invokevirtual 399, 3) := by decide +kernel
theorem own_pd3 : parseMethodDescriptor "([BIB)V" = some ⟨[(.array .byte), .int, .byte], none⟩ := by decide +kernel
theorem d19_18 : decode jdk_68_method_73_code 18 = .ok (.return_, 1) := by decide +kernel
theorem ef_19 (m : MethodId) (x0 : Addr) (x1 : Int32) (x2 : Addr) : entryFrame m #[(.ref x0), (.int x1), (.ref x2)] 3 = mkF m 0 #[.val (.ref x0), .val (.int x1), .val (.ref x2)] [] := by first | (simp [entryFrame, mkF, argsToLocals, Value.category]; done) | rfl
theorem pn_19 : plainName "java/lang/AbstractStringBuilder" = true := by first | (simp [plainName, overriddenIn]; done) | decide +kernel
set_option maxRecDepth 65536 in
set_option maxHeartbeats 40000000 in
theorem rmPS (l : Launch) (Z : State) (a0 : Array Value) (hw : ∀ d ∈ tables_1, d.before a0 Z = true) (ws : List Jvm.Cond) (sb vb xs tt : Addr) (kv kb : ClassId) (ys cs : List Int32) (z : Int32) (h0 : Heap) (n0 : Nat) (O0 : Old Z n0 h0) (gs : n0 ≤ sb) (gv : n0 ≤ vb) (Eb : Exa Z h0 sb "java/lang/StringBuilder") (Vb : Fld Z h0 sb "java/lang/AbstractStringBuilder" "value" "[B" (.ref vb)) (Cb : Fld Z h0 sb "java/lang/AbstractStringBuilder" "coder" "B" (.int (0 : Int32))) (Nb : Fld Z h0 sb "java/lang/AbstractStringBuilder" "count" "I" (.int (Int32.ofNat (ys).length))) (Kb : Arv Z h0 vb kv .byte (Int32.ofNat 16) (((ys).map StrChars.lo8).map Value.int) (.int 0)) (Ex : Exa Z h0 xs "java/lang/String") (Vx : Fld Z h0 xs "java/lang/String" "value" "[B" (.ref tt)) (Cx : Fld Z h0 xs "java/lang/String" "coder" "B" (.int 0)) (Kx : Arv Z h0 tt kb .byte (Int32.ofNat (cs).length) (((cs).map StrChars.lo8).map Value.int) (.int 0)) (SC : Sta Z Z.heap "java/lang/String" "COMPACT_STRINGS" "Z" (.int z)) (hz : ¬ z = 0) (hg : own_good cs) (hc : ys.length + cs.length ≤ 16) (hne : sb ≠ vb) (hnt : tt ≠ vb) :
    MetFree l (⟨"java/lang/AbstractStringBuilder", "putStringAt", "(ILjava/lang/String;)V"⟩ : MethodName) (head1 (Jvm.Cond.code (⟨"java/lang/AbstractStringBuilder", "putStringAt", "(ILjava/lang/String;)V"⟩ : MethodName) jdk_68_method_73_code 3 none :: ws) ({ frames := 2, cells := 0, slots := 0, locals := 33 } : Room)) (fun qq U => qq = #[(.ref sb), (.int (Int32.ofNat ys.length)), (.ref xs)] ∧ Z.Warmed39 U.vm ∧ U.heap = h0) (fun _ _ _ _ _ => True) (fun _ UU oo UU' => ∃ vv LL, oo = .returned vv ∧ Qd4 Z sb vb xs tt kv kb ys cs z h0 n0 vv UU'.heap LL ∧ FrameEnd UU oo UU' LL ({ frames := 2, cells := 0, slots := 0, locals := 33 } : Room).cells ({ frames := 2, cells := 0, slots := 0, locals := 33 } : Room).slots) := by
  refine MetFree.of_bodySF (plainFor_of_name pn_19) hisR ?_
  intro p e s m args below meth c s₁ Bd hml0 hP hK
  obtain ⟨rfl, hZ, hh⟩ := hP
  have hx := Bd.exec
  have hby := Bd.bytes
  have hml : c.maxLocals = 3 := hml0
  have hown : s.vm.findClass "java/lang/AbstractStringBuilder" = some m.cls := findClass_of_methodNamed Bd.named
  have hnm := (name_of_methodNamed Bd.named Bd.method).1
  have X0 : Stand p l e ({ frames := 2, cells := 0, slots := 0, locals := 33 } : Room) s m #[(.ref sb), (.int (Int32.ofNat ys.length)), (.ref xs)] below meth c s₁ [] 0 0 := Stand.of_body Bd
  have e0 : s₁.heap = h0 := by rw [← hh, Bd.state]; rfl
  have N0 := Fr.nil n0
  have pre0 : ∀ tgt, Steps p.tables e below (s₁.setTop (mkF m 0 #[.val (.ref sb), .val (.int (Int32.ofNat ys.length)), .val (.ref xs)] [])) tgt → Steps p.tables e below (s₁.setTop (entryFrame m #[(.ref sb), (.int (Int32.ofNat ys.length)), (.ref xs)] 3)) tgt := fun tt kk => castTop (ef_19 m sb (Int32.ofNat ys.length) xs) kk
  obtain ⟨cq1, kq1, q1a, q1b, q1c⟩ := isOf hZ e0 Eb
  obtain ⟨_, _, ⟨T1, L1, k1, n1⟩, -, X1, ⟨Lc1, hQ1, l1, y1, z1⟩, st1⟩ := X0.virtualBack hx (y := (⟨"java/lang/AbstractStringBuilder", "inflateIfNeededFor", "(Ljava/lang/String;)V"⟩ : MethodName)) (z := (⟨"java/lang/AbstractStringBuilder", "inflateIfNeededFor", "(Ljava/lang/String;)V"⟩ : MethodName)) hown (mvT hZ (ww hw 114 rfl)) (mvT hZ (own_decl (y := (⟨"java/lang/AbstractStringBuilder", "inflateIfNeededFor", "(Ljava/lang/String;)V"⟩ : MethodName)) (ww hw 115 rfl) (ww hw 118 rfl))) (notFace_of_selects (args := #[]) (mvT hZ (ww hw 117 rfl))) (mvT hZ (ww hw 117 rfl)) (mvT hZ (ww hw 115 rfl)) (by decide) (backOf (W := 0) (rmIn l Z a0 hw [] sb vb xs tt kv kb ys cs z h0 n0 O0 gs gv Eb Vb Cb Nb Kb Ex Vx Cx Kx SC hz hg hc hne hnt) hZ (ww hw 118 rfl) (ww hw 74 rfl) (by decide) (by decide)) q1a q1c (g := (mkF m 2 #[.val (.ref sb), .val (.int (Int32.ofNat ys.length)), .val (.ref xs)] [(.ref xs), (.ref sb)])) rfl (by rw [hml]; rfl) (Steps.refl _) (argsL := [(.ref xs)]) (rest := []) (lenOf own_pd2 rfl) rfl (by show 2 * 0 + _ ≤ _; exact Nat.le_of_eq rfl) (hb hby d19_2) (fun _ _ => ⟨rfl, e0, (by decide : 0 + 0 ≤ _), (by decide : 0 + 0 ≤ _)⟩)
  dsimp only [Pt.U, Pt.locs, Pt.cells, Pt.slots] at X1 l1 y1 z1 st1 hQ1
  subst l1 y1 z1
  obtain ⟨rfl, N1q, e1⟩ := hQ1
  have N1 := Fr.app N0 N1q
  obtain ⟨T2, X2, e2, st2⟩ := getF X1 hx hZ hown (host := "") (Or.inl (ww hw 78 rfl)) Via.refl e1 Vb (g := (mkF m 7 #[.val (.ref sb), .val (.int (Int32.ofNat ys.length)), .val (.ref xs)] [(.ref sb), (.ref xs)])) rfl rfl (hb hby d19_7)
  obtain ⟨T3, X3, e3, st3⟩ := getF X2 hx hZ hown (host := "") (Or.inl (ww hw 80 rfl)) Via.refl e2 Cb (g := (mkF m 12 #[.val (.ref sb), .val (.int (Int32.ofNat ys.length)), .val (.ref xs)] [(.ref sb), (.int (Int32.ofNat ys.length)), (.ref vb), (.ref xs)])) rfl rfl (hb hby d19_12)
  obtain ⟨cq4, kq4, q4a, q4b, q4c⟩ := isOf hZ e3 Ex
  obtain ⟨_, _, ⟨T4, L4, k4, n4⟩, -, X4, ⟨Lc4, hQ4, l4, y4, z4⟩, st4⟩ := X3.virtualBack hx (y := (⟨"java/lang/String", "getBytes", "([BIB)V"⟩ : MethodName)) (z := (⟨"java/lang/String", "getBytes", "([BIB)V"⟩ : MethodName)) hown (mvT hZ (ww hw 120 rfl)) (mvT hZ (ww hw 121 rfl)) (notFace_of_selects (args := #[]) (mvT hZ (ww hw 123 rfl))) (mvT hZ (ww hw 123 rfl)) (mvT hZ (ww hw 122 rfl)) (by decide) (backOf (W := 0) (rmGB l Z a0 hw [] sb vb xs tt kv kb ys cs z h0 n0 O0 gs gv Eb Vb Cb Nb Kb Ex Vx Cx Kx SC hz hg hc hne hnt) hZ (ww hw 124 rfl) (ww hw 6 rfl) (by decide) (by decide)) q4a q4c (g := (mkF m 15 #[.val (.ref sb), .val (.int (Int32.ofNat ys.length)), .val (.ref xs)] [(.int (0 : Int32)), (.int (Int32.ofNat ys.length)), (.ref vb), (.ref xs)])) rfl (by rw [hml]; rfl) (Steps.refl _) (argsL := [(.ref vb), (.int (Int32.ofNat ys.length)), (.int (0 : Int32))]) (rest := []) (lenOf own_pd3 rfl) rfl (by show 2 * 0 + _ ≤ _; exact Nat.le_of_eq rfl) (hb hby d19_15) (fun _ _ => ⟨rfl, e3, (by decide : 0 + 0 ≤ _), (by decide : 0 + 0 ≤ _)⟩)
  dsimp only [Pt.U, Pt.locs, Pt.cells, Pt.slots] at X4 l4 y4 z4 st4 hQ4
  subst l4 y4 z4
  obtain ⟨rfl, N4q, KK4, f4_0⟩ := hQ4
  have N4 := Fr.app N1 N4q
  have O4 := Old.keep O0 KK4 (allS gv all0)
  have K4 := Keep.trans (Keep.refl h0 [vb]) KK4 (allS (Or.inl (List.mem_of_getElem? (i := 0) rfl)) all0)
  obtain ⟨fs, hr, hrun, hended, hW, hsame⟩ := X4.leave (v := none) (fun _ => rfl)
  refine ⟨_, _, pre0 _ ?_, hrun, hended, _, _, rfl, ?_, ⟨_, rfl⟩, hW, hsame.mono (by decide) (by decide)⟩
  · show Steps p.tables e below (s₁.setTop (mkF m 0 #[.val (.ref sb), .val (.int (Int32.ofNat ys.length)), .val (.ref xs)] [])) _
    refine XS.aloadN X0.here hx rfl (hb hby d19_0) rfl rfl ?_
    show Steps p.tables e below (s₁.setTop (mkF m 1 #[.val (.ref sb), .val (.int (Int32.ofNat ys.length)), .val (.ref xs)] [(.ref sb)])) _
    refine XS.aloadN X0.here hx rfl (hb hby d19_1) rfl rfl ?_
    show Steps p.tables e below (s₁.setTop (mkF m 2 #[.val (.ref sb), .val (.int (Int32.ofNat ys.length)), .val (.ref xs)] [(.ref xs), (.ref sb)])) _
    refine st1.trans ?_
    show Steps p.tables e below (T1.setTop (mkF m 5 #[.val (.ref sb), .val (.int (Int32.ofNat ys.length)), .val (.ref xs)] [])) _
    refine XS.aloadN X1.here hx rfl (hb hby d19_5) rfl rfl ?_
    show Steps p.tables e below (T1.setTop (mkF m 6 #[.val (.ref sb), .val (.int (Int32.ofNat ys.length)), .val (.ref xs)] [(.ref xs)])) _
    refine XS.aloadN X1.here hx rfl (hb hby d19_6) rfl rfl ?_
    show Steps p.tables e below (T1.setTop (mkF m 7 #[.val (.ref sb), .val (.int (Int32.ofNat ys.length)), .val (.ref xs)] [(.ref sb), (.ref xs)])) _
    refine st2 _ ?_
    show Steps p.tables e below (T2.setTop (mkF m 10 #[.val (.ref sb), .val (.int (Int32.ofNat ys.length)), .val (.ref xs)] [(.ref vb), (.ref xs)])) _
    refine XS.iloadN X2.here hx rfl (hb hby d19_10) rfl ?_
    show Steps p.tables e below (T2.setTop (mkF m 11 #[.val (.ref sb), .val (.int (Int32.ofNat ys.length)), .val (.ref xs)] [(.int (Int32.ofNat ys.length)), (.ref vb), (.ref xs)])) _
    refine XS.aloadN X2.here hx rfl (hb hby d19_11) rfl rfl ?_
    show Steps p.tables e below (T2.setTop (mkF m 12 #[.val (.ref sb), .val (.int (Int32.ofNat ys.length)), .val (.ref xs)] [(.ref sb), (.int (Int32.ofNat ys.length)), (.ref vb), (.ref xs)])) _
    refine st3 _ ?_
    show Steps p.tables e below (T3.setTop (mkF m 15 #[.val (.ref sb), .val (.int (Int32.ofNat ys.length)), .val (.ref xs)] [(.int (0 : Int32)), (.int (Int32.ofNat ys.length)), (.ref vb), (.ref xs)])) _
    refine st4.trans ?_
    show Steps p.tables e below (T4.setTop (mkF m 18 #[.val (.ref sb), .val (.int (Int32.ofNat ys.length)), .val (.ref xs)] [])) _
    exact X4.returnOut hx Bd.returns (hb hby d19_18) hr
  · show Qd4 Z sb vb xs tt kv kb ys cs z h0 n0 _ T4.heap _
    exact ⟨rfl, N4, K4, f4_0⟩
theorem d15_0 : decode jdk_68_method_22_code 0 = .ok (.aload_n 1, 1) := by decide +kernel
theorem d15_1 : decode jdk_68_method_22_code 1 = .ok (.ifnonnull 8, 3) := by decide +kernel
theorem d15_9 : decode jdk_68_method_22_code 9 = .ok (.aload_n 1, 1) := by decide +kernel
theorem d15_10 : decode jdk_68_method_22_code 10 = .ok (.invokevirtual 32, 3) := by decide +kernel
theorem own_pd4 : parseMethodDescriptor "()I" = some ⟨[], some .int⟩ := by decide +kernel
theorem d15_13 : decode jdk_68_method_22_code 13 = .ok (.istore_n 2, 1) := by decide +kernel
theorem d15_14 : decode jdk_68_method_22_code 14 = .ok (.aload_n 0, 1) := by decide +kernel
theorem d15_15 : decode jdk_68_method_22_code 15 = .ok (.aload_n 0, 1) := by decide +kernel
theorem d15_16 : decode jdk_68_method_22_code 16 = .ok (.getfield 79, 3) := by decide +kernel
theorem d15_19 : decode jdk_68_method_22_code 19 = .ok (.iload_n 2, 1) := by decide +kernel
theorem d15_20 : decode jdk_68_method_22_code 20 = .ok (.iadd, 1) := by decide +kernel
theorem d15_21 : decode jdk_68_method_22_code 21 = .ok (.invokevirtual 100, 3) := by decide +kernel
theorem d15_24 : decode jdk_68_method_22_code 24 = .ok (.aload_n 0, 1) := by decide +kernel
theorem d15_25 : decode jdk_68_method_22_code 25 = .ok (.aload_n 0, 1) := by decide +kernel
theorem d15_26 : decode jdk_68_method_22_code 26 = .ok (.getfield 79, 3) := by decide +kernel
theorem d15_29 : decode jdk_68_method_22_code 29 = .ok (.aload_n 1, 1) := by decide +kernel
theorem d15_30 : decode jdk_68_method_22_code 30 = .ok (.invokevirtual 208, 3) := by decide +kernel
theorem own_pd5 : parseMethodDescriptor "(ILjava/lang/String;)V" = some ⟨[.int, (.object "java/lang/String")], none⟩ := by decide +kernel
theorem d15_33 : decode jdk_68_method_22_code 33 = .ok (.aload_n 0, 1) := by decide +kernel
theorem d15_34 : decode jdk_68_method_22_code 34 = .ok (.dup, 1) := by decide +kernel
theorem d15_35 : decode jdk_68_method_22_code 35 = .ok (.getfield 79, 3) := by decide +kernel
theorem d15_38 : decode jdk_68_method_22_code 38 = .ok (.iload_n 2, 1) := by decide +kernel
theorem d15_39 : decode jdk_68_method_22_code 39 = .ok (.iadd, 1) := by decide +kernel
theorem d15_40 : decode jdk_68_method_22_code 40 = .ok (.putfield 79, 3) := by decide +kernel
theorem d15_43 : decode jdk_68_method_22_code 43 = .ok (.aload_n 0, 1) := by decide +kernel
theorem d15_44 : decode jdk_68_method_22_code 44 = .ok (.areturn, 1) := by decide +kernel
theorem ef_15 (m : MethodId) (x0 : Addr) (x1 : Addr) : entryFrame m #[(.ref x0), (.ref x1)] 3 = mkF m 0 #[.val (.ref x0), .val (.ref x1), .unset] [] := by first | (simp [entryFrame, mkF, argsToLocals, Value.category]; done) | rfl
theorem pn_15 : plainName "java/lang/AbstractStringBuilder" = true := by first | (simp [plainName, overriddenIn]; done) | decide +kernel
def Qd5 (Z : State) (sb vb xs tt : Addr) (kv kb : ClassId) (ys cs : List Int32) (z : Int32) (h0 : Heap) (n0 : Nat) (v : Option Value) (h : Heap) (L : List Loc) : Prop := v = some (.ref sb) ∧ Fr n0 L ∧ Keep h0 h [sb, vb] ∧ Exa Z h sb "java/lang/StringBuilder" ∧ Fld Z h sb "java/lang/AbstractStringBuilder" "value" "[B" (.ref vb) ∧ Fld Z h sb "java/lang/AbstractStringBuilder" "coder" "B" (.int (0 : Int32)) ∧ Fld Z h sb "java/lang/AbstractStringBuilder" "count" "I" (.int (Int32.ofNat (ys ++ cs).length)) ∧ Arv Z h vb kv .byte (Int32.ofNat 16) (((ys ++ cs).map StrChars.lo8).map Value.int) (.int 0)
set_option maxRecDepth 65536 in
set_option maxHeartbeats 40000000 in
theorem rmAA (l : Launch) (Z : State) (a0 : Array Value) (hw : ∀ d ∈ tables_1, d.before a0 Z = true) (ws : List Jvm.Cond) (sb vb xs tt : Addr) (kv kb : ClassId) (ys cs : List Int32) (z : Int32) (h0 : Heap) (n0 : Nat) (O0 : Old Z n0 h0) (gs : n0 ≤ sb) (gv : n0 ≤ vb) (Eb : Exa Z h0 sb "java/lang/StringBuilder") (Vb : Fld Z h0 sb "java/lang/AbstractStringBuilder" "value" "[B" (.ref vb)) (Cb : Fld Z h0 sb "java/lang/AbstractStringBuilder" "coder" "B" (.int (0 : Int32))) (Nb : Fld Z h0 sb "java/lang/AbstractStringBuilder" "count" "I" (.int (Int32.ofNat (ys).length))) (Kb : Arv Z h0 vb kv .byte (Int32.ofNat 16) (((ys).map StrChars.lo8).map Value.int) (.int 0)) (Ex : Exa Z h0 xs "java/lang/String") (Vx : Fld Z h0 xs "java/lang/String" "value" "[B" (.ref tt)) (Cx : Fld Z h0 xs "java/lang/String" "coder" "B" (.int 0)) (Kx : Arv Z h0 tt kb .byte (Int32.ofNat (cs).length) (((cs).map StrChars.lo8).map Value.int) (.int 0)) (SC : Sta Z Z.heap "java/lang/String" "COMPACT_STRINGS" "Z" (.int z)) (hz : ¬ z = 0) (hg : own_good cs) (hc : ys.length + cs.length ≤ 16) (hne : sb ≠ vb) (hnt : tt ≠ vb) :
    MetFree l (⟨"java/lang/AbstractStringBuilder", "append", "(Ljava/lang/String;)Ljava/lang/AbstractStringBuilder;"⟩ : MethodName) (head1 (Jvm.Cond.code (⟨"java/lang/AbstractStringBuilder", "append", "(Ljava/lang/String;)Ljava/lang/AbstractStringBuilder;"⟩ : MethodName) jdk_68_method_22_code 3 (some (.object "java/lang/AbstractStringBuilder")) :: ws) ({ frames := 3, cells := 0, slots := 0, locals := 47 } : Room)) (fun qq U => qq = #[(.ref sb), (.ref xs)] ∧ Z.Warmed39 U.vm ∧ U.heap = h0) (fun _ _ _ _ _ => True) (fun _ UU oo UU' => ∃ vv LL, oo = .returned vv ∧ Qd5 Z sb vb xs tt kv kb ys cs z h0 n0 vv UU'.heap LL ∧ FrameEnd UU oo UU' LL ({ frames := 3, cells := 0, slots := 0, locals := 47 } : Room).cells ({ frames := 3, cells := 0, slots := 0, locals := 47 } : Room).slots) := by
  refine MetFree.of_bodySF (plainFor_of_name pn_15) hisR ?_
  intro p e s m args below meth c s₁ Bd hml0 hP hK
  obtain ⟨rfl, hZ, hh⟩ := hP
  have hx := Bd.exec
  have hby := Bd.bytes
  have hml : c.maxLocals = 3 := hml0
  have hown : s.vm.findClass "java/lang/AbstractStringBuilder" = some m.cls := findClass_of_methodNamed Bd.named
  have hnm := (name_of_methodNamed Bd.named Bd.method).1
  have X0 : Stand p l e ({ frames := 3, cells := 0, slots := 0, locals := 47 } : Room) s m #[(.ref sb), (.ref xs)] below meth c s₁ [] 0 0 := Stand.of_body Bd
  have e0 : s₁.heap = h0 := by rw [← hh, Bd.state]; rfl
  have N0 := Fr.nil n0
  have pre0 : ∀ tgt, Steps p.tables e below (s₁.setTop (mkF m 0 #[.val (.ref sb), .val (.ref xs), .unset] [])) tgt → Steps p.tables e below (s₁.setTop (entryFrame m #[(.ref sb), (.ref xs)] 3)) tgt := fun tt kk => castTop (ef_15 m sb xs) kk
  obtain ⟨cq1, kq1, q1a, q1b, q1c⟩ := isOf hZ e0 Ex
  obtain ⟨_, _, ⟨T1, L1, k1, n1⟩, -, X1, ⟨Lc1, hQ1, l1, y1, z1⟩, st1⟩ := X0.virtualBack hx (y := (⟨"java/lang/String", "length", "()I"⟩ : MethodName)) (z := (⟨"java/lang/String", "length", "()I"⟩ : MethodName)) hown (mvT hZ (ww hw 92 rfl)) (mvT hZ (ww hw 93 rfl)) (notFace_of_selects (args := #[]) (mvT hZ (ww hw 95 rfl))) (mvT hZ (ww hw 95 rfl)) (mvT hZ (ww hw 94 rfl)) (by decide) (own_bk (n0 := n0) (fun _ q => q) (StrChars.Road.lenW (W := 0) hZ (own_wL hw) (kI := 4) (ww hw 5 rfl) Ex Vx Cx Kx (own_cd hg) (own_hb hg) (Sta.ext O0.2 SC) hz (Nat.le_trans hg.1 (by decide)) (by decide) (by decide))) q1a q1c (g := (mkF m 10 #[.val (.ref sb), .val (.ref xs), .unset] [(.ref xs)])) rfl (by rw [hml]; rfl) (Steps.refl _) (argsL := []) (rest := []) (lenOf own_pd4 rfl) rfl (by show 2 * 0 + _ ≤ _; exact Nat.le_of_eq rfl) (hb hby d15_10) (fun _ _ => ⟨rfl, e0, (by decide : 0 + 0 ≤ _), (by decide : 0 + 0 ≤ _)⟩)
  dsimp only [Pt.U, Pt.locs, Pt.cells, Pt.slots] at X1 l1 y1 z1 st1 hQ1
  subst l1 y1 z1
  obtain ⟨rfl, N1q, e1⟩ := hQ1
  have N1 := Fr.app N0 N1q
  obtain ⟨T2, X2, e2, st2⟩ := getF X1 hx hZ hown (host := "") (Or.inl (ww hw 102 rfl)) Via.refl e1 Nb (g := (mkF m 16 #[.val (.ref sb), .val (.ref xs), .val (.int (Int32.ofNat cs.length))] [(.ref sb), (.ref sb)])) rfl rfl (hb hby d15_16)
  obtain ⟨cq3, kq3, q3a, q3b, q3c⟩ := isOf hZ e2 Eb
  obtain ⟨_, _, ⟨T3, L3, k3, n3⟩, -, X3, ⟨Lc3, hQ3, l3, y3, z3⟩, st3⟩ := X2.virtualBack hx (y := (⟨"java/lang/AbstractStringBuilder", "ensureCapacityInternal", "(I)V"⟩ : MethodName)) (z := (⟨"java/lang/AbstractStringBuilder", "ensureCapacityInternal", "(I)V"⟩ : MethodName)) hown (mvT hZ (ww hw 104 rfl)) (mvT hZ (own_decl (y := (⟨"java/lang/AbstractStringBuilder", "ensureCapacityInternal", "(I)V"⟩ : MethodName)) (ww hw 105 rfl) (ww hw 108 rfl))) (notFace_of_selects (args := #[]) (mvT hZ (ww hw 107 rfl))) (mvT hZ (ww hw 107 rfl)) (mvT hZ (ww hw 105 rfl)) (by decide) (backOf (W := 0) (rmEC l Z a0 hw [] sb vb kv ys cs h0 n0 Eb Vb Cb Nb Kb hc) hZ (ww hw 108 rfl) (ww hw 74 rfl) (by decide) (by decide)) q3a q3c (g := (mkF m 21 #[.val (.ref sb), .val (.ref xs), .val (.int (Int32.ofNat cs.length))] [(.int ((Int32.ofNat (ys).length) + (Int32.ofNat cs.length))), (.ref sb)])) rfl (by rw [hml]; rfl) (Steps.refl _) (argsL := [(.int ((Int32.ofNat (ys).length) + (Int32.ofNat cs.length)))]) (rest := []) (lenOf own_pd0 rfl) rfl (by show 2 * 0 + _ ≤ _; exact Nat.le_of_eq rfl) (hb hby d15_21) (fun _ _ => ⟨rfl, e2, (by decide : 0 + 0 ≤ _), (by decide : 0 + 0 ≤ _)⟩)
  dsimp only [Pt.U, Pt.locs, Pt.cells, Pt.slots] at X3 l3 y3 z3 st3 hQ3
  subst l3 y3 z3
  obtain ⟨rfl, N3q, e3⟩ := hQ3
  have N3 := Fr.app N1 N3q
  obtain ⟨T4, X4, e4, st4⟩ := getF X3 hx hZ hown (host := "") (Or.inl (ww hw 102 rfl)) Via.refl e3 Nb (g := (mkF m 26 #[.val (.ref sb), .val (.ref xs), .val (.int (Int32.ofNat cs.length))] [(.ref sb), (.ref sb)])) rfl rfl (hb hby d15_26)
  obtain ⟨cq5, kq5, q5a, q5b, q5c⟩ := isOf hZ e4 Eb
  obtain ⟨_, _, ⟨T5, L5, k5, n5⟩, -, X5, ⟨Lc5, hQ5, l5, y5, z5⟩, st5⟩ := X4.virtualBack hx (y := (⟨"java/lang/AbstractStringBuilder", "putStringAt", "(ILjava/lang/String;)V"⟩ : MethodName)) (z := (⟨"java/lang/AbstractStringBuilder", "putStringAt", "(ILjava/lang/String;)V"⟩ : MethodName)) hown (mvT hZ (ww hw 109 rfl)) (mvT hZ (own_decl (y := (⟨"java/lang/AbstractStringBuilder", "putStringAt", "(ILjava/lang/String;)V"⟩ : MethodName)) (ww hw 110 rfl) (ww hw 113 rfl))) (notFace_of_selects (args := #[]) (mvT hZ (ww hw 112 rfl))) (mvT hZ (ww hw 112 rfl)) (mvT hZ (ww hw 110 rfl)) (by decide) (backOf (W := 0) (rmPS l Z a0 hw [] sb vb xs tt kv kb ys cs z h0 n0 O0 gs gv Eb Vb Cb Nb Kb Ex Vx Cx Kx SC hz hg hc hne hnt) hZ (ww hw 113 rfl) (ww hw 74 rfl) (by decide) (by decide)) q5a q5c (g := (mkF m 30 #[.val (.ref sb), .val (.ref xs), .val (.int (Int32.ofNat cs.length))] [(.ref xs), (.int (Int32.ofNat (ys).length)), (.ref sb)])) rfl (by rw [hml]; rfl) (Steps.refl _) (argsL := [(.int (Int32.ofNat (ys).length)), (.ref xs)]) (rest := []) (lenOf own_pd5 rfl) rfl (by show 2 * 0 + _ ≤ _; exact Nat.le_of_eq rfl) (hb hby d15_30) (fun _ _ => ⟨rfl, e4, (by decide : 0 + 0 ≤ _), (by decide : 0 + 0 ≤ _)⟩)
  dsimp only [Pt.U, Pt.locs, Pt.cells, Pt.slots] at X5 l5 y5 z5 st5 hQ5
  subst l5 y5 z5
  obtain ⟨rfl, N5q, KK5, f5_0⟩ := hQ5
  have N5 := Fr.app N3 N5q
  have O5 := Old.keep O0 KK5 (allS gv all0)
  have K5 := Keep.trans (Keep.refl h0 [sb, vb]) KK5 (allS (Or.inl (List.mem_of_getElem? (i := 1) rfl)) all0)
  obtain ⟨T6, X6, e6, st6⟩ := getF X5 hx hZ hown (host := "") (Or.inl (ww hw 102 rfl)) Via.refl rfl (Nb.keep KK5 (ninS hne nin0)) (g := (mkF m 35 #[.val (.ref sb), .val (.ref xs), .val (.int (Int32.ofNat cs.length))] [(.ref sb), (.ref sb)])) rfl rfl (hb hby d15_35)
  obtain ⟨T7, h7, X7, e7, W7, st7⟩ := putF X6 hx hZ hown (host := "") (Or.inl (ww hw 102 rfl)) Via.refl e6 (Nb.keep KK5 (ninS hne nin0)) (Eb.keep KK5) (Or.inl (ww hw 103 rfl)) (ww hw 65 rfl) (ty := .int) (by decide) rfl rfl (g := (mkF m 40 #[.val (.ref sb), .val (.ref xs), .val (.int (Int32.ofNat cs.length))] [(.int ((Int32.ofNat (ys).length) + (Int32.ofNat cs.length))), (.ref sb)])) rfl rfl (hb hby d15_40)
  have Fw7 := Fld.same W7 (Nb.keep KK5 (ninS hne nin0))
  have N7 := Fr.snoc X7 N5 gs
  have O7 := Old.wr O5 W7 gs
  have K7 := Keep.wr K5 W7 (Or.inl (List.mem_of_getElem? (i := 0) rfl))
  have c8 := (Fld.other W7 (Vb.keep KK5 (ninS hne nin0)) (Or.inr (slot_ne (a0 := a0) (Or.inl (ww hw 79 rfl)) (Or.inl (ww hw 103 rfl)) (by decide) (t := (.array .byte)) (t' := .int) (by decide) (by decide))))
  have c9 := (Fld.other W7 (Cb.keep KK5 (ninS hne nin0)) (Or.inr (slot_ne (a0 := a0) (Or.inl (ww hw 81 rfl)) (Or.inl (ww hw 103 rfl)) (by decide) (t := .byte) (t' := .int) (by decide) (by decide))))
  obtain ⟨fs, hr, hrun, hended, hW, hsame⟩ := X7.leave (v := some (.ref sb)) (fun h => by rw [Bd.returns] at h; cases h)
  refine ⟨_, _, pre0 _ ?_, hrun, hended, _, _, rfl, ?_, ⟨_, rfl⟩, hW, hsame.mono (by decide) (by decide)⟩
  · show Steps p.tables e below (s₁.setTop (mkF m 0 #[.val (.ref sb), .val (.ref xs), .unset] [])) _
    refine XS.aloadN X0.here hx rfl (hb hby d15_0) rfl rfl ?_
    show Steps p.tables e below (s₁.setTop (mkF m 1 #[.val (.ref sb), .val (.ref xs), .unset] [(.ref xs)])) _
    refine XS.ifnonnullYes X0.here hx rfl (pc0 := 1) (pc' := 9) rfl (hb hby d15_1) rfl (by decide) (by decide) ?_
    show Steps p.tables e below (s₁.setTop (mkF m 9 #[.val (.ref sb), .val (.ref xs), .unset] [])) _
    refine XS.aloadN X0.here hx rfl (hb hby d15_9) rfl rfl ?_
    show Steps p.tables e below (s₁.setTop (mkF m 10 #[.val (.ref sb), .val (.ref xs), .unset] [(.ref xs)])) _
    refine st1.trans ?_
    show Steps p.tables e below (T1.setTop (mkF m 13 #[.val (.ref sb), .val (.ref xs), .unset] [(.int (Int32.ofNat cs.length))])) _
    refine XS.istoreN X1.here hx rfl (hb hby d15_13) rfl (l' := #[.val (.ref sb), .val (.ref xs), .val (.int (Int32.ofNat cs.length))]) rfl ?_
    show Steps p.tables e below (T1.setTop (mkF m 14 #[.val (.ref sb), .val (.ref xs), .val (.int (Int32.ofNat cs.length))] [])) _
    refine XS.aloadN X1.here hx rfl (hb hby d15_14) rfl rfl ?_
    show Steps p.tables e below (T1.setTop (mkF m 15 #[.val (.ref sb), .val (.ref xs), .val (.int (Int32.ofNat cs.length))] [(.ref sb)])) _
    refine XS.aloadN X1.here hx rfl (hb hby d15_15) rfl rfl ?_
    show Steps p.tables e below (T1.setTop (mkF m 16 #[.val (.ref sb), .val (.ref xs), .val (.int (Int32.ofNat cs.length))] [(.ref sb), (.ref sb)])) _
    refine st2 _ ?_
    show Steps p.tables e below (T2.setTop (mkF m 19 #[.val (.ref sb), .val (.ref xs), .val (.int (Int32.ofNat cs.length))] [(.int (Int32.ofNat (ys).length)), (.ref sb)])) _
    refine XS.iloadN X2.here hx rfl (hb hby d15_19) rfl ?_
    show Steps p.tables e below (T2.setTop (mkF m 20 #[.val (.ref sb), .val (.ref xs), .val (.int (Int32.ofNat cs.length))] [(.int (Int32.ofNat cs.length)), (.int (Int32.ofNat (ys).length)), (.ref sb)])) _
    refine XS.iadd X2.here hx rfl (hb hby d15_20) rfl ?_
    show Steps p.tables e below (T2.setTop (mkF m 21 #[.val (.ref sb), .val (.ref xs), .val (.int (Int32.ofNat cs.length))] [(.int ((Int32.ofNat (ys).length) + (Int32.ofNat cs.length))), (.ref sb)])) _
    refine st3.trans ?_
    show Steps p.tables e below (T3.setTop (mkF m 24 #[.val (.ref sb), .val (.ref xs), .val (.int (Int32.ofNat cs.length))] [])) _
    refine XS.aloadN X3.here hx rfl (hb hby d15_24) rfl rfl ?_
    show Steps p.tables e below (T3.setTop (mkF m 25 #[.val (.ref sb), .val (.ref xs), .val (.int (Int32.ofNat cs.length))] [(.ref sb)])) _
    refine XS.aloadN X3.here hx rfl (hb hby d15_25) rfl rfl ?_
    show Steps p.tables e below (T3.setTop (mkF m 26 #[.val (.ref sb), .val (.ref xs), .val (.int (Int32.ofNat cs.length))] [(.ref sb), (.ref sb)])) _
    refine st4 _ ?_
    show Steps p.tables e below (T4.setTop (mkF m 29 #[.val (.ref sb), .val (.ref xs), .val (.int (Int32.ofNat cs.length))] [(.int (Int32.ofNat (ys).length)), (.ref sb)])) _
    refine XS.aloadN X4.here hx rfl (hb hby d15_29) rfl rfl ?_
    show Steps p.tables e below (T4.setTop (mkF m 30 #[.val (.ref sb), .val (.ref xs), .val (.int (Int32.ofNat cs.length))] [(.ref xs), (.int (Int32.ofNat (ys).length)), (.ref sb)])) _
    refine st5.trans ?_
    show Steps p.tables e below (T5.setTop (mkF m 33 #[.val (.ref sb), .val (.ref xs), .val (.int (Int32.ofNat cs.length))] [])) _
    refine XS.aloadN X5.here hx rfl (hb hby d15_33) rfl rfl ?_
    show Steps p.tables e below (T5.setTop (mkF m 34 #[.val (.ref sb), .val (.ref xs), .val (.int (Int32.ofNat cs.length))] [(.ref sb)])) _
    refine XS.dup X5.here hx rfl (hb hby d15_34) rfl rfl ?_
    show Steps p.tables e below (T5.setTop (mkF m 35 #[.val (.ref sb), .val (.ref xs), .val (.int (Int32.ofNat cs.length))] [(.ref sb), (.ref sb)])) _
    refine st6 _ ?_
    show Steps p.tables e below (T6.setTop (mkF m 38 #[.val (.ref sb), .val (.ref xs), .val (.int (Int32.ofNat cs.length))] [(.int (Int32.ofNat (ys).length)), (.ref sb)])) _
    refine XS.iloadN X6.here hx rfl (hb hby d15_38) rfl ?_
    show Steps p.tables e below (T6.setTop (mkF m 39 #[.val (.ref sb), .val (.ref xs), .val (.int (Int32.ofNat cs.length))] [(.int (Int32.ofNat cs.length)), (.int (Int32.ofNat (ys).length)), (.ref sb)])) _
    refine XS.iadd X6.here hx rfl (hb hby d15_39) rfl ?_
    show Steps p.tables e below (T6.setTop (mkF m 40 #[.val (.ref sb), .val (.ref xs), .val (.int (Int32.ofNat cs.length))] [(.int ((Int32.ofNat (ys).length) + (Int32.ofNat cs.length))), (.ref sb)])) _
    refine st7 _ ?_
    show Steps p.tables e below (T7.setTop (mkF m 43 #[.val (.ref sb), .val (.ref xs), .val (.int (Int32.ofNat cs.length))] [])) _
    refine XS.aloadN X7.here hx rfl (hb hby d15_43) rfl rfl ?_
    show Steps p.tables e below (T7.setTop (mkF m 44 #[.val (.ref sb), .val (.ref xs), .val (.int (Int32.ofNat cs.length))] [(.ref sb)])) _
    exact retOut X7 hx Bd.returns rfl (Or.inr (Or.inr (Or.inr (Or.inr ⟨rfl, rfl, rfl⟩)))) (hb hby d15_44) hr
  · show Qd5 Z sb vb xs tt kv kb ys cs z h0 n0 _ T7.heap _
    rw [e7]
    exact ⟨rfl, N7, K7, (Exa.wr W7 (Eb.keep KK5)), c8, c9, by rw [← own_cnt]; exact Fw7, (f5_0.other W7 (Ne.symm hne))⟩
theorem d14_0 : decode jdk_67_method_7_code 0 = .ok (.aload_n 0, 1) := by decide +kernel
theorem d14_1 : decode jdk_67_method_7_code 1 = .ok (.aload_n 1, 1) := by decide +kernel
theorem d14_2 : decode jdk_67_method_7_code 2 = .ok (.invokespecial 29, 3) := by decide +kernel
theorem own_pd6 : parseMethodDescriptor "(Ljava/lang/String;)Ljava/lang/AbstractStringBuilder;" = some ⟨[(.object "java/lang/String")], some (.object "java/lang/AbstractStringBuilder")⟩ := by decide +kernel
theorem d14_5 : decode jdk_67_method_7_code 5 = .ok (.pop, 1) := by decide +kernel
theorem d14_6 : decode jdk_67_method_7_code 6 = .ok (.aload_n 0, 1) := by decide +kernel
theorem d14_7 : decode jdk_67_method_7_code 7 = .ok (.areturn, 1) := by decide +kernel
theorem ef_14 (m : MethodId) (x0 : Addr) (x1 : Addr) : entryFrame m #[(.ref x0), (.ref x1)] 2 = mkF m 0 #[.val (.ref x0), .val (.ref x1)] [] := by first | (simp [entryFrame, mkF, argsToLocals, Value.category]; done) | rfl
theorem pn_14 : plainName "java/lang/StringBuilder" = true := by first | (simp [plainName, overriddenIn]; done) | decide +kernel
set_option maxRecDepth 65536 in
set_option maxHeartbeats 40000000 in
theorem rmBA (l : Launch) (Z : State) (a0 : Array Value) (hw : ∀ d ∈ tables_1, d.before a0 Z = true) (ws : List Jvm.Cond) (sb vb xs tt : Addr) (kv kb : ClassId) (ys cs : List Int32) (z : Int32) (h0 : Heap) (n0 : Nat) (O0 : Old Z n0 h0) (gs : n0 ≤ sb) (gv : n0 ≤ vb) (Eb : Exa Z h0 sb "java/lang/StringBuilder") (Vb : Fld Z h0 sb "java/lang/AbstractStringBuilder" "value" "[B" (.ref vb)) (Cb : Fld Z h0 sb "java/lang/AbstractStringBuilder" "coder" "B" (.int (0 : Int32))) (Nb : Fld Z h0 sb "java/lang/AbstractStringBuilder" "count" "I" (.int (Int32.ofNat (ys).length))) (Kb : Arv Z h0 vb kv .byte (Int32.ofNat 16) (((ys).map StrChars.lo8).map Value.int) (.int 0)) (Ex : Exa Z h0 xs "java/lang/String") (Vx : Fld Z h0 xs "java/lang/String" "value" "[B" (.ref tt)) (Cx : Fld Z h0 xs "java/lang/String" "coder" "B" (.int 0)) (Kx : Arv Z h0 tt kb .byte (Int32.ofNat (cs).length) (((cs).map StrChars.lo8).map Value.int) (.int 0)) (SC : Sta Z Z.heap "java/lang/String" "COMPACT_STRINGS" "Z" (.int z)) (hz : ¬ z = 0) (hg : own_good cs) (hc : ys.length + cs.length ≤ 16) (hne : sb ≠ vb) (hnt : tt ≠ vb) :
    MetFree l (⟨"java/lang/StringBuilder", "append", "(Ljava/lang/String;)Ljava/lang/StringBuilder;"⟩ : MethodName) (head1 (Jvm.Cond.code (⟨"java/lang/StringBuilder", "append", "(Ljava/lang/String;)Ljava/lang/StringBuilder;"⟩ : MethodName) jdk_67_method_7_code 2 (some (.object "java/lang/StringBuilder")) :: ws) ({ frames := 4, cells := 0, slots := 0, locals := 61 } : Room)) (fun qq U => qq = #[(.ref sb), (.ref xs)] ∧ Z.Warmed39 U.vm ∧ U.heap = h0) (fun _ _ _ _ _ => True) (fun _ UU oo UU' => ∃ vv LL, oo = .returned vv ∧ Qd5 Z sb vb xs tt kv kb ys cs z h0 n0 vv UU'.heap LL ∧ FrameEnd UU oo UU' LL ({ frames := 4, cells := 0, slots := 0, locals := 61 } : Room).cells ({ frames := 4, cells := 0, slots := 0, locals := 61 } : Room).slots) := by
  refine MetFree.of_bodySF (plainFor_of_name pn_14) hisR ?_
  intro p e s m args below meth c s₁ Bd hml0 hP hK
  obtain ⟨rfl, hZ, hh⟩ := hP
  have hx := Bd.exec
  have hby := Bd.bytes
  have hml : c.maxLocals = 2 := hml0
  have hown : s.vm.findClass "java/lang/StringBuilder" = some m.cls := findClass_of_methodNamed Bd.named
  have hnm := (name_of_methodNamed Bd.named Bd.method).1
  have X0 : Stand p l e ({ frames := 4, cells := 0, slots := 0, locals := 61 } : Room) s m #[(.ref sb), (.ref xs)] below meth c s₁ [] 0 0 := Stand.of_body Bd
  have e0 : s₁.heap = h0 := by rw [← hh, Bd.state]; rfl
  have N0 := Fr.nil n0
  have pre0 : ∀ tgt, Steps p.tables e below (s₁.setTop (mkF m 0 #[.val (.ref sb), .val (.ref xs)] [])) tgt → Steps p.tables e below (s₁.setTop (entryFrame m #[(.ref sb), (.ref xs)] 2)) tgt := fun tt kk => castTop (ef_14 m sb xs) kk
  obtain ⟨_, _, ⟨T1, L1, k1, n1⟩, -, X1, ⟨Lc1, hQ1, l1, y1, z1⟩, st1⟩ := superBack X0 hx hZ (y := (⟨"java/lang/AbstractStringBuilder", "append", "(Ljava/lang/String;)Ljava/lang/AbstractStringBuilder;"⟩ : MethodName)) hown (ww hw 87 rfl) (own_sameM (y := (⟨"java/lang/AbstractStringBuilder", "append", "(Ljava/lang/String;)Ljava/lang/AbstractStringBuilder;"⟩ : MethodName)) (ww hw 90 rfl) (own_nf2 (y1 := (⟨"java/lang/AbstractStringBuilder", "getValue", "()[B"⟩ : MethodName)) (notFace_of_selects (args := a0) (ww hw 145 rfl)) (ww hw 143 rfl) rfl) (by decide)) (ww hw 88 rfl) (ww hw 89 rfl) (by decide) (backOf (W := 0) (rmAA l Z a0 hw [] sb vb xs tt kv kb ys cs z h0 n0 O0 gs gv Eb Vb Cb Nb Kb Ex Vx Cx Kx SC hz hg hc hne hnt) hZ (ww hw 91 rfl) (ww hw 74 rfl) (by decide) (by decide)) e0 (Ins.self Eb) (g := (mkF m 2 #[.val (.ref sb), .val (.ref xs)] [(.ref xs), (.ref sb)])) rfl (by rw [hml]; rfl) (ww hw 91 rfl) (argsL := [(.ref xs)]) (rest := []) (lenOf own_pd6 rfl) rfl (by show 2 * 0 + _ ≤ _; exact Nat.le_of_eq rfl) (hb hby d14_2) (fun _ _ => ⟨rfl, e0, (by decide : 0 + 0 ≤ _), (by decide : 0 + 0 ≤ _)⟩)
  dsimp only [Pt.U, Pt.locs, Pt.cells, Pt.slots] at X1 l1 y1 z1 st1 hQ1
  subst l1 y1 z1
  obtain ⟨rfl, N1q, KK1, fE, fV, fC, fN, fK⟩ := hQ1
  have N1 := Fr.app N0 N1q
  have O1 := Old.keep O0 KK1 (allS gs (allS gv all0))
  have K1 := Keep.trans (Keep.refl h0 [sb, vb]) KK1 (allS (Or.inl (List.mem_of_getElem? (i := 0) rfl)) (allS (Or.inl (List.mem_of_getElem? (i := 1) rfl)) all0))
  obtain ⟨fs, hr, hrun, hended, hW, hsame⟩ := X1.leave (v := some (.ref sb)) (fun h => by rw [Bd.returns] at h; cases h)
  refine ⟨_, _, pre0 _ ?_, hrun, hended, _, _, rfl, ?_, ⟨_, rfl⟩, hW, hsame.mono (by decide) (by decide)⟩
  · show Steps p.tables e below (s₁.setTop (mkF m 0 #[.val (.ref sb), .val (.ref xs)] [])) _
    refine XS.aloadN X0.here hx rfl (hb hby d14_0) rfl rfl ?_
    show Steps p.tables e below (s₁.setTop (mkF m 1 #[.val (.ref sb), .val (.ref xs)] [(.ref sb)])) _
    refine XS.aloadN X0.here hx rfl (hb hby d14_1) rfl rfl ?_
    show Steps p.tables e below (s₁.setTop (mkF m 2 #[.val (.ref sb), .val (.ref xs)] [(.ref xs), (.ref sb)])) _
    refine st1.trans ?_
    show Steps p.tables e below (T1.setTop (mkF m 5 #[.val (.ref sb), .val (.ref xs)] [(.ref sb)])) _
    refine XS.pop X1.here hx rfl (hb hby d14_5) rfl rfl ?_
    show Steps p.tables e below (T1.setTop (mkF m 6 #[.val (.ref sb), .val (.ref xs)] [])) _
    refine XS.aloadN X1.here hx rfl (hb hby d14_6) rfl rfl ?_
    show Steps p.tables e below (T1.setTop (mkF m 7 #[.val (.ref sb), .val (.ref xs)] [(.ref sb)])) _
    exact retOut X1 hx Bd.returns rfl (Or.inr (Or.inr (Or.inr (Or.inr ⟨rfl, rfl, rfl⟩)))) (hb hby d14_7) hr
  · show Qd5 Z sb vb xs tt kv kb ys cs z h0 n0 _ T1.heap _
    exact ⟨rfl, N1, K1, fE, fV, fC, fN, fK⟩
theorem own_sub0 (x : Int32) : x - (0 : Int32) = x := by simp
theorem own_lt16 {n : Nat} (h : n < 16) : Int32.ofNat n < Int32.ofNat 16 := by
  have e : (Int32.ofNat n).toInt = n := Int32.toInt_ofNat_of_lt (by omega)
  rw [Int32.lt_iff_toInt_lt, e, show (Int32.ofNat 16).toInt = 16 from rfl]; omega
theorem own_ne16 {n : Nat} (h : n < 16) : ¬ (Int32.ofNat n = Int32.ofNat 16) := fun q => by
  have := own_lt16 h; rw [q] at this; exact Int32.lt_irrefl this
theorem own_nn0 {n : Nat} (h : n < 16) : ¬ (Int32.ofNat n < (0 : Int32)) := (own_n n (by omega)).1

theorem d25_0 : decode jdk_68_method_64_code 0 = .ok (.aload_n 0, 1) := by decide +kernel
theorem d25_1 : decode jdk_68_method_64_code 1 = .ok (.getfield 15, 3) := by decide +kernel
theorem d25_4 : decode jdk_68_method_64_code 4 = .ok (.areturn, 1) := by decide +kernel
theorem ef_25 (m : MethodId) (x0 : Addr) : entryFrame m #[(.ref x0)] 1 = mkF m 0 #[.val (.ref x0)] [] := by first | (simp [entryFrame, mkF, argsToLocals, Value.category]; done) | rfl
theorem pn_25 : plainName "java/lang/AbstractStringBuilder" = true := by first | (simp [plainName, overriddenIn]; done) | decide +kernel
def Qd6 (Z : State) (sb vb : Addr) (kv : ClassId) (ys : List Int32) (z : Int32) (h0 : Heap) (n0 : Nat) (v : Option Value) (h : Heap) (L : List Loc) : Prop := v = some (.ref vb) ∧ Fr n0 L ∧ h = h0
set_option maxRecDepth 65536 in
set_option maxHeartbeats 40000000 in
theorem rmGV (l : Launch) (Z : State) (a0 : Array Value) (hw : ∀ d ∈ tables_1, d.before a0 Z = true) (ws : List Jvm.Cond) (sb vb : Addr) (kv : ClassId) (ys : List Int32) (z : Int32) (h0 : Heap) (n0 : Nat) (O0 : Old Z n0 h0) (Eb : Exa Z h0 sb "java/lang/StringBuilder") (Vb : Fld Z h0 sb "java/lang/AbstractStringBuilder" "value" "[B" (.ref vb)) (Cb : Fld Z h0 sb "java/lang/AbstractStringBuilder" "coder" "B" (.int (0 : Int32))) (Nb : Fld Z h0 sb "java/lang/AbstractStringBuilder" "count" "I" (.int (Int32.ofNat (ys).length))) (Kb : Arv Z h0 vb kv .byte (Int32.ofNat 16) (((ys).map StrChars.lo8).map Value.int) (.int 0)) (SC : Sta Z Z.heap "java/lang/String" "COMPACT_STRINGS" "Z" (.int z)) (hz : ¬ z = 0) (hc : ys.length < 16) :
    MetFree l (⟨"java/lang/AbstractStringBuilder", "getValue", "()[B"⟩ : MethodName) (head1 (Jvm.Cond.code (⟨"java/lang/AbstractStringBuilder", "getValue", "()[B"⟩ : MethodName) jdk_68_method_64_code 1 (some (.array .byte)) :: ws) ({ frames := 0, cells := 0, slots := 0, locals := 0 } : Room)) (fun qq U => qq = #[(.ref sb)] ∧ Z.Warmed39 U.vm ∧ U.heap = h0) (fun _ _ _ _ _ => True) (fun _ UU oo UU' => ∃ vv LL, oo = .returned vv ∧ Qd6 Z sb vb kv ys z h0 n0 vv UU'.heap LL ∧ FrameEnd UU oo UU' LL ({ frames := 0, cells := 0, slots := 0, locals := 0 } : Room).cells ({ frames := 0, cells := 0, slots := 0, locals := 0 } : Room).slots) := by
  refine MetFree.of_bodySF (plainFor_of_name pn_25) hisR ?_
  intro p e s m args below meth c s₁ Bd hml0 hP hK
  obtain ⟨rfl, hZ, hh⟩ := hP
  have hx := Bd.exec
  have hby := Bd.bytes
  have hml : c.maxLocals = 1 := hml0
  have hown : s.vm.findClass "java/lang/AbstractStringBuilder" = some m.cls := findClass_of_methodNamed Bd.named
  have hnm := (name_of_methodNamed Bd.named Bd.method).1
  have X0 : Stand p l e ({ frames := 0, cells := 0, slots := 0, locals := 0 } : Room) s m #[(.ref sb)] below meth c s₁ [] 0 0 := Stand.of_body Bd
  have e0 : s₁.heap = h0 := by rw [← hh, Bd.state]; rfl
  have N0 := Fr.nil n0
  have pre0 : ∀ tgt, Steps p.tables e below (s₁.setTop (mkF m 0 #[.val (.ref sb)] [])) tgt → Steps p.tables e below (s₁.setTop (entryFrame m #[(.ref sb)] 1)) tgt := fun tt kk => castTop (ef_25 m sb) kk
  obtain ⟨T1, X1, e1, st1⟩ := getF X0 hx hZ hown (host := "") (Or.inl (ww hw 78 rfl)) Via.refl e0 Vb (g := (mkF m 1 #[.val (.ref sb)] [(.ref sb)])) rfl rfl (hb hby d25_1)
  obtain ⟨fs, hr, hrun, hended, hW, hsame⟩ := X1.leave (v := some (.ref vb)) (fun h => by rw [Bd.returns] at h; cases h)
  refine ⟨_, _, pre0 _ ?_, hrun, hended, _, _, rfl, ?_, ⟨_, rfl⟩, hW, hsame.mono (by decide) (by decide)⟩
  · show Steps p.tables e below (s₁.setTop (mkF m 0 #[.val (.ref sb)] [])) _
    refine XS.aloadN X0.here hx rfl (hb hby d25_0) rfl rfl ?_
    show Steps p.tables e below (s₁.setTop (mkF m 1 #[.val (.ref sb)] [(.ref sb)])) _
    refine st1 _ ?_
    show Steps p.tables e below (T1.setTop (mkF m 4 #[.val (.ref sb)] [(.ref vb)])) _
    exact retOut X1 hx Bd.returns rfl (Or.inr (Or.inr (Or.inr (Or.inr ⟨rfl, rfl, rfl⟩)))) (hb hby d25_4) hr
  · show Qd6 Z sb vb kv ys z h0 n0 _ T1.heap _
    rw [e1]
    exact ⟨rfl, N0, rfl⟩
theorem d27_0 : decode jdk_68_method_6_code 0 = .ok (.aload_n 0, 1) := by decide +kernel
theorem d27_1 : decode jdk_68_method_6_code 1 = .ok (.getfield 79, 3) := by decide +kernel
theorem d27_4 : decode jdk_68_method_6_code 4 = .ok (.ireturn, 1) := by decide +kernel
theorem ef_27 (m : MethodId) (x0 : Addr) : entryFrame m #[(.ref x0)] 1 = mkF m 0 #[.val (.ref x0)] [] := by first | (simp [entryFrame, mkF, argsToLocals, Value.category]; done) | rfl
theorem pn_27 : plainName "java/lang/AbstractStringBuilder" = true := by first | (simp [plainName, overriddenIn]; done) | decide +kernel
def Qd7 (Z : State) (sb vb : Addr) (kv : ClassId) (ys : List Int32) (z : Int32) (h0 : Heap) (n0 : Nat) (v : Option Value) (h : Heap) (L : List Loc) : Prop := v = some (.int (Int32.ofNat ys.length)) ∧ Fr n0 L ∧ h = h0
set_option maxRecDepth 65536 in
set_option maxHeartbeats 40000000 in
theorem rmAL (l : Launch) (Z : State) (a0 : Array Value) (hw : ∀ d ∈ tables_1, d.before a0 Z = true) (ws : List Jvm.Cond) (sb vb : Addr) (kv : ClassId) (ys : List Int32) (z : Int32) (h0 : Heap) (n0 : Nat) (O0 : Old Z n0 h0) (Eb : Exa Z h0 sb "java/lang/StringBuilder") (Vb : Fld Z h0 sb "java/lang/AbstractStringBuilder" "value" "[B" (.ref vb)) (Cb : Fld Z h0 sb "java/lang/AbstractStringBuilder" "coder" "B" (.int (0 : Int32))) (Nb : Fld Z h0 sb "java/lang/AbstractStringBuilder" "count" "I" (.int (Int32.ofNat (ys).length))) (Kb : Arv Z h0 vb kv .byte (Int32.ofNat 16) (((ys).map StrChars.lo8).map Value.int) (.int 0)) (SC : Sta Z Z.heap "java/lang/String" "COMPACT_STRINGS" "Z" (.int z)) (hz : ¬ z = 0) (hc : ys.length < 16) :
    MetFree l (⟨"java/lang/AbstractStringBuilder", "length", "()I"⟩ : MethodName) (head1 (Jvm.Cond.code (⟨"java/lang/AbstractStringBuilder", "length", "()I"⟩ : MethodName) jdk_68_method_6_code 1 (some .int) :: ws) ({ frames := 0, cells := 0, slots := 0, locals := 0 } : Room)) (fun qq U => qq = #[(.ref sb)] ∧ Z.Warmed39 U.vm ∧ U.heap = h0) (fun _ _ _ _ _ => True) (fun _ UU oo UU' => ∃ vv LL, oo = .returned vv ∧ Qd7 Z sb vb kv ys z h0 n0 vv UU'.heap LL ∧ FrameEnd UU oo UU' LL ({ frames := 0, cells := 0, slots := 0, locals := 0 } : Room).cells ({ frames := 0, cells := 0, slots := 0, locals := 0 } : Room).slots) := by
  refine MetFree.of_bodySF (plainFor_of_name pn_27) hisR ?_
  intro p e s m args below meth c s₁ Bd hml0 hP hK
  obtain ⟨rfl, hZ, hh⟩ := hP
  have hx := Bd.exec
  have hby := Bd.bytes
  have hml : c.maxLocals = 1 := hml0
  have hown : s.vm.findClass "java/lang/AbstractStringBuilder" = some m.cls := findClass_of_methodNamed Bd.named
  have hnm := (name_of_methodNamed Bd.named Bd.method).1
  have X0 : Stand p l e ({ frames := 0, cells := 0, slots := 0, locals := 0 } : Room) s m #[(.ref sb)] below meth c s₁ [] 0 0 := Stand.of_body Bd
  have e0 : s₁.heap = h0 := by rw [← hh, Bd.state]; rfl
  have N0 := Fr.nil n0
  have pre0 : ∀ tgt, Steps p.tables e below (s₁.setTop (mkF m 0 #[.val (.ref sb)] [])) tgt → Steps p.tables e below (s₁.setTop (entryFrame m #[(.ref sb)] 1)) tgt := fun tt kk => castTop (ef_27 m sb) kk
  obtain ⟨T1, X1, e1, st1⟩ := getF X0 hx hZ hown (host := "") (Or.inl (ww hw 102 rfl)) Via.refl e0 Nb (g := (mkF m 1 #[.val (.ref sb)] [(.ref sb)])) rfl rfl (hb hby d27_1)
  obtain ⟨fs, hr, hrun, hended, hW, hsame⟩ := X1.leave (v := some (.int (Int32.ofNat (ys).length))) (fun h => by rw [Bd.returns] at h; cases h)
  refine ⟨_, _, pre0 _ ?_, hrun, hended, _, _, rfl, ?_, ⟨_, rfl⟩, hW, hsame.mono (by decide) (by decide)⟩
  · show Steps p.tables e below (s₁.setTop (mkF m 0 #[.val (.ref sb)] [])) _
    refine XS.aloadN X0.here hx rfl (hb hby d27_0) rfl rfl ?_
    show Steps p.tables e below (s₁.setTop (mkF m 1 #[.val (.ref sb)] [(.ref sb)])) _
    refine st1 _ ?_
    show Steps p.tables e below (T1.setTop (mkF m 4 #[.val (.ref sb)] [(.int (Int32.ofNat (ys).length))])) _
    exact retI X1 hx Bd.returns (hb hby d27_4) hr
  · show Qd7 Z sb vb kv ys z h0 n0 _ T1.heap _
    rw [e1]
    exact ⟨rfl, N0, rfl⟩
theorem d26_0 : decode jdk_67_method_93_code 0 = .ok (.aload_n 0, 1) := by decide +kernel
theorem d26_1 : decode jdk_67_method_93_code 1 = .ok (.invokespecial 343, 3) := by decide +kernel
theorem d26_4 : decode jdk_67_method_93_code 4 = .ok (.ireturn, 1) := by decide +kernel
theorem ef_26 (m : MethodId) (x0 : Addr) : entryFrame m #[(.ref x0)] 1 = mkF m 0 #[.val (.ref x0)] [] := by first | (simp [entryFrame, mkF, argsToLocals, Value.category]; done) | rfl
theorem pn_26 : plainName "java/lang/StringBuilder" = true := by first | (simp [plainName, overriddenIn]; done) | decide +kernel
set_option maxRecDepth 65536 in
set_option maxHeartbeats 40000000 in
theorem rmBL (l : Launch) (Z : State) (a0 : Array Value) (hw : ∀ d ∈ tables_1, d.before a0 Z = true) (ws : List Jvm.Cond) (sb vb : Addr) (kv : ClassId) (ys : List Int32) (z : Int32) (h0 : Heap) (n0 : Nat) (O0 : Old Z n0 h0) (Eb : Exa Z h0 sb "java/lang/StringBuilder") (Vb : Fld Z h0 sb "java/lang/AbstractStringBuilder" "value" "[B" (.ref vb)) (Cb : Fld Z h0 sb "java/lang/AbstractStringBuilder" "coder" "B" (.int (0 : Int32))) (Nb : Fld Z h0 sb "java/lang/AbstractStringBuilder" "count" "I" (.int (Int32.ofNat (ys).length))) (Kb : Arv Z h0 vb kv .byte (Int32.ofNat 16) (((ys).map StrChars.lo8).map Value.int) (.int 0)) (SC : Sta Z Z.heap "java/lang/String" "COMPACT_STRINGS" "Z" (.int z)) (hz : ¬ z = 0) (hc : ys.length < 16) :
    MetFree l (⟨"java/lang/StringBuilder", "length", "()I"⟩ : MethodName) (head1 (Jvm.Cond.code (⟨"java/lang/StringBuilder", "length", "()I"⟩ : MethodName) jdk_67_method_93_code 1 (some .int) :: ws) ({ frames := 1, cells := 0, slots := 0, locals := 12 } : Room)) (fun qq U => qq = #[(.ref sb)] ∧ Z.Warmed39 U.vm ∧ U.heap = h0) (fun _ _ _ _ _ => True) (fun _ UU oo UU' => ∃ vv LL, oo = .returned vv ∧ Qd7 Z sb vb kv ys z h0 n0 vv UU'.heap LL ∧ FrameEnd UU oo UU' LL ({ frames := 1, cells := 0, slots := 0, locals := 12 } : Room).cells ({ frames := 1, cells := 0, slots := 0, locals := 12 } : Room).slots) := by
  refine MetFree.of_bodySF (plainFor_of_name pn_26) hisR ?_
  intro p e s m args below meth c s₁ Bd hml0 hP hK
  obtain ⟨rfl, hZ, hh⟩ := hP
  have hx := Bd.exec
  have hby := Bd.bytes
  have hml : c.maxLocals = 1 := hml0
  have hown : s.vm.findClass "java/lang/StringBuilder" = some m.cls := findClass_of_methodNamed Bd.named
  have hnm := (name_of_methodNamed Bd.named Bd.method).1
  have X0 : Stand p l e ({ frames := 1, cells := 0, slots := 0, locals := 12 } : Room) s m #[(.ref sb)] below meth c s₁ [] 0 0 := Stand.of_body Bd
  have e0 : s₁.heap = h0 := by rw [← hh, Bd.state]; rfl
  have N0 := Fr.nil n0
  have pre0 : ∀ tgt, Steps p.tables e below (s₁.setTop (mkF m 0 #[.val (.ref sb)] [])) tgt → Steps p.tables e below (s₁.setTop (entryFrame m #[(.ref sb)] 1)) tgt := fun tt kk => castTop (ef_26 m sb) kk
  obtain ⟨_, _, ⟨T1, L1, k1, n1⟩, -, X1, ⟨Lc1, hQ1, l1, y1, z1⟩, st1⟩ := superBack X0 hx hZ (y := (⟨"java/lang/AbstractStringBuilder", "length", "()I"⟩ : MethodName)) hown (ww hw 153 rfl) (own_sameM (y := (⟨"java/lang/AbstractStringBuilder", "length", "()I"⟩ : MethodName)) (ww hw 148 rfl) (own_nf2 (y1 := (⟨"java/lang/AbstractStringBuilder", "getValue", "()[B"⟩ : MethodName)) (notFace_of_selects (args := a0) (ww hw 145 rfl)) (ww hw 143 rfl) rfl) (by decide)) (ww hw 149 rfl) (ww hw 89 rfl) (by decide) (backOf (W := 0) (rmAL l Z a0 hw [] sb vb kv ys z h0 n0 O0 Eb Vb Cb Nb Kb SC hz hc) hZ (ww hw 154 rfl) (ww hw 74 rfl) (by decide) (by decide)) e0 (Ins.self Eb) (g := (mkF m 1 #[.val (.ref sb)] [(.ref sb)])) rfl (by rw [hml]; rfl) (ww hw 154 rfl) (argsL := []) (rest := []) (lenOf own_pd4 rfl) rfl (by show 2 * 0 + _ ≤ _; exact Nat.le_of_eq rfl) (hb hby d26_1) (fun _ _ => ⟨rfl, e0, (by decide : 0 + 0 ≤ _), (by decide : 0 + 0 ≤ _)⟩)
  dsimp only [Pt.U, Pt.locs, Pt.cells, Pt.slots] at X1 l1 y1 z1 st1 hQ1
  subst l1 y1 z1
  obtain ⟨rfl, N1q, e1⟩ := hQ1
  have N1 := Fr.app N0 N1q
  obtain ⟨fs, hr, hrun, hended, hW, hsame⟩ := X1.leave (v := some (.int (Int32.ofNat ys.length))) (fun h => by rw [Bd.returns] at h; cases h)
  refine ⟨_, _, pre0 _ ?_, hrun, hended, _, _, rfl, ?_, ⟨_, rfl⟩, hW, hsame.mono (by decide) (by decide)⟩
  · show Steps p.tables e below (s₁.setTop (mkF m 0 #[.val (.ref sb)] [])) _
    refine XS.aloadN X0.here hx rfl (hb hby d26_0) rfl rfl ?_
    show Steps p.tables e below (s₁.setTop (mkF m 1 #[.val (.ref sb)] [(.ref sb)])) _
    refine st1.trans ?_
    show Steps p.tables e below (T1.setTop (mkF m 4 #[.val (.ref sb)] [(.int (Int32.ofNat ys.length))])) _
    exact retI X1 hx Bd.returns (hb hby d26_4) hr
  · show Qd7 Z sb vb kv ys z h0 n0 _ T1.heap _
    rw [e1]
    exact ⟨rfl, N1, rfl⟩
theorem d28_0 : decode jdk_68_method_68_code 0 = .ok (.getstatic 18, 3) := by decide +kernel
theorem d28_3 : decode jdk_68_method_68_code 3 = .ok (.ifCond .eq 14, 3) := by decide +kernel
theorem d28_6 : decode jdk_68_method_68_code 6 = .ok (.aload_n 0, 1) := by decide +kernel
theorem d28_7 : decode jdk_68_method_68_code 7 = .ok (.getfield 22, 3) := by decide +kernel
theorem d28_10 : decode jdk_68_method_68_code 10 = .ok (.ifCond .ne 7, 3) := by decide +kernel
theorem d28_13 : decode jdk_68_method_68_code 13 = .ok (.iconst 1, 1) := by decide +kernel
theorem d28_14 : decode jdk_68_method_68_code 14 = .ok (.goto 4, 3) := by decide +kernel
theorem d28_18 : decode jdk_68_method_68_code 18 = .ok (.ireturn, 1) := by decide +kernel
theorem ef_28 (m : MethodId) (x0 : Addr) : entryFrame m #[(.ref x0)] 1 = mkF m 0 #[.val (.ref x0)] [] := by first | (simp [entryFrame, mkF, argsToLocals, Value.category]; done) | rfl
theorem pn_28 : plainName "java/lang/AbstractStringBuilder" = true := by first | (simp [plainName, overriddenIn]; done) | decide +kernel
def Qd8 (Z : State) (sb vb : Addr) (kv : ClassId) (ys : List Int32) (z : Int32) (h0 : Heap) (n0 : Nat) (v : Option Value) (h : Heap) (L : List Loc) : Prop := v = some (.int (1 : Int32)) ∧ Fr n0 L ∧ h = h0
set_option maxRecDepth 65536 in
set_option maxHeartbeats 40000000 in
theorem rmL1 (l : Launch) (Z : State) (a0 : Array Value) (hw : ∀ d ∈ tables_1, d.before a0 Z = true) (ws : List Jvm.Cond) (sb vb : Addr) (kv : ClassId) (ys : List Int32) (z : Int32) (h0 : Heap) (n0 : Nat) (O0 : Old Z n0 h0) (Eb : Exa Z h0 sb "java/lang/StringBuilder") (Vb : Fld Z h0 sb "java/lang/AbstractStringBuilder" "value" "[B" (.ref vb)) (Cb : Fld Z h0 sb "java/lang/AbstractStringBuilder" "coder" "B" (.int (0 : Int32))) (Nb : Fld Z h0 sb "java/lang/AbstractStringBuilder" "count" "I" (.int (Int32.ofNat (ys).length))) (Kb : Arv Z h0 vb kv .byte (Int32.ofNat 16) (((ys).map StrChars.lo8).map Value.int) (.int 0)) (SC : Sta Z Z.heap "java/lang/String" "COMPACT_STRINGS" "Z" (.int z)) (hz : ¬ z = 0) (hc : ys.length < 16) :
    MetFree l (⟨"java/lang/AbstractStringBuilder", "isLatin1", "()Z"⟩ : MethodName) (head1 (Jvm.Cond.code (⟨"java/lang/AbstractStringBuilder", "isLatin1", "()Z"⟩ : MethodName) jdk_68_method_68_code 1 (some .boolean) :: ws) ({ frames := 0, cells := 0, slots := 0, locals := 0 } : Room)) (fun qq U => qq = #[(.ref sb)] ∧ Z.Warmed39 U.vm ∧ U.heap = h0) (fun _ _ _ _ _ => True) (fun _ UU oo UU' => ∃ vv LL, oo = .returned vv ∧ Qd8 Z sb vb kv ys z h0 n0 vv UU'.heap LL ∧ FrameEnd UU oo UU' LL ({ frames := 0, cells := 0, slots := 0, locals := 0 } : Room).cells ({ frames := 0, cells := 0, slots := 0, locals := 0 } : Room).slots) := by
  refine MetFree.of_bodySF (plainFor_of_name pn_28) hisR ?_
  intro p e s m args below meth c s₁ Bd hml0 hP hK
  obtain ⟨rfl, hZ, hh⟩ := hP
  have hx := Bd.exec
  have hby := Bd.bytes
  have hml : c.maxLocals = 1 := hml0
  have hown : s.vm.findClass "java/lang/AbstractStringBuilder" = some m.cls := findClass_of_methodNamed Bd.named
  have hnm := (name_of_methodNamed Bd.named Bd.method).1
  have X0 : Stand p l e ({ frames := 0, cells := 0, slots := 0, locals := 0 } : Room) s m #[(.ref sb)] below meth c s₁ [] 0 0 := Stand.of_body Bd
  have e0 : s₁.heap = h0 := by rw [← hh, Bd.state]; rfl
  have N0 := Fr.nil n0
  have pre0 : ∀ tgt, Steps p.tables e below (s₁.setTop (mkF m 0 #[.val (.ref sb)] [])) tgt → Steps p.tables e below (s₁.setTop (entryFrame m #[(.ref sb)] 1)) tgt := fun tt kk => castTop (ef_28 m sb) kk
  obtain ⟨T1, X1, e1, st1⟩ := getS2 X0 hx hZ hown (host := "") (Or.inl (ww hw 77 rfl)) Via.refl e0 (SC.ext O0.2) (g := (mkF m 0 #[.val (.ref sb)] [])) rfl (hb hby d28_0)
  obtain ⟨T2, X2, e2, st2⟩ := getF X1 hx hZ hown (host := "") (Or.inl (ww hw 80 rfl)) Via.refl e1 Cb (g := (mkF m 7 #[.val (.ref sb)] [(.ref sb)])) rfl rfl (hb hby d28_7)
  obtain ⟨fs, hr, hrun, hended, hW, hsame⟩ := X2.leave (v := some (.int (1 : Int32))) (fun h => by rw [Bd.returns] at h; cases h)
  refine ⟨_, _, pre0 _ ?_, hrun, hended, _, _, rfl, ?_, ⟨_, rfl⟩, hW, hsame.mono (by decide) (by decide)⟩
  · show Steps p.tables e below (s₁.setTop (mkF m 0 #[.val (.ref sb)] [])) _
    refine st1 _ ?_
    show Steps p.tables e below (T1.setTop (mkF m 3 #[.val (.ref sb)] [(.int z)])) _
    refine XS.ifNo X1.here hx rfl (hb hby d28_3) rfl ((if0 _ _).trans (feq (hz : ¬ (z = (0 : Int32)))).1) ?_
    show Steps p.tables e below (T1.setTop (mkF m 6 #[.val (.ref sb)] [])) _
    refine XS.aloadN X1.here hx rfl (hb hby d28_6) rfl rfl ?_
    show Steps p.tables e below (T1.setTop (mkF m 7 #[.val (.ref sb)] [(.ref sb)])) _
    refine st2 _ ?_
    show Steps p.tables e below (T2.setTop (mkF m 10 #[.val (.ref sb)] [(.int (0 : Int32))])) _
    refine XS.ifNo X2.here hx rfl (hb hby d28_10) rfl ((if0 _ _).trans (teq (rfl : (0 : Int32) = (0 : Int32))).2) ?_
    show Steps p.tables e below (T2.setTop (mkF m 13 #[.val (.ref sb)] [])) _
    refine XS.iconst X2.here hx rfl (hb hby d28_13) ?_
    show Steps p.tables e below (T2.setTop (mkF m 14 #[.val (.ref sb)] [(.int (1 : Int32))])) _
    refine XS.goto X2.here hx rfl (pc0 := 14) (pc' := 18) rfl (hb hby d28_14) (by decide) (by decide) ?_
    show Steps p.tables e below (T2.setTop (mkF m 18 #[.val (.ref sb)] [(.int (1 : Int32))])) _
    exact retN X2 hx (t := .boolean) Bd.returns (by simp) (hb hby d28_18) hr
  · show Qd8 Z sb vb kv ys z h0 n0 _ T2.heap _
    rw [e2]
    exact ⟨rfl, N0, rfl⟩
theorem d31_0 : decode jdk_65_method_131_code 0 = .ok (.iload_n 1, 1) := by decide +kernel
theorem d31_1 : decode jdk_65_method_131_code 1 = .ok (.iload_n 0, 1) := by decide +kernel
theorem d31_2 : decode jdk_65_method_131_code 2 = .ok (.if_icmp .ge 35, 3) := by decide +kernel
theorem d31_37 : decode jdk_65_method_131_code 37 = .ok (.return_, 1) := by decide +kernel
theorem ef_31 (m : MethodId) (x0 : Int32) (x1 : Int32) : entryFrame m #[(.int x0), (.int x1)] 2 = mkF m 0 #[.val (.int x0), .val (.int x1)] [] := by first | (simp [entryFrame, mkF, argsToLocals, Value.category]; done) | rfl
theorem pn_31 : plainName "java/util/Arrays" = true := by first | (simp [plainName, overriddenIn]; done) | decide +kernel
def Qd9 (Z : State) (ys : List Int32) (h0 : Heap) (n0 : Nat) (v : Option Value) (h : Heap) (L : List Loc) : Prop := v = none ∧ Fr n0 L ∧ h = h0
set_option maxRecDepth 65536 in
set_option maxHeartbeats 40000000 in
theorem rmCL (l : Launch) (Z : State) (a0 : Array Value) (hw : ∀ d ∈ tables_1, d.before a0 Z = true) (ws : List Jvm.Cond) (ys : List Int32) (h0 : Heap) (n0 : Nat) (hc : ys.length < 16) :
    MetFree l (⟨"java/util/Arrays", "checkLength", "(II)V"⟩ : MethodName) (head1 (Jvm.Cond.code (⟨"java/util/Arrays", "checkLength", "(II)V"⟩ : MethodName) jdk_65_method_131_code 2 none :: ws) ({ frames := 0, cells := 0, slots := 0, locals := 0 } : Room)) (fun qq U => qq = #[(.int (0 : Int32)), (.int (Int32.ofNat ys.length))] ∧ Z.Warmed39 U.vm ∧ U.heap = h0) (fun _ _ _ _ _ => True) (fun _ UU oo UU' => ∃ vv LL, oo = .returned vv ∧ Qd9 Z ys h0 n0 vv UU'.heap LL ∧ FrameEnd UU oo UU' LL ({ frames := 0, cells := 0, slots := 0, locals := 0 } : Room).cells ({ frames := 0, cells := 0, slots := 0, locals := 0 } : Room).slots) := by
  refine MetFree.of_bodySF (plainFor_of_name pn_31) hisR ?_
  intro p e s m args below meth c s₁ Bd hml0 hP hK
  obtain ⟨rfl, hZ, hh⟩ := hP
  have hx := Bd.exec
  have hby := Bd.bytes
  have hml : c.maxLocals = 2 := hml0
  have hown : s.vm.findClass "java/util/Arrays" = some m.cls := findClass_of_methodNamed Bd.named
  have hnm := (name_of_methodNamed Bd.named Bd.method).1
  have X0 : Stand p l e ({ frames := 0, cells := 0, slots := 0, locals := 0 } : Room) s m #[(.int (0 : Int32)), (.int (Int32.ofNat ys.length))] below meth c s₁ [] 0 0 := Stand.of_body Bd
  have e0 : s₁.heap = h0 := by rw [← hh, Bd.state]; rfl
  have N0 := Fr.nil n0
  have pre0 : ∀ tgt, Steps p.tables e below (s₁.setTop (mkF m 0 #[.val (.int (0 : Int32)), .val (.int (Int32.ofNat ys.length))] [])) tgt → Steps p.tables e below (s₁.setTop (entryFrame m #[(.int (0 : Int32)), (.int (Int32.ofNat ys.length))] 2)) tgt := fun tt kk => castTop (ef_31 m (0 : Int32) (Int32.ofNat ys.length)) kk
  obtain ⟨fs, hr, hrun, hended, hW, hsame⟩ := X0.leave (v := none) (fun _ => rfl)
  refine ⟨_, _, pre0 _ ?_, hrun, hended, _, _, rfl, ?_, ⟨_, rfl⟩, hW, hsame.mono (by decide) (by decide)⟩
  · show Steps p.tables e below (s₁.setTop (mkF m 0 #[.val (.int (0 : Int32)), .val (.int (Int32.ofNat ys.length))] [])) _
    refine XS.iloadN X0.here hx rfl (hb hby d31_0) rfl ?_
    show Steps p.tables e below (s₁.setTop (mkF m 1 #[.val (.int (0 : Int32)), .val (.int (Int32.ofNat ys.length))] [(.int (Int32.ofNat ys.length))])) _
    refine XS.iloadN X0.here hx rfl (hb hby d31_1) rfl ?_
    show Steps p.tables e below (s₁.setTop (mkF m 2 #[.val (.int (0 : Int32)), .val (.int (Int32.ofNat ys.length))] [(.int (0 : Int32)), (.int (Int32.ofNat ys.length))])) _
    refine XS.icmpYes X0.here hx rfl (pc0 := 2) (pc' := 37) rfl (hb hby d31_2) rfl (flt (own_nn0 hc : ¬ ((Int32.ofNat ys.length) < (0 : Int32)))).2.1 (by decide) (by decide) ?_
    show Steps p.tables e below (s₁.setTop (mkF m 37 #[.val (.int (0 : Int32)), .val (.int (Int32.ofNat ys.length))] [])) _
    exact X0.returnOut hx Bd.returns (hb hby d31_37) hr
  · show Qd9 Z ys h0 n0 _ s₁.heap _
    rw [e0]
    exact ⟨rfl, N0, rfl⟩
theorem d32_0 : decode jdk_29_method_69_code 0 = .ok (.iload_n 0, 1) := by decide +kernel
theorem d32_1 : decode jdk_29_method_69_code 1 = .ok (.iload_n 1, 1) := by decide +kernel
theorem d32_2 : decode jdk_29_method_69_code 2 = .ok (.if_icmp .gt 7, 3) := by decide +kernel
theorem d32_9 : decode jdk_29_method_69_code 9 = .ok (.iload_n 1, 1) := by decide +kernel
theorem d32_10 : decode jdk_29_method_69_code 10 = .ok (.ireturn, 1) := by decide +kernel
theorem ef_32 (m : MethodId) (x0 : Int32) (x1 : Int32) : entryFrame m #[(.int x0), (.int x1)] 2 = mkF m 0 #[.val (.int x0), .val (.int x1)] [] := by first | (simp [entryFrame, mkF, argsToLocals, Value.category]; done) | rfl
def Qd10 (Z : State) (ys : List Int32) (h0 : Heap) (n0 : Nat) (v : Option Value) (h : Heap) (L : List Loc) : Prop := v = some (.int (Int32.ofNat ys.length)) ∧ Fr n0 L ∧ h = h0
set_option maxRecDepth 65536 in
set_option maxHeartbeats 40000000 in
theorem rmMi (l : Launch) (Z : State) (a0 : Array Value) (hw : ∀ d ∈ tables_1, d.before a0 Z = true) (ws : List Jvm.Cond) (ys : List Int32) (h0 : Heap) (n0 : Nat) (hc : ys.length < 16) :
    MetFree l (⟨"java/lang/Math", "min", "(II)I"⟩ : MethodName) (head1 (Jvm.Cond.code (⟨"java/lang/Math", "min", "(II)I"⟩ : MethodName) jdk_29_method_69_code 2 (some .int) :: ws) ({ frames := 0, cells := 0, slots := 0, locals := 0 } : Room)) (fun qq U => qq = #[(.int (Int32.ofNat 16)), (.int (Int32.ofNat ys.length))] ∧ Z.Warmed39 U.vm ∧ U.heap = h0) (fun _ _ _ _ _ => True) (fun _ UU oo UU' => ∃ vv LL, oo = .returned vv ∧ Qd10 Z ys h0 n0 vv UU'.heap LL ∧ FrameEnd UU oo UU' LL ({ frames := 0, cells := 0, slots := 0, locals := 0 } : Room).cells ({ frames := 0, cells := 0, slots := 0, locals := 0 } : Room).slots) := by
  refine MetFree.of_bodySF (Jvm.Free.JP.mathPlain rfl (by decide +kernel)) hisR ?_
  intro p e s m args below meth c s₁ Bd hml0 hP hK
  obtain ⟨rfl, hZ, hh⟩ := hP
  have hx := Bd.exec
  have hby := Bd.bytes
  have hml : c.maxLocals = 2 := hml0
  have hown : s.vm.findClass "java/lang/Math" = some m.cls := findClass_of_methodNamed Bd.named
  have hnm := (name_of_methodNamed Bd.named Bd.method).1
  have X0 : Stand p l e ({ frames := 0, cells := 0, slots := 0, locals := 0 } : Room) s m #[(.int (Int32.ofNat 16)), (.int (Int32.ofNat ys.length))] below meth c s₁ [] 0 0 := Stand.of_body Bd
  have e0 : s₁.heap = h0 := by rw [← hh, Bd.state]; rfl
  have N0 := Fr.nil n0
  have pre0 : ∀ tgt, Steps p.tables e below (s₁.setTop (mkF m 0 #[.val (.int (Int32.ofNat 16)), .val (.int (Int32.ofNat ys.length))] [])) tgt → Steps p.tables e below (s₁.setTop (entryFrame m #[(.int (Int32.ofNat 16)), (.int (Int32.ofNat ys.length))] 2)) tgt := fun tt kk => castTop (ef_32 m (Int32.ofNat 16) (Int32.ofNat ys.length)) kk
  obtain ⟨fs, hr, hrun, hended, hW, hsame⟩ := X0.leave (v := some (.int (Int32.ofNat ys.length))) (fun h => by rw [Bd.returns] at h; cases h)
  refine ⟨_, _, pre0 _ ?_, hrun, hended, _, _, rfl, ?_, ⟨_, rfl⟩, hW, hsame.mono (by decide) (by decide)⟩
  · show Steps p.tables e below (s₁.setTop (mkF m 0 #[.val (.int (Int32.ofNat 16)), .val (.int (Int32.ofNat ys.length))] [])) _
    refine XS.iloadN X0.here hx rfl (hb hby d32_0) rfl ?_
    show Steps p.tables e below (s₁.setTop (mkF m 1 #[.val (.int (Int32.ofNat 16)), .val (.int (Int32.ofNat ys.length))] [(.int (Int32.ofNat 16))])) _
    refine XS.iloadN X0.here hx rfl (hb hby d32_1) rfl ?_
    show Steps p.tables e below (s₁.setTop (mkF m 2 #[.val (.int (Int32.ofNat 16)), .val (.int (Int32.ofNat ys.length))] [(.int (Int32.ofNat ys.length)), (.int (Int32.ofNat 16))])) _
    refine XS.icmpYes X0.here hx rfl (pc0 := 2) (pc' := 9) rfl (hb hby d32_2) rfl (tlt (own_lt16 hc : (Int32.ofNat ys.length) < (Int32.ofNat 16))).2.2.1 (by decide) (by decide) ?_
    show Steps p.tables e below (s₁.setTop (mkF m 9 #[.val (.int (Int32.ofNat 16)), .val (.int (Int32.ofNat ys.length))] [])) _
    refine XS.iloadN X0.here hx rfl (hb hby d32_9) rfl ?_
    show Steps p.tables e below (s₁.setTop (mkF m 10 #[.val (.int (Int32.ofNat 16)), .val (.int (Int32.ofNat ys.length))] [(.int (Int32.ofNat ys.length))])) _
    exact retI X0 hx Bd.returns (hb hby d32_10) hr
  · show Qd10 Z ys h0 n0 _ s₁.heap _
    rw [e0]
    exact ⟨rfl, N0, rfl⟩
theorem d30_0 : decode jdk_65_method_133_code 0 = .ok (.iload_n 1, 1) := by decide +kernel
theorem d30_1 : decode jdk_65_method_133_code 1 = .ok (.iload_n 2, 1) := by decide +kernel
theorem d30_2 : decode jdk_65_method_133_code 2 = .ok (.invokestatic 343, 3) := by decide +kernel
theorem own_pd7 : parseMethodDescriptor "(II)V" = some ⟨[.int, .int], none⟩ := by decide +kernel
theorem d30_5 : decode jdk_65_method_133_code 5 = .ok (.iload_n 2, 1) := by decide +kernel
theorem d30_6 : decode jdk_65_method_133_code 6 = .ok (.iload_n 1, 1) := by decide +kernel
theorem d30_7 : decode jdk_65_method_133_code 7 = .ok (.isub, 1) := by decide +kernel
theorem d30_8 : decode jdk_65_method_133_code 8 = .ok (.istore_n 3, 1) := by decide +kernel
theorem d30_9 : decode jdk_65_method_133_code 9 = .ok (.iload_n 3, 1) := by decide +kernel
theorem d30_10 : decode jdk_65_method_133_code 10 = .ok (.newarray .byte, 2) := by decide +kernel
theorem d30_12 : decode jdk_65_method_133_code 12 = .ok (.astore 4, 2) := by decide +kernel
theorem d30_14 : decode jdk_65_method_133_code 14 = .ok (.aload_n 0, 1) := by decide +kernel
theorem d30_15 : decode jdk_65_method_133_code 15 = .ok (.iload_n 1, 1) := by decide +kernel
theorem d30_16 : decode jdk_65_method_133_code 16 = .ok (.aload 4, 2) := by decide +kernel
theorem d30_18 : decode jdk_65_method_133_code 18 = .ok (.iconst 0, 1) := by decide +kernel
theorem d30_19 : decode jdk_65_method_133_code 19 = .ok (.aload_n 0, 1) := by decide +kernel
theorem d30_20 : decode jdk_65_method_133_code 20 = .ok (.arraylength, 1) := by decide +kernel
theorem d30_21 : decode jdk_65_method_133_code 21 = .ok (.iload_n 1, 1) := by decide +kernel
theorem d30_22 : decode jdk_65_method_133_code 22 = .ok (.isub, 1) := by decide +kernel
theorem d30_23 : decode jdk_65_method_133_code 23 = .ok (.iload_n 3, 1) := by decide +kernel
theorem d30_24 : decode jdk_65_method_133_code 24 = .ok (.invokestatic 304, 3) := by decide +kernel
theorem own_pd8 : parseMethodDescriptor "(II)I" = some ⟨[.int, .int], some .int⟩ := by decide +kernel
theorem d30_27 : decode jdk_65_method_133_code 27 = .ok (.invokestatic 150, 3) := by decide +kernel
theorem d30_30 : decode jdk_65_method_133_code 30 = .ok (.aload 4, 2) := by decide +kernel
theorem d30_32 : decode jdk_65_method_133_code 32 = .ok (.areturn, 1) := by decide +kernel
theorem ef_30 (m : MethodId) (x0 : Addr) (x1 : Int32) (x2 : Int32) : entryFrame m #[(.ref x0), (.int x1), (.int x2)] 5 = mkF m 0 #[.val (.ref x0), .val (.int x1), .val (.int x2), .unset, .unset] [] := by first | (simp [entryFrame, mkF, argsToLocals, Value.category]; done) | rfl
theorem pn_30 : plainName "java/util/Arrays" = true := by first | (simp [plainName, overriddenIn]; done) | decide +kernel
def Qd11 (Z : State) (vb : Addr) (kv : ClassId) (ys : List Int32) (h0 : Heap) (n0 : Nat) (v : Option Value) (h : Heap) (L : List Loc) : Prop := ∃ nb kn, v = some (.ref nb) ∧ Fr n0 L ∧ Keep h0 h [] ∧ h0.size ≤ nb ∧ n0 ≤ nb ∧ Arv Z h nb kn .byte (Int32.ofNat (ys).length) (((ys).map StrChars.lo8).map Value.int) (.int 0)
set_option maxRecDepth 65536 in
set_option maxHeartbeats 40000000 in
theorem rmCB (l : Launch) (Z : State) (a0 : Array Value) (hw : ∀ d ∈ tables_1, d.before a0 Z = true) (ws : List Jvm.Cond) (vb : Addr) (kv : ClassId) (ys : List Int32) (h0 : Heap) (n0 : Nat) (O0 : Old Z n0 h0) (Kb : Arv Z h0 vb kv .byte (Int32.ofNat 16) (((ys).map StrChars.lo8).map Value.int) (.int 0)) (hc : ys.length < 16) :
    MetFree l (⟨"java/util/Arrays", "copyOfRangeByte", "([BII)[B"⟩ : MethodName) (head1 (Jvm.Cond.code (⟨"java/util/Arrays", "copyOfRangeByte", "([BII)[B"⟩ : MethodName) jdk_65_method_133_code 5 (some (.array .byte)) :: ws) ({ frames := 1, cells := 1, slots := 16, locals := 18 } : Room)) (fun qq U => qq = #[(.ref vb), (.int (0 : Int32)), (.int (Int32.ofNat ys.length))] ∧ Z.Warmed39 U.vm ∧ U.heap = h0) (fun _ _ _ _ _ => True) (fun _ UU oo UU' => ∃ vv LL, oo = .returned vv ∧ Qd11 Z vb kv ys h0 n0 vv UU'.heap LL ∧ FrameEnd UU oo UU' LL ({ frames := 1, cells := 1, slots := 16, locals := 18 } : Room).cells ({ frames := 1, cells := 1, slots := 16, locals := 18 } : Room).slots) := by
  refine MetFree.of_bodySF (plainFor_of_name pn_30) hisR ?_
  intro p e s m args below meth c s₁ Bd hml0 hP hK
  obtain ⟨rfl, hZ, hh⟩ := hP
  have hx := Bd.exec
  have hby := Bd.bytes
  have hml : c.maxLocals = 5 := hml0
  have hown : s.vm.findClass "java/util/Arrays" = some m.cls := findClass_of_methodNamed Bd.named
  have hnm := (name_of_methodNamed Bd.named Bd.method).1
  have X0 : Stand p l e ({ frames := 1, cells := 1, slots := 16, locals := 18 } : Room) s m #[(.ref vb), (.int (0 : Int32)), (.int (Int32.ofNat ys.length))] below meth c s₁ [] 0 0 := Stand.of_body Bd
  have e0 : s₁.heap = h0 := by rw [← hh, Bd.state]; rfl
  have N0 := Fr.nil n0
  have pre0 : ∀ tgt, Steps p.tables e below (s₁.setTop (mkF m 0 #[.val (.ref vb), .val (.int (0 : Int32)), .val (.int (Int32.ofNat ys.length)), .unset, .unset] [])) tgt → Steps p.tables e below (s₁.setTop (entryFrame m #[(.ref vb), (.int (0 : Int32)), (.int (Int32.ofNat ys.length))] 5)) tgt := fun tt kk => castTop (ef_30 m vb (0 : Int32) (Int32.ofNat ys.length)) kk
  obtain ⟨_, _, ⟨T1, L1, k1, n1⟩, -, X1, ⟨Lc1, hQ1, l1, y1, z1⟩, st1⟩ := Jvm.LawKit.callS X0 hx (y := (⟨"java/util/Arrays", "checkLength", "(II)V"⟩ : MethodName)) hown (mvT hZ (ww hw 167 rfl)) (mvT hZ (ww hw 168 rfl)) (mvT hZ (ww hw 162 rfl)) (mvT hZ (ww hw 169 rfl)) (by decide) (backOf (W := 0) (rmCL l Z a0 hw [] ys h0 n0 hc) hZ (ww hw 169 rfl) (ww hw 162 rfl) (by decide) (by decide)) (g := (mkF m 2 #[.val (.ref vb), .val (.int (0 : Int32)), .val (.int (Int32.ofNat ys.length)), .unset, .unset] [(.int (Int32.ofNat ys.length)), (.int (0 : Int32))])) rfl (by rw [hml]; rfl) (argsL := [(.int (0 : Int32)), (.int (Int32.ofNat ys.length))]) (rest := []) (lenOf own_pd7 rfl) rfl (by show 2 * 0 + _ ≤ _; exact Nat.le_of_eq rfl) (hb hby d30_2) (fun _ _ => ⟨rfl, e0, (by decide : 0 + 0 ≤ _), (by decide : 0 + 0 ≤ _)⟩)
  dsimp only [Pt.U, Pt.locs, Pt.cells, Pt.slots] at X1 l1 y1 z1 st1 hQ1
  subst l1 y1 z1
  obtain ⟨rfl, N1q, e1⟩ := hQ1
  have N1 := Fr.app N0 N1q
  obtain ⟨T2, h2, k2, X2, e2, E2, A2, st2⟩ := newP X1 hx hZ (ww hw 23 rfl) e1 (g := (mkF m 10 #[.val (.ref vb), .val (.int (0 : Int32)), .val (.int (Int32.ofNat ys.length)), .val (.int (Int32.ofNat ys.length)), .unset] [(.int (Int32.ofNat ys.length))])) rfl (hb hby d30_10) rfl (own_nn0 hc) (cap := 16) (by rw [(own_n _ (by omega)).2]; omega) (by decide) (by decide) (by decide)
  obtain ⟨b2, q2⟩ : ∃ z, z = h0.size := ⟨_, rfl⟩
  rw [← q2] at A2 st2
  have g_b2 : n0 ≤ b2 := by rw [q2]; exact (O0).1 ▸ (O0).2.1
  have ne_vb_b2 : vb ≠ b2 := by rw [q2]; exact Nat.ne_of_lt Kb.lt
  have sz_b2 : h0.size ≤ b2 := by rw [q2]; exact ((Keep.refl h0 [])).1
  have O2 := Old.ext O0 E2
  have K2 := Keep.ext (Keep.refl h0 []) E2
  have V2 : Arv Z h2 b2 k2 .byte (Int32.ofNat ys.length) [] (.int (0 : Int32)) := Arv.new A2 (own_nn0 hc)
  obtain ⟨cl, Ar, qk, Sz, Mz, Hz, Uz⟩ := id (Kb.ext E2)
  obtain ⟨_, _, ⟨T3, L3, k3, n3⟩, -, X3, ⟨Lc3, hQ3, l3, y3, z3⟩, st3⟩ := Jvm.LawKit.callS X2 hx (y := (⟨"java/lang/Math", "min", "(II)I"⟩ : MethodName)) hown (mvT hZ (ww hw 170 rfl)) (mvT hZ (ww hw 171 rfl)) (mvT hZ (ww hw 172 rfl)) (mvT hZ (ww hw 173 rfl)) (by decide) (backOf (W := 4) (rmMi l Z a0 hw [] ys h2 n0 hc) hZ (ww hw 173 rfl) (ww hw 172 rfl) (by decide) (by decide)) (g := (mkF m 24 #[.val (.ref vb), .val (.int (0 : Int32)), .val (.int (Int32.ofNat ys.length)), .val (.int (Int32.ofNat ys.length)), .val (.ref b2)] [(.int (Int32.ofNat ys.length)), (.int (Int32.ofNat 16)), (.int (0 : Int32)), (.ref b2), (.int (0 : Int32)), (.ref vb)])) rfl (by rw [hml]; rfl) (argsL := [(.int (Int32.ofNat 16)), (.int (Int32.ofNat ys.length))]) (rest := [(.int (0 : Int32)), (.ref b2), (.int (0 : Int32)), (.ref vb)]) (lenOf own_pd8 rfl) rfl (by show 2 * 0 + _ ≤ _; exact Nat.le_of_eq rfl) (hb hby d30_24) (fun _ _ => ⟨rfl, e2, (by decide : 1 + 0 ≤ _), (by decide : 16 + 0 ≤ _)⟩)
  dsimp only [Pt.U, Pt.locs, Pt.cells, Pt.slots] at X3 l3 y3 z3 st3 hQ3
  subst l3 y3 z3
  obtain ⟨rfl, N3q, e3⟩ := hQ3
  have N3 := Fr.app N1 N3q
  obtain ⟨T4, h4, L4, X4, e4, N4, KK4, V4, st4⟩ := own_cp X3 hx hZ hown (ww hw 174 rfl) (ww hw 128 rfl) (ww hw 126 rfl) (ww hw 127 rfl) e3 (M := ys.length) (Kb.ext E2) V2 (by rw [own_bl]; exact Nat.le_of_lt hc) (by omega) (by rw [own_bl]; simp) rfl (by rw [own_bl]) N3 g_b2 (g := (mkF m 27 #[.val (.ref vb), .val (.int (0 : Int32)), .val (.int (Int32.ofNat ys.length)), .val (.int (Int32.ofNat ys.length)), .val (.ref b2)] [(.int (Int32.ofNat ys.length)), (.int (0 : Int32)), (.ref b2), (.int (0 : Int32)), (.ref vb)])) rfl (by rw [hml]; rfl) rfl (hb hby d30_27) (by decide) (W := 0) (by show 2 * 0 + _ ≤ _; exact Nat.le_of_eq rfl) (by decide)
  have O4 := Old.keep O2 KK4 (allS g_b2 all0)
  have K4 := Keep.trans K2 KK4 (allS (Or.inr sz_b2) all0)
  obtain ⟨fs, hr, hrun, hended, hW, hsame⟩ := X4.leave (v := some (.ref b2)) (fun h => by rw [Bd.returns] at h; cases h)
  refine ⟨_, _, pre0 _ ?_, hrun, hended, _, _, rfl, ?_, ⟨_, rfl⟩, hW, hsame.mono (by decide) (by decide)⟩
  · show Steps p.tables e below (s₁.setTop (mkF m 0 #[.val (.ref vb), .val (.int (0 : Int32)), .val (.int (Int32.ofNat ys.length)), .unset, .unset] [])) _
    refine XS.iloadN X0.here hx rfl (hb hby d30_0) rfl ?_
    show Steps p.tables e below (s₁.setTop (mkF m 1 #[.val (.ref vb), .val (.int (0 : Int32)), .val (.int (Int32.ofNat ys.length)), .unset, .unset] [(.int (0 : Int32))])) _
    refine XS.iloadN X0.here hx rfl (hb hby d30_1) rfl ?_
    show Steps p.tables e below (s₁.setTop (mkF m 2 #[.val (.ref vb), .val (.int (0 : Int32)), .val (.int (Int32.ofNat ys.length)), .unset, .unset] [(.int (Int32.ofNat ys.length)), (.int (0 : Int32))])) _
    refine st1 _ ?_
    show Steps p.tables e below (T1.setTop (mkF m 5 #[.val (.ref vb), .val (.int (0 : Int32)), .val (.int (Int32.ofNat ys.length)), .unset, .unset] [])) _
    refine XS.iloadN X1.here hx rfl (hb hby d30_5) rfl ?_
    show Steps p.tables e below (T1.setTop (mkF m 6 #[.val (.ref vb), .val (.int (0 : Int32)), .val (.int (Int32.ofNat ys.length)), .unset, .unset] [(.int (Int32.ofNat ys.length))])) _
    refine XS.iloadN X1.here hx rfl (hb hby d30_6) rfl ?_
    show Steps p.tables e below (T1.setTop (mkF m 7 #[.val (.ref vb), .val (.int (0 : Int32)), .val (.int (Int32.ofNat ys.length)), .unset, .unset] [(.int (0 : Int32)), (.int (Int32.ofNat ys.length))])) _
    refine XS.isub X1.here hx rfl (hb hby d30_7) rfl ?_
    rw [own_sub0]
    show Steps p.tables e below (T1.setTop (mkF m 8 #[.val (.ref vb), .val (.int (0 : Int32)), .val (.int (Int32.ofNat ys.length)), .unset, .unset] [(.int (Int32.ofNat ys.length))])) _
    refine XS.istoreN X1.here hx rfl (hb hby d30_8) rfl (l' := #[.val (.ref vb), .val (.int (0 : Int32)), .val (.int (Int32.ofNat ys.length)), .val (.int (Int32.ofNat ys.length)), .unset]) rfl ?_
    show Steps p.tables e below (T1.setTop (mkF m 9 #[.val (.ref vb), .val (.int (0 : Int32)), .val (.int (Int32.ofNat ys.length)), .val (.int (Int32.ofNat ys.length)), .unset] [])) _
    refine XS.iloadN X1.here hx rfl (hb hby d30_9) rfl ?_
    show Steps p.tables e below (T1.setTop (mkF m 10 #[.val (.ref vb), .val (.int (0 : Int32)), .val (.int (Int32.ofNat ys.length)), .val (.int (Int32.ofNat ys.length)), .unset] [(.int (Int32.ofNat ys.length))])) _
    refine st2 _ ?_
    show Steps p.tables e below (T2.setTop (mkF m 12 #[.val (.ref vb), .val (.int (0 : Int32)), .val (.int (Int32.ofNat ys.length)), .val (.int (Int32.ofNat ys.length)), .unset] [(.ref b2)])) _
    refine XS.astore X2.here hx rfl (hb hby d30_12) rfl rfl (l' := #[.val (.ref vb), .val (.int (0 : Int32)), .val (.int (Int32.ofNat ys.length)), .val (.int (Int32.ofNat ys.length)), .val (.ref b2)]) rfl ?_
    show Steps p.tables e below (T2.setTop (mkF m 14 #[.val (.ref vb), .val (.int (0 : Int32)), .val (.int (Int32.ofNat ys.length)), .val (.int (Int32.ofNat ys.length)), .val (.ref b2)] [])) _
    refine XS.aloadN X2.here hx rfl (hb hby d30_14) rfl rfl ?_
    show Steps p.tables e below (T2.setTop (mkF m 15 #[.val (.ref vb), .val (.int (0 : Int32)), .val (.int (Int32.ofNat ys.length)), .val (.int (Int32.ofNat ys.length)), .val (.ref b2)] [(.ref vb)])) _
    refine XS.iloadN X2.here hx rfl (hb hby d30_15) rfl ?_
    show Steps p.tables e below (T2.setTop (mkF m 16 #[.val (.ref vb), .val (.int (0 : Int32)), .val (.int (Int32.ofNat ys.length)), .val (.int (Int32.ofNat ys.length)), .val (.ref b2)] [(.int (0 : Int32)), (.ref vb)])) _
    refine XS.aload X2.here hx rfl (hb hby d30_16) rfl rfl ?_
    show Steps p.tables e below (T2.setTop (mkF m 18 #[.val (.ref vb), .val (.int (0 : Int32)), .val (.int (Int32.ofNat ys.length)), .val (.int (Int32.ofNat ys.length)), .val (.ref b2)] [(.ref b2), (.int (0 : Int32)), (.ref vb)])) _
    refine XS.iconst X2.here hx rfl (hb hby d30_18) ?_
    show Steps p.tables e below (T2.setTop (mkF m 19 #[.val (.ref vb), .val (.int (0 : Int32)), .val (.int (Int32.ofNat ys.length)), .val (.int (Int32.ofNat ys.length)), .val (.ref b2)] [(.int (0 : Int32)), (.ref b2), (.int (0 : Int32)), (.ref vb)])) _
    refine XS.aloadN X2.here hx rfl (hb hby d30_19) rfl rfl ?_
    show Steps p.tables e below (T2.setTop (mkF m 20 #[.val (.ref vb), .val (.int (0 : Int32)), .val (.int (Int32.ofNat ys.length)), .val (.int (Int32.ofNat ys.length)), .val (.ref b2)] [(.ref vb), (.int (0 : Int32)), (.ref b2), (.int (0 : Int32)), (.ref vb)])) _
    refine X2.arraylength hx (by rw [e2]; exact Ar.1) (State.isArrayOf_alike hZ.alike Ar.2.1) (g := (mkF m 20 #[.val (.ref vb), .val (.int (0 : Int32)), .val (.int (Int32.ofNat ys.length)), .val (.int (Int32.ofNat ys.length)), .val (.ref b2)] [(.ref vb), (.int (0 : Int32)), (.ref b2), (.int (0 : Int32)), (.ref vb)])) rfl rfl (hb hby d30_20) _ ?_
    rw [len_of Sz Mz]
    show Steps p.tables e below (T2.setTop (mkF m 21 #[.val (.ref vb), .val (.int (0 : Int32)), .val (.int (Int32.ofNat ys.length)), .val (.int (Int32.ofNat ys.length)), .val (.ref b2)] [(.int (Int32.ofNat 16)), (.int (0 : Int32)), (.ref b2), (.int (0 : Int32)), (.ref vb)])) _
    refine XS.iloadN X2.here hx rfl (hb hby d30_21) rfl ?_
    show Steps p.tables e below (T2.setTop (mkF m 22 #[.val (.ref vb), .val (.int (0 : Int32)), .val (.int (Int32.ofNat ys.length)), .val (.int (Int32.ofNat ys.length)), .val (.ref b2)] [(.int (0 : Int32)), (.int (Int32.ofNat 16)), (.int (0 : Int32)), (.ref b2), (.int (0 : Int32)), (.ref vb)])) _
    refine XS.isub X2.here hx rfl (hb hby d30_22) rfl ?_
    rw [own_sub0]
    show Steps p.tables e below (T2.setTop (mkF m 23 #[.val (.ref vb), .val (.int (0 : Int32)), .val (.int (Int32.ofNat ys.length)), .val (.int (Int32.ofNat ys.length)), .val (.ref b2)] [(.int (Int32.ofNat 16)), (.int (0 : Int32)), (.ref b2), (.int (0 : Int32)), (.ref vb)])) _
    refine XS.iloadN X2.here hx rfl (hb hby d30_23) rfl ?_
    show Steps p.tables e below (T2.setTop (mkF m 24 #[.val (.ref vb), .val (.int (0 : Int32)), .val (.int (Int32.ofNat ys.length)), .val (.int (Int32.ofNat ys.length)), .val (.ref b2)] [(.int (Int32.ofNat ys.length)), (.int (Int32.ofNat 16)), (.int (0 : Int32)), (.ref b2), (.int (0 : Int32)), (.ref vb)])) _
    refine st3 _ ?_
    show Steps p.tables e below (T3.setTop (mkF m 27 #[.val (.ref vb), .val (.int (0 : Int32)), .val (.int (Int32.ofNat ys.length)), .val (.int (Int32.ofNat ys.length)), .val (.ref b2)] [(.int (Int32.ofNat ys.length)), (.int (0 : Int32)), (.ref b2), (.int (0 : Int32)), (.ref vb)])) _
    refine st4 _ ?_
    show Steps p.tables e below (T4.setTop (mkF m 30 #[.val (.ref vb), .val (.int (0 : Int32)), .val (.int (Int32.ofNat ys.length)), .val (.int (Int32.ofNat ys.length)), .val (.ref b2)] [])) _
    refine XS.aload X4.here hx rfl (hb hby d30_30) rfl rfl ?_
    show Steps p.tables e below (T4.setTop (mkF m 32 #[.val (.ref vb), .val (.int (0 : Int32)), .val (.int (Int32.ofNat ys.length)), .val (.int (Int32.ofNat ys.length)), .val (.ref b2)] [(.ref b2)])) _
    exact retOut X4 hx Bd.returns rfl (Or.inr (Or.inr (Or.inr (Or.inr ⟨rfl, rfl, rfl⟩)))) (hb hby d30_32) hr
  · show Qd11 Z vb kv ys h0 n0 _ T4.heap _
    rw [e4]
    exact ⟨b2, k2, rfl, N4, K4, sz_b2, g_b2, V4⟩
theorem d29_0 : decode jdk_65_method_132_code 0 = .ok (.iload_n 1, 1) := by decide +kernel
theorem d29_1 : decode jdk_65_method_132_code 1 = .ok (.ifCond .ne 9, 3) := by decide +kernel
theorem d29_4 : decode jdk_65_method_132_code 4 = .ok (.iload_n 2, 1) := by decide +kernel
theorem d29_5 : decode jdk_65_method_132_code 5 = .ok (.aload_n 0, 1) := by decide +kernel
theorem d29_6 : decode jdk_65_method_132_code 6 = .ok (.arraylength, 1) := by decide +kernel
theorem d29_7 : decode jdk_65_method_132_code 7 = .ok (.if_icmp .eq 10, 3) := by decide +kernel
theorem d29_10 : decode jdk_65_method_132_code 10 = .ok (.aload_n 0, 1) := by decide +kernel
theorem d29_11 : decode jdk_65_method_132_code 11 = .ok (.iload_n 1, 1) := by decide +kernel
theorem d29_12 : decode jdk_65_method_132_code 12 = .ok (.iload_n 2, 1) := by decide +kernel
theorem d29_13 : decode jdk_65_method_132_code 13 = .ok (.invokestatic 339, 3) := by decide +kernel
theorem own_pd9 : parseMethodDescriptor "([BII)[B" = some ⟨[(.array .byte), .int, .int], some (.array .byte)⟩ := by decide +kernel
theorem d29_16 : decode jdk_65_method_132_code 16 = .ok (.areturn, 1) := by decide +kernel
theorem ef_29 (m : MethodId) (x0 : Addr) (x1 : Int32) (x2 : Int32) : entryFrame m #[(.ref x0), (.int x1), (.int x2)] 3 = mkF m 0 #[.val (.ref x0), .val (.int x1), .val (.int x2)] [] := by first | (simp [entryFrame, mkF, argsToLocals, Value.category]; done) | rfl
theorem pn_29 : plainName "java/util/Arrays" = true := by first | (simp [plainName, overriddenIn]; done) | decide +kernel
set_option maxRecDepth 65536 in
set_option maxHeartbeats 40000000 in
theorem rmCR (l : Launch) (Z : State) (a0 : Array Value) (hw : ∀ d ∈ tables_1, d.before a0 Z = true) (ws : List Jvm.Cond) (vb : Addr) (kv : ClassId) (ys : List Int32) (h0 : Heap) (n0 : Nat) (O0 : Old Z n0 h0) (Kb : Arv Z h0 vb kv .byte (Int32.ofNat 16) (((ys).map StrChars.lo8).map Value.int) (.int 0)) (hc : ys.length < 16) :
    MetFree l (⟨"java/util/Arrays", "copyOfRange", "([BII)[B"⟩ : MethodName) (head1 (Jvm.Cond.code (⟨"java/util/Arrays", "copyOfRange", "([BII)[B"⟩ : MethodName) jdk_65_method_132_code 3 (some (.array .byte)) :: ws) ({ frames := 2, cells := 1, slots := 16, locals := 34 } : Room)) (fun qq U => qq = #[(.ref vb), (.int (0 : Int32)), (.int (Int32.ofNat ys.length))] ∧ Z.Warmed39 U.vm ∧ U.heap = h0) (fun _ _ _ _ _ => True) (fun _ UU oo UU' => ∃ vv LL, oo = .returned vv ∧ Qd11 Z vb kv ys h0 n0 vv UU'.heap LL ∧ FrameEnd UU oo UU' LL ({ frames := 2, cells := 1, slots := 16, locals := 34 } : Room).cells ({ frames := 2, cells := 1, slots := 16, locals := 34 } : Room).slots) := by
  refine MetFree.of_bodySF (plainFor_of_name pn_29) hisR ?_
  intro p e s m args below meth c s₁ Bd hml0 hP hK
  obtain ⟨rfl, hZ, hh⟩ := hP
  have hx := Bd.exec
  have hby := Bd.bytes
  have hml : c.maxLocals = 3 := hml0
  have hown : s.vm.findClass "java/util/Arrays" = some m.cls := findClass_of_methodNamed Bd.named
  have hnm := (name_of_methodNamed Bd.named Bd.method).1
  have X0 : Stand p l e ({ frames := 2, cells := 1, slots := 16, locals := 34 } : Room) s m #[(.ref vb), (.int (0 : Int32)), (.int (Int32.ofNat ys.length))] below meth c s₁ [] 0 0 := Stand.of_body Bd
  have e0 : s₁.heap = h0 := by rw [← hh, Bd.state]; rfl
  have N0 := Fr.nil n0
  have pre0 : ∀ tgt, Steps p.tables e below (s₁.setTop (mkF m 0 #[.val (.ref vb), .val (.int (0 : Int32)), .val (.int (Int32.ofNat ys.length))] [])) tgt → Steps p.tables e below (s₁.setTop (entryFrame m #[(.ref vb), (.int (0 : Int32)), (.int (Int32.ofNat ys.length))] 3)) tgt := fun tt kk => castTop (ef_29 m vb (0 : Int32) (Int32.ofNat ys.length)) kk
  obtain ⟨cl, Ar, qk, Sz, Mz, Hz, Uz⟩ := id Kb
  obtain ⟨_, _, ⟨T1, L1, k1, n1⟩, -, X1, ⟨Lc1, hQ1, l1, y1, z1⟩, st1⟩ := Jvm.LawKit.callS X0 hx (y := (⟨"java/util/Arrays", "copyOfRangeByte", "([BII)[B"⟩ : MethodName)) hown (mvT hZ (ww hw 164 rfl)) (mvT hZ (ww hw 165 rfl)) (mvT hZ (ww hw 162 rfl)) (mvT hZ (ww hw 166 rfl)) (by decide) (backOf (W := 0) (rmCB l Z a0 hw [] vb kv ys h0 n0 O0 Kb hc) hZ (ww hw 166 rfl) (ww hw 162 rfl) (by decide) (by decide)) (g := (mkF m 13 #[.val (.ref vb), .val (.int (0 : Int32)), .val (.int (Int32.ofNat ys.length))] [(.int (Int32.ofNat ys.length)), (.int (0 : Int32)), (.ref vb)])) rfl (by rw [hml]; rfl) (argsL := [(.ref vb), (.int (0 : Int32)), (.int (Int32.ofNat ys.length))]) (rest := []) (lenOf own_pd9 rfl) rfl (by show 2 * 0 + _ ≤ _; exact Nat.le_of_eq rfl) (hb hby d29_13) (fun _ _ => ⟨rfl, e0, (by decide : 0 + 1 ≤ _), (by decide : 0 + 16 ≤ _)⟩)
  dsimp only [Pt.U, Pt.locs, Pt.cells, Pt.slots] at X1 l1 y1 z1 st1 hQ1
  subst l1 y1 z1
  obtain ⟨nb, kn, rfl, N1q, KK1, szn, gn, fK⟩ := hQ1
  have N1 := Fr.app N0 N1q
  have O1 := Old.keep O0 KK1 all0
  have K1 := Keep.trans (Keep.refl h0 []) KK1 all0
  obtain ⟨fs, hr, hrun, hended, hW, hsame⟩ := X1.leave (v := some (.ref nb)) (fun h => by rw [Bd.returns] at h; cases h)
  refine ⟨_, _, pre0 _ ?_, hrun, hended, _, _, rfl, ?_, ⟨_, rfl⟩, hW, hsame.mono (by decide) (by decide)⟩
  · show Steps p.tables e below (s₁.setTop (mkF m 0 #[.val (.ref vb), .val (.int (0 : Int32)), .val (.int (Int32.ofNat ys.length))] [])) _
    refine XS.iloadN X0.here hx rfl (hb hby d29_0) rfl ?_
    show Steps p.tables e below (s₁.setTop (mkF m 1 #[.val (.ref vb), .val (.int (0 : Int32)), .val (.int (Int32.ofNat ys.length))] [(.int (0 : Int32))])) _
    refine XS.ifNo X0.here hx rfl (hb hby d29_1) rfl ((if0 _ _).trans (teq (rfl : (0 : Int32) = (0 : Int32))).2) ?_
    show Steps p.tables e below (s₁.setTop (mkF m 4 #[.val (.ref vb), .val (.int (0 : Int32)), .val (.int (Int32.ofNat ys.length))] [])) _
    refine XS.iloadN X0.here hx rfl (hb hby d29_4) rfl ?_
    show Steps p.tables e below (s₁.setTop (mkF m 5 #[.val (.ref vb), .val (.int (0 : Int32)), .val (.int (Int32.ofNat ys.length))] [(.int (Int32.ofNat ys.length))])) _
    refine XS.aloadN X0.here hx rfl (hb hby d29_5) rfl rfl ?_
    show Steps p.tables e below (s₁.setTop (mkF m 6 #[.val (.ref vb), .val (.int (0 : Int32)), .val (.int (Int32.ofNat ys.length))] [(.ref vb), (.int (Int32.ofNat ys.length))])) _
    refine X0.arraylength hx (by rw [e0]; exact Ar.1) (State.isArrayOf_alike hZ.alike Ar.2.1) (g := (mkF m 6 #[.val (.ref vb), .val (.int (0 : Int32)), .val (.int (Int32.ofNat ys.length))] [(.ref vb), (.int (Int32.ofNat ys.length))])) rfl rfl (hb hby d29_6) _ ?_
    rw [len_of Sz Mz]
    show Steps p.tables e below (s₁.setTop (mkF m 7 #[.val (.ref vb), .val (.int (0 : Int32)), .val (.int (Int32.ofNat ys.length))] [(.int (Int32.ofNat 16)), (.int (Int32.ofNat ys.length))])) _
    refine XS.icmpNo X0.here hx rfl (hb hby d29_7) rfl (feq (own_ne16 hc : ¬ ((Int32.ofNat ys.length) = (Int32.ofNat 16)))).1 ?_
    show Steps p.tables e below (s₁.setTop (mkF m 10 #[.val (.ref vb), .val (.int (0 : Int32)), .val (.int (Int32.ofNat ys.length))] [])) _
    refine XS.aloadN X0.here hx rfl (hb hby d29_10) rfl rfl ?_
    show Steps p.tables e below (s₁.setTop (mkF m 11 #[.val (.ref vb), .val (.int (0 : Int32)), .val (.int (Int32.ofNat ys.length))] [(.ref vb)])) _
    refine XS.iloadN X0.here hx rfl (hb hby d29_11) rfl ?_
    show Steps p.tables e below (s₁.setTop (mkF m 12 #[.val (.ref vb), .val (.int (0 : Int32)), .val (.int (Int32.ofNat ys.length))] [(.int (0 : Int32)), (.ref vb)])) _
    refine XS.iloadN X0.here hx rfl (hb hby d29_12) rfl ?_
    show Steps p.tables e below (s₁.setTop (mkF m 13 #[.val (.ref vb), .val (.int (0 : Int32)), .val (.int (Int32.ofNat ys.length))] [(.int (Int32.ofNat ys.length)), (.int (0 : Int32)), (.ref vb)])) _
    refine st1 _ ?_
    show Steps p.tables e below (T1.setTop (mkF m 16 #[.val (.ref vb), .val (.int (0 : Int32)), .val (.int (Int32.ofNat ys.length))] [(.ref nb)])) _
    exact retOut X1 hx Bd.returns rfl (Or.inr (Or.inr (Or.inr (Or.inr ⟨rfl, rfl, rfl⟩)))) (hb hby d29_16) hr
  · show Qd11 Z vb kv ys h0 n0 _ T1.heap _
    exact ⟨nb, kn, rfl, N1, K1, szn, gn, fK⟩
theorem d24_0 : decode jdk_42_method_150_code 0 = .ok (.aload_n 0, 1) := by decide +kernel
theorem d24_1 : decode jdk_42_method_150_code 1 = .ok (.invokespecial 1, 3) := by decide +kernel
theorem d24_4 : decode jdk_42_method_150_code 4 = .ok (.aload_n 1, 1) := by decide +kernel
theorem d24_5 : decode jdk_42_method_150_code 5 = .ok (.invokevirtual 552, 3) := by decide +kernel
theorem own_pd10 : parseMethodDescriptor "()[B" = some ⟨[], some (.array .byte)⟩ := by decide +kernel
theorem d24_8 : decode jdk_42_method_150_code 8 = .ok (.astore_n 3, 1) := by decide +kernel
theorem d24_9 : decode jdk_42_method_150_code 9 = .ok (.aload_n 1, 1) := by decide +kernel
theorem d24_10 : decode jdk_42_method_150_code 10 = .ok (.invokevirtual 549, 3) := by decide +kernel
theorem d24_13 : decode jdk_42_method_150_code 13 = .ok (.istore 4, 2) := by decide +kernel
theorem d24_15 : decode jdk_42_method_150_code 15 = .ok (.aload_n 1, 1) := by decide +kernel
theorem d24_16 : decode jdk_42_method_150_code 16 = .ok (.invokevirtual 1047, 3) := by decide +kernel
theorem own_pd11 : parseMethodDescriptor "()Z" = some ⟨[], some .boolean⟩ := by decide +kernel
theorem d24_19 : decode jdk_42_method_150_code 19 = .ok (.ifCond .eq 22, 3) := by decide +kernel
theorem d24_22 : decode jdk_42_method_150_code 22 = .ok (.aload_n 0, 1) := by decide +kernel
theorem d24_23 : decode jdk_42_method_150_code 23 = .ok (.iconst 0, 1) := by decide +kernel
theorem d24_24 : decode jdk_42_method_150_code 24 = .ok (.putfield 15, 3) := by decide +kernel
theorem d24_27 : decode jdk_42_method_150_code 27 = .ok (.aload_n 0, 1) := by decide +kernel
theorem d24_28 : decode jdk_42_method_150_code 28 = .ok (.aload_n 3, 1) := by decide +kernel
theorem d24_29 : decode jdk_42_method_150_code 29 = .ok (.iconst 0, 1) := by decide +kernel
theorem d24_30 : decode jdk_42_method_150_code 30 = .ok (.iload 4, 2) := by decide +kernel
theorem d24_32 : decode jdk_42_method_150_code 32 = .ok (.invokestatic 54, 3) := by decide +kernel
theorem d24_35 : decode jdk_42_method_150_code 35 = .ok (.putfield 9, 3) := by decide +kernel
theorem d24_38 : decode jdk_42_method_150_code 38 = .ok (.goto 59, 3) := by decide +kernel
theorem d24_97 : decode jdk_42_method_150_code 97 = .ok (.return_, 1) := by decide +kernel
theorem ef_24n (m : MethodId) (x0 : Addr) (x1 : Addr) : entryFrame m #[(.ref x0), (.ref x1), .null] 5 = mkF m 0 #[.val (.ref x0), .val (.ref x1), .val .null, .unset, .unset] [] := by first | (simp [entryFrame, mkF, argsToLocals, Value.category]; done) | rfl
theorem pn_24 : plainName "java/lang/String" = true := by first | (simp [plainName, overriddenIn]; done) | decide +kernel
def Qd12 (Z : State) (sb vb xs : Addr) (kv : ClassId) (ys : List Int32) (z : Int32) (h0 : Heap) (n0 : Nat) (v : Option Value) (h : Heap) (L : List Loc) : Prop := ∃ nb kn, v = none ∧ Fr n0 L ∧ Keep h0 h [xs] ∧ h0.size ≤ nb ∧ Exa Z h xs "java/lang/String" ∧ Fld Z h xs "java/lang/String" "value" "[B" (.ref nb) ∧ Fld Z h xs "java/lang/String" "coder" "B" (.int 0) ∧ Arv Z h nb kn .byte (Int32.ofNat (ys).length) (((ys).map StrChars.lo8).map Value.int) (.int 0)
set_option maxRecDepth 65536 in
set_option maxHeartbeats 40000000 in
theorem rmSA (l : Launch) (Z : State) (a0 : Array Value) (hw : ∀ d ∈ tables_1, d.before a0 Z = true) (ws : List Jvm.Cond) (sb vb xs : Addr) (kv : ClassId) (ys : List Int32) (z : Int32) (h0 : Heap) (n0 : Nat) (O0 : Old Z n0 h0) (Eb : Exa Z h0 sb "java/lang/StringBuilder") (Vb : Fld Z h0 sb "java/lang/AbstractStringBuilder" "value" "[B" (.ref vb)) (Cb : Fld Z h0 sb "java/lang/AbstractStringBuilder" "coder" "B" (.int (0 : Int32))) (Nb : Fld Z h0 sb "java/lang/AbstractStringBuilder" "count" "I" (.int (Int32.ofNat (ys).length))) (Kb : Arv Z h0 vb kv .byte (Int32.ofNat 16) (((ys).map StrChars.lo8).map Value.int) (.int 0)) (SC : Sta Z Z.heap "java/lang/String" "COMPACT_STRINGS" "Z" (.int z)) (hz : ¬ z = 0) (hc : ys.length < 16) (gx : n0 ≤ xs) (Ex : Exa Z h0 xs "java/lang/String") (Fv : Fld Z h0 xs "java/lang/String" "value" "[B" .null) (Fc : Fld Z h0 xs "java/lang/String" "coder" "B" (.int (0 : Int32))) (hxv : vb ≠ xs) (hxs : sb ≠ xs) :
    MetFree l (⟨"java/lang/String", "<init>", "(Ljava/lang/AbstractStringBuilder;Ljava/lang/Void;)V"⟩ : MethodName) (head1 (Jvm.Cond.code (⟨"java/lang/String", "<init>", "(Ljava/lang/AbstractStringBuilder;Ljava/lang/Void;)V"⟩ : MethodName) jdk_42_method_150_code 5 none :: ws) ({ frames := 3, cells := 1, slots := 16, locals := 49 } : Room)) (fun qq U => qq = #[(.ref xs), (.ref sb), .null] ∧ Z.Warmed39 U.vm ∧ U.heap = h0) (fun _ _ _ _ _ => True) (fun _ UU oo UU' => ∃ vv LL, oo = .returned vv ∧ Qd12 Z sb vb xs kv ys z h0 n0 vv UU'.heap LL ∧ FrameEnd UU oo UU' LL ({ frames := 3, cells := 1, slots := 16, locals := 49 } : Room).cells ({ frames := 3, cells := 1, slots := 16, locals := 49 } : Room).slots) := by
  refine MetFree.of_bodySF (plainFor_of_name pn_24) hisR ?_
  intro p e s m args below meth c s₁ Bd hml0 hP hK
  obtain ⟨rfl, hZ, hh⟩ := hP
  have hx := Bd.exec
  have hby := Bd.bytes
  have hml : c.maxLocals = 5 := hml0
  have hown : s.vm.findClass "java/lang/String" = some m.cls := findClass_of_methodNamed Bd.named
  have hnm := (name_of_methodNamed Bd.named Bd.method).1
  have X0 : Stand p l e ({ frames := 3, cells := 1, slots := 16, locals := 49 } : Room) s m #[(.ref xs), (.ref sb), .null] below meth c s₁ [] 0 0 := Stand.of_body Bd
  have e0 : s₁.heap = h0 := by rw [← hh, Bd.state]; rfl
  have N0 := Fr.nil n0
  have pre0 : ∀ tgt, Steps p.tables e below (s₁.setTop (mkF m 0 #[.val (.ref xs), .val (.ref sb), .val .null, .unset, .unset] [])) tgt → Steps p.tables e below (s₁.setTop (entryFrame m #[(.ref xs), (.ref sb), .null] 5)) tgt := fun tt kk => castTop (ef_24n m xs sb) kk
  obtain ⟨T1, X1, e1, st1⟩ := initO X0 hx hZ hown (ww hw 15 rfl) (ww hw 16 rfl) (ww hw 17 rfl) e0 (g := (mkF m 1 #[.val (.ref xs), .val (.ref sb), .val .null, .unset, .unset] [(.ref xs)])) rfl (by rw [hml]; rfl) rfl (hb hby d24_1) (by decide) (W := 0) (by show 2 * 0 + _ ≤ _; exact Nat.le_of_eq rfl) (by decide)
  obtain ⟨cq2, kq2, q2a, q2b, q2c⟩ := isOf hZ e1 Eb
  obtain ⟨_, _, ⟨T2, L2, k2, n2⟩, -, X2, ⟨Lc2, hQ2, l2, y2, z2⟩, st2⟩ := X1.virtualBack hx (y := (⟨"java/lang/AbstractStringBuilder", "getValue", "()[B"⟩ : MethodName)) (z := (⟨"java/lang/AbstractStringBuilder", "getValue", "()[B"⟩ : MethodName)) hown (mvT hZ (ww hw 142 rfl)) (mvT hZ (ww hw 143 rfl)) (notFace_of_selects (args := #[]) (mvT hZ (ww hw 145 rfl))) (mvT hZ (ww hw 145 rfl)) (mvT hZ (ww hw 144 rfl)) (by decide) (backOf (W := 0) (rmGV l Z a0 hw [] sb vb kv ys z h0 n0 O0 Eb Vb Cb Nb Kb SC hz hc) hZ (ww hw 146 rfl) (ww hw 74 rfl) (by decide) (by decide)) q2a q2c (g := (mkF m 5 #[.val (.ref xs), .val (.ref sb), .val .null, .unset, .unset] [(.ref sb)])) rfl (by rw [hml]; rfl) (Steps.refl _) (argsL := []) (rest := []) (lenOf own_pd10 rfl) rfl (by show 2 * 0 + _ ≤ _; exact Nat.le_of_eq rfl) (hb hby d24_5) (fun _ _ => ⟨rfl, e1, (by decide : 0 + 0 ≤ _), (by decide : 0 + 0 ≤ _)⟩)
  dsimp only [Pt.U, Pt.locs, Pt.cells, Pt.slots] at X2 l2 y2 z2 st2 hQ2
  subst l2 y2 z2
  obtain ⟨rfl, N2q, e2⟩ := hQ2
  have N2 := Fr.app N0 N2q
  obtain ⟨cq3, kq3, q3a, q3b, q3c⟩ := isOf hZ e2 Eb
  obtain ⟨_, _, ⟨T3, L3, k3, n3⟩, -, X3, ⟨Lc3, hQ3, l3, y3, z3⟩, st3⟩ := X2.virtualBack hx (y := (⟨"java/lang/AbstractStringBuilder", "length", "()I"⟩ : MethodName)) (z := (⟨"java/lang/StringBuilder", "length", "()I"⟩ : MethodName)) hown (mvT hZ (ww hw 147 rfl)) (mvT hZ (ww hw 148 rfl)) (own_nf2 (y1 := (⟨"java/lang/AbstractStringBuilder", "getValue", "()[B"⟩ : MethodName)) (a0 := #[]) (notFace_of_selects (args := #[]) (mvT hZ (ww hw 145 rfl))) (mvT hZ (ww hw 143 rfl)) rfl) (mvT hZ (ww hw 150 rfl)) (mvT hZ (ww hw 151 rfl)) (by decide) (backOf (W := 0) (rmBL l Z a0 hw [] sb vb kv ys z h0 n0 O0 Eb Vb Cb Nb Kb SC hz hc) hZ (ww hw 152 rfl) (ww hw 66 rfl) (by decide) (by decide)) q3a q3c (g := (mkF m 10 #[.val (.ref xs), .val (.ref sb), .val .null, .val (.ref vb), .unset] [(.ref sb)])) rfl (by rw [hml]; rfl) (Steps.refl _) (argsL := []) (rest := []) (lenOf own_pd4 rfl) rfl (by show 2 * 0 + _ ≤ _; exact Nat.le_of_eq rfl) (hb hby d24_10) (fun _ _ => ⟨rfl, e2, (by decide : 0 + 0 ≤ _), (by decide : 0 + 0 ≤ _)⟩)
  dsimp only [Pt.U, Pt.locs, Pt.cells, Pt.slots] at X3 l3 y3 z3 st3 hQ3
  subst l3 y3 z3
  obtain ⟨rfl, N3q, e3⟩ := hQ3
  have N3 := Fr.app N2 N3q
  obtain ⟨cq4, kq4, q4a, q4b, q4c⟩ := isOf hZ e3 Eb
  obtain ⟨_, _, ⟨T4, L4, k4, n4⟩, -, X4, ⟨Lc4, hQ4, l4, y4, z4⟩, st4⟩ := X3.virtualBack hx (y := (⟨"java/lang/AbstractStringBuilder", "isLatin1", "()Z"⟩ : MethodName)) (z := (⟨"java/lang/AbstractStringBuilder", "isLatin1", "()Z"⟩ : MethodName)) hown (mvT hZ (ww hw 155 rfl)) (mvT hZ (ww hw 156 rfl)) (notFace_of_selects (args := #[]) (mvT hZ (ww hw 158 rfl))) (mvT hZ (ww hw 158 rfl)) (mvT hZ (ww hw 157 rfl)) (by decide) (backOf (W := 0) (rmL1 l Z a0 hw [] sb vb kv ys z h0 n0 O0 Eb Vb Cb Nb Kb SC hz hc) hZ (ww hw 159 rfl) (ww hw 74 rfl) (by decide) (by decide)) q4a q4c (g := (mkF m 16 #[.val (.ref xs), .val (.ref sb), .val .null, .val (.ref vb), .val (.int (Int32.ofNat ys.length))] [(.ref sb)])) rfl (by rw [hml]; rfl) (Steps.refl _) (argsL := []) (rest := []) (lenOf own_pd11 rfl) rfl (by show 2 * 0 + _ ≤ _; exact Nat.le_of_eq rfl) (hb hby d24_16) (fun _ _ => ⟨rfl, e3, (by decide : 0 + 0 ≤ _), (by decide : 0 + 0 ≤ _)⟩)
  dsimp only [Pt.U, Pt.locs, Pt.cells, Pt.slots] at X4 l4 y4 z4 st4 hQ4
  subst l4 y4 z4
  obtain ⟨rfl, N4q, e4⟩ := hQ4
  have N4 := Fr.app N3 N4q
  obtain ⟨T5, h5, X5, e5, W5, st5⟩ := putFN X4 hx hZ hown (ww hw 30 rfl) Via.refl e4 Fc Ex (Or.inr ⟨(ww hw 31 rfl), rfl, hnm⟩) (ww hw 5 rfl) (ty := .byte) (v' := (.int (0 : Int32))) (by decide) rfl rfl (g := (mkF m 24 #[.val (.ref xs), .val (.ref sb), .val .null, .val (.ref vb), .val (.int (Int32.ofNat ys.length))] [(.int (0 : Int32)), (.ref xs)])) rfl rfl (hb hby d24_24)
  have Fw5 := Fld.same W5 Fc
  have N5 := Fr.snoc X5 N4 gx
  have O5 := Old.wr O0 W5 gx
  have K5 := Keep.wr (Keep.refl h0 [xs]) W5 (Or.inl (List.mem_of_getElem? (i := 0) rfl))
  obtain ⟨_, _, ⟨T6, L6, k6, n6⟩, -, X6, ⟨Lc6, hQ6, l6, y6, z6⟩, st6⟩ := Jvm.LawKit.callS X5 hx (y := (⟨"java/util/Arrays", "copyOfRange", "([BII)[B"⟩ : MethodName)) hown (mvT hZ (ww hw 160 rfl)) (mvT hZ (ww hw 161 rfl)) (mvT hZ (ww hw 162 rfl)) (mvT hZ (ww hw 163 rfl)) (by decide) (backOf (W := 1) (rmCR l Z a0 hw [] vb kv ys h5 n0 O5 (Kb.other W5 hxv) hc) hZ (ww hw 163 rfl) (ww hw 162 rfl) (by decide) (by decide)) (g := (mkF m 32 #[.val (.ref xs), .val (.ref sb), .val .null, .val (.ref vb), .val (.int (Int32.ofNat ys.length))] [(.int (Int32.ofNat ys.length)), (.int (0 : Int32)), (.ref vb), (.ref xs)])) rfl (by rw [hml]; rfl) (argsL := [(.ref vb), (.int (0 : Int32)), (.int (Int32.ofNat ys.length))]) (rest := [(.ref xs)]) (lenOf own_pd9 rfl) rfl (by show 2 * 0 + _ ≤ _; exact Nat.le_of_eq rfl) (hb hby d24_32) (fun _ _ => ⟨rfl, e5, (by decide : 0 + 1 ≤ _), (by decide : 0 + 16 ≤ _)⟩)
  dsimp only [Pt.U, Pt.locs, Pt.cells, Pt.slots] at X6 l6 y6 z6 st6 hQ6
  subst l6 y6 z6
  obtain ⟨nb, kn, rfl, N6q, KK6, szn, gn, fK⟩ := hQ6
  have N6 := Fr.app N5 N6q
  have O6 := Old.keep O5 KK6 all0
  have K6 := Keep.trans K5 KK6 all0
  have neN : xs ≠ nb := Exa.neArv ((Exa.wr W5 Ex).keep KK6) fK (ww hw 5 rfl)
  have c7 := ((Fld.other W5 Fv (Or.inr (slot_ne (a0 := a0) (Or.inr (ww hw 33 rfl)) (Or.inr (ww hw 31 rfl)) (by decide) (t := (.array .byte)) (t' := .byte) (by decide) (by decide)))).keep KK6 nin0)
  obtain ⟨T8, h8, X8, e8, W8, st8⟩ := putF X6 hx hZ hown (host := "") (Or.inl (ww hw 32 rfl)) Via.refl rfl c7 ((Exa.wr W5 Ex).keep KK6) (Or.inr ⟨(ww hw 33 rfl), rfl, hnm⟩) (ww hw 5 rfl) (ty := (.array .byte)) (by decide) rfl rfl (g := (mkF m 35 #[.val (.ref xs), .val (.ref sb), .val .null, .val (.ref vb), .val (.int (Int32.ofNat ys.length))] [(.ref nb), (.ref xs)])) rfl rfl (hb hby d24_35)
  have Fw8 := Fld.same W8 c7
  have N8 := Fr.snoc X8 N6 gx
  have O8 := Old.wr O6 W8 gx
  have K8 := Keep.wr K6 W8 (Or.inl (List.mem_of_getElem? (i := 0) rfl))
  have szN : h0.size ≤ nb := Nat.le_trans (K5).1 szn
  have c9 := (Fld.other W8 (Fw5.keep KK6 nin0) (Or.inr (slot_ne (a0 := a0) (Or.inr (ww hw 31 rfl)) (Or.inr (ww hw 33 rfl)) (by decide) (t := .byte) (t' := (.array .byte)) (by decide) (by decide))))
  obtain ⟨fs, hr, hrun, hended, hW, hsame⟩ := X8.leave (v := none) (fun _ => rfl)
  refine ⟨_, _, pre0 _ ?_, hrun, hended, _, _, rfl, ?_, ⟨_, rfl⟩, hW, hsame.mono (by decide) (by decide)⟩
  · show Steps p.tables e below (s₁.setTop (mkF m 0 #[.val (.ref xs), .val (.ref sb), .val .null, .unset, .unset] [])) _
    refine XS.aloadN X0.here hx rfl (hb hby d24_0) rfl rfl ?_
    show Steps p.tables e below (s₁.setTop (mkF m 1 #[.val (.ref xs), .val (.ref sb), .val .null, .unset, .unset] [(.ref xs)])) _
    refine st1 _ ?_
    show Steps p.tables e below (T1.setTop (mkF m 4 #[.val (.ref xs), .val (.ref sb), .val .null, .unset, .unset] [])) _
    refine XS.aloadN X1.here hx rfl (hb hby d24_4) rfl rfl ?_
    show Steps p.tables e below (T1.setTop (mkF m 5 #[.val (.ref xs), .val (.ref sb), .val .null, .unset, .unset] [(.ref sb)])) _
    refine st2.trans ?_
    show Steps p.tables e below (T2.setTop (mkF m 8 #[.val (.ref xs), .val (.ref sb), .val .null, .unset, .unset] [(.ref vb)])) _
    refine XS.astoreN X2.here hx rfl (hb hby d24_8) rfl rfl (l' := #[.val (.ref xs), .val (.ref sb), .val .null, .val (.ref vb), .unset]) rfl ?_
    show Steps p.tables e below (T2.setTop (mkF m 9 #[.val (.ref xs), .val (.ref sb), .val .null, .val (.ref vb), .unset] [])) _
    refine XS.aloadN X2.here hx rfl (hb hby d24_9) rfl rfl ?_
    show Steps p.tables e below (T2.setTop (mkF m 10 #[.val (.ref xs), .val (.ref sb), .val .null, .val (.ref vb), .unset] [(.ref sb)])) _
    refine st3.trans ?_
    show Steps p.tables e below (T3.setTop (mkF m 13 #[.val (.ref xs), .val (.ref sb), .val .null, .val (.ref vb), .unset] [(.int (Int32.ofNat ys.length))])) _
    refine XS.istore X3.here hx rfl (hb hby d24_13) rfl (l' := #[.val (.ref xs), .val (.ref sb), .val .null, .val (.ref vb), .val (.int (Int32.ofNat ys.length))]) rfl ?_
    show Steps p.tables e below (T3.setTop (mkF m 15 #[.val (.ref xs), .val (.ref sb), .val .null, .val (.ref vb), .val (.int (Int32.ofNat ys.length))] [])) _
    refine XS.aloadN X3.here hx rfl (hb hby d24_15) rfl rfl ?_
    show Steps p.tables e below (T3.setTop (mkF m 16 #[.val (.ref xs), .val (.ref sb), .val .null, .val (.ref vb), .val (.int (Int32.ofNat ys.length))] [(.ref sb)])) _
    refine st4.trans ?_
    show Steps p.tables e below (T4.setTop (mkF m 19 #[.val (.ref xs), .val (.ref sb), .val .null, .val (.ref vb), .val (.int (Int32.ofNat ys.length))] [(.int (1 : Int32))])) _
    refine XS.ifNo X4.here hx rfl (hb hby d24_19) rfl ((if0 _ _).trans (feq (by decide : ¬ ((1 : Int32) = (0 : Int32)))).1) ?_
    show Steps p.tables e below (T4.setTop (mkF m 22 #[.val (.ref xs), .val (.ref sb), .val .null, .val (.ref vb), .val (.int (Int32.ofNat ys.length))] [])) _
    refine XS.aloadN X4.here hx rfl (hb hby d24_22) rfl rfl ?_
    show Steps p.tables e below (T4.setTop (mkF m 23 #[.val (.ref xs), .val (.ref sb), .val .null, .val (.ref vb), .val (.int (Int32.ofNat ys.length))] [(.ref xs)])) _
    refine XS.iconst X4.here hx rfl (hb hby d24_23) ?_
    show Steps p.tables e below (T4.setTop (mkF m 24 #[.val (.ref xs), .val (.ref sb), .val .null, .val (.ref vb), .val (.int (Int32.ofNat ys.length))] [(.int (0 : Int32)), (.ref xs)])) _
    refine st5 _ ?_
    show Steps p.tables e below (T5.setTop (mkF m 27 #[.val (.ref xs), .val (.ref sb), .val .null, .val (.ref vb), .val (.int (Int32.ofNat ys.length))] [])) _
    refine XS.aloadN X5.here hx rfl (hb hby d24_27) rfl rfl ?_
    show Steps p.tables e below (T5.setTop (mkF m 28 #[.val (.ref xs), .val (.ref sb), .val .null, .val (.ref vb), .val (.int (Int32.ofNat ys.length))] [(.ref xs)])) _
    refine XS.aloadN X5.here hx rfl (hb hby d24_28) rfl rfl ?_
    show Steps p.tables e below (T5.setTop (mkF m 29 #[.val (.ref xs), .val (.ref sb), .val .null, .val (.ref vb), .val (.int (Int32.ofNat ys.length))] [(.ref vb), (.ref xs)])) _
    refine XS.iconst X5.here hx rfl (hb hby d24_29) ?_
    show Steps p.tables e below (T5.setTop (mkF m 30 #[.val (.ref xs), .val (.ref sb), .val .null, .val (.ref vb), .val (.int (Int32.ofNat ys.length))] [(.int (0 : Int32)), (.ref vb), (.ref xs)])) _
    refine XS.iload X5.here hx rfl (hb hby d24_30) rfl ?_
    show Steps p.tables e below (T5.setTop (mkF m 32 #[.val (.ref xs), .val (.ref sb), .val .null, .val (.ref vb), .val (.int (Int32.ofNat ys.length))] [(.int (Int32.ofNat ys.length)), (.int (0 : Int32)), (.ref vb), (.ref xs)])) _
    refine st6 _ ?_
    show Steps p.tables e below (T6.setTop (mkF m 35 #[.val (.ref xs), .val (.ref sb), .val .null, .val (.ref vb), .val (.int (Int32.ofNat ys.length))] [(.ref nb), (.ref xs)])) _
    refine st8 _ ?_
    show Steps p.tables e below (T8.setTop (mkF m 38 #[.val (.ref xs), .val (.ref sb), .val .null, .val (.ref vb), .val (.int (Int32.ofNat ys.length))] [])) _
    refine XS.goto X8.here hx rfl (pc0 := 38) (pc' := 97) rfl (hb hby d24_38) (by decide) (by decide) ?_
    show Steps p.tables e below (T8.setTop (mkF m 97 #[.val (.ref xs), .val (.ref sb), .val .null, .val (.ref vb), .val (.int (Int32.ofNat ys.length))] [])) _
    exact X8.returnOut hx Bd.returns (hb hby d24_97) hr
  · show Qd12 Z sb vb xs kv ys z h0 n0 _ T8.heap _
    rw [e8]
    exact ⟨nb, kn, rfl, N8, K8, szN, (Exa.wr W8 ((Exa.wr W5 Ex).keep KK6)), Fw8, c9, (fK.other W8 (Ne.symm neN))⟩
theorem d23_0 : decode jdk_42_method_53_code 0 = .ok (.aload_n 0, 1) := by decide +kernel
theorem d23_1 : decode jdk_42_method_53_code 1 = .ok (.aload_n 1, 1) := by decide +kernel
theorem d23_2 : decode jdk_42_method_53_code 2 = .ok (.aconst_null, 1) := by decide +kernel
theorem d23_3 : decode jdk_42_method_53_code 3 = .ok (.invokespecial 489, 3) := by decide +kernel
theorem own_pd12 : parseMethodDescriptor "(Ljava/lang/AbstractStringBuilder;Ljava/lang/Void;)V" = some ⟨[(.object "java/lang/AbstractStringBuilder"), (.object "java/lang/Void")], none⟩ := by decide +kernel
theorem d23_6 : decode jdk_42_method_53_code 6 = .ok (.return_, 1) := by decide +kernel
theorem ef_23 (m : MethodId) (x0 : Addr) (x1 : Addr) : entryFrame m #[(.ref x0), (.ref x1)] 2 = mkF m 0 #[.val (.ref x0), .val (.ref x1)] [] := by first | (simp [entryFrame, mkF, argsToLocals, Value.category]; done) | rfl
theorem pn_23 : plainName "java/lang/String" = true := by first | (simp [plainName, overriddenIn]; done) | decide +kernel
set_option maxRecDepth 65536 in
set_option maxHeartbeats 40000000 in
theorem rmSS (l : Launch) (Z : State) (a0 : Array Value) (hw : ∀ d ∈ tables_1, d.before a0 Z = true) (ws : List Jvm.Cond) (sb vb xs : Addr) (kv : ClassId) (ys : List Int32) (z : Int32) (h0 : Heap) (n0 : Nat) (O0 : Old Z n0 h0) (Eb : Exa Z h0 sb "java/lang/StringBuilder") (Vb : Fld Z h0 sb "java/lang/AbstractStringBuilder" "value" "[B" (.ref vb)) (Cb : Fld Z h0 sb "java/lang/AbstractStringBuilder" "coder" "B" (.int (0 : Int32))) (Nb : Fld Z h0 sb "java/lang/AbstractStringBuilder" "count" "I" (.int (Int32.ofNat (ys).length))) (Kb : Arv Z h0 vb kv .byte (Int32.ofNat 16) (((ys).map StrChars.lo8).map Value.int) (.int 0)) (SC : Sta Z Z.heap "java/lang/String" "COMPACT_STRINGS" "Z" (.int z)) (hz : ¬ z = 0) (hc : ys.length < 16) (gx : n0 ≤ xs) (Ex : Exa Z h0 xs "java/lang/String") (Fv : Fld Z h0 xs "java/lang/String" "value" "[B" .null) (Fc : Fld Z h0 xs "java/lang/String" "coder" "B" (.int (0 : Int32))) (hxv : vb ≠ xs) (hxs : sb ≠ xs) :
    MetFree l (⟨"java/lang/String", "<init>", "(Ljava/lang/StringBuilder;)V"⟩ : MethodName) (head1 (Jvm.Cond.code (⟨"java/lang/String", "<init>", "(Ljava/lang/StringBuilder;)V"⟩ : MethodName) jdk_42_method_53_code 2 none :: ws) ({ frames := 4, cells := 1, slots := 16, locals := 65 } : Room)) (fun qq U => qq = #[(.ref xs), (.ref sb)] ∧ Z.Warmed39 U.vm ∧ U.heap = h0) (fun _ _ _ _ _ => True) (fun _ UU oo UU' => ∃ vv LL, oo = .returned vv ∧ Qd12 Z sb vb xs kv ys z h0 n0 vv UU'.heap LL ∧ FrameEnd UU oo UU' LL ({ frames := 4, cells := 1, slots := 16, locals := 65 } : Room).cells ({ frames := 4, cells := 1, slots := 16, locals := 65 } : Room).slots) := by
  refine MetFree.of_bodySF (plainFor_of_name pn_23) hisR ?_
  intro p e s m args below meth c s₁ Bd hml0 hP hK
  obtain ⟨rfl, hZ, hh⟩ := hP
  have hx := Bd.exec
  have hby := Bd.bytes
  have hml : c.maxLocals = 2 := hml0
  have hown : s.vm.findClass "java/lang/String" = some m.cls := findClass_of_methodNamed Bd.named
  have hnm := (name_of_methodNamed Bd.named Bd.method).1
  have X0 : Stand p l e ({ frames := 4, cells := 1, slots := 16, locals := 65 } : Room) s m #[(.ref xs), (.ref sb)] below meth c s₁ [] 0 0 := Stand.of_body Bd
  have e0 : s₁.heap = h0 := by rw [← hh, Bd.state]; rfl
  have N0 := Fr.nil n0
  have pre0 : ∀ tgt, Steps p.tables e below (s₁.setTop (mkF m 0 #[.val (.ref xs), .val (.ref sb)] [])) tgt → Steps p.tables e below (s₁.setTop (entryFrame m #[(.ref xs), (.ref sb)] 2)) tgt := fun tt kk => castTop (ef_23 m xs sb) kk
  obtain ⟨_, _, ⟨T1, L1, k1, n1⟩, -, X1, ⟨Lc1, hQ1, l1, y1, z1⟩, st1⟩ := X0.specialBack hx (y := (⟨"java/lang/String", "<init>", "(Ljava/lang/AbstractStringBuilder;Ljava/lang/Void;)V"⟩ : MethodName)) rfl hown (mvT hZ (ww hw 139 rfl)) (mvT hZ (ww hw 140 rfl)) (mvT hZ (ww hw 141 rfl)) (by decide) (backOf (W := 0) (rmSA l Z a0 hw [] sb vb xs kv ys z h0 n0 O0 Eb Vb Cb Nb Kb SC hz hc gx Ex Fv Fc hxv hxs) hZ (ww hw 141 rfl) (ww hw 6 rfl) (by decide) (by decide)) (g := (mkF m 3 #[.val (.ref xs), .val (.ref sb)] [.null, (.ref sb), (.ref xs)])) rfl (by rw [hml]; rfl) (Steps.refl _) (a := xs) (argsL := [(.ref sb), .null]) (rest := []) (lenOf own_pd12 rfl) rfl (by show 2 * 0 + _ ≤ _; exact Nat.le_of_eq rfl) (hb hby d23_3) (fun _ _ => ⟨rfl, e0, (by decide : 0 + 1 ≤ _), (by decide : 0 + 16 ≤ _)⟩)
  dsimp only [Pt.U, Pt.locs, Pt.cells, Pt.slots] at X1 l1 y1 z1 st1 hQ1
  subst l1 y1 z1
  obtain ⟨nb, kn, rfl, N1q, KK1, szn, fE, fV, fC, fK⟩ := hQ1
  have N1 := Fr.app N0 N1q
  have O1 := Old.keep O0 KK1 (allS gx all0)
  have K1 := Keep.trans (Keep.refl h0 [xs]) KK1 (allS (Or.inl (List.mem_of_getElem? (i := 0) rfl)) all0)
  obtain ⟨fs, hr, hrun, hended, hW, hsame⟩ := X1.leave (v := none) (fun _ => rfl)
  refine ⟨_, _, pre0 _ ?_, hrun, hended, _, _, rfl, ?_, ⟨_, rfl⟩, hW, hsame.mono (by decide) (by decide)⟩
  · show Steps p.tables e below (s₁.setTop (mkF m 0 #[.val (.ref xs), .val (.ref sb)] [])) _
    refine XS.aloadN X0.here hx rfl (hb hby d23_0) rfl rfl ?_
    show Steps p.tables e below (s₁.setTop (mkF m 1 #[.val (.ref xs), .val (.ref sb)] [(.ref xs)])) _
    refine XS.aloadN X0.here hx rfl (hb hby d23_1) rfl rfl ?_
    show Steps p.tables e below (s₁.setTop (mkF m 2 #[.val (.ref xs), .val (.ref sb)] [(.ref sb), (.ref xs)])) _
    refine XS.aconstNull X0.here hx rfl (hb hby d23_2) ?_
    show Steps p.tables e below (s₁.setTop (mkF m 3 #[.val (.ref xs), .val (.ref sb)] [.null, (.ref sb), (.ref xs)])) _
    refine st1.trans ?_
    show Steps p.tables e below (T1.setTop (mkF m 6 #[.val (.ref xs), .val (.ref sb)] [])) _
    exact X1.returnOut hx Bd.returns (hb hby d23_6) hr
  · show Qd12 Z sb vb xs kv ys z h0 n0 _ T1.heap _
    exact ⟨nb, kn, rfl, N1, K1, szn, fE, fV, fC, fK⟩
theorem d22_0 : decode jdk_67_method_42_code 0 = .ok (.new 18, 3) := by decide +kernel
theorem d22_3 : decode jdk_67_method_42_code 3 = .ok (.dup, 1) := by decide +kernel
theorem d22_4 : decode jdk_67_method_42_code 4 = .ok (.aload_n 0, 1) := by decide +kernel
theorem d22_5 : decode jdk_67_method_42_code 5 = .ok (.invokespecial 137, 3) := by decide +kernel
theorem own_pd13 : parseMethodDescriptor "(Ljava/lang/StringBuilder;)V" = some ⟨[(.object "java/lang/StringBuilder")], none⟩ := by decide +kernel
theorem d22_8 : decode jdk_67_method_42_code 8 = .ok (.areturn, 1) := by decide +kernel
theorem ef_22 (m : MethodId) (x0 : Addr) : entryFrame m #[(.ref x0)] 1 = mkF m 0 #[.val (.ref x0)] [] := by first | (simp [entryFrame, mkF, argsToLocals, Value.category]; done) | rfl
theorem pn_22 : plainName "java/lang/StringBuilder" = true := by first | (simp [plainName, overriddenIn]; done) | decide +kernel
def Qd13 (Z : State) (sb vb : Addr) (kv : ClassId) (ys : List Int32) (z : Int32) (h0 : Heap) (n0 : Nat) (v : Option Value) (h : Heap) (L : List Loc) : Prop := ∃ xs nb kn, v = some (.ref xs) ∧ Fr n0 L ∧ Keep h0 h [] ∧ h0.size ≤ nb ∧ Exa Z h xs "java/lang/String" ∧ Fld Z h xs "java/lang/String" "value" "[B" (.ref nb) ∧ Fld Z h xs "java/lang/String" "coder" "B" (.int 0) ∧ Arv Z h nb kn .byte (Int32.ofNat (ys).length) (((ys).map StrChars.lo8).map Value.int) (.int 0)
set_option maxRecDepth 65536 in
set_option maxHeartbeats 40000000 in
theorem rmTS (l : Launch) (Z : State) (a0 : Array Value) (hw : ∀ d ∈ tables_1, d.before a0 Z = true) (ws : List Jvm.Cond) (sb vb : Addr) (kv : ClassId) (ys : List Int32) (z : Int32) (h0 : Heap) (n0 : Nat) (O0 : Old Z n0 h0) (Eb : Exa Z h0 sb "java/lang/StringBuilder") (Vb : Fld Z h0 sb "java/lang/AbstractStringBuilder" "value" "[B" (.ref vb)) (Cb : Fld Z h0 sb "java/lang/AbstractStringBuilder" "coder" "B" (.int (0 : Int32))) (Nb : Fld Z h0 sb "java/lang/AbstractStringBuilder" "count" "I" (.int (Int32.ofNat (ys).length))) (Kb : Arv Z h0 vb kv .byte (Int32.ofNat 16) (((ys).map StrChars.lo8).map Value.int) (.int 0)) (SC : Sta Z Z.heap "java/lang/String" "COMPACT_STRINGS" "Z" (.int z)) (hz : ¬ z = 0) (hc : ys.length < 16) :
    MetFree l (⟨"java/lang/StringBuilder", "toString", "()Ljava/lang/String;"⟩ : MethodName) (head1 (Jvm.Cond.code (⟨"java/lang/StringBuilder", "toString", "()Ljava/lang/String;"⟩ : MethodName) jdk_67_method_42_code 1 (some (.object "java/lang/String")) :: ws) ({ frames := 5, cells := 2, slots := 20, locals := 79 } : Room)) (fun qq U => qq = #[(.ref sb)] ∧ Z.Warmed39 U.vm ∧ U.heap = h0) (fun _ _ _ _ _ => True) (fun _ UU oo UU' => ∃ vv LL, oo = .returned vv ∧ Qd13 Z sb vb kv ys z h0 n0 vv UU'.heap LL ∧ FrameEnd UU oo UU' LL ({ frames := 5, cells := 2, slots := 20, locals := 79 } : Room).cells ({ frames := 5, cells := 2, slots := 20, locals := 79 } : Room).slots) := by
  refine MetFree.of_bodySF (plainFor_of_name pn_22) hisR ?_
  intro p e s m args below meth c s₁ Bd hml0 hP hK
  obtain ⟨rfl, hZ, hh⟩ := hP
  have hx := Bd.exec
  have hby := Bd.bytes
  have hml : c.maxLocals = 1 := hml0
  have hown : s.vm.findClass "java/lang/StringBuilder" = some m.cls := findClass_of_methodNamed Bd.named
  have hnm := (name_of_methodNamed Bd.named Bd.method).1
  have X0 : Stand p l e ({ frames := 5, cells := 2, slots := 20, locals := 79 } : Room) s m #[(.ref sb)] below meth c s₁ [] 0 0 := Stand.of_body Bd
  have e0 : s₁.heap = h0 := by rw [← hh, Bd.state]; rfl
  have N0 := Fr.nil n0
  have pre0 : ∀ tgt, Steps p.tables e below (s₁.setTop (mkF m 0 #[.val (.ref sb)] [])) tgt → Steps p.tables e below (s₁.setTop (entryFrame m #[(.ref sb)] 1)) tgt := fun tt kk => castTop (ef_22 m sb) kk
  obtain ⟨T1, h1, X1, e1, E1, A1, D1, -, st1⟩ := newO X0 hx hZ hown (ww hw 135 rfl) (ww hw 5 rfl) (ww hw 6 rfl) e0 (g := (mkF m 0 #[.val (.ref sb)] [])) rfl (hb hby d22_0) (by decide) (by decide)
  obtain ⟨b1, q1⟩ : ∃ z, z = h0.size := ⟨_, rfl⟩
  rw [← q1] at A1 D1 st1
  have g_b1 : n0 ≤ b1 := by rw [q1]; exact (O0).1 ▸ (O0).2.1
  have ne_sb_b1 : sb ≠ b1 := by rw [q1]; exact Nat.ne_of_lt Eb.lt
  have ne_vb_b1 : vb ≠ b1 := by rw [q1]; exact Nat.ne_of_lt Kb.lt
  have sz_b1 : h0.size ≤ b1 := by rw [q1]; exact ((Keep.refl h0 [])).1
  have O1 := Old.ext O0 E1
  have K1 := Keep.ext (Keep.refl h0 []) E1
  have F1_coder : Fld Z h1 b1 "java/lang/String" "coder" "B" (.int (0 : Int32)) := D1 (Or.inr (ww hw 31 rfl)) (ty := .byte) (by decide)
  have F1_value : Fld Z h1 b1 "java/lang/String" "value" "[B" .null := D1 (Or.inr (ww hw 33 rfl)) (ty := (.array .byte)) (by decide)
  obtain ⟨_, _, ⟨T2, L2, k2, n2⟩, -, X2, ⟨Lc2, hQ2, l2, y2, z2⟩, st2⟩ := X1.specialBack hx (y := (⟨"java/lang/String", "<init>", "(Ljava/lang/StringBuilder;)V"⟩ : MethodName)) rfl hown (mvT hZ (ww hw 136 rfl)) (mvT hZ (ww hw 137 rfl)) (mvT hZ (ww hw 138 rfl)) (by decide) (backOf (W := 1) (rmSS l Z a0 hw [] sb vb b1 kv ys z h1 n0 O1 (Exa.ext E1 Eb) (Fld.ext E1 Vb) (Fld.ext E1 Cb) (Fld.ext E1 Nb) (Kb.ext E1) SC hz hc g_b1 A1 F1_value F1_coder ne_vb_b1 ne_sb_b1) hZ (ww hw 138 rfl) (ww hw 6 rfl) (by decide) (by decide)) (g := (mkF m 5 #[.val (.ref sb)] [(.ref sb), (.ref b1), (.ref b1)])) rfl (by rw [hml]; rfl) (Steps.refl _) (a := b1) (argsL := [(.ref sb)]) (rest := [(.ref b1)]) (lenOf own_pd13 rfl) rfl (by show 2 * 0 + _ ≤ _; exact Nat.le_of_eq rfl) (hb hby d22_5) (fun _ _ => ⟨rfl, e1, (by decide : 1 + 1 ≤ _), (by decide : 4 + 16 ≤ _)⟩)
  dsimp only [Pt.U, Pt.locs, Pt.cells, Pt.slots] at X2 l2 y2 z2 st2 hQ2
  subst l2 y2 z2
  obtain ⟨nb, kn, rfl, N2q, KK2, szn, fE, fV, fC, fK⟩ := hQ2
  have N2 := Fr.app N0 N2q
  have O2 := Old.keep O1 KK2 (allS g_b1 all0)
  have K2 := Keep.trans K1 KK2 (allS (Or.inr sz_b1) all0)
  have szT := Nat.le_trans (K1).1 szn
  obtain ⟨fs, hr, hrun, hended, hW, hsame⟩ := X2.leave (v := some (.ref b1)) (fun h => by rw [Bd.returns] at h; cases h)
  refine ⟨_, _, pre0 _ ?_, hrun, hended, _, _, rfl, ?_, ⟨_, rfl⟩, hW, hsame.mono (by decide) (by decide)⟩
  · show Steps p.tables e below (s₁.setTop (mkF m 0 #[.val (.ref sb)] [])) _
    refine st1 _ ?_
    show Steps p.tables e below (T1.setTop (mkF m 3 #[.val (.ref sb)] [(.ref b1)])) _
    refine XS.dup X1.here hx rfl (hb hby d22_3) rfl rfl ?_
    show Steps p.tables e below (T1.setTop (mkF m 4 #[.val (.ref sb)] [(.ref b1), (.ref b1)])) _
    refine XS.aloadN X1.here hx rfl (hb hby d22_4) rfl rfl ?_
    show Steps p.tables e below (T1.setTop (mkF m 5 #[.val (.ref sb)] [(.ref sb), (.ref b1), (.ref b1)])) _
    refine st2.trans ?_
    show Steps p.tables e below (T2.setTop (mkF m 8 #[.val (.ref sb)] [(.ref b1)])) _
    exact retOut X2 hx Bd.returns rfl (Or.inr (Or.inr (Or.inr (Or.inr ⟨rfl, rfl, rfl⟩)))) (hb hby d22_8) hr
  · show Qd13 Z sb vb kv ys z h0 n0 _ T2.heap _
    exact ⟨b1, nb, kn, rfl, N2, K2, szT, fE, fV, fC, fK⟩
theorem own_safeN {Z : State} {EL : List (String × Nat)} {vm : Vm} {h : Heap} {x : Addr} (hal : Z.vm.Alike vm) (E : Exa Z h x "java/lang/String") (F : Fld Z h x "java/lang/String" "value" "[B" .null) : Safe Z EL vm h x := fun B => by
  obtain ⟨pp, -, u, a, -, q, -, G, hy⟩ := B
  rcases hy with rfl | rfl
  · obtain ⟨cell, cf, k, i, f, f1, f2, -, -, -, -, f7⟩ := F
    cases (show h[q.sa]? = some q.sC from G.ha).symm.trans f1
    obtain ⟨cS, ⟨⟨-, -, -, ⟨cv, kv, iv, s4, -⟩, -, -, -, s8, -⟩, -⟩, -⟩ := G
    obtain ⟨kv', z4⟩ := ff_back (U := Wst Z vm h) hal s4
    cases f2.symm.trans z4
    cases f7.symm.trans s8
  · obtain ⟨cell, k, e1, e2, -⟩ := E
    cases (show h[q.sd]? = some q.SA from G.hd).symm.trans e1
    obtain ⟨cS, -, -, f, -⟩ := G
    have f' : Z.vm.findClass "[B" = some q.SA.cls := by rw [← hal.findClass]; exact f
    exact ids_ne f' e2 (by decide) rfl

theorem d3_0 : decode jdk_42_method_149_code 0 = .ok (.aload_n 0, 1) := by decide +kernel
theorem d3_1 : decode jdk_42_method_149_code 1 = .ok (.invokespecial 1, 3) := by decide +kernel
theorem d3_4 : decode jdk_42_method_149_code 4 = .ok (.iload_n 3, 1) := by decide +kernel
theorem d3_5 : decode jdk_42_method_149_code 5 = .ok (.ifCond .ne 22, 3) := by decide +kernel
theorem d3_8 : decode jdk_42_method_149_code 8 = .ok (.aload_n 0, 1) := by decide +kernel
theorem d3_9 : decode jdk_42_method_149_code 9 = .ok (.ldc 7, 2) := by decide +kernel
theorem d3_11 : decode jdk_42_method_149_code 11 = .ok (.getfield 9, 3) := by decide +kernel
theorem d3_14 : decode jdk_42_method_149_code 14 = .ok (.putfield 9, 3) := by decide +kernel
theorem d3_17 : decode jdk_42_method_149_code 17 = .ok (.aload_n 0, 1) := by decide +kernel
theorem d3_18 : decode jdk_42_method_149_code 18 = .ok (.ldc 7, 2) := by decide +kernel
theorem d3_20 : decode jdk_42_method_149_code 20 = .ok (.getfield 15, 3) := by decide +kernel
theorem d3_23 : decode jdk_42_method_149_code 23 = .ok (.putfield 15, 3) := by decide +kernel
theorem d3_26 : decode jdk_42_method_149_code 26 = .ok (.return_, 1) := by decide +kernel
theorem ef_3n (m : MethodId) (x0 : Addr) (x1 : Addr) (x2 : Int32) (x3 : Int32) : entryFrame m #[(.ref x0), (.ref x1), (.int x2), (.int x3), .null] 6 = mkF m 0 #[.val (.ref x0), .val (.ref x1), .val (.int x2), .val (.int x3), .val .null, .unset] [] := by first | (simp [entryFrame, mkF, argsToLocals, Value.category]; done) | rfl
theorem pn_3 : plainName "java/lang/String" = true := by first | (simp [plainName, overriddenIn]; done) | decide +kernel
def Qd14 (Z : State) (xs ca : Addr) (h0 : Heap) (n0 : Nat) (v : Option Value) (h : Heap) (L : List Loc) : Prop := ∃ tt kb, v = none ∧ Fr n0 L ∧ Keep h0 h [xs] ∧ Exa Z h xs "java/lang/String" ∧ Fld Z h xs "java/lang/String" "value" "[B" (.ref tt) ∧ Fld Z h xs "java/lang/String" "coder" "B" (.int 0) ∧ Arv Z h tt kb .byte (Int32.ofNat (([] : List Int32)).length) (((([] : List Int32)).map StrChars.lo8).map Value.int) (.int 0)
set_option maxRecDepth 65536 in
set_option maxHeartbeats 40000000 in
theorem rmI0 (l : Launch) (Z : State) (a0 : Array Value) (hw : ∀ d ∈ tables_1, d.before a0 Z = true) (ws : List Jvm.Cond) (xs ca : Addr) (h0 : Heap) (n0 : Nat) (O0 : Old Z n0 h0) (gx : n0 ≤ xs) (Ex : Exa Z h0 xs "java/lang/String") (Fv : Fld Z h0 xs "java/lang/String" "value" "[B" .null) (Fc : Fld Z h0 xs "java/lang/String" "coder" "B" (.int (0 : Int32))) :
    MetFree l (⟨"java/lang/String", "<init>", "([CIILjava/lang/Void;)V"⟩ : MethodName) (head1 (Jvm.Cond.code (⟨"java/lang/String", "<init>", "([CIILjava/lang/Void;)V"⟩ : MethodName) jdk_42_method_149_code 6 none :: ws) ({ frames := 1, cells := 4, slots := 8, locals := 12 } : Room)) (fun qq U => qq = #[(.ref xs), (.ref ca), (.int (0 : Int32)), (.int (0 : Int32)), .null] ∧ Z.Warmed39 U.vm ∧ U.heap = h0 ∧ CHv Z consts_1 U.vm h0) (fun _ _ _ _ _ => True) (fun _ UU oo UU' => ∃ vv LL, oo = .returned vv ∧ Qd14 Z xs ca h0 n0 vv UU'.heap LL ∧ CHr Z consts_1 UU.vm UU.heap UU'.vm UU'.heap ∧ ReturnedEndW UU oo UU' LL ({ frames := 1, cells := 4, slots := 8, locals := 12 } : Room).cells ({ frames := 1, cells := 4, slots := 8, locals := 12 } : Room).slots) := by
  refine MetFree.of_bodySF (plainFor_of_name pn_3) hisR ?_
  intro p e s m args below meth c s₁ Bd hml0 hP hK
  obtain ⟨rfl, hZ, hh, hC0⟩ := hP
  have hZ : Z.Warmed39 (s.setVm s.vm).vm := hZ
  have CR0 := CHr.refl hC0
  have hx := Bd.exec
  have hby := Bd.bytes
  have hml : c.maxLocals = 6 := hml0
  have hown : (s.setVm s.vm).vm.findClass "java/lang/String" = some m.cls := findClass_of_methodNamed Bd.named
  have hnm := (name_of_methodNamed Bd.named Bd.method).1
  have X0 : Stand p l e ({ frames := 1, cells := 4, slots := 8, locals := 12 } : Room) (s.setVm s.vm) m #[(.ref xs), (.ref ca), (.int (0 : Int32)), (.int (0 : Int32)), .null] below meth c s₁ [] 0 0 := Stand.of_body Bd
  have e0 : s₁.heap = h0 := by rw [← hh, Bd.state]; rfl
  have N0 := Fr.nil n0
  have pre0 : ∀ tgt, Steps p.tables e below (s₁.setTop (mkF m 0 #[.val (.ref xs), .val (.ref ca), .val (.int (0 : Int32)), .val (.int (0 : Int32)), .val .null, .unset] [])) tgt → Steps p.tables e below (s₁.setTop (entryFrame m #[(.ref xs), (.ref ca), (.int (0 : Int32)), (.int (0 : Int32)), .null] 6)) tgt := fun tt kk => castTop (ef_3n m xs ca (0 : Int32) (0 : Int32)) kk
  have SX0 := own_safeN (EL := consts_1) hZ.alike Ex Fv
  obtain ⟨T1, X1, e1, st1⟩ := initO X0 hx hZ hown (ww hw 15 rfl) (ww hw 16 rfl) (ww hw 17 rfl) e0 (g := (mkF m 1 #[.val (.ref xs), .val (.ref ca), .val (.int (0 : Int32)), .val (.int (0 : Int32)), .val .null, .unset] [(.ref xs)])) rfl (by rw [hml]; rfl) rfl (hb hby d3_1) (by decide) (W := 0) (by show 2 * 0 + _ ≤ _; exact Nat.le_of_eq rfl) (by decide)
  obtain ⟨a2, T2, h2, k2, b2, kc2, X2, e2, E2, S2, sw2, hZ2, hown2, Le2, Lc2, Lv2, La2, -, -, CC2, -, ns2, st2⟩ := ldcCH (s := s) (vm0 := s.vm) X1 hx hZ hown (ww hw 34 rfl) (own_atoms hw) e1 (State.WarmedH.since (State.WarmedH.refl s) 0) (Nat.zero_le _) (own_EW hw) (EL := consts_1) (List.mem_of_getElem? (i := 3) rfl) CR0.1 (vs := ((([] : List Int32).map StrChars.lo8).map Value.int)) (z := Int32.ofNat (([] : List Int32)).length) ⟨by decide +kernel, by decide +kernel⟩ (by decide +kernel) (by decide +kernel) (g := (mkF m 9 #[.val (.ref xs), .val (.ref ca), .val (.int (0 : Int32)), .val (.int (0 : Int32)), .val .null, .unset] [(.ref xs)])) rfl (hb hby d3_9) (n := 0) (by decide +kernel) (by decide) (by decide) (by decide)
  have SC2 := CC2
  have CR2 := CHr.trans CR0 SC2
  have SF2_xs := CHr.safe SC2 (Ex.lt) SX0
  have O2 := Old.ext O0 E2
  have K2 := Keep.ext (Keep.refl h0 [xs]) E2
  have neXB : xs ≠ b2 := Exa.neArv (Exa.ext E2 Ex) La2 (ww hw 5 rfl)
  obtain ⟨T3, X3, e3, st3⟩ := getF X2 hx hZ2 hown2 (host := "") (Or.inl (ww hw 32 rfl)) Via.refl e2 Lv2 (g := (mkF m 11 #[.val (.ref xs), .val (.ref ca), .val (.int (0 : Int32)), .val (.int (0 : Int32)), .val .null, .unset] [(.ref a2), (.ref xs)])) rfl rfl (hb hby d3_11)
  obtain ⟨T4, h4, X4, e4, W4, st4⟩ := putF X3 hx hZ2 hown2 (host := "") (Or.inl (ww hw 32 rfl)) Via.refl e3 (Fld.ext E2 Fv) (Exa.ext E2 Ex) (Or.inr ⟨(ww hw 33 rfl), rfl, hnm⟩) (ww hw 5 rfl) (ty := (.array .byte)) (by decide) rfl rfl (g := (mkF m 14 #[.val (.ref xs), .val (.ref ca), .val (.int (0 : Int32)), .val (.int (0 : Int32)), .val .null, .unset] [(.ref b2), (.ref xs)])) rfl rfl (hb hby d3_14)
  have Fw4 := Fld.same W4 (Fld.ext E2 Fv)
  have SC4 := CHr.wr W4 SF2_xs CR2.1
  have CR4 := CHr.trans CR2 SC4
  have SF4_xs := CHr.safe SC4 ((Exa.ext E2 Ex).lt) SF2_xs
  have sz4 := Nat.le_trans sw2 (Nat.le_of_eq W4.size.symm)
  have N4 := Fr.snoc X4 N0 gx
  have O4 := Old.wr O2 W4 gx
  have K4 := Keep.wr K2 W4 (Or.inl (List.mem_of_getElem? (i := 0) rfl))
  obtain ⟨a5, T5, h5, k5, b5, kc5, X5, e5, E5, S5, sw5, hZ5, hown5, Le5, Lc5, Lv5, La5, -, -, CC5, -, ns5, st5⟩ := ldcCH (s := s) (vm0 := T2.vm) X4 hx hZ2 hown2 (ww hw 34 rfl) (own_atoms hw) e4 S2 sz4 (own_EW hw) (EL := consts_1) (List.mem_of_getElem? (i := 3) rfl) CR4.1 (vs := ((([] : List Int32).map StrChars.lo8).map Value.int)) (z := Int32.ofNat (([] : List Int32)).length) ⟨by decide +kernel, by decide +kernel⟩ (by decide +kernel) (by decide +kernel) (g := (mkF m 18 #[.val (.ref xs), .val (.ref ca), .val (.int (0 : Int32)), .val (.int (0 : Int32)), .val .null, .unset] [(.ref xs)])) rfl (hb hby d3_18) (n := 0) (by decide +kernel) (by decide) (by decide) (by decide)
  have SC5 := CC5
  have CR5 := CHr.trans CR4 SC5
  have SF5_xs := CHr.safe SC5 ((Exa.wr W4 (Exa.ext E2 Ex)).lt) SF4_xs
  have O5 := Old.ext O4 E5
  have K5 := Keep.ext K4 E5
  obtain ⟨T6, X6, e6, st6⟩ := getF X5 hx hZ5 hown5 (host := "") (Or.inl (ww hw 30 rfl)) Via.refl e5 Lc5 (g := (mkF m 20 #[.val (.ref xs), .val (.ref ca), .val (.int (0 : Int32)), .val (.int (0 : Int32)), .val .null, .unset] [(.ref a5), (.ref xs)])) rfl rfl (hb hby d3_20)
  have c7 := (Fld.ext E5 (Fld.other W4 (Fld.ext E2 Fc) (Or.inr (slot_ne (a0 := a0) (Or.inr (ww hw 31 rfl)) (Or.inr (ww hw 33 rfl)) (by decide) (t := .byte) (t' := (.array .byte)) (by decide) (by decide)))))
  obtain ⟨T8, h8, X8, e8, W8, st8⟩ := putFN X6 hx hZ5 hown5 (ww hw 30 rfl) Via.refl e6 c7 (Exa.ext E5 (Exa.wr W4 (Exa.ext E2 Ex))) (Or.inr ⟨(ww hw 31 rfl), rfl, hnm⟩) (ww hw 5 rfl) (ty := .byte) (v' := (.int (0 : Int32))) (by decide) rfl rfl (g := (mkF m 23 #[.val (.ref xs), .val (.ref ca), .val (.int (0 : Int32)), .val (.int (0 : Int32)), .val .null, .unset] [(.int (0 : Int32)), (.ref xs)])) rfl rfl (hb hby d3_23)
  have Fw8 := Fld.same W8 c7
  have SC8 := CHr.wr W8 SF5_xs CR5.1
  have CR8 := CHr.trans CR5 SC8
  have SF8_xs := CHr.safe SC8 ((Exa.ext E5 (Exa.wr W4 (Exa.ext E2 Ex))).lt) SF5_xs
  have sz8 := Nat.le_trans sw5 (Nat.le_of_eq W8.size.symm)
  have N8 := Fr.snoc X8 N4 gx
  have O8 := Old.wr O5 W8 gx
  have K8 := Keep.wr K5 W8 (Or.inl (List.mem_of_getElem? (i := 0) rfl))
  have c9 := (Fld.other W8 (Fld.ext E5 Fw4) (Or.inr (slot_ne (a0 := a0) (Or.inr (ww hw 33 rfl)) (Or.inr (ww hw 31 rfl)) (by decide) (t := (.array .byte)) (t' := .byte) (by decide) (by decide))))
  have c10 := (((La2.other W4 (Ne.symm neXB)).ext E5).other W8 (Ne.symm neXB))
  obtain ⟨fs, hr, hrun, hended, hE⟩ := X8.leaveW (s := s) (vm₁ := T5.vm) S5 (by rw [e8]; exact sz8) (v := none) (fun _ => rfl)
  have CE : CHr Z consts_1 s.vm s.heap T8.vm T8.heap := by
    rw [hh, e8]
    exact CHr.trans CR8 (CHv.at X8 hZ5 (own_EW hw) CR8.1)
  refine ⟨_, _, pre0 _ ?_, hrun, hended, _, _, rfl, ?_, CE, hE.1, hE.2.1, hE.2.2.1, hE.2.2.2.mono (by decide) (by decide)⟩
  · show Steps p.tables e below (s₁.setTop (mkF m 0 #[.val (.ref xs), .val (.ref ca), .val (.int (0 : Int32)), .val (.int (0 : Int32)), .val .null, .unset] [])) _
    refine XS.aloadN X0.here hx rfl (hb hby d3_0) rfl rfl ?_
    show Steps p.tables e below (s₁.setTop (mkF m 1 #[.val (.ref xs), .val (.ref ca), .val (.int (0 : Int32)), .val (.int (0 : Int32)), .val .null, .unset] [(.ref xs)])) _
    refine st1 _ ?_
    show Steps p.tables e below (T1.setTop (mkF m 4 #[.val (.ref xs), .val (.ref ca), .val (.int (0 : Int32)), .val (.int (0 : Int32)), .val .null, .unset] [])) _
    refine XS.iloadN X1.here hx rfl (hb hby d3_4) rfl ?_
    show Steps p.tables e below (T1.setTop (mkF m 5 #[.val (.ref xs), .val (.ref ca), .val (.int (0 : Int32)), .val (.int (0 : Int32)), .val .null, .unset] [(.int (0 : Int32))])) _
    refine XS.ifNo X1.here hx rfl (hb hby d3_5) rfl ((if0 _ _).trans (teq (rfl : (0 : Int32) = (0 : Int32))).2) ?_
    show Steps p.tables e below (T1.setTop (mkF m 8 #[.val (.ref xs), .val (.ref ca), .val (.int (0 : Int32)), .val (.int (0 : Int32)), .val .null, .unset] [])) _
    refine XS.aloadN X1.here hx rfl (hb hby d3_8) rfl rfl ?_
    show Steps p.tables e below (T1.setTop (mkF m 9 #[.val (.ref xs), .val (.ref ca), .val (.int (0 : Int32)), .val (.int (0 : Int32)), .val .null, .unset] [(.ref xs)])) _
    refine st2 _ ?_
    show Steps p.tables e below (T2.setTop (mkF m 11 #[.val (.ref xs), .val (.ref ca), .val (.int (0 : Int32)), .val (.int (0 : Int32)), .val .null, .unset] [(.ref a2), (.ref xs)])) _
    refine st3 _ ?_
    show Steps p.tables e below (T3.setTop (mkF m 14 #[.val (.ref xs), .val (.ref ca), .val (.int (0 : Int32)), .val (.int (0 : Int32)), .val .null, .unset] [(.ref b2), (.ref xs)])) _
    refine st4 _ ?_
    show Steps p.tables e below (T4.setTop (mkF m 17 #[.val (.ref xs), .val (.ref ca), .val (.int (0 : Int32)), .val (.int (0 : Int32)), .val .null, .unset] [])) _
    refine XS.aloadN X4.here hx rfl (hb hby d3_17) rfl rfl ?_
    show Steps p.tables e below (T4.setTop (mkF m 18 #[.val (.ref xs), .val (.ref ca), .val (.int (0 : Int32)), .val (.int (0 : Int32)), .val .null, .unset] [(.ref xs)])) _
    refine st5 _ ?_
    show Steps p.tables e below (T5.setTop (mkF m 20 #[.val (.ref xs), .val (.ref ca), .val (.int (0 : Int32)), .val (.int (0 : Int32)), .val .null, .unset] [(.ref a5), (.ref xs)])) _
    refine st6 _ ?_
    show Steps p.tables e below (T6.setTop (mkF m 23 #[.val (.ref xs), .val (.ref ca), .val (.int (0 : Int32)), .val (.int (0 : Int32)), .val .null, .unset] [(.int (0 : Int32)), (.ref xs)])) _
    refine st8 _ ?_
    show Steps p.tables e below (T8.setTop (mkF m 26 #[.val (.ref xs), .val (.ref ca), .val (.int (0 : Int32)), .val (.int (0 : Int32)), .val .null, .unset] [])) _
    exact X8.returnOut hx Bd.returns (hb hby d3_26) hr
  · show Qd14 Z xs ca h0 n0 _ T8.heap _
    rw [e8]
    exact ⟨b2, kc2, rfl, N8, K8, (Exa.wr W8 (Exa.ext E5 (Exa.wr W4 (Exa.ext E2 Ex)))), c9, Fw8, c10⟩
theorem d2_0 : decode jdk_42_method_3_code 0 = .ok (.aload_n 0, 1) := by decide +kernel
theorem d2_1 : decode jdk_42_method_3_code 1 = .ok (.aload_n 1, 1) := by decide +kernel
theorem d2_2 : decode jdk_42_method_3_code 2 = .ok (.iconst 0, 1) := by decide +kernel
theorem d2_3 : decode jdk_42_method_3_code 3 = .ok (.aload_n 1, 1) := by decide +kernel
theorem d2_4 : decode jdk_42_method_3_code 4 = .ok (.arraylength, 1) := by decide +kernel
theorem d2_5 : decode jdk_42_method_3_code 5 = .ok (.aconst_null, 1) := by decide +kernel
theorem d2_6 : decode jdk_42_method_3_code 6 = .ok (.invokespecial 27, 3) := by decide +kernel
theorem own_pd14 : parseMethodDescriptor "([CIILjava/lang/Void;)V" = some ⟨[(.array .char), .int, .int, (.object "java/lang/Void")], none⟩ := by decide +kernel
theorem d2_9 : decode jdk_42_method_3_code 9 = .ok (.return_, 1) := by decide +kernel
theorem ef_2 (m : MethodId) (x0 : Addr) (x1 : Addr) : entryFrame m #[(.ref x0), (.ref x1)] 2 = mkF m 0 #[.val (.ref x0), .val (.ref x1)] [] := by first | (simp [entryFrame, mkF, argsToLocals, Value.category]; done) | rfl
theorem pn_2 : plainName "java/lang/String" = true := by first | (simp [plainName, overriddenIn]; done) | decide +kernel
def Qd15 (Z : State) (xs ca : Addr) (kC : ClassId) (h0 : Heap) (n0 : Nat) (v : Option Value) (h : Heap) (L : List Loc) : Prop := ∃ tt kb, v = none ∧ Fr n0 L ∧ Keep h0 h [xs] ∧ Exa Z h xs "java/lang/String" ∧ Fld Z h xs "java/lang/String" "value" "[B" (.ref tt) ∧ Fld Z h xs "java/lang/String" "coder" "B" (.int 0) ∧ Arv Z h tt kb .byte (Int32.ofNat (([] : List Int32)).length) (((([] : List Int32)).map StrChars.lo8).map Value.int) (.int 0)
set_option maxRecDepth 65536 in
set_option maxHeartbeats 40000000 in
theorem rmI (l : Launch) (Z : State) (a0 : Array Value) (hw : ∀ d ∈ tables_1, d.before a0 Z = true) (ws : List Jvm.Cond) (xs ca : Addr) (kC : ClassId) (h0 : Heap) (n0 : Nat) (O0 : Old Z n0 h0) (gx : n0 ≤ xs) (Ex : Exa Z h0 xs "java/lang/String") (Fv : Fld Z h0 xs "java/lang/String" "value" "[B" .null) (Fc : Fld Z h0 xs "java/lang/String" "coder" "B" (.int (0 : Int32))) (VC : Arv Z h0 ca kC .char (0 : Int32) [] (.int 0)) :
    MetFree l (⟨"java/lang/String", "<init>", "([C)V"⟩ : MethodName) (head1 (Jvm.Cond.code (⟨"java/lang/String", "<init>", "([C)V"⟩ : MethodName) jdk_42_method_3_code 2 none :: ws) ({ frames := 2, cells := 4, slots := 8, locals := 29 } : Room)) (fun qq U => qq = #[(.ref xs), (.ref ca)] ∧ Z.Warmed39 U.vm ∧ U.heap = h0 ∧ CHv Z consts_1 U.vm h0) (fun _ _ _ _ _ => True) (fun _ UU oo UU' => ∃ vv LL, oo = .returned vv ∧ Qd15 Z xs ca kC h0 n0 vv UU'.heap LL ∧ CHr Z consts_1 UU.vm UU.heap UU'.vm UU'.heap ∧ ReturnedEndW UU oo UU' LL ({ frames := 2, cells := 4, slots := 8, locals := 29 } : Room).cells ({ frames := 2, cells := 4, slots := 8, locals := 29 } : Room).slots) := by
  refine MetFree.of_bodySF (plainFor_of_name pn_2) hisR ?_
  intro p e s m args below meth c s₁ Bd hml0 hP hK
  obtain ⟨rfl, hZ, hh, hC0⟩ := hP
  have hZ : Z.Warmed39 (s.setVm s.vm).vm := hZ
  have CR0 := CHr.refl hC0
  have hx := Bd.exec
  have hby := Bd.bytes
  have hml : c.maxLocals = 2 := hml0
  have hown : (s.setVm s.vm).vm.findClass "java/lang/String" = some m.cls := findClass_of_methodNamed Bd.named
  have hnm := (name_of_methodNamed Bd.named Bd.method).1
  have X0 : Stand p l e ({ frames := 2, cells := 4, slots := 8, locals := 29 } : Room) (s.setVm s.vm) m #[(.ref xs), (.ref ca)] below meth c s₁ [] 0 0 := Stand.of_body Bd
  have e0 : s₁.heap = h0 := by rw [← hh, Bd.state]; rfl
  have N0 := Fr.nil n0
  have pre0 : ∀ tgt, Steps p.tables e below (s₁.setTop (mkF m 0 #[.val (.ref xs), .val (.ref ca)] [])) tgt → Steps p.tables e below (s₁.setTop (entryFrame m #[(.ref xs), (.ref ca)] 2)) tgt := fun tt kk => castTop (ef_2 m xs ca) kk
  obtain ⟨cl, Ar, qk, Sz, Mz, Hz, Uz⟩ := id VC
  obtain ⟨_, _, ⟨T1, L1, k1, n1⟩, -, X1, Sq1, gq1, ⟨Lc1, hQ1, l1, y1, z1, CC1⟩, st1⟩ := X0.specialBackS hx (y := (⟨"java/lang/String", "<init>", "([CIILjava/lang/Void;)V"⟩ : MethodName)) rfl hown (mvT hZ (ww hw 11 rfl)) (mvT hZ (ww hw 12 rfl)) (mvT hZ (ww hw 14 rfl)) (by decide) (backOfSH (W := 0) (rmI0 l Z a0 hw [] xs ca h0 n0 O0 gx Ex Fv Fc) hZ (ww hw 14 rfl) (ww hw 6 rfl) (by decide) (by decide) (own_EW hw) CR0.1) (g := (mkF m 6 #[.val (.ref xs), .val (.ref ca)] [.null, (.int (0 : Int32)), (.int (0 : Int32)), (.ref ca), (.ref xs)])) rfl (by rw [hml]; rfl) (Steps.refl _) (a := xs) (argsL := [(.ref ca), (.int (0 : Int32)), (.int (0 : Int32)), .null]) (rest := []) (lenOf own_pd14 rfl) rfl (by show 2 * 0 + _ ≤ _; exact Nat.le_of_eq rfl) (hb hby d2_6) (fun _ _ => ⟨rfl, e0, (by decide : 0 + 4 ≤ _), (by decide : 0 + 8 ≤ _)⟩)
  dsimp only [Pt.U, Pt.locs, Pt.cells, Pt.slots] at X1 l1 y1 z1 st1 hQ1 Sq1 gq1 CC1
  subst l1 y1 z1
  obtain ⟨X1, S1, hZ1, hown1⟩ := rebS (n1 := s₁.heap.size) (State.WarmedH.since (State.WarmedH.refl s) 0) (by rw [e0]; exact (Nat.zero_le _)) X1 Sq1 gq1 hZ hown
  obtain ⟨tt, kb, rfl, N1q, KK1, f1_0, f1_1, f1_2, f1_3⟩ := hQ1
  have N1 := Fr.app N0 N1q
  have SC1 := CC1
  have CR1 := CHr.trans CR0 SC1
  have O1 := Old.keep O0 KK1 (allS gx all0)
  have K1 := Keep.trans (Keep.refl h0 [xs]) KK1 (allS (Or.inl (List.mem_of_getElem? (i := 0) rfl)) all0)
  obtain ⟨fs, hr, hrun, hended, hE⟩ := X1.leaveW (s := s) (vm₁ := T1.vm) S1 ((Nat.le_refl _)) (v := none) (fun _ => rfl)
  have CE : CHr Z consts_1 s.vm s.heap T1.vm T1.heap := by
    rw [hh]
    exact CHr.trans CR1 (CHv.at X1 hZ1 (own_EW hw) CR1.1)
  refine ⟨_, _, pre0 _ ?_, hrun, hended, _, _, rfl, ?_, CE, hE.1, hE.2.1, hE.2.2.1, hE.2.2.2.mono (by decide) (by decide)⟩
  · show Steps p.tables e below (s₁.setTop (mkF m 0 #[.val (.ref xs), .val (.ref ca)] [])) _
    refine XS.aloadN X0.here hx rfl (hb hby d2_0) rfl rfl ?_
    show Steps p.tables e below (s₁.setTop (mkF m 1 #[.val (.ref xs), .val (.ref ca)] [(.ref xs)])) _
    refine XS.aloadN X0.here hx rfl (hb hby d2_1) rfl rfl ?_
    show Steps p.tables e below (s₁.setTop (mkF m 2 #[.val (.ref xs), .val (.ref ca)] [(.ref ca), (.ref xs)])) _
    refine XS.iconst X0.here hx rfl (hb hby d2_2) ?_
    show Steps p.tables e below (s₁.setTop (mkF m 3 #[.val (.ref xs), .val (.ref ca)] [(.int (0 : Int32)), (.ref ca), (.ref xs)])) _
    refine XS.aloadN X0.here hx rfl (hb hby d2_3) rfl rfl ?_
    show Steps p.tables e below (s₁.setTop (mkF m 4 #[.val (.ref xs), .val (.ref ca)] [(.ref ca), (.int (0 : Int32)), (.ref ca), (.ref xs)])) _
    refine X0.arraylength hx (by rw [e0]; exact Ar.1) (State.isArrayOf_alike hZ.alike Ar.2.1) (g := (mkF m 4 #[.val (.ref xs), .val (.ref ca)] [(.ref ca), (.int (0 : Int32)), (.ref ca), (.ref xs)])) rfl rfl (hb hby d2_4) _ ?_
    rw [len_of Sz Mz]
    show Steps p.tables e below (s₁.setTop (mkF m 5 #[.val (.ref xs), .val (.ref ca)] [(.int (0 : Int32)), (.int (0 : Int32)), (.ref ca), (.ref xs)])) _
    refine XS.aconstNull X0.here hx rfl (hb hby d2_5) ?_
    show Steps p.tables e below (s₁.setTop (mkF m 6 #[.val (.ref xs), .val (.ref ca)] [.null, (.int (0 : Int32)), (.int (0 : Int32)), (.ref ca), (.ref xs)])) _
    refine st1.trans ?_
    show Steps p.tables e below (T1.setTop (mkF m 9 #[.val (.ref xs), .val (.ref ca)] [])) _
    exact X1.returnOut hx Bd.returns (hb hby d2_9) hr
  · show Qd15 Z xs ca kC h0 n0 _ T1.heap _
    exact ⟨tt, kb, rfl, N1, K1, f1_0, f1_1, f1_2, f1_3⟩
def own_mk (x c0 c1 : Int32) : List Int32 := if x = 0 then [] else if x = 1 then [c0] else [c0, c1]
abbrev own_ch (c : Int32) : Prop := nar .char c = c ∧ ¬ c < 0 ∧ ¬ (255 : Int32) < c
theorem own_chE (x : Int32) : own_ch ((x &&& (255 : Int32)).toUInt32.toUInt16.toUInt32.toInt32) := by
  have t : ∀ k : Fin 256, own_ch ((Int32.ofNat k.val).toUInt32.toUInt16.toUInt32.toInt32) := by decide +kernel
  have h : (x &&& 255).toBitVec.toNat < 256 := by
    simp only [Int32.toBitVec_and, BitVec.toNat_and]
    exact Nat.lt_succ_of_le Nat.and_le_right
  have e : (x &&& 255) = Int32.ofNat (x &&& 255).toBitVec.toNat := by
    apply Int32.toBitVec_inj.mp
    show _ = BitVec.ofNat 32 _
    rw [BitVec.ofNat_toNat]; simp
  rw [e]
  exact t ⟨_, h⟩

theorem d1_0 : decode method_3_code 0 = .ok (.iload_n 0, 1) := by decide +kernel
theorem d1_1 : decode method_3_code 1 = .ok (.ifCond .ne 14, 3) := by decide +kernel
theorem d1_4 : decode method_3_code 4 = .ok (.new 23, 3) := by decide +kernel
theorem d1_7 : decode method_3_code 7 = .ok (.dup, 1) := by decide +kernel
theorem d1_8 : decode method_3_code 8 = .ok (.iconst 0, 1) := by decide +kernel
theorem d1_9 : decode method_3_code 9 = .ok (.newarray .char, 2) := by decide +kernel
theorem d1_11 : decode method_3_code 11 = .ok (.invokespecial 32, 3) := by decide +kernel
theorem own_pd15 : parseMethodDescriptor "([C)V" = some ⟨[(.array .char)], none⟩ := by decide +kernel
theorem d1_14 : decode method_3_code 14 = .ok (.areturn, 1) := by decide +kernel
theorem ef_1 (m : MethodId) (x0 : Int32) (x1 : Int32) (x2 : Int32) : entryFrame m #[(.int x0), (.int x1), (.int x2)] 3 = mkF m 0 #[.val (.int x0), .val (.int x1), .val (.int x2)] [] := by first | (simp [entryFrame, mkF, argsToLocals, Value.category]; done) | rfl
theorem pn_1 : plainName "com/example/lendloop/lendloop/core/PatronRefToStringPinLaw" = true := by first | (simp [plainName, overriddenIn]; done) | decide +kernel
def Qd16 (Z : State) (nn c0 c1 z : Int32) (h0 : Heap) (n0 : Nat) (v : Option Value) (h : Heap) (L : List Loc) : Prop := ∃ xs tt kb, v = some (.ref xs) ∧ Fr n0 L ∧ Keep h0 h [] ∧ Exa Z h xs "java/lang/String" ∧ Fld Z h xs "java/lang/String" "value" "[B" (.ref tt) ∧ Fld Z h xs "java/lang/String" "coder" "B" (.int 0) ∧ Arv Z h tt kb .byte (Int32.ofNat (own_mk nn c0 c1).length) (((own_mk nn c0 c1).map StrChars.lo8).map Value.int) (.int 0)
set_option maxRecDepth 65536 in
set_option maxHeartbeats 40000000 in
theorem rmM0 (l : Launch) (Z : State) (a0 : Array Value) (hw : ∀ d ∈ tables_1, d.before a0 Z = true) (ws : List Jvm.Cond) (nn c0 c1 z : Int32) (h0 : Heap) (n0 : Nat) (O0 : Old Z n0 h0) (SC : Sta Z Z.heap "java/lang/String" "COMPACT_STRINGS" "Z" (.int z)) (hz : ¬ z = 0) (H0 : own_ch c0) (H1 : own_ch c1) (hc1 : nn = (0 : Int32)) :
    MetFree l (⟨"com/example/lendloop/lendloop/core/PatronRefToStringPinLaw", "mk", "(ICC)Ljava/lang/String;"⟩ : MethodName) (head1 (Jvm.Cond.code (⟨"com/example/lendloop/lendloop/core/PatronRefToStringPinLaw", "mk", "(ICC)Ljava/lang/String;"⟩ : MethodName) method_3_code 3 (some (.object "java/lang/String")) :: ws) ({ frames := 4, cells := 6, slots := 16, locals := 66 } : Room)) (fun qq U => qq = #[(.int nn), (.int c0), (.int c1)] ∧ Z.Warmed39 U.vm ∧ U.heap = h0 ∧ CHv Z consts_1 U.vm h0) (fun _ _ _ _ _ => True) (fun _ UU oo UU' => ∃ vv LL, oo = .returned vv ∧ Qd16 Z nn c0 c1 z h0 n0 vv UU'.heap LL ∧ CHr Z consts_1 UU.vm UU.heap UU'.vm UU'.heap ∧ ReturnedEndW UU oo UU' LL ({ frames := 4, cells := 6, slots := 16, locals := 66 } : Room).cells ({ frames := 4, cells := 6, slots := 16, locals := 66 } : Room).slots) := by
  refine MetFree.of_bodySF (plainFor_of_name pn_1) hisR ?_
  intro p e s m args below meth c s₁ Bd hml0 hP hK
  obtain ⟨rfl, hZ, hh, hC0⟩ := hP
  have hZ : Z.Warmed39 (s.setVm s.vm).vm := hZ
  have CR0 := CHr.refl hC0
  have hx := Bd.exec
  have hby := Bd.bytes
  have hml : c.maxLocals = 3 := hml0
  have hown : (s.setVm s.vm).vm.findClass "com/example/lendloop/lendloop/core/PatronRefToStringPinLaw" = some m.cls := findClass_of_methodNamed Bd.named
  have hnm := (name_of_methodNamed Bd.named Bd.method).1
  have X0 : Stand p l e ({ frames := 4, cells := 6, slots := 16, locals := 66 } : Room) (s.setVm s.vm) m #[(.int nn), (.int c0), (.int c1)] below meth c s₁ [] 0 0 := Stand.of_body Bd
  have e0 : s₁.heap = h0 := by rw [← hh, Bd.state]; rfl
  have N0 := Fr.nil n0
  have pre0 : ∀ tgt, Steps p.tables e below (s₁.setTop (mkF m 0 #[.val (.int nn), .val (.int c0), .val (.int c1)] [])) tgt → Steps p.tables e below (s₁.setTop (entryFrame m #[(.int nn), (.int c0), (.int c1)] 3)) tgt := fun tt kk => castTop (ef_1 m nn c0 c1) kk
  obtain ⟨T1, h1, X1, e1, E1, A1, D1, -, st1⟩ := newO X0 hx hZ hown (ww hw 4 rfl) (ww hw 5 rfl) (ww hw 6 rfl) e0 (g := (mkF m 4 #[.val (.int nn), .val (.int c0), .val (.int c1)] [])) rfl (hb hby d1_4) (by decide) (by decide)
  obtain ⟨b1, q1⟩ : ∃ z, z = h0.size := ⟨_, rfl⟩
  rw [← q1] at A1 D1 st1
  have g_b1 : n0 ≤ b1 := by rw [q1]; exact (O0).1 ▸ (O0).2.1
  have sz_b1 : h0.size ≤ b1 := by rw [q1]; exact ((Keep.refl h0 [])).1
  have SC1 := CHr.ext E1 CR0.1
  have CR1 := CHr.trans CR0 SC1
  have O1 := Old.ext O0 E1
  have K1 := Keep.ext (Keep.refl h0 []) E1
  have SN1 := Safe.ext E1 CR0.1 (Safe.new (Nat.le_of_eq q1.symm))
  have F1_coder : Fld Z h1 b1 "java/lang/String" "coder" "B" (.int (0 : Int32)) := D1 (Or.inr (ww hw 31 rfl)) (ty := .byte) (by decide)
  have F1_value : Fld Z h1 b1 "java/lang/String" "value" "[B" .null := D1 (Or.inr (ww hw 33 rfl)) (ty := (.array .byte)) (by decide)
  obtain ⟨T2, h2, k2, X2, e2, E2, A2, st2⟩ := newP X1 hx hZ (ww hw 7 rfl) e1 (g := (mkF m 9 #[.val (.int nn), .val (.int c0), .val (.int c1)] [(.int (0 : Int32)), (.ref b1), (.ref b1)])) rfl (hb hby d1_9) rfl (by decide) (cap := 0) (by decide) (by decide) (by decide) (by decide)
  obtain ⟨b2, q2⟩ : ∃ z, z = h1.size := ⟨_, rfl⟩
  rw [← q2] at A2 st2
  have g_b2 : n0 ≤ b2 := by rw [q2]; exact (O1).1 ▸ (O1).2.1
  have ne_b1_b2 : b1 ≠ b2 := by rw [q2]; exact Nat.ne_of_lt A1.lt
  have sz_b2 : h0.size ≤ b2 := by rw [q2]; exact (K1).1
  have SC2 := CHr.ext E2 CR1.1
  have CR2 := CHr.trans CR1 SC2
  have SF2_b1 := CHr.safe SC2 (A1.lt) SN1
  have O2 := Old.ext O1 E2
  have K2 := Keep.ext K1 E2
  have V2 : Arv Z h2 b2 k2 .char (0 : Int32) [] (.int (0 : Int32)) := Arv.new A2 (by decide)
  obtain ⟨_, _, ⟨T3, L3, k3, n3⟩, -, X3, Sq3, gq3, ⟨Lc3, hQ3, l3, y3, z3, CC3⟩, st3⟩ := X2.specialBackS hx (y := (⟨"java/lang/String", "<init>", "([C)V"⟩ : MethodName)) rfl hown (mvT hZ (ww hw 8 rfl)) (mvT hZ (ww hw 9 rfl)) (mvT hZ (ww hw 10 rfl)) (by decide) (backOfSH (W := 1) (rmI l Z a0 hw [] b1 b2 k2 h2 n0 O2 g_b1 (Exa.ext E2 A1) (Fld.ext E2 F1_value) (Fld.ext E2 F1_coder) V2) hZ (ww hw 10 rfl) (ww hw 6 rfl) (by decide) (by decide) (own_EW hw) CR2.1) (g := (mkF m 11 #[.val (.int nn), .val (.int c0), .val (.int c1)] [(.ref b2), (.ref b1), (.ref b1)])) rfl (by rw [hml]; rfl) (Steps.refl _) (a := b1) (argsL := [(.ref b2)]) (rest := [(.ref b1)]) (lenOf own_pd15 rfl) rfl (by show 2 * 0 + _ ≤ _; exact Nat.le_of_eq rfl) (hb hby d1_11) (fun _ _ => ⟨rfl, e2, (by decide : 2 + 4 ≤ _), (by decide : 4 + 8 ≤ _)⟩)
  dsimp only [Pt.U, Pt.locs, Pt.cells, Pt.slots] at X3 l3 y3 z3 st3 hQ3 Sq3 gq3 CC3
  subst l3 y3 z3
  obtain ⟨X3, S3, hZ3, hown3⟩ := rebS (n1 := T2.heap.size) (State.WarmedH.since (State.WarmedH.refl s) 0) (by rw [e2]; exact (Nat.zero_le _)) X3 Sq3 gq3 hZ hown
  obtain ⟨tt, kx, rfl, N3q, KK3, f3_0, f3_1, f3_2, f3_3⟩ := hQ3
  have N3 := Fr.app N0 N3q
  have SC3 := CC3
  have CR3 := CHr.trans CR2 SC3
  have SF3_b1 := CHr.safe SC3 ((Exa.ext E2 A1).lt) SF2_b1
  have O3 := Old.keep O2 KK3 (allS g_b1 all0)
  have K3 := Keep.trans K2 KK3 (allS (Or.inr sz_b1) all0)
  have hcs : own_mk nn c0 c1 = ([] : List Int32) := by unfold own_mk; rw [if_pos hc1]
  obtain ⟨fs, hr, hrun, hended, hE⟩ := X3.leaveW (s := s) (vm₁ := T3.vm) S3 ((Nat.le_refl _)) (v := some (.ref b1)) (fun h => by rw [Bd.returns] at h; cases h)
  have CE : CHr Z consts_1 s.vm s.heap T3.vm T3.heap := by
    rw [hh]
    exact CHr.trans CR3 (CHv.at X3 hZ3 (own_EW hw) CR3.1)
  refine ⟨_, _, pre0 _ ?_, hrun, hended, _, _, rfl, ?_, CE, hE.1, hE.2.1, hE.2.2.1, hE.2.2.2.mono (by decide) (by decide)⟩
  · show Steps p.tables e below (s₁.setTop (mkF m 0 #[.val (.int nn), .val (.int c0), .val (.int c1)] [])) _
    refine XS.iloadN X0.here hx rfl (hb hby d1_0) rfl ?_
    show Steps p.tables e below (s₁.setTop (mkF m 1 #[.val (.int nn), .val (.int c0), .val (.int c1)] [(.int nn)])) _
    refine XS.ifNo X0.here hx rfl (hb hby d1_1) rfl ((if0 _ _).trans (teq hc1).2) ?_
    show Steps p.tables e below (s₁.setTop (mkF m 4 #[.val (.int nn), .val (.int c0), .val (.int c1)] [])) _
    refine st1 _ ?_
    show Steps p.tables e below (T1.setTop (mkF m 7 #[.val (.int nn), .val (.int c0), .val (.int c1)] [(.ref b1)])) _
    refine XS.dup X1.here hx rfl (hb hby d1_7) rfl rfl ?_
    show Steps p.tables e below (T1.setTop (mkF m 8 #[.val (.int nn), .val (.int c0), .val (.int c1)] [(.ref b1), (.ref b1)])) _
    refine XS.iconst X1.here hx rfl (hb hby d1_8) ?_
    show Steps p.tables e below (T1.setTop (mkF m 9 #[.val (.int nn), .val (.int c0), .val (.int c1)] [(.int (0 : Int32)), (.ref b1), (.ref b1)])) _
    refine st2 _ ?_
    show Steps p.tables e below (T2.setTop (mkF m 11 #[.val (.int nn), .val (.int c0), .val (.int c1)] [(.ref b2), (.ref b1), (.ref b1)])) _
    refine st3.trans ?_
    show Steps p.tables e below (T3.setTop (mkF m 14 #[.val (.int nn), .val (.int c0), .val (.int c1)] [(.ref b1)])) _
    exact retOut X3 hx Bd.returns rfl (Or.inr (Or.inr (Or.inr (Or.inr ⟨rfl, rfl, rfl⟩)))) (hb hby d1_14) hr
  · show Qd16 Z nn c0 c1 z h0 n0 _ T3.heap _
    exact ⟨b1, tt, kx, rfl, N3, K3, f3_0, f3_1, f3_2, by rw [hcs]; exact f3_3⟩
theorem d1_15 : decode method_3_code 15 = .ok (.iload_n 0, 1) := by decide +kernel
theorem d1_16 : decode method_3_code 16 = .ok (.iconst 1, 1) := by decide +kernel
theorem d1_17 : decode method_3_code 17 = .ok (.if_icmp .ne 18, 3) := by decide +kernel
theorem d1_20 : decode method_3_code 20 = .ok (.new 23, 3) := by decide +kernel
theorem d1_23 : decode method_3_code 23 = .ok (.dup, 1) := by decide +kernel
theorem d1_24 : decode method_3_code 24 = .ok (.iconst 1, 1) := by decide +kernel
theorem d1_25 : decode method_3_code 25 = .ok (.newarray .char, 2) := by decide +kernel
theorem d1_27 : decode method_3_code 27 = .ok (.dup, 1) := by decide +kernel
theorem d1_28 : decode method_3_code 28 = .ok (.iconst 0, 1) := by decide +kernel
theorem d1_29 : decode method_3_code 29 = .ok (.iload_n 1, 1) := by decide +kernel
theorem d1_30 : decode method_3_code 30 = .ok (.castore, 1) := by decide +kernel
theorem d1_31 : decode method_3_code 31 = .ok (.invokespecial 32, 3) := by decide +kernel
theorem d1_34 : decode method_3_code 34 = .ok (.areturn, 1) := by decide +kernel
set_option maxRecDepth 65536 in
set_option maxHeartbeats 40000000 in
theorem rmM1 (l : Launch) (Z : State) (a0 : Array Value) (hw : ∀ d ∈ tables_1, d.before a0 Z = true) (ws : List Jvm.Cond) (nn c0 c1 z : Int32) (h0 : Heap) (n0 : Nat) (O0 : Old Z n0 h0) (SC : Sta Z Z.heap "java/lang/String" "COMPACT_STRINGS" "Z" (.int z)) (hz : ¬ z = 0) (H0 : own_ch c0) (H1 : own_ch c1) (hc1 : ¬ (nn = (0 : Int32))) (hc17 : nn = (1 : Int32)) :
    MetFree l (⟨"com/example/lendloop/lendloop/core/PatronRefToStringPinLaw", "mk", "(ICC)Ljava/lang/String;"⟩ : MethodName) (head1 (Jvm.Cond.code (⟨"com/example/lendloop/lendloop/core/PatronRefToStringPinLaw", "mk", "(ICC)Ljava/lang/String;"⟩ : MethodName) method_3_code 3 (some (.object "java/lang/String")) :: ws) ({ frames := 4, cells := 6, slots := 16, locals := 66 } : Room)) (fun qq U => qq = #[(.int nn), (.int c0), (.int c1)] ∧ Z.Warmed39 U.vm ∧ U.heap = h0 ∧ CHv Z consts_1 U.vm h0) (fun _ _ _ _ _ => True) (fun _ UU oo UU' => ∃ vv LL, oo = .returned vv ∧ Qd16 Z nn c0 c1 z h0 n0 vv UU'.heap LL ∧ CHr Z consts_1 UU.vm UU.heap UU'.vm UU'.heap ∧ ReturnedEndW UU oo UU' LL ({ frames := 4, cells := 6, slots := 16, locals := 66 } : Room).cells ({ frames := 4, cells := 6, slots := 16, locals := 66 } : Room).slots) := by
  refine MetFree.of_bodySF (plainFor_of_name pn_1) hisR ?_
  intro p e s m args below meth c s₁ Bd hml0 hP hK
  obtain ⟨rfl, hZ, hh, hC0⟩ := hP
  have hZ : Z.Warmed39 (s.setVm s.vm).vm := hZ
  have CR0 := CHr.refl hC0
  have hx := Bd.exec
  have hby := Bd.bytes
  have hml : c.maxLocals = 3 := hml0
  have hown : (s.setVm s.vm).vm.findClass "com/example/lendloop/lendloop/core/PatronRefToStringPinLaw" = some m.cls := findClass_of_methodNamed Bd.named
  have hnm := (name_of_methodNamed Bd.named Bd.method).1
  have X0 : Stand p l e ({ frames := 4, cells := 6, slots := 16, locals := 66 } : Room) (s.setVm s.vm) m #[(.int nn), (.int c0), (.int c1)] below meth c s₁ [] 0 0 := Stand.of_body Bd
  have e0 : s₁.heap = h0 := by rw [← hh, Bd.state]; rfl
  have N0 := Fr.nil n0
  have pre0 : ∀ tgt, Steps p.tables e below (s₁.setTop (mkF m 0 #[.val (.int nn), .val (.int c0), .val (.int c1)] [])) tgt → Steps p.tables e below (s₁.setTop (entryFrame m #[(.int nn), (.int c0), (.int c1)] 3)) tgt := fun tt kk => castTop (ef_1 m nn c0 c1) kk
  obtain ⟨T1, h1, X1, e1, E1, A1, D1, -, st1⟩ := newO X0 hx hZ hown (ww hw 4 rfl) (ww hw 5 rfl) (ww hw 6 rfl) e0 (g := (mkF m 20 #[.val (.int nn), .val (.int c0), .val (.int c1)] [])) rfl (hb hby d1_20) (by decide) (by decide)
  obtain ⟨b1, q1⟩ : ∃ z, z = h0.size := ⟨_, rfl⟩
  rw [← q1] at A1 D1 st1
  have g_b1 : n0 ≤ b1 := by rw [q1]; exact (O0).1 ▸ (O0).2.1
  have sz_b1 : h0.size ≤ b1 := by rw [q1]; exact ((Keep.refl h0 [])).1
  have SC1 := CHr.ext E1 CR0.1
  have CR1 := CHr.trans CR0 SC1
  have O1 := Old.ext O0 E1
  have K1 := Keep.ext (Keep.refl h0 []) E1
  have SN1 := Safe.ext E1 CR0.1 (Safe.new (Nat.le_of_eq q1.symm))
  have F1_coder : Fld Z h1 b1 "java/lang/String" "coder" "B" (.int (0 : Int32)) := D1 (Or.inr (ww hw 31 rfl)) (ty := .byte) (by decide)
  have F1_value : Fld Z h1 b1 "java/lang/String" "value" "[B" .null := D1 (Or.inr (ww hw 33 rfl)) (ty := (.array .byte)) (by decide)
  obtain ⟨T2, h2, k2, X2, e2, E2, A2, st2⟩ := newP X1 hx hZ (ww hw 7 rfl) e1 (g := (mkF m 25 #[.val (.int nn), .val (.int c0), .val (.int c1)] [(.int (1 : Int32)), (.ref b1), (.ref b1)])) rfl (hb hby d1_25) rfl (by decide) (cap := 1) (by decide) (by decide) (by decide) (by decide)
  obtain ⟨b2, q2⟩ : ∃ z, z = h1.size := ⟨_, rfl⟩
  rw [← q2] at A2 st2
  have g_b2 : n0 ≤ b2 := by rw [q2]; exact (O1).1 ▸ (O1).2.1
  have ne_b1_b2 : b1 ≠ b2 := by rw [q2]; exact Nat.ne_of_lt A1.lt
  have sz_b2 : h0.size ≤ b2 := by rw [q2]; exact (K1).1
  have SC2 := CHr.ext E2 CR1.1
  have CR2 := CHr.trans CR1 SC2
  have SF2_b1 := CHr.safe SC2 (A1.lt) SN1
  have O2 := Old.ext O1 E2
  have K2 := Keep.ext K1 E2
  have V2 : Arv Z h2 b2 k2 .char (1 : Int32) [] (.int (0 : Int32)) := Arv.new A2 (by decide)
  obtain ⟨T3, h3, X3, e3, W3, V3, st3⟩ := own_putC X2 hx hZ e2 V2 (j := (0 : Int32)) rfl (by decide) (Nat.le_of_ble_eq_true rfl) (g := (mkF m 30 #[.val (.int nn), .val (.int c0), .val (.int c1)] [(.int c0), (.int (0 : Int32)), (.ref b2), (.ref b2), (.ref b1), (.ref b1)])) rfl rfl (hb hby d1_30)
  have SC3 := CHr.wr W3 (Safe.arv hZ.alike V2 (by decide)) CR2.1
  have CR3 := CHr.trans CR2 SC3
  have SF3_b1 := CHr.safe SC3 ((Exa.ext E2 A1).lt) SF2_b1
  have N3 := Fr.snoc X3 N0 g_b2
  have O3 := Old.wr O2 W3 g_b2
  have K3 := Keep.wr K2 W3 (Or.inr sz_b2)
  have Vq : Arv Z h3 b2 k2 .char (1 : Int32) (([c0] : List Int32).map Value.int) (.int 0) := by
    have q := V3
    rw [H0.1] at q
    exact q
  have hp : ∀ c ∈ ([c0] : List Int32), ¬ c < 0 ∧ ¬ (255 : Int32) < c := by
    intro c hc
    simp only [List.mem_cons, List.not_mem_nil, or_false] at hc
    rcases hc with rfl
    · exact H0.2
  obtain ⟨_, _, ⟨T4, L4, k4, n4⟩, -, X4, ⟨Lc4, hQ4, l4, y4, z4⟩, st4⟩ := X3.specialBack hx (y := (⟨"java/lang/String", "<init>", "([C)V"⟩ : MethodName)) rfl hown (mvT hZ (ww hw 8 rfl)) (mvT hZ (ww hw 9 rfl)) (mvT hZ (ww hw 10 rfl)) (by decide) (StrChars.Road.backV (W := 1) hZ (own_wB hw) (kI := 4) (ww hw 5 rfl) (cs := ([c0] : List Int32)) (bs := (([c0] : List Int32)).map StrChars.lo8) (n := 1) (n0 := n0) g_b1 (show n0 ≤ h3.size from (O3).1 ▸ (O3).2.1) (Exa.wr W3 (Exa.ext E2 A1)) (Fld.other W3 (Fld.ext E2 F1_value) (Or.inl ne_b1_b2)) (Fld.other W3 (Fld.ext E2 F1_coder) (Or.inl ne_b1_b2)) Vq (Sta.ext O3.2 SC) hz rfl rfl (by decide) (by decide) hp rfl (by decide) (by decide)) (g := (mkF m 31 #[.val (.int nn), .val (.int c0), .val (.int c1)] [(.ref b2), (.ref b1), (.ref b1)])) rfl (by rw [hml]; rfl) (Steps.refl _) (a := b1) (argsL := [(.ref b2)]) (rest := [(.ref b1)]) (lenOf own_pd15 rfl) rfl (by show 2 * 0 + _ ≤ _; exact Nat.le_of_eq rfl) (hb hby d1_31) (fun _ _ => ⟨rfl, e3, (by decide : 2 + 1 ≤ _), (by decide : 5 + 1 ≤ _)⟩)
  dsimp only [Pt.U, Pt.locs, Pt.cells, Pt.slots] at X4 l4 y4 z4 st4 hQ4
  subst l4 y4 z4
  obtain ⟨rfl, N4q, KK4, fE, fC, tt, kx, _, _, _, fV, fK⟩ := hQ4
  have N4 := Fr.app N3 N4q
  have SC4 := CHr.keep KK4 (sfS SF3_b1 sf0) CR3.1
  have CR4 := CHr.trans CR3 SC4
  have SF4_b1 := CHr.safe SC4 ((Exa.wr W3 (Exa.ext E2 A1)).lt) SF3_b1
  have O4 := Old.keep O3 KK4 (allS g_b1 all0)
  have K4 := Keep.trans K3 KK4 (allS (Or.inr sz_b1) all0)
  have hcs : own_mk nn c0 c1 = ([c0] : List Int32) := by unfold own_mk; rw [if_neg hc1, if_pos hc17]
  obtain ⟨fs, hr, hrun, hended, hE⟩ := X4.leaveW (s := s) (vm₁ := s.vm) (State.WarmedH.since (State.WarmedH.refl s) 0) ((Nat.zero_le _)) (v := some (.ref b1)) (fun h => by rw [Bd.returns] at h; cases h)
  have CE : CHr Z consts_1 s.vm s.heap T4.vm T4.heap := by
    rw [hh]
    exact CHr.trans CR4 (CHv.at X4 hZ (own_EW hw) CR4.1)
  refine ⟨_, _, pre0 _ ?_, hrun, hended, _, _, rfl, ?_, CE, hE.1, hE.2.1, hE.2.2.1, hE.2.2.2.mono (by decide) (by decide)⟩
  · show Steps p.tables e below (s₁.setTop (mkF m 0 #[.val (.int nn), .val (.int c0), .val (.int c1)] [])) _
    refine XS.iloadN X0.here hx rfl (hb hby d1_0) rfl ?_
    show Steps p.tables e below (s₁.setTop (mkF m 1 #[.val (.int nn), .val (.int c0), .val (.int c1)] [(.int nn)])) _
    refine XS.ifYes X0.here hx rfl (pc0 := 1) (pc' := 15) rfl (hb hby d1_1) rfl ((if0 _ _).trans (feq hc1).2) (by decide) (by decide) ?_
    show Steps p.tables e below (s₁.setTop (mkF m 15 #[.val (.int nn), .val (.int c0), .val (.int c1)] [])) _
    refine XS.iloadN X0.here hx rfl (hb hby d1_15) rfl ?_
    show Steps p.tables e below (s₁.setTop (mkF m 16 #[.val (.int nn), .val (.int c0), .val (.int c1)] [(.int nn)])) _
    refine XS.iconst X0.here hx rfl (hb hby d1_16) ?_
    show Steps p.tables e below (s₁.setTop (mkF m 17 #[.val (.int nn), .val (.int c0), .val (.int c1)] [(.int (1 : Int32)), (.int nn)])) _
    refine XS.icmpNo X0.here hx rfl (hb hby d1_17) rfl (teq hc17).2 ?_
    show Steps p.tables e below (s₁.setTop (mkF m 20 #[.val (.int nn), .val (.int c0), .val (.int c1)] [])) _
    refine st1 _ ?_
    show Steps p.tables e below (T1.setTop (mkF m 23 #[.val (.int nn), .val (.int c0), .val (.int c1)] [(.ref b1)])) _
    refine XS.dup X1.here hx rfl (hb hby d1_23) rfl rfl ?_
    show Steps p.tables e below (T1.setTop (mkF m 24 #[.val (.int nn), .val (.int c0), .val (.int c1)] [(.ref b1), (.ref b1)])) _
    refine XS.iconst X1.here hx rfl (hb hby d1_24) ?_
    show Steps p.tables e below (T1.setTop (mkF m 25 #[.val (.int nn), .val (.int c0), .val (.int c1)] [(.int (1 : Int32)), (.ref b1), (.ref b1)])) _
    refine st2 _ ?_
    show Steps p.tables e below (T2.setTop (mkF m 27 #[.val (.int nn), .val (.int c0), .val (.int c1)] [(.ref b2), (.ref b1), (.ref b1)])) _
    refine XS.dup X2.here hx rfl (hb hby d1_27) rfl rfl ?_
    show Steps p.tables e below (T2.setTop (mkF m 28 #[.val (.int nn), .val (.int c0), .val (.int c1)] [(.ref b2), (.ref b2), (.ref b1), (.ref b1)])) _
    refine XS.iconst X2.here hx rfl (hb hby d1_28) ?_
    show Steps p.tables e below (T2.setTop (mkF m 29 #[.val (.int nn), .val (.int c0), .val (.int c1)] [(.int (0 : Int32)), (.ref b2), (.ref b2), (.ref b1), (.ref b1)])) _
    refine XS.iloadN X2.here hx rfl (hb hby d1_29) rfl ?_
    show Steps p.tables e below (T2.setTop (mkF m 30 #[.val (.int nn), .val (.int c0), .val (.int c1)] [(.int c0), (.int (0 : Int32)), (.ref b2), (.ref b2), (.ref b1), (.ref b1)])) _
    refine st3 _ ?_
    show Steps p.tables e below (T3.setTop (mkF m 31 #[.val (.int nn), .val (.int c0), .val (.int c1)] [(.ref b2), (.ref b1), (.ref b1)])) _
    refine st4.trans ?_
    show Steps p.tables e below (T4.setTop (mkF m 34 #[.val (.int nn), .val (.int c0), .val (.int c1)] [(.ref b1)])) _
    exact retOut X4 hx Bd.returns rfl (Or.inr (Or.inr (Or.inr (Or.inr ⟨rfl, rfl, rfl⟩)))) (hb hby d1_34) hr
  · show Qd16 Z nn c0 c1 z h0 n0 _ T4.heap _
    exact ⟨b1, tt, kx, rfl, N4, K4, fE, fV, fC, by rw [hcs]; exact fK⟩
theorem d1_35 : decode method_3_code 35 = .ok (.new 23, 3) := by decide +kernel
theorem d1_38 : decode method_3_code 38 = .ok (.dup, 1) := by decide +kernel
theorem d1_39 : decode method_3_code 39 = .ok (.iconst 2, 1) := by decide +kernel
theorem d1_40 : decode method_3_code 40 = .ok (.newarray .char, 2) := by decide +kernel
theorem d1_42 : decode method_3_code 42 = .ok (.dup, 1) := by decide +kernel
theorem d1_43 : decode method_3_code 43 = .ok (.iconst 0, 1) := by decide +kernel
theorem d1_44 : decode method_3_code 44 = .ok (.iload_n 1, 1) := by decide +kernel
theorem d1_45 : decode method_3_code 45 = .ok (.castore, 1) := by decide +kernel
theorem d1_46 : decode method_3_code 46 = .ok (.dup, 1) := by decide +kernel
theorem d1_47 : decode method_3_code 47 = .ok (.iconst 1, 1) := by decide +kernel
theorem d1_48 : decode method_3_code 48 = .ok (.iload_n 2, 1) := by decide +kernel
theorem d1_49 : decode method_3_code 49 = .ok (.castore, 1) := by decide +kernel
theorem d1_50 : decode method_3_code 50 = .ok (.invokespecial 32, 3) := by decide +kernel
theorem d1_53 : decode method_3_code 53 = .ok (.areturn, 1) := by decide +kernel
set_option maxRecDepth 65536 in
set_option maxHeartbeats 40000000 in
theorem rmM2 (l : Launch) (Z : State) (a0 : Array Value) (hw : ∀ d ∈ tables_1, d.before a0 Z = true) (ws : List Jvm.Cond) (nn c0 c1 z : Int32) (h0 : Heap) (n0 : Nat) (O0 : Old Z n0 h0) (SC : Sta Z Z.heap "java/lang/String" "COMPACT_STRINGS" "Z" (.int z)) (hz : ¬ z = 0) (H0 : own_ch c0) (H1 : own_ch c1) (hc1 : ¬ (nn = (0 : Int32))) (hc17 : ¬ (nn = (1 : Int32))) :
    MetFree l (⟨"com/example/lendloop/lendloop/core/PatronRefToStringPinLaw", "mk", "(ICC)Ljava/lang/String;"⟩ : MethodName) (head1 (Jvm.Cond.code (⟨"com/example/lendloop/lendloop/core/PatronRefToStringPinLaw", "mk", "(ICC)Ljava/lang/String;"⟩ : MethodName) method_3_code 3 (some (.object "java/lang/String")) :: ws) ({ frames := 4, cells := 6, slots := 16, locals := 66 } : Room)) (fun qq U => qq = #[(.int nn), (.int c0), (.int c1)] ∧ Z.Warmed39 U.vm ∧ U.heap = h0 ∧ CHv Z consts_1 U.vm h0) (fun _ _ _ _ _ => True) (fun _ UU oo UU' => ∃ vv LL, oo = .returned vv ∧ Qd16 Z nn c0 c1 z h0 n0 vv UU'.heap LL ∧ CHr Z consts_1 UU.vm UU.heap UU'.vm UU'.heap ∧ ReturnedEndW UU oo UU' LL ({ frames := 4, cells := 6, slots := 16, locals := 66 } : Room).cells ({ frames := 4, cells := 6, slots := 16, locals := 66 } : Room).slots) := by
  refine MetFree.of_bodySF (plainFor_of_name pn_1) hisR ?_
  intro p e s m args below meth c s₁ Bd hml0 hP hK
  obtain ⟨rfl, hZ, hh, hC0⟩ := hP
  have hZ : Z.Warmed39 (s.setVm s.vm).vm := hZ
  have CR0 := CHr.refl hC0
  have hx := Bd.exec
  have hby := Bd.bytes
  have hml : c.maxLocals = 3 := hml0
  have hown : (s.setVm s.vm).vm.findClass "com/example/lendloop/lendloop/core/PatronRefToStringPinLaw" = some m.cls := findClass_of_methodNamed Bd.named
  have hnm := (name_of_methodNamed Bd.named Bd.method).1
  have X0 : Stand p l e ({ frames := 4, cells := 6, slots := 16, locals := 66 } : Room) (s.setVm s.vm) m #[(.int nn), (.int c0), (.int c1)] below meth c s₁ [] 0 0 := Stand.of_body Bd
  have e0 : s₁.heap = h0 := by rw [← hh, Bd.state]; rfl
  have N0 := Fr.nil n0
  have pre0 : ∀ tgt, Steps p.tables e below (s₁.setTop (mkF m 0 #[.val (.int nn), .val (.int c0), .val (.int c1)] [])) tgt → Steps p.tables e below (s₁.setTop (entryFrame m #[(.int nn), (.int c0), (.int c1)] 3)) tgt := fun tt kk => castTop (ef_1 m nn c0 c1) kk
  obtain ⟨T1, h1, X1, e1, E1, A1, D1, -, st1⟩ := newO X0 hx hZ hown (ww hw 4 rfl) (ww hw 5 rfl) (ww hw 6 rfl) e0 (g := (mkF m 35 #[.val (.int nn), .val (.int c0), .val (.int c1)] [])) rfl (hb hby d1_35) (by decide) (by decide)
  obtain ⟨b1, q1⟩ : ∃ z, z = h0.size := ⟨_, rfl⟩
  rw [← q1] at A1 D1 st1
  have g_b1 : n0 ≤ b1 := by rw [q1]; exact (O0).1 ▸ (O0).2.1
  have sz_b1 : h0.size ≤ b1 := by rw [q1]; exact ((Keep.refl h0 [])).1
  have SC1 := CHr.ext E1 CR0.1
  have CR1 := CHr.trans CR0 SC1
  have O1 := Old.ext O0 E1
  have K1 := Keep.ext (Keep.refl h0 []) E1
  have SN1 := Safe.ext E1 CR0.1 (Safe.new (Nat.le_of_eq q1.symm))
  have F1_coder : Fld Z h1 b1 "java/lang/String" "coder" "B" (.int (0 : Int32)) := D1 (Or.inr (ww hw 31 rfl)) (ty := .byte) (by decide)
  have F1_value : Fld Z h1 b1 "java/lang/String" "value" "[B" .null := D1 (Or.inr (ww hw 33 rfl)) (ty := (.array .byte)) (by decide)
  obtain ⟨T2, h2, k2, X2, e2, E2, A2, st2⟩ := newP X1 hx hZ (ww hw 7 rfl) e1 (g := (mkF m 40 #[.val (.int nn), .val (.int c0), .val (.int c1)] [(.int (2 : Int32)), (.ref b1), (.ref b1)])) rfl (hb hby d1_40) rfl (by decide) (cap := 2) (by decide) (by decide) (by decide) (by decide)
  obtain ⟨b2, q2⟩ : ∃ z, z = h1.size := ⟨_, rfl⟩
  rw [← q2] at A2 st2
  have g_b2 : n0 ≤ b2 := by rw [q2]; exact (O1).1 ▸ (O1).2.1
  have ne_b1_b2 : b1 ≠ b2 := by rw [q2]; exact Nat.ne_of_lt A1.lt
  have sz_b2 : h0.size ≤ b2 := by rw [q2]; exact (K1).1
  have SC2 := CHr.ext E2 CR1.1
  have CR2 := CHr.trans CR1 SC2
  have SF2_b1 := CHr.safe SC2 (A1.lt) SN1
  have O2 := Old.ext O1 E2
  have K2 := Keep.ext K1 E2
  have V2 : Arv Z h2 b2 k2 .char (2 : Int32) [] (.int (0 : Int32)) := Arv.new A2 (by decide)
  obtain ⟨T3, h3, X3, e3, W3, V3, st3⟩ := own_putC X2 hx hZ e2 V2 (j := (0 : Int32)) rfl (by decide) (Nat.le_of_ble_eq_true rfl) (g := (mkF m 45 #[.val (.int nn), .val (.int c0), .val (.int c1)] [(.int c0), (.int (0 : Int32)), (.ref b2), (.ref b2), (.ref b1), (.ref b1)])) rfl rfl (hb hby d1_45)
  have SC3 := CHr.wr W3 (Safe.arv hZ.alike V2 (by decide)) CR2.1
  have CR3 := CHr.trans CR2 SC3
  have SF3_b1 := CHr.safe SC3 ((Exa.ext E2 A1).lt) SF2_b1
  have N3 := Fr.snoc X3 N0 g_b2
  have O3 := Old.wr O2 W3 g_b2
  have K3 := Keep.wr K2 W3 (Or.inr sz_b2)
  obtain ⟨T4, h4, X4, e4, W4, V4, st4⟩ := own_putC X3 hx hZ e3 V3 (j := (1 : Int32)) rfl (by decide) (Nat.le_of_ble_eq_true rfl) (g := (mkF m 49 #[.val (.int nn), .val (.int c0), .val (.int c1)] [(.int c1), (.int (1 : Int32)), (.ref b2), (.ref b2), (.ref b1), (.ref b1)])) rfl rfl (hb hby d1_49)
  have SC4 := CHr.wr W4 (Safe.arv hZ.alike V3 (by decide)) CR3.1
  have CR4 := CHr.trans CR3 SC4
  have SF4_b1 := CHr.safe SC4 ((Exa.wr W3 (Exa.ext E2 A1)).lt) SF3_b1
  have N4 := Fr.snoc X4 N3 g_b2
  have O4 := Old.wr O3 W4 g_b2
  have K4 := Keep.wr K3 W4 (Or.inr sz_b2)
  have Vq : Arv Z h4 b2 k2 .char (2 : Int32) (([c0, c1] : List Int32).map Value.int) (.int 0) := by
    have q := V4
    rw [H0.1, H1.1] at q
    exact q
  have hp : ∀ c ∈ ([c0, c1] : List Int32), ¬ c < 0 ∧ ¬ (255 : Int32) < c := by
    intro c hc
    simp only [List.mem_cons, List.not_mem_nil, or_false] at hc
    rcases hc with rfl | rfl
    · exact H0.2
    · exact H1.2
  have c5 := (Fld.other W4 (Fld.other W3 (Fld.ext E2 F1_value) (Or.inl ne_b1_b2)) (Or.inl ne_b1_b2))
  have c6 := (Fld.other W4 (Fld.other W3 (Fld.ext E2 F1_coder) (Or.inl ne_b1_b2)) (Or.inl ne_b1_b2))
  obtain ⟨_, _, ⟨T7, L7, k7, n7⟩, -, X7, ⟨Lc7, hQ7, l7, y7, z7⟩, st7⟩ := X4.specialBack hx (y := (⟨"java/lang/String", "<init>", "([C)V"⟩ : MethodName)) rfl hown (mvT hZ (ww hw 8 rfl)) (mvT hZ (ww hw 9 rfl)) (mvT hZ (ww hw 10 rfl)) (by decide) (StrChars.Road.backV (W := 1) hZ (own_wB hw) (kI := 4) (ww hw 5 rfl) (cs := ([c0, c1] : List Int32)) (bs := (([c0, c1] : List Int32)).map StrChars.lo8) (n := 2) (n0 := n0) g_b1 (show n0 ≤ h4.size from (O4).1 ▸ (O4).2.1) (Exa.wr W4 (Exa.wr W3 (Exa.ext E2 A1))) c5 c6 Vq (Sta.ext O4.2 SC) hz rfl rfl (by decide) (by decide) hp rfl (by decide) (by decide)) (g := (mkF m 50 #[.val (.int nn), .val (.int c0), .val (.int c1)] [(.ref b2), (.ref b1), (.ref b1)])) rfl (by rw [hml]; rfl) (Steps.refl _) (a := b1) (argsL := [(.ref b2)]) (rest := [(.ref b1)]) (lenOf own_pd15 rfl) rfl (by show 2 * 0 + _ ≤ _; exact Nat.le_of_eq rfl) (hb hby d1_50) (fun _ _ => ⟨rfl, e4, (by decide : 2 + 1 ≤ _), (by decide : 6 + 2 ≤ _)⟩)
  dsimp only [Pt.U, Pt.locs, Pt.cells, Pt.slots] at X7 l7 y7 z7 st7 hQ7
  subst l7 y7 z7
  obtain ⟨rfl, N7q, KK7, fE, fC, tt, kx, _, _, _, fV, fK⟩ := hQ7
  have N7 := Fr.app N4 N7q
  have SC7 := CHr.keep KK7 (sfS SF4_b1 sf0) CR4.1
  have CR7 := CHr.trans CR4 SC7
  have SF7_b1 := CHr.safe SC7 ((Exa.wr W4 (Exa.wr W3 (Exa.ext E2 A1))).lt) SF4_b1
  have O7 := Old.keep O4 KK7 (allS g_b1 all0)
  have K7 := Keep.trans K4 KK7 (allS (Or.inr sz_b1) all0)
  have hcs : own_mk nn c0 c1 = ([c0, c1] : List Int32) := by unfold own_mk; rw [if_neg hc1, if_neg hc17]
  obtain ⟨fs, hr, hrun, hended, hE⟩ := X7.leaveW (s := s) (vm₁ := s.vm) (State.WarmedH.since (State.WarmedH.refl s) 0) ((Nat.zero_le _)) (v := some (.ref b1)) (fun h => by rw [Bd.returns] at h; cases h)
  have CE : CHr Z consts_1 s.vm s.heap T7.vm T7.heap := by
    rw [hh]
    exact CHr.trans CR7 (CHv.at X7 hZ (own_EW hw) CR7.1)
  refine ⟨_, _, pre0 _ ?_, hrun, hended, _, _, rfl, ?_, CE, hE.1, hE.2.1, hE.2.2.1, hE.2.2.2.mono (by decide) (by decide)⟩
  · show Steps p.tables e below (s₁.setTop (mkF m 0 #[.val (.int nn), .val (.int c0), .val (.int c1)] [])) _
    refine XS.iloadN X0.here hx rfl (hb hby d1_0) rfl ?_
    show Steps p.tables e below (s₁.setTop (mkF m 1 #[.val (.int nn), .val (.int c0), .val (.int c1)] [(.int nn)])) _
    refine XS.ifYes X0.here hx rfl (pc0 := 1) (pc' := 15) rfl (hb hby d1_1) rfl ((if0 _ _).trans (feq hc1).2) (by decide) (by decide) ?_
    show Steps p.tables e below (s₁.setTop (mkF m 15 #[.val (.int nn), .val (.int c0), .val (.int c1)] [])) _
    refine XS.iloadN X0.here hx rfl (hb hby d1_15) rfl ?_
    show Steps p.tables e below (s₁.setTop (mkF m 16 #[.val (.int nn), .val (.int c0), .val (.int c1)] [(.int nn)])) _
    refine XS.iconst X0.here hx rfl (hb hby d1_16) ?_
    show Steps p.tables e below (s₁.setTop (mkF m 17 #[.val (.int nn), .val (.int c0), .val (.int c1)] [(.int (1 : Int32)), (.int nn)])) _
    refine XS.icmpYes X0.here hx rfl (pc0 := 17) (pc' := 35) rfl (hb hby d1_17) rfl (feq hc17).2 (by decide) (by decide) ?_
    show Steps p.tables e below (s₁.setTop (mkF m 35 #[.val (.int nn), .val (.int c0), .val (.int c1)] [])) _
    refine st1 _ ?_
    show Steps p.tables e below (T1.setTop (mkF m 38 #[.val (.int nn), .val (.int c0), .val (.int c1)] [(.ref b1)])) _
    refine XS.dup X1.here hx rfl (hb hby d1_38) rfl rfl ?_
    show Steps p.tables e below (T1.setTop (mkF m 39 #[.val (.int nn), .val (.int c0), .val (.int c1)] [(.ref b1), (.ref b1)])) _
    refine XS.iconst X1.here hx rfl (hb hby d1_39) ?_
    show Steps p.tables e below (T1.setTop (mkF m 40 #[.val (.int nn), .val (.int c0), .val (.int c1)] [(.int (2 : Int32)), (.ref b1), (.ref b1)])) _
    refine st2 _ ?_
    show Steps p.tables e below (T2.setTop (mkF m 42 #[.val (.int nn), .val (.int c0), .val (.int c1)] [(.ref b2), (.ref b1), (.ref b1)])) _
    refine XS.dup X2.here hx rfl (hb hby d1_42) rfl rfl ?_
    show Steps p.tables e below (T2.setTop (mkF m 43 #[.val (.int nn), .val (.int c0), .val (.int c1)] [(.ref b2), (.ref b2), (.ref b1), (.ref b1)])) _
    refine XS.iconst X2.here hx rfl (hb hby d1_43) ?_
    show Steps p.tables e below (T2.setTop (mkF m 44 #[.val (.int nn), .val (.int c0), .val (.int c1)] [(.int (0 : Int32)), (.ref b2), (.ref b2), (.ref b1), (.ref b1)])) _
    refine XS.iloadN X2.here hx rfl (hb hby d1_44) rfl ?_
    show Steps p.tables e below (T2.setTop (mkF m 45 #[.val (.int nn), .val (.int c0), .val (.int c1)] [(.int c0), (.int (0 : Int32)), (.ref b2), (.ref b2), (.ref b1), (.ref b1)])) _
    refine st3 _ ?_
    show Steps p.tables e below (T3.setTop (mkF m 46 #[.val (.int nn), .val (.int c0), .val (.int c1)] [(.ref b2), (.ref b1), (.ref b1)])) _
    refine XS.dup X3.here hx rfl (hb hby d1_46) rfl rfl ?_
    show Steps p.tables e below (T3.setTop (mkF m 47 #[.val (.int nn), .val (.int c0), .val (.int c1)] [(.ref b2), (.ref b2), (.ref b1), (.ref b1)])) _
    refine XS.iconst X3.here hx rfl (hb hby d1_47) ?_
    show Steps p.tables e below (T3.setTop (mkF m 48 #[.val (.int nn), .val (.int c0), .val (.int c1)] [(.int (1 : Int32)), (.ref b2), (.ref b2), (.ref b1), (.ref b1)])) _
    refine XS.iloadN X3.here hx rfl (hb hby d1_48) rfl ?_
    show Steps p.tables e below (T3.setTop (mkF m 49 #[.val (.int nn), .val (.int c0), .val (.int c1)] [(.int c1), (.int (1 : Int32)), (.ref b2), (.ref b2), (.ref b1), (.ref b1)])) _
    refine st4 _ ?_
    show Steps p.tables e below (T4.setTop (mkF m 50 #[.val (.int nn), .val (.int c0), .val (.int c1)] [(.ref b2), (.ref b1), (.ref b1)])) _
    refine st7.trans ?_
    show Steps p.tables e below (T7.setTop (mkF m 53 #[.val (.int nn), .val (.int c0), .val (.int c1)] [(.ref b1)])) _
    exact retOut X7 hx Bd.returns rfl (Or.inr (Or.inr (Or.inr (Or.inr ⟨rfl, rfl, rfl⟩)))) (hb hby d1_53) hr
  · show Qd16 Z nn c0 c1 z h0 n0 _ T7.heap _
    exact ⟨b1, tt, kx, rfl, N7, K7, fE, fV, fC, by rw [hcs]; exact fK⟩
theorem rmM (l : Launch) (Z : State) (a0 : Array Value) (hw : ∀ d ∈ tables_1, d.before a0 Z = true) (ws : List Jvm.Cond) (nn c0 c1 z : Int32) (h0 : Heap) (n0 : Nat) (O0 : Old Z n0 h0) (SC : Sta Z Z.heap "java/lang/String" "COMPACT_STRINGS" "Z" (.int z)) (hz : ¬ z = 0) (H0 : own_ch c0) (H1 : own_ch c1) :
    MetFree l (⟨"com/example/lendloop/lendloop/core/PatronRefToStringPinLaw", "mk", "(ICC)Ljava/lang/String;"⟩ : MethodName) (head1 (Jvm.Cond.code (⟨"com/example/lendloop/lendloop/core/PatronRefToStringPinLaw", "mk", "(ICC)Ljava/lang/String;"⟩ : MethodName) method_3_code 3 (some (.object "java/lang/String")) :: ws) ({ frames := 4, cells := 6, slots := 16, locals := 66 } : Room)) (fun qq U => qq = #[(.int nn), (.int c0), (.int c1)] ∧ Z.Warmed39 U.vm ∧ U.heap = h0 ∧ CHv Z consts_1 U.vm h0) (fun _ _ _ _ _ => True) (fun _ UU oo UU' => ∃ vv LL, oo = .returned vv ∧ Qd16 Z nn c0 c1 z h0 n0 vv UU'.heap LL ∧ CHr Z consts_1 UU.vm UU.heap UU'.vm UU'.heap ∧ ReturnedEndW UU oo UU' LL ({ frames := 4, cells := 6, slots := 16, locals := 66 } : Room).cells ({ frames := 4, cells := 6, slots := 16, locals := 66 } : Room).slots) := by
  by_cases q1 : nn = (0 : Int32)
  · exact rmM0 l Z a0 hw ws nn c0 c1 z h0 n0 O0 SC hz H0 H1 q1
  by_cases q2 : nn = (1 : Int32)
  · exact rmM1 l Z a0 hw ws nn c0 c1 z h0 n0 O0 SC hz H0 H1 q1 q2
  · exact rmM2 l Z a0 hw ws nn c0 c1 z h0 n0 O0 SC hz H0 H1 q1 q2
theorem d9_0 : decode jdk_30_method_1_code 0 = .ok (.aload_n 0, 1) := by decide +kernel
theorem d9_1 : decode jdk_30_method_1_code 1 = .ok (.invokespecial 1, 3) := by decide +kernel
theorem d9_4 : decode jdk_30_method_1_code 4 = .ok (.return_, 1) := by decide +kernel
theorem ef_9 (m : MethodId) (x0 : Addr) : entryFrame m #[(.ref x0)] 1 = mkF m 0 #[.val (.ref x0)] [] := by first | (simp [entryFrame, mkF, argsToLocals, Value.category]; done) | rfl
theorem pn_9 : plainName "java/lang/Record" = true := by first | (simp [plainName, overriddenIn]; done) | decide +kernel
def Qd17 (Z : State) (pr : Addr) (h0 : Heap) (n0 : Nat) (v : Option Value) (h : Heap) (L : List Loc) : Prop := v = none ∧ Fr n0 L ∧ h = h0
set_option maxRecDepth 65536 in
set_option maxHeartbeats 40000000 in
theorem rmRe (l : Launch) (Z : State) (a0 : Array Value) (hw : ∀ d ∈ tables_1, d.before a0 Z = true) (ws : List Jvm.Cond) (pr : Addr) (h0 : Heap) (n0 : Nat) :
    MetFree l (⟨"java/lang/Record", "<init>", "()V"⟩ : MethodName) (head1 (Jvm.Cond.code (⟨"java/lang/Record", "<init>", "()V"⟩ : MethodName) jdk_30_method_1_code 1 none :: ws) ({ frames := 1, cells := 0, slots := 0, locals := 12 } : Room)) (fun qq U => qq = #[(.ref pr)] ∧ Z.Warmed39 U.vm ∧ U.heap = h0) (fun _ _ _ _ _ => True) (fun _ UU oo UU' => ∃ vv LL, oo = .returned vv ∧ Qd17 Z pr h0 n0 vv UU'.heap LL ∧ FrameEnd UU oo UU' LL ({ frames := 1, cells := 0, slots := 0, locals := 12 } : Room).cells ({ frames := 1, cells := 0, slots := 0, locals := 12 } : Room).slots) := by
  refine MetFree.of_bodySF (plainFor_of_name pn_9) hisR ?_
  intro p e s m args below meth c s₁ Bd hml0 hP hK
  obtain ⟨rfl, hZ, hh⟩ := hP
  have hx := Bd.exec
  have hby := Bd.bytes
  have hml : c.maxLocals = 1 := hml0
  have hown : s.vm.findClass "java/lang/Record" = some m.cls := findClass_of_methodNamed Bd.named
  have hnm := (name_of_methodNamed Bd.named Bd.method).1
  have X0 : Stand p l e ({ frames := 1, cells := 0, slots := 0, locals := 12 } : Room) s m #[(.ref pr)] below meth c s₁ [] 0 0 := Stand.of_body Bd
  have e0 : s₁.heap = h0 := by rw [← hh, Bd.state]; rfl
  have N0 := Fr.nil n0
  have pre0 : ∀ tgt, Steps p.tables e below (s₁.setTop (mkF m 0 #[.val (.ref pr)] [])) tgt → Steps p.tables e below (s₁.setTop (entryFrame m #[(.ref pr)] 1)) tgt := fun tt kk => castTop (ef_9 m pr) kk
  obtain ⟨T1, X1, e1, st1⟩ := initO X0 hx hZ hown (ww hw 48 rfl) (ww hw 16 rfl) (ww hw 17 rfl) e0 (g := (mkF m 1 #[.val (.ref pr)] [(.ref pr)])) rfl (by rw [hml]; rfl) rfl (hb hby d9_1) (by decide) (W := 0) (by show 2 * 0 + _ ≤ _; exact Nat.le_of_eq rfl) (by decide)
  obtain ⟨fs, hr, hrun, hended, hW, hsame⟩ := X1.leave (v := none) (fun _ => rfl)
  refine ⟨_, _, pre0 _ ?_, hrun, hended, _, _, rfl, ?_, ⟨_, rfl⟩, hW, hsame.mono (by decide) (by decide)⟩
  · show Steps p.tables e below (s₁.setTop (mkF m 0 #[.val (.ref pr)] [])) _
    refine XS.aloadN X0.here hx rfl (hb hby d9_0) rfl rfl ?_
    show Steps p.tables e below (s₁.setTop (mkF m 1 #[.val (.ref pr)] [(.ref pr)])) _
    refine st1 _ ?_
    show Steps p.tables e below (T1.setTop (mkF m 4 #[.val (.ref pr)] [])) _
    exact X1.returnOut hx Bd.returns (hb hby d9_4) hr
  · show Qd17 Z pr h0 n0 _ T1.heap _
    rw [e1]
    exact ⟨rfl, N0, rfl⟩
theorem d10_0 : decode jdk_31_method_11_code 0 = .ok (.aload_n 0, 1) := by decide +kernel
theorem d10_1 : decode jdk_31_method_11_code 1 = .ok (.ifnonnull 12, 3) := by decide +kernel
theorem d10_13 : decode jdk_31_method_11_code 13 = .ok (.aload_n 0, 1) := by decide +kernel
theorem d10_14 : decode jdk_31_method_11_code 14 = .ok (.areturn, 1) := by decide +kernel
theorem ef_10 (m : MethodId) (x0 : Addr) (x1 : Addr) : entryFrame m #[(.ref x0), (.ref x1)] 2 = mkF m 0 #[.val (.ref x0), .val (.ref x1)] [] := by first | (simp [entryFrame, mkF, argsToLocals, Value.category]; done) | rfl
theorem pn_10 : plainName "java/util/Objects" = true := by first | (simp [plainName, overriddenIn]; done) | decide +kernel
def Qd18 (Z : State) (qa qb : Addr) (h0 : Heap) (n0 : Nat) (v : Option Value) (h : Heap) (L : List Loc) : Prop := v = some (.ref qa) ∧ Fr n0 L ∧ h = h0
set_option maxRecDepth 65536 in
set_option maxHeartbeats 40000000 in
theorem rmR2 (l : Launch) (Z : State) (a0 : Array Value) (hw : ∀ d ∈ tables_1, d.before a0 Z = true) (ws : List Jvm.Cond) (qa qb : Addr) (h0 : Heap) (n0 : Nat) :
    MetFree l (⟨"java/util/Objects", "requireNonNull", "(Ljava/lang/Object;Ljava/lang/String;)Ljava/lang/Object;"⟩ : MethodName) (head1 (Jvm.Cond.code (⟨"java/util/Objects", "requireNonNull", "(Ljava/lang/Object;Ljava/lang/String;)Ljava/lang/Object;"⟩ : MethodName) jdk_31_method_11_code 2 (some (.object "java/lang/Object")) :: ws) ({ frames := 0, cells := 0, slots := 0, locals := 0 } : Room)) (fun qq U => qq = #[(.ref qa), (.ref qb)] ∧ Z.Warmed39 U.vm ∧ U.heap = h0) (fun _ _ _ _ _ => True) (fun _ UU oo UU' => ∃ vv LL, oo = .returned vv ∧ Qd18 Z qa qb h0 n0 vv UU'.heap LL ∧ FrameEnd UU oo UU' LL ({ frames := 0, cells := 0, slots := 0, locals := 0 } : Room).cells ({ frames := 0, cells := 0, slots := 0, locals := 0 } : Room).slots) := by
  refine MetFree.of_bodySF (plainFor_of_name pn_10) hisR ?_
  intro p e s m args below meth c s₁ Bd hml0 hP hK
  obtain ⟨rfl, hZ, hh⟩ := hP
  have hx := Bd.exec
  have hby := Bd.bytes
  have hml : c.maxLocals = 2 := hml0
  have hown : s.vm.findClass "java/util/Objects" = some m.cls := findClass_of_methodNamed Bd.named
  have hnm := (name_of_methodNamed Bd.named Bd.method).1
  have X0 : Stand p l e ({ frames := 0, cells := 0, slots := 0, locals := 0 } : Room) s m #[(.ref qa), (.ref qb)] below meth c s₁ [] 0 0 := Stand.of_body Bd
  have e0 : s₁.heap = h0 := by rw [← hh, Bd.state]; rfl
  have N0 := Fr.nil n0
  have pre0 : ∀ tgt, Steps p.tables e below (s₁.setTop (mkF m 0 #[.val (.ref qa), .val (.ref qb)] [])) tgt → Steps p.tables e below (s₁.setTop (entryFrame m #[(.ref qa), (.ref qb)] 2)) tgt := fun tt kk => castTop (ef_10 m qa qb) kk
  obtain ⟨fs, hr, hrun, hended, hW, hsame⟩ := X0.leave (v := some (.ref qa)) (fun h => by rw [Bd.returns] at h; cases h)
  refine ⟨_, _, pre0 _ ?_, hrun, hended, _, _, rfl, ?_, ⟨_, rfl⟩, hW, hsame.mono (by decide) (by decide)⟩
  · show Steps p.tables e below (s₁.setTop (mkF m 0 #[.val (.ref qa), .val (.ref qb)] [])) _
    refine XS.aloadN X0.here hx rfl (hb hby d10_0) rfl rfl ?_
    show Steps p.tables e below (s₁.setTop (mkF m 1 #[.val (.ref qa), .val (.ref qb)] [(.ref qa)])) _
    refine XS.ifnonnullYes X0.here hx rfl (pc0 := 1) (pc' := 13) rfl (hb hby d10_1) rfl (by decide) (by decide) ?_
    show Steps p.tables e below (s₁.setTop (mkF m 13 #[.val (.ref qa), .val (.ref qb)] [])) _
    refine XS.aloadN X0.here hx rfl (hb hby d10_13) rfl rfl ?_
    show Steps p.tables e below (s₁.setTop (mkF m 14 #[.val (.ref qa), .val (.ref qb)] [(.ref qa)])) _
    exact retOut X0 hx Bd.returns rfl (Or.inr (Or.inr (Or.inr (Or.inr ⟨rfl, rfl, rfl⟩)))) (hb hby d10_14) hr
  · show Qd18 Z qa qb h0 n0 _ s₁.heap _
    rw [e0]
    exact ⟨rfl, N0, rfl⟩
theorem d8_0 : decode prog_24_method_1_code 0 = .ok (.aload_n 0, 1) := by decide +kernel
theorem d8_1 : decode prog_24_method_1_code 1 = .ok (.invokespecial 1, 3) := by decide +kernel
theorem own_pd16 : parseMethodDescriptor "()V" = some ⟨[], none⟩ := by decide +kernel
theorem d8_4 : decode prog_24_method_1_code 4 = .ok (.aload_n 1, 1) := by decide +kernel
theorem d8_5 : decode prog_24_method_1_code 5 = .ok (.ldc 7, 2) := by decide +kernel
theorem d8_7 : decode prog_24_method_1_code 7 = .ok (.invokestatic 9, 3) := by decide +kernel
theorem own_pd17 : parseMethodDescriptor "(Ljava/lang/Object;Ljava/lang/String;)Ljava/lang/Object;" = some ⟨[(.object "java/lang/Object"), (.object "java/lang/String")], some (.object "java/lang/Object")⟩ := by decide +kernel
theorem d8_10 : decode prog_24_method_1_code 10 = .ok (.pop, 1) := by decide +kernel
theorem d8_11 : decode prog_24_method_1_code 11 = .ok (.aload_n 2, 1) := by decide +kernel
theorem d8_12 : decode prog_24_method_1_code 12 = .ok (.ldc 15, 2) := by decide +kernel
theorem d8_14 : decode prog_24_method_1_code 14 = .ok (.invokestatic 9, 3) := by decide +kernel
theorem d8_17 : decode prog_24_method_1_code 17 = .ok (.pop, 1) := by decide +kernel
theorem d8_18 : decode prog_24_method_1_code 18 = .ok (.aload_n 0, 1) := by decide +kernel
theorem d8_19 : decode prog_24_method_1_code 19 = .ok (.aload_n 1, 1) := by decide +kernel
theorem d8_20 : decode prog_24_method_1_code 20 = .ok (.putfield 17, 3) := by decide +kernel
theorem d8_23 : decode prog_24_method_1_code 23 = .ok (.aload_n 0, 1) := by decide +kernel
theorem d8_24 : decode prog_24_method_1_code 24 = .ok (.aload_n 2, 1) := by decide +kernel
theorem d8_25 : decode prog_24_method_1_code 25 = .ok (.putfield 22, 3) := by decide +kernel
theorem d8_28 : decode prog_24_method_1_code 28 = .ok (.return_, 1) := by decide +kernel
theorem ef_8 (m : MethodId) (x0 : Addr) (x1 : Addr) (x2 : Addr) : entryFrame m #[(.ref x0), (.ref x1), (.ref x2)] 3 = mkF m 0 #[.val (.ref x0), .val (.ref x1), .val (.ref x2)] [] := by first | (simp [entryFrame, mkF, argsToLocals, Value.category]; done) | rfl
theorem pn_8 : plainName "com/example/lendloop/lendloop/core/PatronRef" = true := by first | (simp [plainName, overriddenIn]; done) | decide +kernel
def Qd19 (Z : State) (pr lx bx : Addr) (h0 : Heap) (n0 : Nat) (v : Option Value) (h : Heap) (L : List Loc) : Prop := v = none ∧ Fr n0 L ∧ Keep h0 h [pr] ∧ Fld Z h pr "com/example/lendloop/lendloop/core/PatronRef" "library" "Ljava/lang/String;" (.ref lx) ∧ Fld Z h pr "com/example/lendloop/lendloop/core/PatronRef" "barcode" "Ljava/lang/String;" (.ref bx)
set_option maxRecDepth 65536 in
set_option maxHeartbeats 40000000 in
theorem rmPR (l : Launch) (Z : State) (a0 : Array Value) (hw : ∀ d ∈ tables_1, d.before a0 Z = true) (ws : List Jvm.Cond) (pr lx bx : Addr) (h0 : Heap) (n0 : Nat) (O0 : Old Z n0 h0) (gp : n0 ≤ pr) (EP : Exa Z h0 pr "com/example/lendloop/lendloop/core/PatronRef") (FL : Fld Z h0 pr "com/example/lendloop/lendloop/core/PatronRef" "library" "Ljava/lang/String;" .null) (FB : Fld Z h0 pr "com/example/lendloop/lendloop/core/PatronRef" "barcode" "Ljava/lang/String;" .null) :
    MetFree l (⟨"com/example/lendloop/lendloop/core/PatronRef", "<init>", "(Ljava/lang/String;Ljava/lang/String;)V"⟩ : MethodName) (head1 (Jvm.Cond.code (⟨"com/example/lendloop/lendloop/core/PatronRef", "<init>", "(Ljava/lang/String;Ljava/lang/String;)V"⟩ : MethodName) prog_24_method_1_code 3 none :: ws) ({ frames := 2, cells := 4, slots := 64, locals := 24 } : Room)) (fun qq U => qq = #[(.ref pr), (.ref lx), (.ref bx)] ∧ Z.Warmed39 U.vm ∧ U.heap = h0 ∧ CHv Z consts_1 U.vm h0) (fun _ _ _ _ _ => True) (fun _ UU oo UU' => ∃ vv LL, oo = .returned vv ∧ Qd19 Z pr lx bx h0 n0 vv UU'.heap LL ∧ CHr Z consts_1 UU.vm UU.heap UU'.vm UU'.heap ∧ ReturnedEndW UU oo UU' LL ({ frames := 2, cells := 4, slots := 64, locals := 24 } : Room).cells ({ frames := 2, cells := 4, slots := 64, locals := 24 } : Room).slots) := by
  refine MetFree.of_bodySF (plainFor_of_name pn_8) hisR ?_
  intro p e s m args below meth c s₁ Bd hml0 hP hK
  obtain ⟨rfl, hZ, hh, hC0⟩ := hP
  have hZ : Z.Warmed39 (s.setVm s.vm).vm := hZ
  have CR0 := CHr.refl hC0
  have hx := Bd.exec
  have hby := Bd.bytes
  have hml : c.maxLocals = 3 := hml0
  have hown : (s.setVm s.vm).vm.findClass "com/example/lendloop/lendloop/core/PatronRef" = some m.cls := findClass_of_methodNamed Bd.named
  have hnm := (name_of_methodNamed Bd.named Bd.method).1
  have X0 : Stand p l e ({ frames := 2, cells := 4, slots := 64, locals := 24 } : Room) (s.setVm s.vm) m #[(.ref pr), (.ref lx), (.ref bx)] below meth c s₁ [] 0 0 := Stand.of_body Bd
  have e0 : s₁.heap = h0 := by rw [← hh, Bd.state]; rfl
  have N0 := Fr.nil n0
  have pre0 : ∀ tgt, Steps p.tables e below (s₁.setTop (mkF m 0 #[.val (.ref pr), .val (.ref lx), .val (.ref bx)] [])) tgt → Steps p.tables e below (s₁.setTop (entryFrame m #[(.ref pr), (.ref lx), (.ref bx)] 3)) tgt := fun tt kk => castTop (ef_8 m pr lx bx) kk
  obtain ⟨_, _, ⟨T1, L1, k1, n1⟩, -, X1, ⟨Lc1, hQ1, l1, y1, z1⟩, st1⟩ := X0.specialBack hx (y := (⟨"java/lang/Record", "<init>", "()V"⟩ : MethodName)) rfl hown (mvT hZ (ww hw 43 rfl)) (mvT hZ (ww hw 44 rfl)) (mvT hZ (ww hw 47 rfl)) (by decide) (backOf (W := 0) (rmRe l Z a0 hw [] pr h0 n0) hZ (ww hw 47 rfl) (ww hw 46 rfl) (by decide) (by decide)) (g := (mkF m 1 #[.val (.ref pr), .val (.ref lx), .val (.ref bx)] [(.ref pr)])) rfl (by rw [hml]; rfl) (Steps.refl _) (a := pr) (argsL := []) (rest := []) (lenOf own_pd16 rfl) rfl (by show 2 * 0 + _ ≤ _; exact Nat.le_of_eq rfl) (hb hby d8_1) (fun _ _ => ⟨rfl, e0, (by decide : 0 + 0 ≤ _), (by decide : 0 + 0 ≤ _)⟩)
  dsimp only [Pt.U, Pt.locs, Pt.cells, Pt.slots] at X1 l1 y1 z1 st1 hQ1
  subst l1 y1 z1
  obtain ⟨rfl, N1q, e1⟩ := hQ1
  have N1 := Fr.app N0 N1q
  obtain ⟨a2, T2, h2, k2, b2, kc2, X2, e2, E2, S2, sw2, hZ2, hown2, Le2, Lc2, Lv2, La2, -, -, CC2, -, ns2, st2⟩ := ldcCH (s := s) (vm0 := s.vm) X1 hx hZ hown (ww hw 49 rfl) (own_atoms hw) e1 (State.WarmedH.since (State.WarmedH.refl s) 0) (Nat.zero_le _) (own_EW hw) (EL := consts_1) (List.mem_of_getElem? (i := 0) rfl) CR0.1 (vs := ((([108, 105, 98, 114, 97, 114, 121] : List Int32).map StrChars.lo8).map Value.int)) (z := Int32.ofNat (([108, 105, 98, 114, 97, 114, 121] : List Int32)).length) ⟨by decide +kernel, by decide +kernel⟩ (by decide +kernel) (by decide +kernel) (g := (mkF m 5 #[.val (.ref pr), .val (.ref lx), .val (.ref bx)] [(.ref lx)])) rfl (hb hby d8_5) (n := 28) (by decide +kernel) (by decide) (by decide) (by decide)
  have SC2 := CC2
  have CR2 := CHr.trans CR0 SC2
  have O2 := Old.ext O0 E2
  have K2 := Keep.ext (Keep.refl h0 [pr]) E2
  obtain ⟨_, _, ⟨T3, L3, k3, n3⟩, -, X3, ⟨Lc3, hQ3, l3, y3, z3⟩, st3⟩ := Jvm.LawKit.callS X2 hx (y := (⟨"java/util/Objects", "requireNonNull", "(Ljava/lang/Object;Ljava/lang/String;)Ljava/lang/Object;"⟩ : MethodName)) hown2 (mvT hZ2 (ww hw 50 rfl)) (mvT hZ2 (ww hw 51 rfl)) (mvT hZ2 (ww hw 52 rfl)) (mvT hZ2 (ww hw 53 rfl)) (by decide) (backOf (W := 0) (rmR2 l Z a0 hw [] lx a2 h2 n0) hZ2 (ww hw 53 rfl) (ww hw 52 rfl) (by decide) (by decide)) (g := (mkF m 7 #[.val (.ref pr), .val (.ref lx), .val (.ref bx)] [(.ref a2), (.ref lx)])) rfl (by rw [hml]; rfl) (argsL := [(.ref lx), (.ref a2)]) (rest := []) (lenOf own_pd17 rfl) rfl (by show 2 * 0 + _ ≤ _; exact Nat.le_of_eq rfl) (hb hby d8_7) (fun _ _ => ⟨rfl, e2, (by decide : 2 + 0 ≤ _), (by decide : 32 + 0 ≤ _)⟩)
  dsimp only [Pt.U, Pt.locs, Pt.cells, Pt.slots] at X3 l3 y3 z3 st3 hQ3
  subst l3 y3 z3
  obtain ⟨rfl, N3q, e3⟩ := hQ3
  have N3 := Fr.app N1 N3q
  obtain ⟨a4, T4, h4, k4, b4, kc4, X4, e4, E4, S4, sw4, hZ4, hown4, Le4, Lc4, Lv4, La4, -, -, CC4, -, ns4, st4⟩ := ldcCH (s := s) (vm0 := T2.vm) X3 hx hZ2 hown2 (ww hw 54 rfl) (own_atoms hw) e3 S2 sw2 (own_EW hw) (EL := consts_1) (List.mem_of_getElem? (i := 1) rfl) CR2.1 (vs := ((([98, 97, 114, 99, 111, 100, 101] : List Int32).map StrChars.lo8).map Value.int)) (z := Int32.ofNat (([98, 97, 114, 99, 111, 100, 101] : List Int32)).length) ⟨by decide +kernel, by decide +kernel⟩ (by decide +kernel) (by decide +kernel) (g := (mkF m 12 #[.val (.ref pr), .val (.ref lx), .val (.ref bx)] [(.ref bx)])) rfl (hb hby d8_12) (n := 28) (by decide +kernel) (by decide) (by decide) (by decide)
  have SC4 := CC4
  have CR4 := CHr.trans CR2 SC4
  have O4 := Old.ext O2 E4
  have K4 := Keep.ext K2 E4
  obtain ⟨_, _, ⟨T5, L5, k5, n5⟩, -, X5, ⟨Lc5, hQ5, l5, y5, z5⟩, st5⟩ := Jvm.LawKit.callS X4 hx (y := (⟨"java/util/Objects", "requireNonNull", "(Ljava/lang/Object;Ljava/lang/String;)Ljava/lang/Object;"⟩ : MethodName)) hown4 (mvT hZ4 (ww hw 50 rfl)) (mvT hZ4 (ww hw 51 rfl)) (mvT hZ4 (ww hw 52 rfl)) (mvT hZ4 (ww hw 53 rfl)) (by decide) (backOf (W := 0) (rmR2 l Z a0 hw [] bx a4 h4 n0) hZ4 (ww hw 53 rfl) (ww hw 52 rfl) (by decide) (by decide)) (g := (mkF m 14 #[.val (.ref pr), .val (.ref lx), .val (.ref bx)] [(.ref a4), (.ref bx)])) rfl (by rw [hml]; rfl) (argsL := [(.ref bx), (.ref a4)]) (rest := []) (lenOf own_pd17 rfl) rfl (by show 2 * 0 + _ ≤ _; exact Nat.le_of_eq rfl) (hb hby d8_14) (fun _ _ => ⟨rfl, e4, (by decide : 4 + 0 ≤ _), (by decide : 64 + 0 ≤ _)⟩)
  dsimp only [Pt.U, Pt.locs, Pt.cells, Pt.slots] at X5 l5 y5 z5 st5 hQ5
  subst l5 y5 z5
  obtain ⟨rfl, N5q, e5⟩ := hQ5
  have N5 := Fr.app N3 N5q
  obtain ⟨T6, h6, X6, e6, W6, st6⟩ := putF X5 hx hZ4 hown4 (host := "") (Or.inl (ww hw 55 rfl)) Via.refl e5 (Fld.ext E4 (Fld.ext E2 FL)) (Exa.ext E4 (Exa.ext E2 EP)) (Or.inr ⟨(ww hw 56 rfl), rfl, hnm⟩) (ww hw 38 rfl) (ty := (.object "java/lang/String")) (by decide) rfl rfl (g := (mkF m 20 #[.val (.ref pr), .val (.ref lx), .val (.ref bx)] [(.ref lx), (.ref pr)])) rfl rfl (hb hby d8_20)
  have Fw6 := Fld.same W6 (Fld.ext E4 (Fld.ext E2 FL))
  have SC6 := CHr.wr W6 (Safe.exa hZ4.alike (Exa.ext E4 (Exa.ext E2 EP)) (by decide) (by decide)) CR4.1
  have CR6 := CHr.trans CR4 SC6
  have sz6 := Nat.le_trans sw4 (Nat.le_of_eq W6.size.symm)
  have N6 := Fr.snoc X6 N5 gp
  have O6 := Old.wr O4 W6 gp
  have K6 := Keep.wr K4 W6 (Or.inl (List.mem_of_getElem? (i := 0) rfl))
  have c7 := (Fld.other W6 (Fld.ext E4 (Fld.ext E2 FB)) (Or.inr (slot_ne (a0 := a0) (Or.inr (ww hw 58 rfl)) (Or.inr (ww hw 56 rfl)) (by decide) (t := (.object "java/lang/String")) (t' := (.object "java/lang/String")) (by decide) (by decide))))
  obtain ⟨T8, h8, X8, e8, W8, st8⟩ := putF X6 hx hZ4 hown4 (host := "") (Or.inl (ww hw 57 rfl)) Via.refl e6 c7 (Exa.wr W6 (Exa.ext E4 (Exa.ext E2 EP))) (Or.inr ⟨(ww hw 58 rfl), rfl, hnm⟩) (ww hw 38 rfl) (ty := (.object "java/lang/String")) (by decide) rfl rfl (g := (mkF m 25 #[.val (.ref pr), .val (.ref lx), .val (.ref bx)] [(.ref bx), (.ref pr)])) rfl rfl (hb hby d8_25)
  have Fw8 := Fld.same W8 c7
  have SC8 := CHr.wr W8 (Safe.exa hZ4.alike (Exa.wr W6 (Exa.ext E4 (Exa.ext E2 EP))) (by decide) (by decide)) CR6.1
  have CR8 := CHr.trans CR6 SC8
  have sz8 := Nat.le_trans sz6 (Nat.le_of_eq W8.size.symm)
  have N8 := Fr.snoc X8 N6 gp
  have O8 := Old.wr O6 W8 gp
  have K8 := Keep.wr K6 W8 (Or.inl (List.mem_of_getElem? (i := 0) rfl))
  have c9 := (Fld.other W8 Fw6 (Or.inr (slot_ne (a0 := a0) (Or.inr (ww hw 56 rfl)) (Or.inr (ww hw 58 rfl)) (by decide) (t := (.object "java/lang/String")) (t' := (.object "java/lang/String")) (by decide) (by decide))))
  obtain ⟨fs, hr, hrun, hended, hE⟩ := X8.leaveW (s := s) (vm₁ := T4.vm) S4 (by rw [e8]; exact sz8) (v := none) (fun _ => rfl)
  have CE : CHr Z consts_1 s.vm s.heap T8.vm T8.heap := by
    rw [hh, e8]
    exact CHr.trans CR8 (CHv.at X8 hZ4 (own_EW hw) CR8.1)
  refine ⟨_, _, pre0 _ ?_, hrun, hended, _, _, rfl, ?_, CE, hE.1, hE.2.1, hE.2.2.1, hE.2.2.2.mono (by decide) (by decide)⟩
  · show Steps p.tables e below (s₁.setTop (mkF m 0 #[.val (.ref pr), .val (.ref lx), .val (.ref bx)] [])) _
    refine XS.aloadN X0.here hx rfl (hb hby d8_0) rfl rfl ?_
    show Steps p.tables e below (s₁.setTop (mkF m 1 #[.val (.ref pr), .val (.ref lx), .val (.ref bx)] [(.ref pr)])) _
    refine st1.trans ?_
    show Steps p.tables e below (T1.setTop (mkF m 4 #[.val (.ref pr), .val (.ref lx), .val (.ref bx)] [])) _
    refine XS.aloadN X1.here hx rfl (hb hby d8_4) rfl rfl ?_
    show Steps p.tables e below (T1.setTop (mkF m 5 #[.val (.ref pr), .val (.ref lx), .val (.ref bx)] [(.ref lx)])) _
    refine st2 _ ?_
    show Steps p.tables e below (T2.setTop (mkF m 7 #[.val (.ref pr), .val (.ref lx), .val (.ref bx)] [(.ref a2), (.ref lx)])) _
    refine st3 _ ?_
    show Steps p.tables e below (T3.setTop (mkF m 10 #[.val (.ref pr), .val (.ref lx), .val (.ref bx)] [(.ref lx)])) _
    refine XS.pop X3.here hx rfl (hb hby d8_10) rfl rfl ?_
    show Steps p.tables e below (T3.setTop (mkF m 11 #[.val (.ref pr), .val (.ref lx), .val (.ref bx)] [])) _
    refine XS.aloadN X3.here hx rfl (hb hby d8_11) rfl rfl ?_
    show Steps p.tables e below (T3.setTop (mkF m 12 #[.val (.ref pr), .val (.ref lx), .val (.ref bx)] [(.ref bx)])) _
    refine st4 _ ?_
    show Steps p.tables e below (T4.setTop (mkF m 14 #[.val (.ref pr), .val (.ref lx), .val (.ref bx)] [(.ref a4), (.ref bx)])) _
    refine st5 _ ?_
    show Steps p.tables e below (T5.setTop (mkF m 17 #[.val (.ref pr), .val (.ref lx), .val (.ref bx)] [(.ref bx)])) _
    refine XS.pop X5.here hx rfl (hb hby d8_17) rfl rfl ?_
    show Steps p.tables e below (T5.setTop (mkF m 18 #[.val (.ref pr), .val (.ref lx), .val (.ref bx)] [])) _
    refine XS.aloadN X5.here hx rfl (hb hby d8_18) rfl rfl ?_
    show Steps p.tables e below (T5.setTop (mkF m 19 #[.val (.ref pr), .val (.ref lx), .val (.ref bx)] [(.ref pr)])) _
    refine XS.aloadN X5.here hx rfl (hb hby d8_19) rfl rfl ?_
    show Steps p.tables e below (T5.setTop (mkF m 20 #[.val (.ref pr), .val (.ref lx), .val (.ref bx)] [(.ref lx), (.ref pr)])) _
    refine st6 _ ?_
    show Steps p.tables e below (T6.setTop (mkF m 23 #[.val (.ref pr), .val (.ref lx), .val (.ref bx)] [])) _
    refine XS.aloadN X6.here hx rfl (hb hby d8_23) rfl rfl ?_
    show Steps p.tables e below (T6.setTop (mkF m 24 #[.val (.ref pr), .val (.ref lx), .val (.ref bx)] [(.ref pr)])) _
    refine XS.aloadN X6.here hx rfl (hb hby d8_24) rfl rfl ?_
    show Steps p.tables e below (T6.setTop (mkF m 25 #[.val (.ref pr), .val (.ref lx), .val (.ref bx)] [(.ref bx), (.ref pr)])) _
    refine st8 _ ?_
    show Steps p.tables e below (T8.setTop (mkF m 28 #[.val (.ref pr), .val (.ref lx), .val (.ref bx)] [])) _
    exact X8.returnOut hx Bd.returns (hb hby d8_28) hr
  · show Qd19 Z pr lx bx h0 n0 _ T8.heap _
    rw [e8]
    exact ⟨rfl, N8, K8, c9, Fw8⟩
theorem own_gl : own_good ([32, 111, 102, 32] : List Int32) := ⟨by decide, by decide⟩
theorem d11_0 : decode prog_24_method_2_code 0 = .ok (.new 24, 3) := by decide +kernel
theorem d11_3 : decode prog_24_method_2_code 3 = .ok (.dup, 1) := by decide +kernel
theorem d11_4 : decode prog_24_method_2_code 4 = .ok (.invokespecial 26, 3) := by decide +kernel
theorem d11_7 : decode prog_24_method_2_code 7 = .ok (.aload_n 0, 1) := by decide +kernel
theorem d11_8 : decode prog_24_method_2_code 8 = .ok (.getfield 22, 3) := by decide +kernel
theorem d11_11 : decode prog_24_method_2_code 11 = .ok (.invokevirtual 27, 3) := by decide +kernel
theorem own_pd18 : parseMethodDescriptor "(Ljava/lang/String;)Ljava/lang/StringBuilder;" = some ⟨[(.object "java/lang/String")], some (.object "java/lang/StringBuilder")⟩ := by decide +kernel
theorem d11_14 : decode prog_24_method_2_code 14 = .ok (.ldc 31, 2) := by decide +kernel
theorem d11_16 : decode prog_24_method_2_code 16 = .ok (.invokevirtual 27, 3) := by decide +kernel
theorem d11_19 : decode prog_24_method_2_code 19 = .ok (.aload_n 0, 1) := by decide +kernel
theorem d11_20 : decode prog_24_method_2_code 20 = .ok (.getfield 17, 3) := by decide +kernel
theorem d11_23 : decode prog_24_method_2_code 23 = .ok (.invokevirtual 27, 3) := by decide +kernel
theorem d11_26 : decode prog_24_method_2_code 26 = .ok (.invokevirtual 33, 3) := by decide +kernel
theorem own_pd19 : parseMethodDescriptor "()Ljava/lang/String;" = some ⟨[], some (.object "java/lang/String")⟩ := by decide +kernel
theorem d11_29 : decode prog_24_method_2_code 29 = .ok (.areturn, 1) := by decide +kernel
theorem ef_11 (m : MethodId) (x0 : Addr) : entryFrame m #[(.ref x0)] 1 = mkF m 0 #[.val (.ref x0)] [] := by first | (simp [entryFrame, mkF, argsToLocals, Value.category]; done) | rfl
theorem pn_11 : plainName "com/example/lendloop/lendloop/core/PatronRef" = true := by first | (simp [plainName, overriddenIn]; done) | decide +kernel
def Qd20 (Z : State) (pr lx tl bx tb : Addr) (kbL kbB : ClassId) (cl cb : List Int32) (z : Int32) (h0 : Heap) (n0 : Nat) (v : Option Value) (h : Heap) (L : List Loc) : Prop := ∃ xs nb kn, v = some (.ref xs) ∧ Fr n0 L ∧ Keep h0 h [] ∧ Exa Z h xs "java/lang/String" ∧ Fld Z h xs "java/lang/String" "value" "[B" (.ref nb) ∧ Fld Z h xs "java/lang/String" "coder" "B" (.int 0) ∧ Arv Z h nb kn .byte (Int32.ofNat (((([] : List Int32) ++ cb) ++ ([32, 111, 102, 32] : List Int32)) ++ cl).length) (((((([] : List Int32) ++ cb) ++ ([32, 111, 102, 32] : List Int32)) ++ cl).map StrChars.lo8).map Value.int) (.int 0)
set_option maxRecDepth 65536 in
set_option maxHeartbeats 40000000 in
theorem rmPT (l : Launch) (Z : State) (a0 : Array Value) (hw : ∀ d ∈ tables_1, d.before a0 Z = true) (ws : List Jvm.Cond) (pr lx tl bx tb : Addr) (kbL kbB : ClassId) (cl cb : List Int32) (z : Int32) (h0 : Heap) (n0 : Nat) (O0 : Old Z n0 h0) (FL : Fld Z h0 pr "com/example/lendloop/lendloop/core/PatronRef" "library" "Ljava/lang/String;" (.ref lx)) (FB : Fld Z h0 pr "com/example/lendloop/lendloop/core/PatronRef" "barcode" "Ljava/lang/String;" (.ref bx)) (ExL : Exa Z h0 lx "java/lang/String") (VxL : Fld Z h0 lx "java/lang/String" "value" "[B" (.ref tl)) (CxL : Fld Z h0 lx "java/lang/String" "coder" "B" (.int 0)) (KxL : Arv Z h0 tl kbL .byte (Int32.ofNat (cl).length) (((cl).map StrChars.lo8).map Value.int) (.int 0)) (ExB : Exa Z h0 bx "java/lang/String") (VxB : Fld Z h0 bx "java/lang/String" "value" "[B" (.ref tb)) (CxB : Fld Z h0 bx "java/lang/String" "coder" "B" (.int 0)) (KxB : Arv Z h0 tb kbB .byte (Int32.ofNat (cb).length) (((cb).map StrChars.lo8).map Value.int) (.int 0)) (SC : Sta Z Z.heap "java/lang/String" "COMPACT_STRINGS" "Z" (.int z)) (hz : ¬ z = 0) (hgl : own_good cl) (hgb : own_good cb) (hll : cl.length ≤ 2) (hlb : cb.length ≤ 2) :
    MetFree l (⟨"com/example/lendloop/lendloop/core/PatronRef", "toString", "()Ljava/lang/String;"⟩ : MethodName) (head1 (Jvm.Cond.code (⟨"com/example/lendloop/lendloop/core/PatronRef", "toString", "()Ljava/lang/String;"⟩ : MethodName) prog_24_method_2_code 1 (some (.object "java/lang/String")) :: ws) ({ frames := 6, cells := 6, slots := 60, locals := 91 } : Room)) (fun qq U => qq = #[(.ref pr)] ∧ Z.Warmed39 U.vm ∧ U.heap = h0 ∧ CHv Z consts_1 U.vm h0) (fun _ _ _ _ _ => True) (fun _ UU oo UU' => ∃ vv LL, oo = .returned vv ∧ Qd20 Z pr lx tl bx tb kbL kbB cl cb z h0 n0 vv UU'.heap LL ∧ CHr Z consts_1 UU.vm UU.heap UU'.vm UU'.heap ∧ ReturnedEndW UU oo UU' LL ({ frames := 6, cells := 6, slots := 60, locals := 91 } : Room).cells ({ frames := 6, cells := 6, slots := 60, locals := 91 } : Room).slots) := by
  refine MetFree.of_bodySF (plainFor_of_name pn_11) hisR ?_
  intro p e s m args below meth c s₁ Bd hml0 hP hK
  obtain ⟨rfl, hZ, hh, hC0⟩ := hP
  have hZ : Z.Warmed39 (s.setVm s.vm).vm := hZ
  have CR0 := CHr.refl hC0
  have hx := Bd.exec
  have hby := Bd.bytes
  have hml : c.maxLocals = 1 := hml0
  have hown : (s.setVm s.vm).vm.findClass "com/example/lendloop/lendloop/core/PatronRef" = some m.cls := findClass_of_methodNamed Bd.named
  have hnm := (name_of_methodNamed Bd.named Bd.method).1
  have X0 : Stand p l e ({ frames := 6, cells := 6, slots := 60, locals := 91 } : Room) (s.setVm s.vm) m #[(.ref pr)] below meth c s₁ [] 0 0 := Stand.of_body Bd
  have e0 : s₁.heap = h0 := by rw [← hh, Bd.state]; rfl
  have N0 := Fr.nil n0
  have pre0 : ∀ tgt, Steps p.tables e below (s₁.setTop (mkF m 0 #[.val (.ref pr)] [])) tgt → Steps p.tables e below (s₁.setTop (entryFrame m #[(.ref pr)] 1)) tgt := fun tt kk => castTop (ef_11 m pr) kk
  obtain ⟨T1, h1, X1, e1, E1, A1, D1, -, st1⟩ := newO X0 hx hZ hown (ww hw 64 rfl) (ww hw 65 rfl) (ww hw 66 rfl) e0 (g := (mkF m 0 #[.val (.ref pr)] [])) rfl (hb hby d11_0) (by decide) (by decide)
  obtain ⟨b1, q1⟩ : ∃ z, z = h0.size := ⟨_, rfl⟩
  rw [← q1] at A1 D1 st1
  have g_b1 : n0 ≤ b1 := by rw [q1]; exact (O0).1 ▸ (O0).2.1
  have ne_pr_b1 : pr ≠ b1 := by rw [q1]; exact Nat.ne_of_lt FL.lt
  have ne_lx_b1 : lx ≠ b1 := by rw [q1]; exact Nat.ne_of_lt ExL.lt
  have ne_tl_b1 : tl ≠ b1 := by rw [q1]; exact Nat.ne_of_lt KxL.lt
  have ne_bx_b1 : bx ≠ b1 := by rw [q1]; exact Nat.ne_of_lt ExB.lt
  have ne_tb_b1 : tb ≠ b1 := by rw [q1]; exact Nat.ne_of_lt KxB.lt
  have sz_b1 : h0.size ≤ b1 := by rw [q1]; exact ((Keep.refl h0 [])).1
  have SC1 := CHr.ext E1 CR0.1
  have CR1 := CHr.trans CR0 SC1
  have O1 := Old.ext O0 E1
  have K1 := Keep.ext (Keep.refl h0 []) E1
  have F1_value : Fld Z h1 b1 "java/lang/AbstractStringBuilder" "value" "[B" .null := D1 (Or.inl (ww hw 79 rfl)) (ty := (.array .byte)) (by decide)
  have F1_coder : Fld Z h1 b1 "java/lang/AbstractStringBuilder" "coder" "B" (.int (0 : Int32)) := D1 (Or.inl (ww hw 81 rfl)) (ty := .byte) (by decide)
  have F1_count : Fld Z h1 b1 "java/lang/AbstractStringBuilder" "count" "I" (.int (0 : Int32)) := D1 (Or.inl (ww hw 103 rfl)) (ty := .int) (by decide)
  have lt4_pr := (Fld.ext E1 FL).lt
  have lt4_lx := (Exa.ext E1 ExL).lt
  have lt4_tl := (KxL.ext E1).lt
  have lt4_bx := (Exa.ext E1 ExB).lt
  have lt4_tb := (KxB.ext E1).lt
  have lt4_b1 := A1.lt
  obtain ⟨_, _, ⟨T2, L2, k2, n2⟩, -, X2, ⟨Lc2, hQ2, l2, y2, z2⟩, st2⟩ := X1.specialBack hx (y := (⟨"java/lang/StringBuilder", "<init>", "()V"⟩ : MethodName)) rfl hown (mvT hZ (ww hw 67 rfl)) (mvT hZ (ww hw 68 rfl)) (mvT hZ (ww hw 69 rfl)) (by decide) (backOf (W := 1) (rmBI l Z a0 hw [] b1 z h1 n0 O1 g_b1 A1 F1_value F1_coder F1_count SC hz) hZ (ww hw 69 rfl) (ww hw 66 rfl) (by decide) (by decide)) (g := (mkF m 4 #[.val (.ref pr)] [(.ref b1), (.ref b1)])) rfl (by rw [hml]; rfl) (Steps.refl _) (a := b1) (argsL := []) (rest := [(.ref b1)]) (lenOf own_pd16 rfl) rfl (by show 2 * 0 + _ ≤ _; exact Nat.le_of_eq rfl) (hb hby d11_4) (fun _ _ => ⟨rfl, e1, (by decide : 1 + 1 ≤ _), (by decide : 4 + 16 ≤ _)⟩)
  dsimp only [Pt.U, Pt.locs, Pt.cells, Pt.slots] at X2 l2 y2 z2 st2 hQ2
  subst l2 y2 z2
  obtain ⟨vb, kv, rfl, N2q, KK2, szv, gv, fE4, fV4, fC4, fN4, fK4⟩ := hQ2
  have N2 := Fr.app N0 N2q
  have SC2 := CHr.keep KK2 (sfS (Safe.exa hZ.alike A1 (by decide) (by decide)) sf0) CR1.1
  have CR2 := CHr.trans CR1 SC2
  have O2 := Old.keep O1 KK2 (allS g_b1 all0)
  have K2 := Keep.trans K1 KK2 (allS (Or.inr sz_b1) all0)
  have ne4_pr : pr ≠ vb := Nat.ne_of_lt (Nat.lt_of_lt_of_le lt4_pr szv)
  have ne4_lx : lx ≠ vb := Nat.ne_of_lt (Nat.lt_of_lt_of_le lt4_lx szv)
  have ne4_tl : tl ≠ vb := Nat.ne_of_lt (Nat.lt_of_lt_of_le lt4_tl szv)
  have ne4_bx : bx ≠ vb := Nat.ne_of_lt (Nat.lt_of_lt_of_le lt4_bx szv)
  have ne4_tb : tb ≠ vb := Nat.ne_of_lt (Nat.lt_of_lt_of_le lt4_tb szv)
  have ne4_b1 : b1 ≠ vb := Nat.ne_of_lt (Nat.lt_of_lt_of_le lt4_b1 szv)
  have sz_vb := Nat.le_trans (K1).1 szv
  have SV0 := Safe.keep KK2 (sfS (Safe.exa hZ.alike A1 (by decide) (by decide)) sf0) CR1.1 (Safe.new szv)
  obtain ⟨T3, X3, e3, st3⟩ := getF X2 hx hZ hown (host := "") (Or.inl (ww hw 57 rfl)) Via.refl rfl ((Fld.ext E1 FB).keep KK2 (ninS ne_pr_b1 nin0)) (g := (mkF m 8 #[.val (.ref pr)] [(.ref pr), (.ref b1)])) rfl rfl (hb hby d11_8)
  obtain ⟨cq4, kq4, q4a, q4b, q4c⟩ := isOf hZ e3 fE4
  obtain ⟨_, _, ⟨T4, L4, k4, n4⟩, -, X4, ⟨Lc4, hQ4, l4, y4, z4⟩, st4⟩ := X3.virtualBack hx (y := (⟨"java/lang/StringBuilder", "append", "(Ljava/lang/String;)Ljava/lang/StringBuilder;"⟩ : MethodName)) (z := (⟨"java/lang/StringBuilder", "append", "(Ljava/lang/String;)Ljava/lang/StringBuilder;"⟩ : MethodName)) hown (mvT hZ (ww hw 82 rfl)) (mvT hZ (ww hw 83 rfl)) (notFace_of_selects (args := #[]) (mvT hZ (ww hw 85 rfl))) (mvT hZ (ww hw 85 rfl)) (mvT hZ (ww hw 84 rfl)) (by decide) (backOf (W := 0) (rmBA l Z a0 hw [] b1 vb bx tb kv kbB (([] : List Int32)) (cb) z T2.heap n0 O2 g_b1 gv fE4 fV4 fC4 fN4 fK4 ((Exa.ext E1 ExB).keep KK2) ((Fld.ext E1 VxB).keep KK2 (ninS ne_bx_b1 nin0)) ((Fld.ext E1 CxB).keep KK2 (ninS ne_bx_b1 nin0)) ((KxB.ext E1).keep KK2 (ninS ne_tb_b1 nin0)) SC hz hgb (by simp only [List.length_append, List.length_nil, List.length_cons]; omega) ne4_b1 ne4_tb) hZ (ww hw 86 rfl) (ww hw 66 rfl) (by decide) (by decide)) q4a q4c (g := (mkF m 11 #[.val (.ref pr)] [(.ref bx), (.ref b1)])) rfl (by rw [hml]; rfl) (Steps.refl _) (argsL := [(.ref bx)]) (rest := []) (lenOf own_pd18 rfl) rfl (by show 2 * 0 + _ ≤ _; exact Nat.le_of_eq rfl) (hb hby d11_11) (fun _ _ => ⟨rfl, e3, (by decide : 2 + 0 ≤ _), (by decide : 20 + 0 ≤ _)⟩)
  dsimp only [Pt.U, Pt.locs, Pt.cells, Pt.slots] at X4 l4 y4 z4 st4 hQ4
  subst l4 y4 z4
  obtain ⟨rfl, N4q, KK4, fE11, fV11, fC11, fN11, fK11⟩ := hQ4
  have N4 := Fr.app N2 N4q
  have SC4 := CHr.keep KK4 (sfS (Safe.exa hZ.alike fE4 (by decide) (by decide)) (sfS SV0 sf0)) CR2.1
  have CR4 := CHr.trans CR2 SC4
  have SF4_vb := CHr.safe SC4 (fK4.lt) SV0
  have O4 := Old.keep O2 KK4 (allS g_b1 (allS gv all0))
  have K4 := Keep.trans K2 KK4 (allS (Or.inr sz_b1) (allS (Or.inr sz_vb) all0))
  obtain ⟨a5, T5, h5, k5, b5, kc5, X5, e5, E5, S5, sw5, hZ5, hown5, Le5, Lc5, Lv5, La5, -, -, CC5, -, ns5, st5⟩ := ldcCH (s := s) (vm0 := s.vm) X4 hx hZ hown (ww hw 129 rfl) (own_atoms hw) rfl (State.WarmedH.since (State.WarmedH.refl s) 0) (Nat.zero_le _) (own_EW hw) (EL := consts_1) (List.mem_of_getElem? (i := 2) rfl) CR4.1 (vs := ((([32, 111, 102, 32] : List Int32).map StrChars.lo8).map Value.int)) (z := Int32.ofNat (([32, 111, 102, 32] : List Int32)).length) ⟨by decide +kernel, by decide +kernel⟩ (by decide +kernel) (by decide +kernel) (g := (mkF m 14 #[.val (.ref pr)] [(.ref b1)])) rfl (hb hby d11_14) (n := 16) (by decide +kernel) (by decide) (by decide) (by decide)
  have SC5 := CC5
  have CR5 := CHr.trans CR4 SC5
  have SF5_vb := CHr.safe SC5 (fK11.lt) SF4_vb
  have O5 := Old.ext O4 E5
  have K5 := Keep.ext K4 E5
  have neL : b5 ≠ vb := Ne.symm (ns5 _ SF5_vb).2
  obtain ⟨cq6, kq6, q6a, q6b, q6c⟩ := isOf hZ5 e5 (Exa.ext E5 fE11)
  obtain ⟨_, _, ⟨T6, L6, k6, n6⟩, -, X6, ⟨Lc6, hQ6, l6, y6, z6⟩, st6⟩ := X5.virtualBack hx (y := (⟨"java/lang/StringBuilder", "append", "(Ljava/lang/String;)Ljava/lang/StringBuilder;"⟩ : MethodName)) (z := (⟨"java/lang/StringBuilder", "append", "(Ljava/lang/String;)Ljava/lang/StringBuilder;"⟩ : MethodName)) hown5 (mvT hZ5 (ww hw 82 rfl)) (mvT hZ5 (ww hw 83 rfl)) (notFace_of_selects (args := #[]) (mvT hZ5 (ww hw 85 rfl))) (mvT hZ5 (ww hw 85 rfl)) (mvT hZ5 (ww hw 84 rfl)) (by decide) (backOf (W := 0) (rmBA l Z a0 hw [] b1 vb a5 b5 kv kc5 (([] : List Int32) ++ cb) (([32, 111, 102, 32] : List Int32)) z h5 n0 O5 g_b1 gv (Exa.ext E5 fE11) (Fld.ext E5 fV11) (Fld.ext E5 fC11) (Fld.ext E5 fN11) (fK11.ext E5) Le5 Lv5 Lc5 La5 SC hz own_gl (by simp only [List.length_append, List.length_nil, List.length_cons]; omega) ne4_b1 neL) hZ5 (ww hw 86 rfl) (ww hw 66 rfl) (by decide) (by decide)) q6a q6c (g := (mkF m 16 #[.val (.ref pr)] [(.ref a5), (.ref b1)])) rfl (by rw [hml]; rfl) (Steps.refl _) (argsL := [(.ref a5)]) (rest := []) (lenOf own_pd18 rfl) rfl (by show 2 * 0 + _ ≤ _; exact Nat.le_of_eq rfl) (hb hby d11_16) (fun _ _ => ⟨rfl, e5, (by decide : 4 + 0 ≤ _), (by decide : 40 + 0 ≤ _)⟩)
  dsimp only [Pt.U, Pt.locs, Pt.cells, Pt.slots] at X6 l6 y6 z6 st6 hQ6
  subst l6 y6 z6
  obtain ⟨rfl, N6q, KK6, fE16, fV16, fC16, fN16, fK16⟩ := hQ6
  have N6 := Fr.app N4 N6q
  have SC6 := CHr.keep KK6 (sfS (Safe.exa hZ5.alike (Exa.ext E5 fE11) (by decide) (by decide)) (sfS SF5_vb sf0)) CR5.1
  have CR6 := CHr.trans CR5 SC6
  have SF6_vb := CHr.safe SC6 ((fK11.ext E5).lt) SF5_vb
  have sz6 := Nat.le_trans sw5 (KK6.1)
  have O6 := Old.keep O5 KK6 (allS g_b1 (allS gv all0))
  have K6 := Keep.trans K5 KK6 (allS (Or.inr sz_b1) (allS (Or.inr sz_vb) all0))
  have c7 := ((Fld.ext E5 (((Fld.ext E1 FL).keep KK2 (ninS ne_pr_b1 nin0)).keep KK4 (ninS ne_pr_b1 (ninS ne4_pr nin0)))).keep KK6 (ninS ne_pr_b1 (ninS ne4_pr nin0)))
  obtain ⟨T8, X8, e8, st8⟩ := getF X6 hx hZ5 hown5 (host := "") (Or.inl (ww hw 55 rfl)) Via.refl rfl c7 (g := (mkF m 20 #[.val (.ref pr)] [(.ref pr), (.ref b1)])) rfl rfl (hb hby d11_20)
  have c9 := ((Exa.ext E5 (((Exa.ext E1 ExL).keep KK2).keep KK4)).keep KK6)
  have c10 := ((Fld.ext E5 (((Fld.ext E1 VxL).keep KK2 (ninS ne_lx_b1 nin0)).keep KK4 (ninS ne_lx_b1 (ninS ne4_lx nin0)))).keep KK6 (ninS ne_lx_b1 (ninS ne4_lx nin0)))
  have c11 := ((Fld.ext E5 (((Fld.ext E1 CxL).keep KK2 (ninS ne_lx_b1 nin0)).keep KK4 (ninS ne_lx_b1 (ninS ne4_lx nin0)))).keep KK6 (ninS ne_lx_b1 (ninS ne4_lx nin0)))
  have c12 := (((((KxL.ext E1).keep KK2 (ninS ne_tl_b1 nin0)).keep KK4 (ninS ne_tl_b1 (ninS ne4_tl nin0))).ext E5).keep KK6 (ninS ne_tl_b1 (ninS ne4_tl nin0)))
  obtain ⟨cq13, kq13, q13a, q13b, q13c⟩ := isOf hZ5 e8 fE16
  obtain ⟨_, _, ⟨T13, L13, k13, n13⟩, -, X13, ⟨Lc13, hQ13, l13, y13, z13⟩, st13⟩ := X8.virtualBack hx (y := (⟨"java/lang/StringBuilder", "append", "(Ljava/lang/String;)Ljava/lang/StringBuilder;"⟩ : MethodName)) (z := (⟨"java/lang/StringBuilder", "append", "(Ljava/lang/String;)Ljava/lang/StringBuilder;"⟩ : MethodName)) hown5 (mvT hZ5 (ww hw 82 rfl)) (mvT hZ5 (ww hw 83 rfl)) (notFace_of_selects (args := #[]) (mvT hZ5 (ww hw 85 rfl))) (mvT hZ5 (ww hw 85 rfl)) (mvT hZ5 (ww hw 84 rfl)) (by decide) (backOf (W := 0) (rmBA l Z a0 hw [] b1 vb lx tl kv kbL ((([] : List Int32) ++ cb) ++ ([32, 111, 102, 32] : List Int32)) (cl) z T6.heap n0 O6 g_b1 gv fE16 fV16 fC16 fN16 fK16 c9 c10 c11 c12 SC hz hgl (by simp only [List.length_append, List.length_nil, List.length_cons]; omega) ne4_b1 ne4_tl) hZ5 (ww hw 86 rfl) (ww hw 66 rfl) (by decide) (by decide)) q13a q13c (g := (mkF m 23 #[.val (.ref pr)] [(.ref lx), (.ref b1)])) rfl (by rw [hml]; rfl) (Steps.refl _) (argsL := [(.ref lx)]) (rest := []) (lenOf own_pd18 rfl) rfl (by show 2 * 0 + _ ≤ _; exact Nat.le_of_eq rfl) (hb hby d11_23) (fun _ _ => ⟨rfl, e8, (by decide : 4 + 0 ≤ _), (by decide : 40 + 0 ≤ _)⟩)
  dsimp only [Pt.U, Pt.locs, Pt.cells, Pt.slots] at X13 l13 y13 z13 st13 hQ13
  subst l13 y13 z13
  obtain ⟨rfl, N13q, KK13, fE23, fV23, fC23, fN23, fK23⟩ := hQ13
  have N13 := Fr.app N6 N13q
  have SC13 := CHr.keep KK13 (sfS (Safe.exa hZ5.alike fE16 (by decide) (by decide)) (sfS SF6_vb sf0)) CR6.1
  have CR13 := CHr.trans CR6 SC13
  have SF13_vb := CHr.safe SC13 (fK16.lt) SF6_vb
  have sz13 := Nat.le_trans sz6 (KK13.1)
  have O13 := Old.keep O6 KK13 (allS g_b1 (allS gv all0))
  have K13 := Keep.trans K6 KK13 (allS (Or.inr sz_b1) (allS (Or.inr sz_vb) all0))
  obtain ⟨cq14, kq14, q14a, q14b, q14c⟩ := isOf hZ5 rfl fE23
  obtain ⟨_, _, ⟨T14, L14, k14, n14⟩, -, X14, ⟨Lc14, hQ14, l14, y14, z14⟩, st14⟩ := X13.virtualBack hx (y := (⟨"java/lang/StringBuilder", "toString", "()Ljava/lang/String;"⟩ : MethodName)) (z := (⟨"java/lang/StringBuilder", "toString", "()Ljava/lang/String;"⟩ : MethodName)) hown5 (mvT hZ5 (ww hw 130 rfl)) (mvT hZ5 (ww hw 131 rfl)) (notFace_of_selects (args := #[]) (mvT hZ5 (ww hw 133 rfl))) (mvT hZ5 (ww hw 133 rfl)) (mvT hZ5 (ww hw 132 rfl)) (by decide) (backOf (W := 0) (rmTS l Z a0 hw [] b1 vb kv (((([] : List Int32) ++ cb) ++ ([32, 111, 102, 32] : List Int32)) ++ cl) z T13.heap n0 O13 fE23 fV23 fC23 fN23 fK23 SC hz (by simp only [List.length_append, List.length_nil, List.length_cons]; omega)) hZ5 (ww hw 134 rfl) (ww hw 66 rfl) (by decide) (by decide)) q14a q14c (g := (mkF m 26 #[.val (.ref pr)] [(.ref b1)])) rfl (by rw [hml]; rfl) (Steps.refl _) (argsL := []) (rest := []) (lenOf own_pd19 rfl) rfl (by show 2 * 0 + _ ≤ _; exact Nat.le_of_eq rfl) (hb hby d11_26) (fun _ _ => ⟨rfl, rfl, (by decide : 4 + 2 ≤ _), (by decide : 40 + 20 ≤ _)⟩)
  dsimp only [Pt.U, Pt.locs, Pt.cells, Pt.slots] at X14 l14 y14 z14 st14 hQ14
  subst l14 y14 z14
  obtain ⟨xs, nb, kn, rfl, N14q, KK14, _, fE26, fV26, fC26, fK26⟩ := hQ14
  have N14 := Fr.app N13 N14q
  have SC14 := CHr.keep KK14 sf0 CR13.1
  have CR14 := CHr.trans CR13 SC14
  have SF14_vb := CHr.safe SC14 (fK23.lt) SF13_vb
  have sz14 := Nat.le_trans sz13 (KK14.1)
  have O14 := Old.keep O13 KK14 all0
  have K14 := Keep.trans K13 KK14 all0
  obtain ⟨fs, hr, hrun, hended, hE⟩ := X14.leaveW (s := s) (vm₁ := T5.vm) S5 (sz14) (v := some (.ref xs)) (fun h => by rw [Bd.returns] at h; cases h)
  have CE : CHr Z consts_1 s.vm s.heap T14.vm T14.heap := by
    rw [hh]
    exact CHr.trans CR14 (CHv.at X14 hZ5 (own_EW hw) CR14.1)
  refine ⟨_, _, pre0 _ ?_, hrun, hended, _, _, rfl, ?_, CE, hE.1, hE.2.1, hE.2.2.1, hE.2.2.2.mono (by decide) (by decide)⟩
  · show Steps p.tables e below (s₁.setTop (mkF m 0 #[.val (.ref pr)] [])) _
    refine st1 _ ?_
    show Steps p.tables e below (T1.setTop (mkF m 3 #[.val (.ref pr)] [(.ref b1)])) _
    refine XS.dup X1.here hx rfl (hb hby d11_3) rfl rfl ?_
    show Steps p.tables e below (T1.setTop (mkF m 4 #[.val (.ref pr)] [(.ref b1), (.ref b1)])) _
    refine st2.trans ?_
    show Steps p.tables e below (T2.setTop (mkF m 7 #[.val (.ref pr)] [(.ref b1)])) _
    refine XS.aloadN X2.here hx rfl (hb hby d11_7) rfl rfl ?_
    show Steps p.tables e below (T2.setTop (mkF m 8 #[.val (.ref pr)] [(.ref pr), (.ref b1)])) _
    refine st3 _ ?_
    show Steps p.tables e below (T3.setTop (mkF m 11 #[.val (.ref pr)] [(.ref bx), (.ref b1)])) _
    refine st4.trans ?_
    show Steps p.tables e below (T4.setTop (mkF m 14 #[.val (.ref pr)] [(.ref b1)])) _
    refine st5 _ ?_
    show Steps p.tables e below (T5.setTop (mkF m 16 #[.val (.ref pr)] [(.ref a5), (.ref b1)])) _
    refine st6.trans ?_
    show Steps p.tables e below (T6.setTop (mkF m 19 #[.val (.ref pr)] [(.ref b1)])) _
    refine XS.aloadN X6.here hx rfl (hb hby d11_19) rfl rfl ?_
    show Steps p.tables e below (T6.setTop (mkF m 20 #[.val (.ref pr)] [(.ref pr), (.ref b1)])) _
    refine st8 _ ?_
    show Steps p.tables e below (T8.setTop (mkF m 23 #[.val (.ref pr)] [(.ref lx), (.ref b1)])) _
    refine st13.trans ?_
    show Steps p.tables e below (T13.setTop (mkF m 26 #[.val (.ref pr)] [(.ref b1)])) _
    refine st14.trans ?_
    show Steps p.tables e below (T14.setTop (mkF m 29 #[.val (.ref pr)] [(.ref xs)])) _
    exact retOut X14 hx Bd.returns rfl (Or.inr (Or.inr (Or.inr (Or.inr ⟨rfl, rfl, rfl⟩)))) (hb hby d11_29) hr
  · show Qd20 Z pr lx tl bx tb kbL kbB cl cb z h0 n0 _ T14.heap _
    exact ⟨xs, nb, kn, rfl, N14, K14, fE26, fV26, fC26, fK26⟩
def own_exp (i bl b0 b1 l0 l1 : Int32) : Int32 := if i < bl then (if i = 0 then b0 else b1) else if i - bl = 0 then 32 else if i - bl = 1 then 111 else if i - bl = 2 then 102 else if i - bl = 3 then 32 else if i - bl = 4 then l0 else l1
theorem d39_0 : decode method_5_code 0 = .ok (.iload_n 0, 1) := by decide +kernel
theorem d39_1 : decode method_5_code 1 = .ok (.iload_n 1, 1) := by decide +kernel
theorem d39_2 : decode method_5_code 2 = .ok (.if_icmp .ge 13, 3) := by decide +kernel
theorem d39_5 : decode method_5_code 5 = .ok (.iload_n 0, 1) := by decide +kernel
theorem d39_6 : decode method_5_code 6 = .ok (.ifCond .ne 7, 3) := by decide +kernel
theorem d39_9 : decode method_5_code 9 = .ok (.iload_n 2, 1) := by decide +kernel
theorem d39_10 : decode method_5_code 10 = .ok (.goto 4, 3) := by decide +kernel
theorem d39_14 : decode method_5_code 14 = .ok (.ireturn, 1) := by decide +kernel
theorem ef_39 (m : MethodId) (x0 : Int32) (x1 : Int32) (x2 : Int32) (x3 : Int32) (x4 : Int32) (x5 : Int32) : entryFrame m #[(.int x0), (.int x1), (.int x2), (.int x3), (.int x4), (.int x5)] 7 = mkF m 0 #[.val (.int x0), .val (.int x1), .val (.int x2), .val (.int x3), .val (.int x4), .val (.int x5), .unset] [] := by first | (simp [entryFrame, mkF, argsToLocals, Value.category]; done) | rfl
theorem pn_39 : plainName "com/example/lendloop/lendloop/core/PatronRefToStringPinLaw" = true := by first | (simp [plainName, overriddenIn]; done) | decide +kernel
def Qd21 (Z : State) (ix bl b0 b1 l0 l1 : Int32) (h0 : Heap) (n0 : Nat) (v : Option Value) (h : Heap) (L : List Loc) : Prop := v = some (.int (own_exp ix bl b0 b1 l0 l1)) ∧ Fr n0 L ∧ h = h0
set_option maxRecDepth 65536 in
set_option maxHeartbeats 40000000 in
theorem rmE0 (l : Launch) (Z : State) (a0 : Array Value) (hw : ∀ d ∈ tables_1, d.before a0 Z = true) (ws : List Jvm.Cond) (ix bl b0 b1 l0 l1 : Int32) (h0 : Heap) (n0 : Nat) (Hb0 : own_ch b0) (Hb1 : own_ch b1) (Hl0 : own_ch l0) (Hl1 : own_ch l1) (hc2 : ix < bl) (hc6 : ix = (0 : Int32)) :
    MetFree l (⟨"com/example/lendloop/lendloop/core/PatronRefToStringPinLaw", "exp", "(IICCCC)C"⟩ : MethodName) (head1 (Jvm.Cond.code (⟨"com/example/lendloop/lendloop/core/PatronRefToStringPinLaw", "exp", "(IICCCC)C"⟩ : MethodName) method_5_code 7 (some .char) :: ws) ({ frames := 0, cells := 0, slots := 0, locals := 0 } : Room)) (fun qq U => qq = #[(.int ix), (.int bl), (.int b0), (.int b1), (.int l0), (.int l1)] ∧ Z.Warmed39 U.vm ∧ U.heap = h0) (fun _ _ _ _ _ => True) (fun _ UU oo UU' => ∃ vv LL, oo = .returned vv ∧ Qd21 Z ix bl b0 b1 l0 l1 h0 n0 vv UU'.heap LL ∧ FrameEnd UU oo UU' LL ({ frames := 0, cells := 0, slots := 0, locals := 0 } : Room).cells ({ frames := 0, cells := 0, slots := 0, locals := 0 } : Room).slots) := by
  refine MetFree.of_bodySF (plainFor_of_name pn_39) hisR ?_
  intro p e s m args below meth c s₁ Bd hml0 hP hK
  obtain ⟨rfl, hZ, hh⟩ := hP
  have hx := Bd.exec
  have hby := Bd.bytes
  have hml : c.maxLocals = 7 := hml0
  have hown : s.vm.findClass "com/example/lendloop/lendloop/core/PatronRefToStringPinLaw" = some m.cls := findClass_of_methodNamed Bd.named
  have hnm := (name_of_methodNamed Bd.named Bd.method).1
  have X0 : Stand p l e ({ frames := 0, cells := 0, slots := 0, locals := 0 } : Room) s m #[(.int ix), (.int bl), (.int b0), (.int b1), (.int l0), (.int l1)] below meth c s₁ [] 0 0 := Stand.of_body Bd
  have e0 : s₁.heap = h0 := by rw [← hh, Bd.state]; rfl
  have N0 := Fr.nil n0
  have pre0 : ∀ tgt, Steps p.tables e below (s₁.setTop (mkF m 0 #[.val (.int ix), .val (.int bl), .val (.int b0), .val (.int b1), .val (.int l0), .val (.int l1), .unset] [])) tgt → Steps p.tables e below (s₁.setTop (entryFrame m #[(.int ix), (.int bl), (.int b0), (.int b1), (.int l0), (.int l1)] 7)) tgt := fun tt kk => castTop (ef_39 m ix bl b0 b1 l0 l1) kk
  have hE : nar .char b0 = own_exp ix bl b0 b1 l0 l1 := by
    unfold own_exp
    rw [if_pos hc2, if_pos hc6]
    exact Hb0.1
  obtain ⟨fs, hr, hrun, hended, hW, hsame⟩ := X0.leave (v := some (.int (nar .char b0))) (fun h => by rw [Bd.returns] at h; cases h)
  refine ⟨_, _, pre0 _ ?_, hrun, hended, _, _, rfl, ?_, ⟨_, rfl⟩, hW, hsame.mono (by decide) (by decide)⟩
  · show Steps p.tables e below (s₁.setTop (mkF m 0 #[.val (.int ix), .val (.int bl), .val (.int b0), .val (.int b1), .val (.int l0), .val (.int l1), .unset] [])) _
    refine XS.iloadN X0.here hx rfl (hb hby d39_0) rfl ?_
    show Steps p.tables e below (s₁.setTop (mkF m 1 #[.val (.int ix), .val (.int bl), .val (.int b0), .val (.int b1), .val (.int l0), .val (.int l1), .unset] [(.int ix)])) _
    refine XS.iloadN X0.here hx rfl (hb hby d39_1) rfl ?_
    show Steps p.tables e below (s₁.setTop (mkF m 2 #[.val (.int ix), .val (.int bl), .val (.int b0), .val (.int b1), .val (.int l0), .val (.int l1), .unset] [(.int bl), (.int ix)])) _
    refine XS.icmpNo X0.here hx rfl (hb hby d39_2) rfl (tlt hc2).2.1 ?_
    show Steps p.tables e below (s₁.setTop (mkF m 5 #[.val (.int ix), .val (.int bl), .val (.int b0), .val (.int b1), .val (.int l0), .val (.int l1), .unset] [])) _
    refine XS.iloadN X0.here hx rfl (hb hby d39_5) rfl ?_
    show Steps p.tables e below (s₁.setTop (mkF m 6 #[.val (.int ix), .val (.int bl), .val (.int b0), .val (.int b1), .val (.int l0), .val (.int l1), .unset] [(.int ix)])) _
    refine XS.ifNo X0.here hx rfl (hb hby d39_6) rfl ((if0 _ _).trans (teq hc6).2) ?_
    show Steps p.tables e below (s₁.setTop (mkF m 9 #[.val (.int ix), .val (.int bl), .val (.int b0), .val (.int b1), .val (.int l0), .val (.int l1), .unset] [])) _
    refine XS.iloadN X0.here hx rfl (hb hby d39_9) rfl ?_
    show Steps p.tables e below (s₁.setTop (mkF m 10 #[.val (.int ix), .val (.int bl), .val (.int b0), .val (.int b1), .val (.int l0), .val (.int l1), .unset] [(.int b0)])) _
    refine XS.goto X0.here hx rfl (pc0 := 10) (pc' := 14) rfl (hb hby d39_10) (by decide) (by decide) ?_
    show Steps p.tables e below (s₁.setTop (mkF m 14 #[.val (.int ix), .val (.int bl), .val (.int b0), .val (.int b1), .val (.int l0), .val (.int l1), .unset] [(.int b0)])) _
    exact retN X0 hx (t := .char) Bd.returns (by simp) (hb hby d39_14) hr
  · show Qd21 Z ix bl b0 b1 l0 l1 h0 n0 _ s₁.heap _
    rw [e0]
    exact ⟨congrArg (fun q => some (Value.int q)) hE, N0, rfl⟩
theorem d39_13 : decode method_5_code 13 = .ok (.iload_n 3, 1) := by decide +kernel
set_option maxRecDepth 65536 in
set_option maxHeartbeats 40000000 in
theorem rmE1 (l : Launch) (Z : State) (a0 : Array Value) (hw : ∀ d ∈ tables_1, d.before a0 Z = true) (ws : List Jvm.Cond) (ix bl b0 b1 l0 l1 : Int32) (h0 : Heap) (n0 : Nat) (Hb0 : own_ch b0) (Hb1 : own_ch b1) (Hl0 : own_ch l0) (Hl1 : own_ch l1) (hc2 : ix < bl) (hc6 : ¬ (ix = (0 : Int32))) :
    MetFree l (⟨"com/example/lendloop/lendloop/core/PatronRefToStringPinLaw", "exp", "(IICCCC)C"⟩ : MethodName) (head1 (Jvm.Cond.code (⟨"com/example/lendloop/lendloop/core/PatronRefToStringPinLaw", "exp", "(IICCCC)C"⟩ : MethodName) method_5_code 7 (some .char) :: ws) ({ frames := 0, cells := 0, slots := 0, locals := 0 } : Room)) (fun qq U => qq = #[(.int ix), (.int bl), (.int b0), (.int b1), (.int l0), (.int l1)] ∧ Z.Warmed39 U.vm ∧ U.heap = h0) (fun _ _ _ _ _ => True) (fun _ UU oo UU' => ∃ vv LL, oo = .returned vv ∧ Qd21 Z ix bl b0 b1 l0 l1 h0 n0 vv UU'.heap LL ∧ FrameEnd UU oo UU' LL ({ frames := 0, cells := 0, slots := 0, locals := 0 } : Room).cells ({ frames := 0, cells := 0, slots := 0, locals := 0 } : Room).slots) := by
  refine MetFree.of_bodySF (plainFor_of_name pn_39) hisR ?_
  intro p e s m args below meth c s₁ Bd hml0 hP hK
  obtain ⟨rfl, hZ, hh⟩ := hP
  have hx := Bd.exec
  have hby := Bd.bytes
  have hml : c.maxLocals = 7 := hml0
  have hown : s.vm.findClass "com/example/lendloop/lendloop/core/PatronRefToStringPinLaw" = some m.cls := findClass_of_methodNamed Bd.named
  have hnm := (name_of_methodNamed Bd.named Bd.method).1
  have X0 : Stand p l e ({ frames := 0, cells := 0, slots := 0, locals := 0 } : Room) s m #[(.int ix), (.int bl), (.int b0), (.int b1), (.int l0), (.int l1)] below meth c s₁ [] 0 0 := Stand.of_body Bd
  have e0 : s₁.heap = h0 := by rw [← hh, Bd.state]; rfl
  have N0 := Fr.nil n0
  have pre0 : ∀ tgt, Steps p.tables e below (s₁.setTop (mkF m 0 #[.val (.int ix), .val (.int bl), .val (.int b0), .val (.int b1), .val (.int l0), .val (.int l1), .unset] [])) tgt → Steps p.tables e below (s₁.setTop (entryFrame m #[(.int ix), (.int bl), (.int b0), (.int b1), (.int l0), (.int l1)] 7)) tgt := fun tt kk => castTop (ef_39 m ix bl b0 b1 l0 l1) kk
  have hE : nar .char b1 = own_exp ix bl b0 b1 l0 l1 := by
    unfold own_exp
    rw [if_pos hc2, if_neg hc6]
    exact Hb1.1
  obtain ⟨fs, hr, hrun, hended, hW, hsame⟩ := X0.leave (v := some (.int (nar .char b1))) (fun h => by rw [Bd.returns] at h; cases h)
  refine ⟨_, _, pre0 _ ?_, hrun, hended, _, _, rfl, ?_, ⟨_, rfl⟩, hW, hsame.mono (by decide) (by decide)⟩
  · show Steps p.tables e below (s₁.setTop (mkF m 0 #[.val (.int ix), .val (.int bl), .val (.int b0), .val (.int b1), .val (.int l0), .val (.int l1), .unset] [])) _
    refine XS.iloadN X0.here hx rfl (hb hby d39_0) rfl ?_
    show Steps p.tables e below (s₁.setTop (mkF m 1 #[.val (.int ix), .val (.int bl), .val (.int b0), .val (.int b1), .val (.int l0), .val (.int l1), .unset] [(.int ix)])) _
    refine XS.iloadN X0.here hx rfl (hb hby d39_1) rfl ?_
    show Steps p.tables e below (s₁.setTop (mkF m 2 #[.val (.int ix), .val (.int bl), .val (.int b0), .val (.int b1), .val (.int l0), .val (.int l1), .unset] [(.int bl), (.int ix)])) _
    refine XS.icmpNo X0.here hx rfl (hb hby d39_2) rfl (tlt hc2).2.1 ?_
    show Steps p.tables e below (s₁.setTop (mkF m 5 #[.val (.int ix), .val (.int bl), .val (.int b0), .val (.int b1), .val (.int l0), .val (.int l1), .unset] [])) _
    refine XS.iloadN X0.here hx rfl (hb hby d39_5) rfl ?_
    show Steps p.tables e below (s₁.setTop (mkF m 6 #[.val (.int ix), .val (.int bl), .val (.int b0), .val (.int b1), .val (.int l0), .val (.int l1), .unset] [(.int ix)])) _
    refine XS.ifYes X0.here hx rfl (pc0 := 6) (pc' := 13) rfl (hb hby d39_6) rfl ((if0 _ _).trans (feq hc6).2) (by decide) (by decide) ?_
    show Steps p.tables e below (s₁.setTop (mkF m 13 #[.val (.int ix), .val (.int bl), .val (.int b0), .val (.int b1), .val (.int l0), .val (.int l1), .unset] [])) _
    refine XS.iloadN X0.here hx rfl (hb hby d39_13) rfl ?_
    show Steps p.tables e below (s₁.setTop (mkF m 14 #[.val (.int ix), .val (.int bl), .val (.int b0), .val (.int b1), .val (.int l0), .val (.int l1), .unset] [(.int b1)])) _
    exact retN X0 hx (t := .char) Bd.returns (by simp) (hb hby d39_14) hr
  · show Qd21 Z ix bl b0 b1 l0 l1 h0 n0 _ s₁.heap _
    rw [e0]
    exact ⟨congrArg (fun q => some (Value.int q)) hE, N0, rfl⟩
theorem d39_15 : decode method_5_code 15 = .ok (.iload_n 0, 1) := by decide +kernel
theorem d39_16 : decode method_5_code 16 = .ok (.iload_n 1, 1) := by decide +kernel
theorem d39_17 : decode method_5_code 17 = .ok (.isub, 1) := by decide +kernel
theorem d39_18 : decode method_5_code 18 = .ok (.istore 6, 2) := by decide +kernel
theorem d39_20 : decode method_5_code 20 = .ok (.iload 6, 2) := by decide +kernel
theorem d39_22 : decode method_5_code 22 = .ok (.ifCond .ne 6, 3) := by decide +kernel
theorem d39_25 : decode method_5_code 25 = .ok (.bipush 32, 2) := by decide +kernel
theorem d39_27 : decode method_5_code 27 = .ok (.ireturn, 1) := by decide +kernel
set_option maxRecDepth 65536 in
set_option maxHeartbeats 40000000 in
theorem rmE2 (l : Launch) (Z : State) (a0 : Array Value) (hw : ∀ d ∈ tables_1, d.before a0 Z = true) (ws : List Jvm.Cond) (ix bl b0 b1 l0 l1 : Int32) (h0 : Heap) (n0 : Nat) (Hb0 : own_ch b0) (Hb1 : own_ch b1) (Hl0 : own_ch l0) (Hl1 : own_ch l1) (hc2 : ¬ (ix < bl)) (hc22 : (ix - bl) = (0 : Int32)) :
    MetFree l (⟨"com/example/lendloop/lendloop/core/PatronRefToStringPinLaw", "exp", "(IICCCC)C"⟩ : MethodName) (head1 (Jvm.Cond.code (⟨"com/example/lendloop/lendloop/core/PatronRefToStringPinLaw", "exp", "(IICCCC)C"⟩ : MethodName) method_5_code 7 (some .char) :: ws) ({ frames := 0, cells := 0, slots := 0, locals := 0 } : Room)) (fun qq U => qq = #[(.int ix), (.int bl), (.int b0), (.int b1), (.int l0), (.int l1)] ∧ Z.Warmed39 U.vm ∧ U.heap = h0) (fun _ _ _ _ _ => True) (fun _ UU oo UU' => ∃ vv LL, oo = .returned vv ∧ Qd21 Z ix bl b0 b1 l0 l1 h0 n0 vv UU'.heap LL ∧ FrameEnd UU oo UU' LL ({ frames := 0, cells := 0, slots := 0, locals := 0 } : Room).cells ({ frames := 0, cells := 0, slots := 0, locals := 0 } : Room).slots) := by
  refine MetFree.of_bodySF (plainFor_of_name pn_39) hisR ?_
  intro p e s m args below meth c s₁ Bd hml0 hP hK
  obtain ⟨rfl, hZ, hh⟩ := hP
  have hx := Bd.exec
  have hby := Bd.bytes
  have hml : c.maxLocals = 7 := hml0
  have hown : s.vm.findClass "com/example/lendloop/lendloop/core/PatronRefToStringPinLaw" = some m.cls := findClass_of_methodNamed Bd.named
  have hnm := (name_of_methodNamed Bd.named Bd.method).1
  have X0 : Stand p l e ({ frames := 0, cells := 0, slots := 0, locals := 0 } : Room) s m #[(.int ix), (.int bl), (.int b0), (.int b1), (.int l0), (.int l1)] below meth c s₁ [] 0 0 := Stand.of_body Bd
  have e0 : s₁.heap = h0 := by rw [← hh, Bd.state]; rfl
  have N0 := Fr.nil n0
  have pre0 : ∀ tgt, Steps p.tables e below (s₁.setTop (mkF m 0 #[.val (.int ix), .val (.int bl), .val (.int b0), .val (.int b1), .val (.int l0), .val (.int l1), .unset] [])) tgt → Steps p.tables e below (s₁.setTop (entryFrame m #[(.int ix), (.int bl), (.int b0), (.int b1), (.int l0), (.int l1)] 7)) tgt := fun tt kk => castTop (ef_39 m ix bl b0 b1 l0 l1) kk
  have hE : nar .char (32 : Int32) = own_exp ix bl b0 b1 l0 l1 := by
    unfold own_exp
    rw [if_neg hc2, if_pos hc22]
    decide
  obtain ⟨fs, hr, hrun, hended, hW, hsame⟩ := X0.leave (v := some (.int (nar .char (32 : Int32)))) (fun h => by rw [Bd.returns] at h; cases h)
  refine ⟨_, _, pre0 _ ?_, hrun, hended, _, _, rfl, ?_, ⟨_, rfl⟩, hW, hsame.mono (by decide) (by decide)⟩
  · show Steps p.tables e below (s₁.setTop (mkF m 0 #[.val (.int ix), .val (.int bl), .val (.int b0), .val (.int b1), .val (.int l0), .val (.int l1), .unset] [])) _
    refine XS.iloadN X0.here hx rfl (hb hby d39_0) rfl ?_
    show Steps p.tables e below (s₁.setTop (mkF m 1 #[.val (.int ix), .val (.int bl), .val (.int b0), .val (.int b1), .val (.int l0), .val (.int l1), .unset] [(.int ix)])) _
    refine XS.iloadN X0.here hx rfl (hb hby d39_1) rfl ?_
    show Steps p.tables e below (s₁.setTop (mkF m 2 #[.val (.int ix), .val (.int bl), .val (.int b0), .val (.int b1), .val (.int l0), .val (.int l1), .unset] [(.int bl), (.int ix)])) _
    refine XS.icmpYes X0.here hx rfl (pc0 := 2) (pc' := 15) rfl (hb hby d39_2) rfl (flt hc2).2.1 (by decide) (by decide) ?_
    show Steps p.tables e below (s₁.setTop (mkF m 15 #[.val (.int ix), .val (.int bl), .val (.int b0), .val (.int b1), .val (.int l0), .val (.int l1), .unset] [])) _
    refine XS.iloadN X0.here hx rfl (hb hby d39_15) rfl ?_
    show Steps p.tables e below (s₁.setTop (mkF m 16 #[.val (.int ix), .val (.int bl), .val (.int b0), .val (.int b1), .val (.int l0), .val (.int l1), .unset] [(.int ix)])) _
    refine XS.iloadN X0.here hx rfl (hb hby d39_16) rfl ?_
    show Steps p.tables e below (s₁.setTop (mkF m 17 #[.val (.int ix), .val (.int bl), .val (.int b0), .val (.int b1), .val (.int l0), .val (.int l1), .unset] [(.int bl), (.int ix)])) _
    refine XS.isub X0.here hx rfl (hb hby d39_17) rfl ?_
    show Steps p.tables e below (s₁.setTop (mkF m 18 #[.val (.int ix), .val (.int bl), .val (.int b0), .val (.int b1), .val (.int l0), .val (.int l1), .unset] [(.int (ix - bl))])) _
    refine XS.istore X0.here hx rfl (hb hby d39_18) rfl (l' := #[.val (.int ix), .val (.int bl), .val (.int b0), .val (.int b1), .val (.int l0), .val (.int l1), .val (.int (ix - bl))]) rfl ?_
    show Steps p.tables e below (s₁.setTop (mkF m 20 #[.val (.int ix), .val (.int bl), .val (.int b0), .val (.int b1), .val (.int l0), .val (.int l1), .val (.int (ix - bl))] [])) _
    refine XS.iload X0.here hx rfl (hb hby d39_20) rfl ?_
    show Steps p.tables e below (s₁.setTop (mkF m 22 #[.val (.int ix), .val (.int bl), .val (.int b0), .val (.int b1), .val (.int l0), .val (.int l1), .val (.int (ix - bl))] [(.int (ix - bl))])) _
    refine XS.ifNo X0.here hx rfl (hb hby d39_22) rfl ((if0 _ _).trans (teq hc22).2) ?_
    show Steps p.tables e below (s₁.setTop (mkF m 25 #[.val (.int ix), .val (.int bl), .val (.int b0), .val (.int b1), .val (.int l0), .val (.int l1), .val (.int (ix - bl))] [])) _
    refine XS.bipush X0.here hx rfl (hb hby d39_25) ?_
    show Steps p.tables e below (s₁.setTop (mkF m 27 #[.val (.int ix), .val (.int bl), .val (.int b0), .val (.int b1), .val (.int l0), .val (.int l1), .val (.int (ix - bl))] [(.int (32 : Int32))])) _
    exact retN X0 hx (t := .char) Bd.returns (by simp) (hb hby d39_27) hr
  · show Qd21 Z ix bl b0 b1 l0 l1 h0 n0 _ s₁.heap _
    rw [e0]
    exact ⟨congrArg (fun q => some (Value.int q)) hE, N0, rfl⟩
theorem d39_28 : decode method_5_code 28 = .ok (.iload 6, 2) := by decide +kernel
theorem d39_30 : decode method_5_code 30 = .ok (.iconst 1, 1) := by decide +kernel
theorem d39_31 : decode method_5_code 31 = .ok (.if_icmp .ne 6, 3) := by decide +kernel
theorem d39_34 : decode method_5_code 34 = .ok (.bipush 111, 2) := by decide +kernel
theorem d39_36 : decode method_5_code 36 = .ok (.ireturn, 1) := by decide +kernel
set_option maxRecDepth 65536 in
set_option maxHeartbeats 40000000 in
theorem rmE3 (l : Launch) (Z : State) (a0 : Array Value) (hw : ∀ d ∈ tables_1, d.before a0 Z = true) (ws : List Jvm.Cond) (ix bl b0 b1 l0 l1 : Int32) (h0 : Heap) (n0 : Nat) (Hb0 : own_ch b0) (Hb1 : own_ch b1) (Hl0 : own_ch l0) (Hl1 : own_ch l1) (hc2 : ¬ (ix < bl)) (hc22 : ¬ ((ix - bl) = (0 : Int32))) (hc31 : (ix - bl) = (1 : Int32)) :
    MetFree l (⟨"com/example/lendloop/lendloop/core/PatronRefToStringPinLaw", "exp", "(IICCCC)C"⟩ : MethodName) (head1 (Jvm.Cond.code (⟨"com/example/lendloop/lendloop/core/PatronRefToStringPinLaw", "exp", "(IICCCC)C"⟩ : MethodName) method_5_code 7 (some .char) :: ws) ({ frames := 0, cells := 0, slots := 0, locals := 0 } : Room)) (fun qq U => qq = #[(.int ix), (.int bl), (.int b0), (.int b1), (.int l0), (.int l1)] ∧ Z.Warmed39 U.vm ∧ U.heap = h0) (fun _ _ _ _ _ => True) (fun _ UU oo UU' => ∃ vv LL, oo = .returned vv ∧ Qd21 Z ix bl b0 b1 l0 l1 h0 n0 vv UU'.heap LL ∧ FrameEnd UU oo UU' LL ({ frames := 0, cells := 0, slots := 0, locals := 0 } : Room).cells ({ frames := 0, cells := 0, slots := 0, locals := 0 } : Room).slots) := by
  refine MetFree.of_bodySF (plainFor_of_name pn_39) hisR ?_
  intro p e s m args below meth c s₁ Bd hml0 hP hK
  obtain ⟨rfl, hZ, hh⟩ := hP
  have hx := Bd.exec
  have hby := Bd.bytes
  have hml : c.maxLocals = 7 := hml0
  have hown : s.vm.findClass "com/example/lendloop/lendloop/core/PatronRefToStringPinLaw" = some m.cls := findClass_of_methodNamed Bd.named
  have hnm := (name_of_methodNamed Bd.named Bd.method).1
  have X0 : Stand p l e ({ frames := 0, cells := 0, slots := 0, locals := 0 } : Room) s m #[(.int ix), (.int bl), (.int b0), (.int b1), (.int l0), (.int l1)] below meth c s₁ [] 0 0 := Stand.of_body Bd
  have e0 : s₁.heap = h0 := by rw [← hh, Bd.state]; rfl
  have N0 := Fr.nil n0
  have pre0 : ∀ tgt, Steps p.tables e below (s₁.setTop (mkF m 0 #[.val (.int ix), .val (.int bl), .val (.int b0), .val (.int b1), .val (.int l0), .val (.int l1), .unset] [])) tgt → Steps p.tables e below (s₁.setTop (entryFrame m #[(.int ix), (.int bl), (.int b0), (.int b1), (.int l0), (.int l1)] 7)) tgt := fun tt kk => castTop (ef_39 m ix bl b0 b1 l0 l1) kk
  have hE : nar .char (111 : Int32) = own_exp ix bl b0 b1 l0 l1 := by
    unfold own_exp
    rw [if_neg hc2, if_neg hc22, if_pos hc31]
    decide
  obtain ⟨fs, hr, hrun, hended, hW, hsame⟩ := X0.leave (v := some (.int (nar .char (111 : Int32)))) (fun h => by rw [Bd.returns] at h; cases h)
  refine ⟨_, _, pre0 _ ?_, hrun, hended, _, _, rfl, ?_, ⟨_, rfl⟩, hW, hsame.mono (by decide) (by decide)⟩
  · show Steps p.tables e below (s₁.setTop (mkF m 0 #[.val (.int ix), .val (.int bl), .val (.int b0), .val (.int b1), .val (.int l0), .val (.int l1), .unset] [])) _
    refine XS.iloadN X0.here hx rfl (hb hby d39_0) rfl ?_
    show Steps p.tables e below (s₁.setTop (mkF m 1 #[.val (.int ix), .val (.int bl), .val (.int b0), .val (.int b1), .val (.int l0), .val (.int l1), .unset] [(.int ix)])) _
    refine XS.iloadN X0.here hx rfl (hb hby d39_1) rfl ?_
    show Steps p.tables e below (s₁.setTop (mkF m 2 #[.val (.int ix), .val (.int bl), .val (.int b0), .val (.int b1), .val (.int l0), .val (.int l1), .unset] [(.int bl), (.int ix)])) _
    refine XS.icmpYes X0.here hx rfl (pc0 := 2) (pc' := 15) rfl (hb hby d39_2) rfl (flt hc2).2.1 (by decide) (by decide) ?_
    show Steps p.tables e below (s₁.setTop (mkF m 15 #[.val (.int ix), .val (.int bl), .val (.int b0), .val (.int b1), .val (.int l0), .val (.int l1), .unset] [])) _
    refine XS.iloadN X0.here hx rfl (hb hby d39_15) rfl ?_
    show Steps p.tables e below (s₁.setTop (mkF m 16 #[.val (.int ix), .val (.int bl), .val (.int b0), .val (.int b1), .val (.int l0), .val (.int l1), .unset] [(.int ix)])) _
    refine XS.iloadN X0.here hx rfl (hb hby d39_16) rfl ?_
    show Steps p.tables e below (s₁.setTop (mkF m 17 #[.val (.int ix), .val (.int bl), .val (.int b0), .val (.int b1), .val (.int l0), .val (.int l1), .unset] [(.int bl), (.int ix)])) _
    refine XS.isub X0.here hx rfl (hb hby d39_17) rfl ?_
    show Steps p.tables e below (s₁.setTop (mkF m 18 #[.val (.int ix), .val (.int bl), .val (.int b0), .val (.int b1), .val (.int l0), .val (.int l1), .unset] [(.int (ix - bl))])) _
    refine XS.istore X0.here hx rfl (hb hby d39_18) rfl (l' := #[.val (.int ix), .val (.int bl), .val (.int b0), .val (.int b1), .val (.int l0), .val (.int l1), .val (.int (ix - bl))]) rfl ?_
    show Steps p.tables e below (s₁.setTop (mkF m 20 #[.val (.int ix), .val (.int bl), .val (.int b0), .val (.int b1), .val (.int l0), .val (.int l1), .val (.int (ix - bl))] [])) _
    refine XS.iload X0.here hx rfl (hb hby d39_20) rfl ?_
    show Steps p.tables e below (s₁.setTop (mkF m 22 #[.val (.int ix), .val (.int bl), .val (.int b0), .val (.int b1), .val (.int l0), .val (.int l1), .val (.int (ix - bl))] [(.int (ix - bl))])) _
    refine XS.ifYes X0.here hx rfl (pc0 := 22) (pc' := 28) rfl (hb hby d39_22) rfl ((if0 _ _).trans (feq hc22).2) (by decide) (by decide) ?_
    show Steps p.tables e below (s₁.setTop (mkF m 28 #[.val (.int ix), .val (.int bl), .val (.int b0), .val (.int b1), .val (.int l0), .val (.int l1), .val (.int (ix - bl))] [])) _
    refine XS.iload X0.here hx rfl (hb hby d39_28) rfl ?_
    show Steps p.tables e below (s₁.setTop (mkF m 30 #[.val (.int ix), .val (.int bl), .val (.int b0), .val (.int b1), .val (.int l0), .val (.int l1), .val (.int (ix - bl))] [(.int (ix - bl))])) _
    refine XS.iconst X0.here hx rfl (hb hby d39_30) ?_
    show Steps p.tables e below (s₁.setTop (mkF m 31 #[.val (.int ix), .val (.int bl), .val (.int b0), .val (.int b1), .val (.int l0), .val (.int l1), .val (.int (ix - bl))] [(.int (1 : Int32)), (.int (ix - bl))])) _
    refine XS.icmpNo X0.here hx rfl (hb hby d39_31) rfl (teq hc31).2 ?_
    show Steps p.tables e below (s₁.setTop (mkF m 34 #[.val (.int ix), .val (.int bl), .val (.int b0), .val (.int b1), .val (.int l0), .val (.int l1), .val (.int (ix - bl))] [])) _
    refine XS.bipush X0.here hx rfl (hb hby d39_34) ?_
    show Steps p.tables e below (s₁.setTop (mkF m 36 #[.val (.int ix), .val (.int bl), .val (.int b0), .val (.int b1), .val (.int l0), .val (.int l1), .val (.int (ix - bl))] [(.int (111 : Int32))])) _
    exact retN X0 hx (t := .char) Bd.returns (by simp) (hb hby d39_36) hr
  · show Qd21 Z ix bl b0 b1 l0 l1 h0 n0 _ s₁.heap _
    rw [e0]
    exact ⟨congrArg (fun q => some (Value.int q)) hE, N0, rfl⟩
theorem d39_37 : decode method_5_code 37 = .ok (.iload 6, 2) := by decide +kernel
theorem d39_39 : decode method_5_code 39 = .ok (.iconst 2, 1) := by decide +kernel
theorem d39_40 : decode method_5_code 40 = .ok (.if_icmp .ne 6, 3) := by decide +kernel
theorem d39_43 : decode method_5_code 43 = .ok (.bipush 102, 2) := by decide +kernel
theorem d39_45 : decode method_5_code 45 = .ok (.ireturn, 1) := by decide +kernel
set_option maxRecDepth 65536 in
set_option maxHeartbeats 40000000 in
theorem rmE4 (l : Launch) (Z : State) (a0 : Array Value) (hw : ∀ d ∈ tables_1, d.before a0 Z = true) (ws : List Jvm.Cond) (ix bl b0 b1 l0 l1 : Int32) (h0 : Heap) (n0 : Nat) (Hb0 : own_ch b0) (Hb1 : own_ch b1) (Hl0 : own_ch l0) (Hl1 : own_ch l1) (hc2 : ¬ (ix < bl)) (hc22 : ¬ ((ix - bl) = (0 : Int32))) (hc31 : ¬ ((ix - bl) = (1 : Int32))) (hc40 : (ix - bl) = (2 : Int32)) :
    MetFree l (⟨"com/example/lendloop/lendloop/core/PatronRefToStringPinLaw", "exp", "(IICCCC)C"⟩ : MethodName) (head1 (Jvm.Cond.code (⟨"com/example/lendloop/lendloop/core/PatronRefToStringPinLaw", "exp", "(IICCCC)C"⟩ : MethodName) method_5_code 7 (some .char) :: ws) ({ frames := 0, cells := 0, slots := 0, locals := 0 } : Room)) (fun qq U => qq = #[(.int ix), (.int bl), (.int b0), (.int b1), (.int l0), (.int l1)] ∧ Z.Warmed39 U.vm ∧ U.heap = h0) (fun _ _ _ _ _ => True) (fun _ UU oo UU' => ∃ vv LL, oo = .returned vv ∧ Qd21 Z ix bl b0 b1 l0 l1 h0 n0 vv UU'.heap LL ∧ FrameEnd UU oo UU' LL ({ frames := 0, cells := 0, slots := 0, locals := 0 } : Room).cells ({ frames := 0, cells := 0, slots := 0, locals := 0 } : Room).slots) := by
  refine MetFree.of_bodySF (plainFor_of_name pn_39) hisR ?_
  intro p e s m args below meth c s₁ Bd hml0 hP hK
  obtain ⟨rfl, hZ, hh⟩ := hP
  have hx := Bd.exec
  have hby := Bd.bytes
  have hml : c.maxLocals = 7 := hml0
  have hown : s.vm.findClass "com/example/lendloop/lendloop/core/PatronRefToStringPinLaw" = some m.cls := findClass_of_methodNamed Bd.named
  have hnm := (name_of_methodNamed Bd.named Bd.method).1
  have X0 : Stand p l e ({ frames := 0, cells := 0, slots := 0, locals := 0 } : Room) s m #[(.int ix), (.int bl), (.int b0), (.int b1), (.int l0), (.int l1)] below meth c s₁ [] 0 0 := Stand.of_body Bd
  have e0 : s₁.heap = h0 := by rw [← hh, Bd.state]; rfl
  have N0 := Fr.nil n0
  have pre0 : ∀ tgt, Steps p.tables e below (s₁.setTop (mkF m 0 #[.val (.int ix), .val (.int bl), .val (.int b0), .val (.int b1), .val (.int l0), .val (.int l1), .unset] [])) tgt → Steps p.tables e below (s₁.setTop (entryFrame m #[(.int ix), (.int bl), (.int b0), (.int b1), (.int l0), (.int l1)] 7)) tgt := fun tt kk => castTop (ef_39 m ix bl b0 b1 l0 l1) kk
  have hE : nar .char (102 : Int32) = own_exp ix bl b0 b1 l0 l1 := by
    unfold own_exp
    rw [if_neg hc2, if_neg hc22, if_neg hc31, if_pos hc40]
    decide
  obtain ⟨fs, hr, hrun, hended, hW, hsame⟩ := X0.leave (v := some (.int (nar .char (102 : Int32)))) (fun h => by rw [Bd.returns] at h; cases h)
  refine ⟨_, _, pre0 _ ?_, hrun, hended, _, _, rfl, ?_, ⟨_, rfl⟩, hW, hsame.mono (by decide) (by decide)⟩
  · show Steps p.tables e below (s₁.setTop (mkF m 0 #[.val (.int ix), .val (.int bl), .val (.int b0), .val (.int b1), .val (.int l0), .val (.int l1), .unset] [])) _
    refine XS.iloadN X0.here hx rfl (hb hby d39_0) rfl ?_
    show Steps p.tables e below (s₁.setTop (mkF m 1 #[.val (.int ix), .val (.int bl), .val (.int b0), .val (.int b1), .val (.int l0), .val (.int l1), .unset] [(.int ix)])) _
    refine XS.iloadN X0.here hx rfl (hb hby d39_1) rfl ?_
    show Steps p.tables e below (s₁.setTop (mkF m 2 #[.val (.int ix), .val (.int bl), .val (.int b0), .val (.int b1), .val (.int l0), .val (.int l1), .unset] [(.int bl), (.int ix)])) _
    refine XS.icmpYes X0.here hx rfl (pc0 := 2) (pc' := 15) rfl (hb hby d39_2) rfl (flt hc2).2.1 (by decide) (by decide) ?_
    show Steps p.tables e below (s₁.setTop (mkF m 15 #[.val (.int ix), .val (.int bl), .val (.int b0), .val (.int b1), .val (.int l0), .val (.int l1), .unset] [])) _
    refine XS.iloadN X0.here hx rfl (hb hby d39_15) rfl ?_
    show Steps p.tables e below (s₁.setTop (mkF m 16 #[.val (.int ix), .val (.int bl), .val (.int b0), .val (.int b1), .val (.int l0), .val (.int l1), .unset] [(.int ix)])) _
    refine XS.iloadN X0.here hx rfl (hb hby d39_16) rfl ?_
    show Steps p.tables e below (s₁.setTop (mkF m 17 #[.val (.int ix), .val (.int bl), .val (.int b0), .val (.int b1), .val (.int l0), .val (.int l1), .unset] [(.int bl), (.int ix)])) _
    refine XS.isub X0.here hx rfl (hb hby d39_17) rfl ?_
    show Steps p.tables e below (s₁.setTop (mkF m 18 #[.val (.int ix), .val (.int bl), .val (.int b0), .val (.int b1), .val (.int l0), .val (.int l1), .unset] [(.int (ix - bl))])) _
    refine XS.istore X0.here hx rfl (hb hby d39_18) rfl (l' := #[.val (.int ix), .val (.int bl), .val (.int b0), .val (.int b1), .val (.int l0), .val (.int l1), .val (.int (ix - bl))]) rfl ?_
    show Steps p.tables e below (s₁.setTop (mkF m 20 #[.val (.int ix), .val (.int bl), .val (.int b0), .val (.int b1), .val (.int l0), .val (.int l1), .val (.int (ix - bl))] [])) _
    refine XS.iload X0.here hx rfl (hb hby d39_20) rfl ?_
    show Steps p.tables e below (s₁.setTop (mkF m 22 #[.val (.int ix), .val (.int bl), .val (.int b0), .val (.int b1), .val (.int l0), .val (.int l1), .val (.int (ix - bl))] [(.int (ix - bl))])) _
    refine XS.ifYes X0.here hx rfl (pc0 := 22) (pc' := 28) rfl (hb hby d39_22) rfl ((if0 _ _).trans (feq hc22).2) (by decide) (by decide) ?_
    show Steps p.tables e below (s₁.setTop (mkF m 28 #[.val (.int ix), .val (.int bl), .val (.int b0), .val (.int b1), .val (.int l0), .val (.int l1), .val (.int (ix - bl))] [])) _
    refine XS.iload X0.here hx rfl (hb hby d39_28) rfl ?_
    show Steps p.tables e below (s₁.setTop (mkF m 30 #[.val (.int ix), .val (.int bl), .val (.int b0), .val (.int b1), .val (.int l0), .val (.int l1), .val (.int (ix - bl))] [(.int (ix - bl))])) _
    refine XS.iconst X0.here hx rfl (hb hby d39_30) ?_
    show Steps p.tables e below (s₁.setTop (mkF m 31 #[.val (.int ix), .val (.int bl), .val (.int b0), .val (.int b1), .val (.int l0), .val (.int l1), .val (.int (ix - bl))] [(.int (1 : Int32)), (.int (ix - bl))])) _
    refine XS.icmpYes X0.here hx rfl (pc0 := 31) (pc' := 37) rfl (hb hby d39_31) rfl (feq hc31).2 (by decide) (by decide) ?_
    show Steps p.tables e below (s₁.setTop (mkF m 37 #[.val (.int ix), .val (.int bl), .val (.int b0), .val (.int b1), .val (.int l0), .val (.int l1), .val (.int (ix - bl))] [])) _
    refine XS.iload X0.here hx rfl (hb hby d39_37) rfl ?_
    show Steps p.tables e below (s₁.setTop (mkF m 39 #[.val (.int ix), .val (.int bl), .val (.int b0), .val (.int b1), .val (.int l0), .val (.int l1), .val (.int (ix - bl))] [(.int (ix - bl))])) _
    refine XS.iconst X0.here hx rfl (hb hby d39_39) ?_
    show Steps p.tables e below (s₁.setTop (mkF m 40 #[.val (.int ix), .val (.int bl), .val (.int b0), .val (.int b1), .val (.int l0), .val (.int l1), .val (.int (ix - bl))] [(.int (2 : Int32)), (.int (ix - bl))])) _
    refine XS.icmpNo X0.here hx rfl (hb hby d39_40) rfl (teq hc40).2 ?_
    show Steps p.tables e below (s₁.setTop (mkF m 43 #[.val (.int ix), .val (.int bl), .val (.int b0), .val (.int b1), .val (.int l0), .val (.int l1), .val (.int (ix - bl))] [])) _
    refine XS.bipush X0.here hx rfl (hb hby d39_43) ?_
    show Steps p.tables e below (s₁.setTop (mkF m 45 #[.val (.int ix), .val (.int bl), .val (.int b0), .val (.int b1), .val (.int l0), .val (.int l1), .val (.int (ix - bl))] [(.int (102 : Int32))])) _
    exact retN X0 hx (t := .char) Bd.returns (by simp) (hb hby d39_45) hr
  · show Qd21 Z ix bl b0 b1 l0 l1 h0 n0 _ s₁.heap _
    rw [e0]
    exact ⟨congrArg (fun q => some (Value.int q)) hE, N0, rfl⟩
theorem d39_46 : decode method_5_code 46 = .ok (.iload 6, 2) := by decide +kernel
theorem d39_48 : decode method_5_code 48 = .ok (.iconst 3, 1) := by decide +kernel
theorem d39_49 : decode method_5_code 49 = .ok (.if_icmp .ne 6, 3) := by decide +kernel
theorem d39_52 : decode method_5_code 52 = .ok (.bipush 32, 2) := by decide +kernel
theorem d39_54 : decode method_5_code 54 = .ok (.ireturn, 1) := by decide +kernel
set_option maxRecDepth 65536 in
set_option maxHeartbeats 40000000 in
theorem rmE5 (l : Launch) (Z : State) (a0 : Array Value) (hw : ∀ d ∈ tables_1, d.before a0 Z = true) (ws : List Jvm.Cond) (ix bl b0 b1 l0 l1 : Int32) (h0 : Heap) (n0 : Nat) (Hb0 : own_ch b0) (Hb1 : own_ch b1) (Hl0 : own_ch l0) (Hl1 : own_ch l1) (hc2 : ¬ (ix < bl)) (hc22 : ¬ ((ix - bl) = (0 : Int32))) (hc31 : ¬ ((ix - bl) = (1 : Int32))) (hc40 : ¬ ((ix - bl) = (2 : Int32))) (hc49 : (ix - bl) = (3 : Int32)) :
    MetFree l (⟨"com/example/lendloop/lendloop/core/PatronRefToStringPinLaw", "exp", "(IICCCC)C"⟩ : MethodName) (head1 (Jvm.Cond.code (⟨"com/example/lendloop/lendloop/core/PatronRefToStringPinLaw", "exp", "(IICCCC)C"⟩ : MethodName) method_5_code 7 (some .char) :: ws) ({ frames := 0, cells := 0, slots := 0, locals := 0 } : Room)) (fun qq U => qq = #[(.int ix), (.int bl), (.int b0), (.int b1), (.int l0), (.int l1)] ∧ Z.Warmed39 U.vm ∧ U.heap = h0) (fun _ _ _ _ _ => True) (fun _ UU oo UU' => ∃ vv LL, oo = .returned vv ∧ Qd21 Z ix bl b0 b1 l0 l1 h0 n0 vv UU'.heap LL ∧ FrameEnd UU oo UU' LL ({ frames := 0, cells := 0, slots := 0, locals := 0 } : Room).cells ({ frames := 0, cells := 0, slots := 0, locals := 0 } : Room).slots) := by
  refine MetFree.of_bodySF (plainFor_of_name pn_39) hisR ?_
  intro p e s m args below meth c s₁ Bd hml0 hP hK
  obtain ⟨rfl, hZ, hh⟩ := hP
  have hx := Bd.exec
  have hby := Bd.bytes
  have hml : c.maxLocals = 7 := hml0
  have hown : s.vm.findClass "com/example/lendloop/lendloop/core/PatronRefToStringPinLaw" = some m.cls := findClass_of_methodNamed Bd.named
  have hnm := (name_of_methodNamed Bd.named Bd.method).1
  have X0 : Stand p l e ({ frames := 0, cells := 0, slots := 0, locals := 0 } : Room) s m #[(.int ix), (.int bl), (.int b0), (.int b1), (.int l0), (.int l1)] below meth c s₁ [] 0 0 := Stand.of_body Bd
  have e0 : s₁.heap = h0 := by rw [← hh, Bd.state]; rfl
  have N0 := Fr.nil n0
  have pre0 : ∀ tgt, Steps p.tables e below (s₁.setTop (mkF m 0 #[.val (.int ix), .val (.int bl), .val (.int b0), .val (.int b1), .val (.int l0), .val (.int l1), .unset] [])) tgt → Steps p.tables e below (s₁.setTop (entryFrame m #[(.int ix), (.int bl), (.int b0), (.int b1), (.int l0), (.int l1)] 7)) tgt := fun tt kk => castTop (ef_39 m ix bl b0 b1 l0 l1) kk
  have hE : nar .char (32 : Int32) = own_exp ix bl b0 b1 l0 l1 := by
    unfold own_exp
    rw [if_neg hc2, if_neg hc22, if_neg hc31, if_neg hc40, if_pos hc49]
    decide
  obtain ⟨fs, hr, hrun, hended, hW, hsame⟩ := X0.leave (v := some (.int (nar .char (32 : Int32)))) (fun h => by rw [Bd.returns] at h; cases h)
  refine ⟨_, _, pre0 _ ?_, hrun, hended, _, _, rfl, ?_, ⟨_, rfl⟩, hW, hsame.mono (by decide) (by decide)⟩
  · show Steps p.tables e below (s₁.setTop (mkF m 0 #[.val (.int ix), .val (.int bl), .val (.int b0), .val (.int b1), .val (.int l0), .val (.int l1), .unset] [])) _
    refine XS.iloadN X0.here hx rfl (hb hby d39_0) rfl ?_
    show Steps p.tables e below (s₁.setTop (mkF m 1 #[.val (.int ix), .val (.int bl), .val (.int b0), .val (.int b1), .val (.int l0), .val (.int l1), .unset] [(.int ix)])) _
    refine XS.iloadN X0.here hx rfl (hb hby d39_1) rfl ?_
    show Steps p.tables e below (s₁.setTop (mkF m 2 #[.val (.int ix), .val (.int bl), .val (.int b0), .val (.int b1), .val (.int l0), .val (.int l1), .unset] [(.int bl), (.int ix)])) _
    refine XS.icmpYes X0.here hx rfl (pc0 := 2) (pc' := 15) rfl (hb hby d39_2) rfl (flt hc2).2.1 (by decide) (by decide) ?_
    show Steps p.tables e below (s₁.setTop (mkF m 15 #[.val (.int ix), .val (.int bl), .val (.int b0), .val (.int b1), .val (.int l0), .val (.int l1), .unset] [])) _
    refine XS.iloadN X0.here hx rfl (hb hby d39_15) rfl ?_
    show Steps p.tables e below (s₁.setTop (mkF m 16 #[.val (.int ix), .val (.int bl), .val (.int b0), .val (.int b1), .val (.int l0), .val (.int l1), .unset] [(.int ix)])) _
    refine XS.iloadN X0.here hx rfl (hb hby d39_16) rfl ?_
    show Steps p.tables e below (s₁.setTop (mkF m 17 #[.val (.int ix), .val (.int bl), .val (.int b0), .val (.int b1), .val (.int l0), .val (.int l1), .unset] [(.int bl), (.int ix)])) _
    refine XS.isub X0.here hx rfl (hb hby d39_17) rfl ?_
    show Steps p.tables e below (s₁.setTop (mkF m 18 #[.val (.int ix), .val (.int bl), .val (.int b0), .val (.int b1), .val (.int l0), .val (.int l1), .unset] [(.int (ix - bl))])) _
    refine XS.istore X0.here hx rfl (hb hby d39_18) rfl (l' := #[.val (.int ix), .val (.int bl), .val (.int b0), .val (.int b1), .val (.int l0), .val (.int l1), .val (.int (ix - bl))]) rfl ?_
    show Steps p.tables e below (s₁.setTop (mkF m 20 #[.val (.int ix), .val (.int bl), .val (.int b0), .val (.int b1), .val (.int l0), .val (.int l1), .val (.int (ix - bl))] [])) _
    refine XS.iload X0.here hx rfl (hb hby d39_20) rfl ?_
    show Steps p.tables e below (s₁.setTop (mkF m 22 #[.val (.int ix), .val (.int bl), .val (.int b0), .val (.int b1), .val (.int l0), .val (.int l1), .val (.int (ix - bl))] [(.int (ix - bl))])) _
    refine XS.ifYes X0.here hx rfl (pc0 := 22) (pc' := 28) rfl (hb hby d39_22) rfl ((if0 _ _).trans (feq hc22).2) (by decide) (by decide) ?_
    show Steps p.tables e below (s₁.setTop (mkF m 28 #[.val (.int ix), .val (.int bl), .val (.int b0), .val (.int b1), .val (.int l0), .val (.int l1), .val (.int (ix - bl))] [])) _
    refine XS.iload X0.here hx rfl (hb hby d39_28) rfl ?_
    show Steps p.tables e below (s₁.setTop (mkF m 30 #[.val (.int ix), .val (.int bl), .val (.int b0), .val (.int b1), .val (.int l0), .val (.int l1), .val (.int (ix - bl))] [(.int (ix - bl))])) _
    refine XS.iconst X0.here hx rfl (hb hby d39_30) ?_
    show Steps p.tables e below (s₁.setTop (mkF m 31 #[.val (.int ix), .val (.int bl), .val (.int b0), .val (.int b1), .val (.int l0), .val (.int l1), .val (.int (ix - bl))] [(.int (1 : Int32)), (.int (ix - bl))])) _
    refine XS.icmpYes X0.here hx rfl (pc0 := 31) (pc' := 37) rfl (hb hby d39_31) rfl (feq hc31).2 (by decide) (by decide) ?_
    show Steps p.tables e below (s₁.setTop (mkF m 37 #[.val (.int ix), .val (.int bl), .val (.int b0), .val (.int b1), .val (.int l0), .val (.int l1), .val (.int (ix - bl))] [])) _
    refine XS.iload X0.here hx rfl (hb hby d39_37) rfl ?_
    show Steps p.tables e below (s₁.setTop (mkF m 39 #[.val (.int ix), .val (.int bl), .val (.int b0), .val (.int b1), .val (.int l0), .val (.int l1), .val (.int (ix - bl))] [(.int (ix - bl))])) _
    refine XS.iconst X0.here hx rfl (hb hby d39_39) ?_
    show Steps p.tables e below (s₁.setTop (mkF m 40 #[.val (.int ix), .val (.int bl), .val (.int b0), .val (.int b1), .val (.int l0), .val (.int l1), .val (.int (ix - bl))] [(.int (2 : Int32)), (.int (ix - bl))])) _
    refine XS.icmpYes X0.here hx rfl (pc0 := 40) (pc' := 46) rfl (hb hby d39_40) rfl (feq hc40).2 (by decide) (by decide) ?_
    show Steps p.tables e below (s₁.setTop (mkF m 46 #[.val (.int ix), .val (.int bl), .val (.int b0), .val (.int b1), .val (.int l0), .val (.int l1), .val (.int (ix - bl))] [])) _
    refine XS.iload X0.here hx rfl (hb hby d39_46) rfl ?_
    show Steps p.tables e below (s₁.setTop (mkF m 48 #[.val (.int ix), .val (.int bl), .val (.int b0), .val (.int b1), .val (.int l0), .val (.int l1), .val (.int (ix - bl))] [(.int (ix - bl))])) _
    refine XS.iconst X0.here hx rfl (hb hby d39_48) ?_
    show Steps p.tables e below (s₁.setTop (mkF m 49 #[.val (.int ix), .val (.int bl), .val (.int b0), .val (.int b1), .val (.int l0), .val (.int l1), .val (.int (ix - bl))] [(.int (3 : Int32)), (.int (ix - bl))])) _
    refine XS.icmpNo X0.here hx rfl (hb hby d39_49) rfl (teq hc49).2 ?_
    show Steps p.tables e below (s₁.setTop (mkF m 52 #[.val (.int ix), .val (.int bl), .val (.int b0), .val (.int b1), .val (.int l0), .val (.int l1), .val (.int (ix - bl))] [])) _
    refine XS.bipush X0.here hx rfl (hb hby d39_52) ?_
    show Steps p.tables e below (s₁.setTop (mkF m 54 #[.val (.int ix), .val (.int bl), .val (.int b0), .val (.int b1), .val (.int l0), .val (.int l1), .val (.int (ix - bl))] [(.int (32 : Int32))])) _
    exact retN X0 hx (t := .char) Bd.returns (by simp) (hb hby d39_54) hr
  · show Qd21 Z ix bl b0 b1 l0 l1 h0 n0 _ s₁.heap _
    rw [e0]
    exact ⟨congrArg (fun q => some (Value.int q)) hE, N0, rfl⟩
theorem d39_55 : decode method_5_code 55 = .ok (.iload 6, 2) := by decide +kernel
theorem d39_57 : decode method_5_code 57 = .ok (.iconst 4, 1) := by decide +kernel
theorem d39_58 : decode method_5_code 58 = .ok (.if_icmp .ne 8, 3) := by decide +kernel
theorem d39_61 : decode method_5_code 61 = .ok (.iload 4, 2) := by decide +kernel
theorem d39_63 : decode method_5_code 63 = .ok (.goto 5, 3) := by decide +kernel
theorem d39_68 : decode method_5_code 68 = .ok (.ireturn, 1) := by decide +kernel
set_option maxRecDepth 65536 in
set_option maxHeartbeats 40000000 in
theorem rmE6 (l : Launch) (Z : State) (a0 : Array Value) (hw : ∀ d ∈ tables_1, d.before a0 Z = true) (ws : List Jvm.Cond) (ix bl b0 b1 l0 l1 : Int32) (h0 : Heap) (n0 : Nat) (Hb0 : own_ch b0) (Hb1 : own_ch b1) (Hl0 : own_ch l0) (Hl1 : own_ch l1) (hc2 : ¬ (ix < bl)) (hc22 : ¬ ((ix - bl) = (0 : Int32))) (hc31 : ¬ ((ix - bl) = (1 : Int32))) (hc40 : ¬ ((ix - bl) = (2 : Int32))) (hc49 : ¬ ((ix - bl) = (3 : Int32))) (hc58 : (ix - bl) = (4 : Int32)) :
    MetFree l (⟨"com/example/lendloop/lendloop/core/PatronRefToStringPinLaw", "exp", "(IICCCC)C"⟩ : MethodName) (head1 (Jvm.Cond.code (⟨"com/example/lendloop/lendloop/core/PatronRefToStringPinLaw", "exp", "(IICCCC)C"⟩ : MethodName) method_5_code 7 (some .char) :: ws) ({ frames := 0, cells := 0, slots := 0, locals := 0 } : Room)) (fun qq U => qq = #[(.int ix), (.int bl), (.int b0), (.int b1), (.int l0), (.int l1)] ∧ Z.Warmed39 U.vm ∧ U.heap = h0) (fun _ _ _ _ _ => True) (fun _ UU oo UU' => ∃ vv LL, oo = .returned vv ∧ Qd21 Z ix bl b0 b1 l0 l1 h0 n0 vv UU'.heap LL ∧ FrameEnd UU oo UU' LL ({ frames := 0, cells := 0, slots := 0, locals := 0 } : Room).cells ({ frames := 0, cells := 0, slots := 0, locals := 0 } : Room).slots) := by
  refine MetFree.of_bodySF (plainFor_of_name pn_39) hisR ?_
  intro p e s m args below meth c s₁ Bd hml0 hP hK
  obtain ⟨rfl, hZ, hh⟩ := hP
  have hx := Bd.exec
  have hby := Bd.bytes
  have hml : c.maxLocals = 7 := hml0
  have hown : s.vm.findClass "com/example/lendloop/lendloop/core/PatronRefToStringPinLaw" = some m.cls := findClass_of_methodNamed Bd.named
  have hnm := (name_of_methodNamed Bd.named Bd.method).1
  have X0 : Stand p l e ({ frames := 0, cells := 0, slots := 0, locals := 0 } : Room) s m #[(.int ix), (.int bl), (.int b0), (.int b1), (.int l0), (.int l1)] below meth c s₁ [] 0 0 := Stand.of_body Bd
  have e0 : s₁.heap = h0 := by rw [← hh, Bd.state]; rfl
  have N0 := Fr.nil n0
  have pre0 : ∀ tgt, Steps p.tables e below (s₁.setTop (mkF m 0 #[.val (.int ix), .val (.int bl), .val (.int b0), .val (.int b1), .val (.int l0), .val (.int l1), .unset] [])) tgt → Steps p.tables e below (s₁.setTop (entryFrame m #[(.int ix), (.int bl), (.int b0), (.int b1), (.int l0), (.int l1)] 7)) tgt := fun tt kk => castTop (ef_39 m ix bl b0 b1 l0 l1) kk
  have hE : nar .char l0 = own_exp ix bl b0 b1 l0 l1 := by
    unfold own_exp
    rw [if_neg hc2, if_neg hc22, if_neg hc31, if_neg hc40, if_neg hc49, if_pos hc58]
    exact Hl0.1
  obtain ⟨fs, hr, hrun, hended, hW, hsame⟩ := X0.leave (v := some (.int (nar .char l0))) (fun h => by rw [Bd.returns] at h; cases h)
  refine ⟨_, _, pre0 _ ?_, hrun, hended, _, _, rfl, ?_, ⟨_, rfl⟩, hW, hsame.mono (by decide) (by decide)⟩
  · show Steps p.tables e below (s₁.setTop (mkF m 0 #[.val (.int ix), .val (.int bl), .val (.int b0), .val (.int b1), .val (.int l0), .val (.int l1), .unset] [])) _
    refine XS.iloadN X0.here hx rfl (hb hby d39_0) rfl ?_
    show Steps p.tables e below (s₁.setTop (mkF m 1 #[.val (.int ix), .val (.int bl), .val (.int b0), .val (.int b1), .val (.int l0), .val (.int l1), .unset] [(.int ix)])) _
    refine XS.iloadN X0.here hx rfl (hb hby d39_1) rfl ?_
    show Steps p.tables e below (s₁.setTop (mkF m 2 #[.val (.int ix), .val (.int bl), .val (.int b0), .val (.int b1), .val (.int l0), .val (.int l1), .unset] [(.int bl), (.int ix)])) _
    refine XS.icmpYes X0.here hx rfl (pc0 := 2) (pc' := 15) rfl (hb hby d39_2) rfl (flt hc2).2.1 (by decide) (by decide) ?_
    show Steps p.tables e below (s₁.setTop (mkF m 15 #[.val (.int ix), .val (.int bl), .val (.int b0), .val (.int b1), .val (.int l0), .val (.int l1), .unset] [])) _
    refine XS.iloadN X0.here hx rfl (hb hby d39_15) rfl ?_
    show Steps p.tables e below (s₁.setTop (mkF m 16 #[.val (.int ix), .val (.int bl), .val (.int b0), .val (.int b1), .val (.int l0), .val (.int l1), .unset] [(.int ix)])) _
    refine XS.iloadN X0.here hx rfl (hb hby d39_16) rfl ?_
    show Steps p.tables e below (s₁.setTop (mkF m 17 #[.val (.int ix), .val (.int bl), .val (.int b0), .val (.int b1), .val (.int l0), .val (.int l1), .unset] [(.int bl), (.int ix)])) _
    refine XS.isub X0.here hx rfl (hb hby d39_17) rfl ?_
    show Steps p.tables e below (s₁.setTop (mkF m 18 #[.val (.int ix), .val (.int bl), .val (.int b0), .val (.int b1), .val (.int l0), .val (.int l1), .unset] [(.int (ix - bl))])) _
    refine XS.istore X0.here hx rfl (hb hby d39_18) rfl (l' := #[.val (.int ix), .val (.int bl), .val (.int b0), .val (.int b1), .val (.int l0), .val (.int l1), .val (.int (ix - bl))]) rfl ?_
    show Steps p.tables e below (s₁.setTop (mkF m 20 #[.val (.int ix), .val (.int bl), .val (.int b0), .val (.int b1), .val (.int l0), .val (.int l1), .val (.int (ix - bl))] [])) _
    refine XS.iload X0.here hx rfl (hb hby d39_20) rfl ?_
    show Steps p.tables e below (s₁.setTop (mkF m 22 #[.val (.int ix), .val (.int bl), .val (.int b0), .val (.int b1), .val (.int l0), .val (.int l1), .val (.int (ix - bl))] [(.int (ix - bl))])) _
    refine XS.ifYes X0.here hx rfl (pc0 := 22) (pc' := 28) rfl (hb hby d39_22) rfl ((if0 _ _).trans (feq hc22).2) (by decide) (by decide) ?_
    show Steps p.tables e below (s₁.setTop (mkF m 28 #[.val (.int ix), .val (.int bl), .val (.int b0), .val (.int b1), .val (.int l0), .val (.int l1), .val (.int (ix - bl))] [])) _
    refine XS.iload X0.here hx rfl (hb hby d39_28) rfl ?_
    show Steps p.tables e below (s₁.setTop (mkF m 30 #[.val (.int ix), .val (.int bl), .val (.int b0), .val (.int b1), .val (.int l0), .val (.int l1), .val (.int (ix - bl))] [(.int (ix - bl))])) _
    refine XS.iconst X0.here hx rfl (hb hby d39_30) ?_
    show Steps p.tables e below (s₁.setTop (mkF m 31 #[.val (.int ix), .val (.int bl), .val (.int b0), .val (.int b1), .val (.int l0), .val (.int l1), .val (.int (ix - bl))] [(.int (1 : Int32)), (.int (ix - bl))])) _
    refine XS.icmpYes X0.here hx rfl (pc0 := 31) (pc' := 37) rfl (hb hby d39_31) rfl (feq hc31).2 (by decide) (by decide) ?_
    show Steps p.tables e below (s₁.setTop (mkF m 37 #[.val (.int ix), .val (.int bl), .val (.int b0), .val (.int b1), .val (.int l0), .val (.int l1), .val (.int (ix - bl))] [])) _
    refine XS.iload X0.here hx rfl (hb hby d39_37) rfl ?_
    show Steps p.tables e below (s₁.setTop (mkF m 39 #[.val (.int ix), .val (.int bl), .val (.int b0), .val (.int b1), .val (.int l0), .val (.int l1), .val (.int (ix - bl))] [(.int (ix - bl))])) _
    refine XS.iconst X0.here hx rfl (hb hby d39_39) ?_
    show Steps p.tables e below (s₁.setTop (mkF m 40 #[.val (.int ix), .val (.int bl), .val (.int b0), .val (.int b1), .val (.int l0), .val (.int l1), .val (.int (ix - bl))] [(.int (2 : Int32)), (.int (ix - bl))])) _
    refine XS.icmpYes X0.here hx rfl (pc0 := 40) (pc' := 46) rfl (hb hby d39_40) rfl (feq hc40).2 (by decide) (by decide) ?_
    show Steps p.tables e below (s₁.setTop (mkF m 46 #[.val (.int ix), .val (.int bl), .val (.int b0), .val (.int b1), .val (.int l0), .val (.int l1), .val (.int (ix - bl))] [])) _
    refine XS.iload X0.here hx rfl (hb hby d39_46) rfl ?_
    show Steps p.tables e below (s₁.setTop (mkF m 48 #[.val (.int ix), .val (.int bl), .val (.int b0), .val (.int b1), .val (.int l0), .val (.int l1), .val (.int (ix - bl))] [(.int (ix - bl))])) _
    refine XS.iconst X0.here hx rfl (hb hby d39_48) ?_
    show Steps p.tables e below (s₁.setTop (mkF m 49 #[.val (.int ix), .val (.int bl), .val (.int b0), .val (.int b1), .val (.int l0), .val (.int l1), .val (.int (ix - bl))] [(.int (3 : Int32)), (.int (ix - bl))])) _
    refine XS.icmpYes X0.here hx rfl (pc0 := 49) (pc' := 55) rfl (hb hby d39_49) rfl (feq hc49).2 (by decide) (by decide) ?_
    show Steps p.tables e below (s₁.setTop (mkF m 55 #[.val (.int ix), .val (.int bl), .val (.int b0), .val (.int b1), .val (.int l0), .val (.int l1), .val (.int (ix - bl))] [])) _
    refine XS.iload X0.here hx rfl (hb hby d39_55) rfl ?_
    show Steps p.tables e below (s₁.setTop (mkF m 57 #[.val (.int ix), .val (.int bl), .val (.int b0), .val (.int b1), .val (.int l0), .val (.int l1), .val (.int (ix - bl))] [(.int (ix - bl))])) _
    refine XS.iconst X0.here hx rfl (hb hby d39_57) ?_
    show Steps p.tables e below (s₁.setTop (mkF m 58 #[.val (.int ix), .val (.int bl), .val (.int b0), .val (.int b1), .val (.int l0), .val (.int l1), .val (.int (ix - bl))] [(.int (4 : Int32)), (.int (ix - bl))])) _
    refine XS.icmpNo X0.here hx rfl (hb hby d39_58) rfl (teq hc58).2 ?_
    show Steps p.tables e below (s₁.setTop (mkF m 61 #[.val (.int ix), .val (.int bl), .val (.int b0), .val (.int b1), .val (.int l0), .val (.int l1), .val (.int (ix - bl))] [])) _
    refine XS.iload X0.here hx rfl (hb hby d39_61) rfl ?_
    show Steps p.tables e below (s₁.setTop (mkF m 63 #[.val (.int ix), .val (.int bl), .val (.int b0), .val (.int b1), .val (.int l0), .val (.int l1), .val (.int (ix - bl))] [(.int l0)])) _
    refine XS.goto X0.here hx rfl (pc0 := 63) (pc' := 68) rfl (hb hby d39_63) (by decide) (by decide) ?_
    show Steps p.tables e below (s₁.setTop (mkF m 68 #[.val (.int ix), .val (.int bl), .val (.int b0), .val (.int b1), .val (.int l0), .val (.int l1), .val (.int (ix - bl))] [(.int l0)])) _
    exact retN X0 hx (t := .char) Bd.returns (by simp) (hb hby d39_68) hr
  · show Qd21 Z ix bl b0 b1 l0 l1 h0 n0 _ s₁.heap _
    rw [e0]
    exact ⟨congrArg (fun q => some (Value.int q)) hE, N0, rfl⟩
theorem d39_66 : decode method_5_code 66 = .ok (.iload 5, 2) := by decide +kernel
set_option maxRecDepth 65536 in
set_option maxHeartbeats 40000000 in
theorem rmE7 (l : Launch) (Z : State) (a0 : Array Value) (hw : ∀ d ∈ tables_1, d.before a0 Z = true) (ws : List Jvm.Cond) (ix bl b0 b1 l0 l1 : Int32) (h0 : Heap) (n0 : Nat) (Hb0 : own_ch b0) (Hb1 : own_ch b1) (Hl0 : own_ch l0) (Hl1 : own_ch l1) (hc2 : ¬ (ix < bl)) (hc22 : ¬ ((ix - bl) = (0 : Int32))) (hc31 : ¬ ((ix - bl) = (1 : Int32))) (hc40 : ¬ ((ix - bl) = (2 : Int32))) (hc49 : ¬ ((ix - bl) = (3 : Int32))) (hc58 : ¬ ((ix - bl) = (4 : Int32))) :
    MetFree l (⟨"com/example/lendloop/lendloop/core/PatronRefToStringPinLaw", "exp", "(IICCCC)C"⟩ : MethodName) (head1 (Jvm.Cond.code (⟨"com/example/lendloop/lendloop/core/PatronRefToStringPinLaw", "exp", "(IICCCC)C"⟩ : MethodName) method_5_code 7 (some .char) :: ws) ({ frames := 0, cells := 0, slots := 0, locals := 0 } : Room)) (fun qq U => qq = #[(.int ix), (.int bl), (.int b0), (.int b1), (.int l0), (.int l1)] ∧ Z.Warmed39 U.vm ∧ U.heap = h0) (fun _ _ _ _ _ => True) (fun _ UU oo UU' => ∃ vv LL, oo = .returned vv ∧ Qd21 Z ix bl b0 b1 l0 l1 h0 n0 vv UU'.heap LL ∧ FrameEnd UU oo UU' LL ({ frames := 0, cells := 0, slots := 0, locals := 0 } : Room).cells ({ frames := 0, cells := 0, slots := 0, locals := 0 } : Room).slots) := by
  refine MetFree.of_bodySF (plainFor_of_name pn_39) hisR ?_
  intro p e s m args below meth c s₁ Bd hml0 hP hK
  obtain ⟨rfl, hZ, hh⟩ := hP
  have hx := Bd.exec
  have hby := Bd.bytes
  have hml : c.maxLocals = 7 := hml0
  have hown : s.vm.findClass "com/example/lendloop/lendloop/core/PatronRefToStringPinLaw" = some m.cls := findClass_of_methodNamed Bd.named
  have hnm := (name_of_methodNamed Bd.named Bd.method).1
  have X0 : Stand p l e ({ frames := 0, cells := 0, slots := 0, locals := 0 } : Room) s m #[(.int ix), (.int bl), (.int b0), (.int b1), (.int l0), (.int l1)] below meth c s₁ [] 0 0 := Stand.of_body Bd
  have e0 : s₁.heap = h0 := by rw [← hh, Bd.state]; rfl
  have N0 := Fr.nil n0
  have pre0 : ∀ tgt, Steps p.tables e below (s₁.setTop (mkF m 0 #[.val (.int ix), .val (.int bl), .val (.int b0), .val (.int b1), .val (.int l0), .val (.int l1), .unset] [])) tgt → Steps p.tables e below (s₁.setTop (entryFrame m #[(.int ix), (.int bl), (.int b0), (.int b1), (.int l0), (.int l1)] 7)) tgt := fun tt kk => castTop (ef_39 m ix bl b0 b1 l0 l1) kk
  have hE : nar .char l1 = own_exp ix bl b0 b1 l0 l1 := by
    unfold own_exp
    rw [if_neg hc2, if_neg hc22, if_neg hc31, if_neg hc40, if_neg hc49, if_neg hc58]
    exact Hl1.1
  obtain ⟨fs, hr, hrun, hended, hW, hsame⟩ := X0.leave (v := some (.int (nar .char l1))) (fun h => by rw [Bd.returns] at h; cases h)
  refine ⟨_, _, pre0 _ ?_, hrun, hended, _, _, rfl, ?_, ⟨_, rfl⟩, hW, hsame.mono (by decide) (by decide)⟩
  · show Steps p.tables e below (s₁.setTop (mkF m 0 #[.val (.int ix), .val (.int bl), .val (.int b0), .val (.int b1), .val (.int l0), .val (.int l1), .unset] [])) _
    refine XS.iloadN X0.here hx rfl (hb hby d39_0) rfl ?_
    show Steps p.tables e below (s₁.setTop (mkF m 1 #[.val (.int ix), .val (.int bl), .val (.int b0), .val (.int b1), .val (.int l0), .val (.int l1), .unset] [(.int ix)])) _
    refine XS.iloadN X0.here hx rfl (hb hby d39_1) rfl ?_
    show Steps p.tables e below (s₁.setTop (mkF m 2 #[.val (.int ix), .val (.int bl), .val (.int b0), .val (.int b1), .val (.int l0), .val (.int l1), .unset] [(.int bl), (.int ix)])) _
    refine XS.icmpYes X0.here hx rfl (pc0 := 2) (pc' := 15) rfl (hb hby d39_2) rfl (flt hc2).2.1 (by decide) (by decide) ?_
    show Steps p.tables e below (s₁.setTop (mkF m 15 #[.val (.int ix), .val (.int bl), .val (.int b0), .val (.int b1), .val (.int l0), .val (.int l1), .unset] [])) _
    refine XS.iloadN X0.here hx rfl (hb hby d39_15) rfl ?_
    show Steps p.tables e below (s₁.setTop (mkF m 16 #[.val (.int ix), .val (.int bl), .val (.int b0), .val (.int b1), .val (.int l0), .val (.int l1), .unset] [(.int ix)])) _
    refine XS.iloadN X0.here hx rfl (hb hby d39_16) rfl ?_
    show Steps p.tables e below (s₁.setTop (mkF m 17 #[.val (.int ix), .val (.int bl), .val (.int b0), .val (.int b1), .val (.int l0), .val (.int l1), .unset] [(.int bl), (.int ix)])) _
    refine XS.isub X0.here hx rfl (hb hby d39_17) rfl ?_
    show Steps p.tables e below (s₁.setTop (mkF m 18 #[.val (.int ix), .val (.int bl), .val (.int b0), .val (.int b1), .val (.int l0), .val (.int l1), .unset] [(.int (ix - bl))])) _
    refine XS.istore X0.here hx rfl (hb hby d39_18) rfl (l' := #[.val (.int ix), .val (.int bl), .val (.int b0), .val (.int b1), .val (.int l0), .val (.int l1), .val (.int (ix - bl))]) rfl ?_
    show Steps p.tables e below (s₁.setTop (mkF m 20 #[.val (.int ix), .val (.int bl), .val (.int b0), .val (.int b1), .val (.int l0), .val (.int l1), .val (.int (ix - bl))] [])) _
    refine XS.iload X0.here hx rfl (hb hby d39_20) rfl ?_
    show Steps p.tables e below (s₁.setTop (mkF m 22 #[.val (.int ix), .val (.int bl), .val (.int b0), .val (.int b1), .val (.int l0), .val (.int l1), .val (.int (ix - bl))] [(.int (ix - bl))])) _
    refine XS.ifYes X0.here hx rfl (pc0 := 22) (pc' := 28) rfl (hb hby d39_22) rfl ((if0 _ _).trans (feq hc22).2) (by decide) (by decide) ?_
    show Steps p.tables e below (s₁.setTop (mkF m 28 #[.val (.int ix), .val (.int bl), .val (.int b0), .val (.int b1), .val (.int l0), .val (.int l1), .val (.int (ix - bl))] [])) _
    refine XS.iload X0.here hx rfl (hb hby d39_28) rfl ?_
    show Steps p.tables e below (s₁.setTop (mkF m 30 #[.val (.int ix), .val (.int bl), .val (.int b0), .val (.int b1), .val (.int l0), .val (.int l1), .val (.int (ix - bl))] [(.int (ix - bl))])) _
    refine XS.iconst X0.here hx rfl (hb hby d39_30) ?_
    show Steps p.tables e below (s₁.setTop (mkF m 31 #[.val (.int ix), .val (.int bl), .val (.int b0), .val (.int b1), .val (.int l0), .val (.int l1), .val (.int (ix - bl))] [(.int (1 : Int32)), (.int (ix - bl))])) _
    refine XS.icmpYes X0.here hx rfl (pc0 := 31) (pc' := 37) rfl (hb hby d39_31) rfl (feq hc31).2 (by decide) (by decide) ?_
    show Steps p.tables e below (s₁.setTop (mkF m 37 #[.val (.int ix), .val (.int bl), .val (.int b0), .val (.int b1), .val (.int l0), .val (.int l1), .val (.int (ix - bl))] [])) _
    refine XS.iload X0.here hx rfl (hb hby d39_37) rfl ?_
    show Steps p.tables e below (s₁.setTop (mkF m 39 #[.val (.int ix), .val (.int bl), .val (.int b0), .val (.int b1), .val (.int l0), .val (.int l1), .val (.int (ix - bl))] [(.int (ix - bl))])) _
    refine XS.iconst X0.here hx rfl (hb hby d39_39) ?_
    show Steps p.tables e below (s₁.setTop (mkF m 40 #[.val (.int ix), .val (.int bl), .val (.int b0), .val (.int b1), .val (.int l0), .val (.int l1), .val (.int (ix - bl))] [(.int (2 : Int32)), (.int (ix - bl))])) _
    refine XS.icmpYes X0.here hx rfl (pc0 := 40) (pc' := 46) rfl (hb hby d39_40) rfl (feq hc40).2 (by decide) (by decide) ?_
    show Steps p.tables e below (s₁.setTop (mkF m 46 #[.val (.int ix), .val (.int bl), .val (.int b0), .val (.int b1), .val (.int l0), .val (.int l1), .val (.int (ix - bl))] [])) _
    refine XS.iload X0.here hx rfl (hb hby d39_46) rfl ?_
    show Steps p.tables e below (s₁.setTop (mkF m 48 #[.val (.int ix), .val (.int bl), .val (.int b0), .val (.int b1), .val (.int l0), .val (.int l1), .val (.int (ix - bl))] [(.int (ix - bl))])) _
    refine XS.iconst X0.here hx rfl (hb hby d39_48) ?_
    show Steps p.tables e below (s₁.setTop (mkF m 49 #[.val (.int ix), .val (.int bl), .val (.int b0), .val (.int b1), .val (.int l0), .val (.int l1), .val (.int (ix - bl))] [(.int (3 : Int32)), (.int (ix - bl))])) _
    refine XS.icmpYes X0.here hx rfl (pc0 := 49) (pc' := 55) rfl (hb hby d39_49) rfl (feq hc49).2 (by decide) (by decide) ?_
    show Steps p.tables e below (s₁.setTop (mkF m 55 #[.val (.int ix), .val (.int bl), .val (.int b0), .val (.int b1), .val (.int l0), .val (.int l1), .val (.int (ix - bl))] [])) _
    refine XS.iload X0.here hx rfl (hb hby d39_55) rfl ?_
    show Steps p.tables e below (s₁.setTop (mkF m 57 #[.val (.int ix), .val (.int bl), .val (.int b0), .val (.int b1), .val (.int l0), .val (.int l1), .val (.int (ix - bl))] [(.int (ix - bl))])) _
    refine XS.iconst X0.here hx rfl (hb hby d39_57) ?_
    show Steps p.tables e below (s₁.setTop (mkF m 58 #[.val (.int ix), .val (.int bl), .val (.int b0), .val (.int b1), .val (.int l0), .val (.int l1), .val (.int (ix - bl))] [(.int (4 : Int32)), (.int (ix - bl))])) _
    refine XS.icmpYes X0.here hx rfl (pc0 := 58) (pc' := 66) rfl (hb hby d39_58) rfl (feq hc58).2 (by decide) (by decide) ?_
    show Steps p.tables e below (s₁.setTop (mkF m 66 #[.val (.int ix), .val (.int bl), .val (.int b0), .val (.int b1), .val (.int l0), .val (.int l1), .val (.int (ix - bl))] [])) _
    refine XS.iload X0.here hx rfl (hb hby d39_66) rfl ?_
    show Steps p.tables e below (s₁.setTop (mkF m 68 #[.val (.int ix), .val (.int bl), .val (.int b0), .val (.int b1), .val (.int l0), .val (.int l1), .val (.int (ix - bl))] [(.int l1)])) _
    exact retN X0 hx (t := .char) Bd.returns (by simp) (hb hby d39_68) hr
  · show Qd21 Z ix bl b0 b1 l0 l1 h0 n0 _ s₁.heap _
    rw [e0]
    exact ⟨congrArg (fun q => some (Value.int q)) hE, N0, rfl⟩
theorem rmE (l : Launch) (Z : State) (a0 : Array Value) (hw : ∀ d ∈ tables_1, d.before a0 Z = true) (ws : List Jvm.Cond) (ix bl b0 b1 l0 l1 : Int32) (h0 : Heap) (n0 : Nat) (Hb0 : own_ch b0) (Hb1 : own_ch b1) (Hl0 : own_ch l0) (Hl1 : own_ch l1) :
    MetFree l (⟨"com/example/lendloop/lendloop/core/PatronRefToStringPinLaw", "exp", "(IICCCC)C"⟩ : MethodName) (head1 (Jvm.Cond.code (⟨"com/example/lendloop/lendloop/core/PatronRefToStringPinLaw", "exp", "(IICCCC)C"⟩ : MethodName) method_5_code 7 (some .char) :: ws) ({ frames := 0, cells := 0, slots := 0, locals := 0 } : Room)) (fun qq U => qq = #[(.int ix), (.int bl), (.int b0), (.int b1), (.int l0), (.int l1)] ∧ Z.Warmed39 U.vm ∧ U.heap = h0) (fun _ _ _ _ _ => True) (fun _ UU oo UU' => ∃ vv LL, oo = .returned vv ∧ Qd21 Z ix bl b0 b1 l0 l1 h0 n0 vv UU'.heap LL ∧ FrameEnd UU oo UU' LL ({ frames := 0, cells := 0, slots := 0, locals := 0 } : Room).cells ({ frames := 0, cells := 0, slots := 0, locals := 0 } : Room).slots) := by
  by_cases q0 : ix < bl
  · by_cases q1 : ix = (0 : Int32)
    · exact rmE0 l Z a0 hw ws ix bl b0 b1 l0 l1 h0 n0 Hb0 Hb1 Hl0 Hl1 q0 q1
    · exact rmE1 l Z a0 hw ws ix bl b0 b1 l0 l1 h0 n0 Hb0 Hb1 Hl0 Hl1 q0 q1
  by_cases q1 : ix - bl = (0 : Int32)
  · exact rmE2 l Z a0 hw ws ix bl b0 b1 l0 l1 h0 n0 Hb0 Hb1 Hl0 Hl1 q0 q1
  by_cases q2 : ix - bl = (1 : Int32)
  · exact rmE3 l Z a0 hw ws ix bl b0 b1 l0 l1 h0 n0 Hb0 Hb1 Hl0 Hl1 q0 q1 q2
  by_cases q3 : ix - bl = (2 : Int32)
  · exact rmE4 l Z a0 hw ws ix bl b0 b1 l0 l1 h0 n0 Hb0 Hb1 Hl0 Hl1 q0 q1 q2 q3
  by_cases q4 : ix - bl = (3 : Int32)
  · exact rmE5 l Z a0 hw ws ix bl b0 b1 l0 l1 h0 n0 Hb0 Hb1 Hl0 Hl1 q0 q1 q2 q3 q4
  by_cases q5 : ix - bl = (4 : Int32)
  · exact rmE6 l Z a0 hw ws ix bl b0 b1 l0 l1 h0 n0 Hb0 Hb1 Hl0 Hl1 q0 q1 q2 q3 q4 q5
  · exact rmE7 l Z a0 hw ws ix bl b0 b1 l0 l1 h0 n0 Hb0 Hb1 Hl0 Hl1 q0 q1 q2 q3 q4 q5
theorem d33_0 : decode method_4_code 0 = .ok (.iload_n 1, 1) := by decide +kernel
theorem d33_1 : decode method_4_code 1 = .ok (.iload_n 2, 1) := by decide +kernel
theorem d33_2 : decode method_4_code 2 = .ok (.if_icmp .lt 5, 3) := by decide +kernel
theorem d33_5 : decode method_4_code 5 = .ok (.iconst 1, 1) := by decide +kernel
theorem d33_6 : decode method_4_code 6 = .ok (.ireturn, 1) := by decide +kernel
theorem ef_33 (m : MethodId) (x0 : Addr) (x1 : Int32) (x2 : Int32) (x3 : Int32) (x4 : Int32) (x5 : Int32) (x6 : Int32) (x7 : Int32) : entryFrame m #[(.ref x0), (.int x1), (.int x2), (.int x3), (.int x4), (.int x5), (.int x6), (.int x7)] 8 = mkF m 0 #[.val (.ref x0), .val (.int x1), .val (.int x2), .val (.int x3), .val (.int x4), .val (.int x5), .val (.int x6), .val (.int x7)] [] := by first | (simp [entryFrame, mkF, argsToLocals, Value.category]; done) | rfl
theorem pn_33 : plainName "com/example/lendloop/lendloop/core/PatronRefToStringPinLaw" = true := by first | (simp [plainName, overriddenIn]; done) | decide +kernel
def Qd22 (Z : State) (xs tt : Addr) (kb : ClassId) (cs : List Int32) (z ix nn bl b0 b1 l0 l1 : Int32) (ii : Nat) (fm : Value) (h0 : Heap) (n0 : Nat) (v : Option Value) (h : Heap) (L : List Loc) : Prop := v = some (.int 1) ∧ Fr n0 L ∧ h = h0
set_option maxRecDepth 65536 in
set_option maxHeartbeats 40000000 in
theorem rmAt0 (l : Launch) (Z : State) (a0 : Array Value) (hw : ∀ d ∈ tables_1, d.before a0 Z = true) (ws : List Jvm.Cond) (xs tt : Addr) (kb : ClassId) (cs : List Int32) (z ix nn bl b0 b1 l0 l1 : Int32) (ii : Nat) (fm : Value) (h0 : Heap) (n0 : Nat) (O0 : Old Z n0 h0) (Ex : Exa Z h0 xs "java/lang/String") (Vx : Fld Z h0 xs "java/lang/String" "value" "[B" (.ref tt)) (Cx : Fld Z h0 xs "java/lang/String" "coder" "B" (.int 0)) (Kx : Arv Z h0 tt kb .byte (Int32.ofNat (cs).length) (((cs).map StrChars.lo8).map Value.int) (.int 0)) (SC : Sta Z Z.heap "java/lang/String" "COMPACT_STRINGS" "Z" (.int z)) (hz : ¬ z = 0) (SF : Sta Z Z.heap "jdk/internal/util/Preconditions" "SIOOBE_FORMATTER" "Ljava/util/function/BiFunction;" fm) (hf : fm.isRef = true) (Hb0 : own_ch b0) (Hb1 : own_ch b1) (Hl0 : own_ch l0) (Hl1 : own_ch l1) (hg : own_good cs) (hc2 : ¬ (ix < nn)) :
    MetFree l (⟨"com/example/lendloop/lendloop/core/PatronRefToStringPinLaw", "at", "(Ljava/lang/String;IIICCCC)Z"⟩ : MethodName) (head1 (Jvm.Cond.code (⟨"com/example/lendloop/lendloop/core/PatronRefToStringPinLaw", "at", "(Ljava/lang/String;IIICCCC)Z"⟩ : MethodName) method_4_code 8 (some .boolean) :: ws) ({ frames := 4, cells := 0, slots := 0, locals := 60 } : Room)) (fun qq U => qq = #[(.ref xs), (.int ix), (.int nn), (.int bl), (.int b0), (.int b1), (.int l0), (.int l1)] ∧ Z.Warmed39 U.vm ∧ U.heap = h0) (fun _ _ _ _ _ => True) (fun _ UU oo UU' => ∃ vv LL, oo = .returned vv ∧ Qd22 Z xs tt kb cs z ix nn bl b0 b1 l0 l1 ii fm h0 n0 vv UU'.heap LL ∧ FrameEnd UU oo UU' LL ({ frames := 4, cells := 0, slots := 0, locals := 60 } : Room).cells ({ frames := 4, cells := 0, slots := 0, locals := 60 } : Room).slots) := by
  refine MetFree.of_bodySF (plainFor_of_name pn_33) hisR ?_
  intro p e s m args below meth c s₁ Bd hml0 hP hK
  obtain ⟨rfl, hZ, hh⟩ := hP
  have hx := Bd.exec
  have hby := Bd.bytes
  have hml : c.maxLocals = 8 := hml0
  have hown : s.vm.findClass "com/example/lendloop/lendloop/core/PatronRefToStringPinLaw" = some m.cls := findClass_of_methodNamed Bd.named
  have hnm := (name_of_methodNamed Bd.named Bd.method).1
  have X0 : Stand p l e ({ frames := 4, cells := 0, slots := 0, locals := 60 } : Room) s m #[(.ref xs), (.int ix), (.int nn), (.int bl), (.int b0), (.int b1), (.int l0), (.int l1)] below meth c s₁ [] 0 0 := Stand.of_body Bd
  have e0 : s₁.heap = h0 := by rw [← hh, Bd.state]; rfl
  have N0 := Fr.nil n0
  have pre0 : ∀ tgt, Steps p.tables e below (s₁.setTop (mkF m 0 #[.val (.ref xs), .val (.int ix), .val (.int nn), .val (.int bl), .val (.int b0), .val (.int b1), .val (.int l0), .val (.int l1)] [])) tgt → Steps p.tables e below (s₁.setTop (entryFrame m #[(.ref xs), (.int ix), (.int nn), (.int bl), (.int b0), (.int b1), (.int l0), (.int l1)] 8)) tgt := fun tt kk => castTop (ef_33 m xs ix nn bl b0 b1 l0 l1) kk
  obtain ⟨fs, hr, hrun, hended, hW, hsame⟩ := X0.leave (v := some (.int (1 : Int32))) (fun h => by rw [Bd.returns] at h; cases h)
  refine ⟨_, _, pre0 _ ?_, hrun, hended, _, _, rfl, ?_, ⟨_, rfl⟩, hW, hsame.mono (by decide) (by decide)⟩
  · show Steps p.tables e below (s₁.setTop (mkF m 0 #[.val (.ref xs), .val (.int ix), .val (.int nn), .val (.int bl), .val (.int b0), .val (.int b1), .val (.int l0), .val (.int l1)] [])) _
    refine XS.iloadN X0.here hx rfl (hb hby d33_0) rfl ?_
    show Steps p.tables e below (s₁.setTop (mkF m 1 #[.val (.ref xs), .val (.int ix), .val (.int nn), .val (.int bl), .val (.int b0), .val (.int b1), .val (.int l0), .val (.int l1)] [(.int ix)])) _
    refine XS.iloadN X0.here hx rfl (hb hby d33_1) rfl ?_
    show Steps p.tables e below (s₁.setTop (mkF m 2 #[.val (.ref xs), .val (.int ix), .val (.int nn), .val (.int bl), .val (.int b0), .val (.int b1), .val (.int l0), .val (.int l1)] [(.int nn), (.int ix)])) _
    refine XS.icmpNo X0.here hx rfl (hb hby d33_2) rfl (flt hc2).1 ?_
    show Steps p.tables e below (s₁.setTop (mkF m 5 #[.val (.ref xs), .val (.int ix), .val (.int nn), .val (.int bl), .val (.int b0), .val (.int b1), .val (.int l0), .val (.int l1)] [])) _
    refine XS.iconst X0.here hx rfl (hb hby d33_5) ?_
    show Steps p.tables e below (s₁.setTop (mkF m 6 #[.val (.ref xs), .val (.int ix), .val (.int nn), .val (.int bl), .val (.int b0), .val (.int b1), .val (.int l0), .val (.int l1)] [(.int (1 : Int32))])) _
    exact retN X0 hx (t := .boolean) Bd.returns (by simp) (hb hby d33_6) hr
  · show Qd22 Z xs tt kb cs z ix nn bl b0 b1 l0 l1 ii fm h0 n0 _ s₁.heap _
    rw [e0]
    exact ⟨rfl, N0, rfl⟩
theorem d33_7 : decode method_4_code 7 = .ok (.aload_n 0, 1) := by decide +kernel
theorem d33_8 : decode method_4_code 8 = .ok (.iload_n 1, 1) := by decide +kernel
theorem d33_9 : decode method_4_code 9 = .ok (.invokevirtual 35, 3) := by decide +kernel
theorem own_pd20 : parseMethodDescriptor "(I)C" = some ⟨[.int], some .char⟩ := by decide +kernel
theorem d33_12 : decode method_4_code 12 = .ok (.iload_n 1, 1) := by decide +kernel
theorem d33_13 : decode method_4_code 13 = .ok (.iload_n 3, 1) := by decide +kernel
theorem d33_14 : decode method_4_code 14 = .ok (.iload 4, 2) := by decide +kernel
theorem d33_16 : decode method_4_code 16 = .ok (.iload 5, 2) := by decide +kernel
theorem d33_18 : decode method_4_code 18 = .ok (.iload 6, 2) := by decide +kernel
theorem d33_20 : decode method_4_code 20 = .ok (.iload 7, 2) := by decide +kernel
theorem d33_22 : decode method_4_code 22 = .ok (.invokestatic 39, 3) := by decide +kernel
theorem own_pd21 : parseMethodDescriptor "(IICCCC)C" = some ⟨[.int, .int, .char, .char, .char, .char], some .char⟩ := by decide +kernel
theorem d33_25 : decode method_4_code 25 = .ok (.if_icmp .ne 7, 3) := by decide +kernel
theorem d33_28 : decode method_4_code 28 = .ok (.iconst 1, 1) := by decide +kernel
theorem d33_29 : decode method_4_code 29 = .ok (.goto 4, 3) := by decide +kernel
theorem d33_33 : decode method_4_code 33 = .ok (.ireturn, 1) := by decide +kernel
set_option maxRecDepth 65536 in
set_option maxHeartbeats 40000000 in
theorem rmAt1 (l : Launch) (Z : State) (a0 : Array Value) (hw : ∀ d ∈ tables_1, d.before a0 Z = true) (ws : List Jvm.Cond) (xs tt : Addr) (kb : ClassId) (cs : List Int32) (z ix nn bl b0 b1 l0 l1 : Int32) (ii : Nat) (fm : Value) (h0 : Heap) (n0 : Nat) (O0 : Old Z n0 h0) (Ex : Exa Z h0 xs "java/lang/String") (Vx : Fld Z h0 xs "java/lang/String" "value" "[B" (.ref tt)) (Cx : Fld Z h0 xs "java/lang/String" "coder" "B" (.int 0)) (Kx : Arv Z h0 tt kb .byte (Int32.ofNat (cs).length) (((cs).map StrChars.lo8).map Value.int) (.int 0)) (SC : Sta Z Z.heap "java/lang/String" "COMPACT_STRINGS" "Z" (.int z)) (hz : ¬ z = 0) (SF : Sta Z Z.heap "jdk/internal/util/Preconditions" "SIOOBE_FORMATTER" "Ljava/util/function/BiFunction;" fm) (hf : fm.isRef = true) (Hb0 : own_ch b0) (Hb1 : own_ch b1) (Hl0 : own_ch l0) (Hl1 : own_ch l1) (hg : own_good cs) (hi : ii < cs.length) (hj : ix = Int32.ofNat ii) (hv : cs.getD ii 0 = own_exp ix bl b0 b1 l0 l1) (hc2 : ix < nn) :
    MetFree l (⟨"com/example/lendloop/lendloop/core/PatronRefToStringPinLaw", "at", "(Ljava/lang/String;IIICCCC)Z"⟩ : MethodName) (head1 (Jvm.Cond.code (⟨"com/example/lendloop/lendloop/core/PatronRefToStringPinLaw", "at", "(Ljava/lang/String;IIICCCC)Z"⟩ : MethodName) method_4_code 8 (some .boolean) :: ws) ({ frames := 4, cells := 0, slots := 0, locals := 60 } : Room)) (fun qq U => qq = #[(.ref xs), (.int ix), (.int nn), (.int bl), (.int b0), (.int b1), (.int l0), (.int l1)] ∧ Z.Warmed39 U.vm ∧ U.heap = h0) (fun _ _ _ _ _ => True) (fun _ UU oo UU' => ∃ vv LL, oo = .returned vv ∧ Qd22 Z xs tt kb cs z ix nn bl b0 b1 l0 l1 ii fm h0 n0 vv UU'.heap LL ∧ FrameEnd UU oo UU' LL ({ frames := 4, cells := 0, slots := 0, locals := 60 } : Room).cells ({ frames := 4, cells := 0, slots := 0, locals := 60 } : Room).slots) := by
  refine MetFree.of_bodySF (plainFor_of_name pn_33) hisR ?_
  intro p e s m args below meth c s₁ Bd hml0 hP hK
  obtain ⟨rfl, hZ, hh⟩ := hP
  have hx := Bd.exec
  have hby := Bd.bytes
  have hml : c.maxLocals = 8 := hml0
  have hown : s.vm.findClass "com/example/lendloop/lendloop/core/PatronRefToStringPinLaw" = some m.cls := findClass_of_methodNamed Bd.named
  have hnm := (name_of_methodNamed Bd.named Bd.method).1
  have X0 : Stand p l e ({ frames := 4, cells := 0, slots := 0, locals := 60 } : Room) s m #[(.ref xs), (.int ix), (.int nn), (.int bl), (.int b0), (.int b1), (.int l0), (.int l1)] below meth c s₁ [] 0 0 := Stand.of_body Bd
  have e0 : s₁.heap = h0 := by rw [← hh, Bd.state]; rfl
  have N0 := Fr.nil n0
  have pre0 : ∀ tgt, Steps p.tables e below (s₁.setTop (mkF m 0 #[.val (.ref xs), .val (.int ix), .val (.int nn), .val (.int bl), .val (.int b0), .val (.int b1), .val (.int l0), .val (.int l1)] [])) tgt → Steps p.tables e below (s₁.setTop (entryFrame m #[(.ref xs), (.int ix), (.int nn), (.int bl), (.int b0), (.int b1), (.int l0), (.int l1)] 8)) tgt := fun tt kk => castTop (ef_33 m xs ix nn bl b0 b1 l0 l1) kk
  obtain ⟨cq1, kq1, q1a, q1b, q1c⟩ := isOf hZ e0 Ex
  obtain ⟨_, _, ⟨T1, L1, k1, n1⟩, -, X1, ⟨Lc1, hQ1, l1, y1, z1⟩, st1⟩ := X0.virtualBack hx (y := (⟨"java/lang/String", "charAt", "(I)C"⟩ : MethodName)) (z := (⟨"java/lang/String", "charAt", "(I)C"⟩ : MethodName)) hown (mvT hZ (ww hw 179 rfl)) (mvT hZ (ww hw 180 rfl)) (notFace_of_selects (args := #[]) (mvT hZ (ww hw 182 rfl))) (mvT hZ (ww hw 182 rfl)) (mvT hZ (ww hw 181 rfl)) (by decide) (own_bk (n0 := n0) (fun _ q => q) (StrChars.Road.chN (W := 0) hZ (own_wC hw) (kI := 4) (ww hw 5 rfl) Ex Vx Cx Kx (own_cd hg) (own_hb hg) (Sta.ext O0.2 SC) hz (Sta.ext O0.2 SF) hf (Nat.le_trans hg.1 (by decide)) (i := ii) hi (j := ix) hj (by decide) (by decide))) q1a q1c (g := (mkF m 9 #[.val (.ref xs), .val (.int ix), .val (.int nn), .val (.int bl), .val (.int b0), .val (.int b1), .val (.int l0), .val (.int l1)] [(.int ix), (.ref xs)])) rfl (by rw [hml]; rfl) (Steps.refl _) (argsL := [(.int ix)]) (rest := []) (lenOf own_pd20 rfl) rfl (by show 2 * 0 + _ ≤ _; exact Nat.le_of_eq rfl) (hb hby d33_9) (fun _ _ => ⟨rfl, e0, (by decide : 0 + 0 ≤ _), (by decide : 0 + 0 ≤ _)⟩)
  dsimp only [Pt.U, Pt.locs, Pt.cells, Pt.slots] at X1 l1 y1 z1 st1 hQ1
  subst l1 y1 z1
  obtain ⟨rfl, N1q, e1⟩ := hQ1
  have N1 := Fr.app N0 N1q
  obtain ⟨_, _, ⟨T2, L2, k2, n2⟩, -, X2, ⟨Lc2, hQ2, l2, y2, z2⟩, st2⟩ := Jvm.LawKit.callS X1 hx (y := (⟨"com/example/lendloop/lendloop/core/PatronRefToStringPinLaw", "exp", "(IICCCC)C"⟩ : MethodName)) hown (mvT hZ (ww hw 201 rfl)) (mvT hZ (ww hw 202 rfl)) (mvT hZ (ww hw 2 rfl)) (mvT hZ (ww hw 203 rfl)) (by decide) (backOf (W := 1) (rmE l Z a0 hw [] ix bl b0 b1 l0 l1 h0 n0 Hb0 Hb1 Hl0 Hl1) hZ (ww hw 203 rfl) (ww hw 2 rfl) (by decide) (by decide)) (g := (mkF m 22 #[.val (.ref xs), .val (.int ix), .val (.int nn), .val (.int bl), .val (.int b0), .val (.int b1), .val (.int l0), .val (.int l1)] [(.int l1), (.int l0), (.int b1), (.int b0), (.int bl), (.int ix), (.int (cs.getD ii 0))])) rfl (by rw [hml]; rfl) (argsL := [(.int ix), (.int bl), (.int b0), (.int b1), (.int l0), (.int l1)]) (rest := [(.int (cs.getD ii 0))]) (lenOf own_pd21 rfl) rfl (by show 2 * 0 + _ ≤ _; exact Nat.le_of_eq rfl) (hb hby d33_22) (fun _ _ => ⟨rfl, e1, (by decide : 0 + 0 ≤ _), (by decide : 0 + 0 ≤ _)⟩)
  dsimp only [Pt.U, Pt.locs, Pt.cells, Pt.slots] at X2 l2 y2 z2 st2 hQ2
  subst l2 y2 z2
  obtain ⟨rfl, N2q, e2⟩ := hQ2
  have N2 := Fr.app N1 N2q
  obtain ⟨fs, hr, hrun, hended, hW, hsame⟩ := X2.leave (v := some (.int (1 : Int32))) (fun h => by rw [Bd.returns] at h; cases h)
  refine ⟨_, _, pre0 _ ?_, hrun, hended, _, _, rfl, ?_, ⟨_, rfl⟩, hW, hsame.mono (by decide) (by decide)⟩
  · show Steps p.tables e below (s₁.setTop (mkF m 0 #[.val (.ref xs), .val (.int ix), .val (.int nn), .val (.int bl), .val (.int b0), .val (.int b1), .val (.int l0), .val (.int l1)] [])) _
    refine XS.iloadN X0.here hx rfl (hb hby d33_0) rfl ?_
    show Steps p.tables e below (s₁.setTop (mkF m 1 #[.val (.ref xs), .val (.int ix), .val (.int nn), .val (.int bl), .val (.int b0), .val (.int b1), .val (.int l0), .val (.int l1)] [(.int ix)])) _
    refine XS.iloadN X0.here hx rfl (hb hby d33_1) rfl ?_
    show Steps p.tables e below (s₁.setTop (mkF m 2 #[.val (.ref xs), .val (.int ix), .val (.int nn), .val (.int bl), .val (.int b0), .val (.int b1), .val (.int l0), .val (.int l1)] [(.int nn), (.int ix)])) _
    refine XS.icmpYes X0.here hx rfl (pc0 := 2) (pc' := 7) rfl (hb hby d33_2) rfl (tlt hc2).1 (by decide) (by decide) ?_
    show Steps p.tables e below (s₁.setTop (mkF m 7 #[.val (.ref xs), .val (.int ix), .val (.int nn), .val (.int bl), .val (.int b0), .val (.int b1), .val (.int l0), .val (.int l1)] [])) _
    refine XS.aloadN X0.here hx rfl (hb hby d33_7) rfl rfl ?_
    show Steps p.tables e below (s₁.setTop (mkF m 8 #[.val (.ref xs), .val (.int ix), .val (.int nn), .val (.int bl), .val (.int b0), .val (.int b1), .val (.int l0), .val (.int l1)] [(.ref xs)])) _
    refine XS.iloadN X0.here hx rfl (hb hby d33_8) rfl ?_
    show Steps p.tables e below (s₁.setTop (mkF m 9 #[.val (.ref xs), .val (.int ix), .val (.int nn), .val (.int bl), .val (.int b0), .val (.int b1), .val (.int l0), .val (.int l1)] [(.int ix), (.ref xs)])) _
    refine st1.trans ?_
    show Steps p.tables e below (T1.setTop (mkF m 12 #[.val (.ref xs), .val (.int ix), .val (.int nn), .val (.int bl), .val (.int b0), .val (.int b1), .val (.int l0), .val (.int l1)] [(.int (cs.getD ii 0))])) _
    refine XS.iloadN X1.here hx rfl (hb hby d33_12) rfl ?_
    show Steps p.tables e below (T1.setTop (mkF m 13 #[.val (.ref xs), .val (.int ix), .val (.int nn), .val (.int bl), .val (.int b0), .val (.int b1), .val (.int l0), .val (.int l1)] [(.int ix), (.int (cs.getD ii 0))])) _
    refine XS.iloadN X1.here hx rfl (hb hby d33_13) rfl ?_
    show Steps p.tables e below (T1.setTop (mkF m 14 #[.val (.ref xs), .val (.int ix), .val (.int nn), .val (.int bl), .val (.int b0), .val (.int b1), .val (.int l0), .val (.int l1)] [(.int bl), (.int ix), (.int (cs.getD ii 0))])) _
    refine XS.iload X1.here hx rfl (hb hby d33_14) rfl ?_
    show Steps p.tables e below (T1.setTop (mkF m 16 #[.val (.ref xs), .val (.int ix), .val (.int nn), .val (.int bl), .val (.int b0), .val (.int b1), .val (.int l0), .val (.int l1)] [(.int b0), (.int bl), (.int ix), (.int (cs.getD ii 0))])) _
    refine XS.iload X1.here hx rfl (hb hby d33_16) rfl ?_
    show Steps p.tables e below (T1.setTop (mkF m 18 #[.val (.ref xs), .val (.int ix), .val (.int nn), .val (.int bl), .val (.int b0), .val (.int b1), .val (.int l0), .val (.int l1)] [(.int b1), (.int b0), (.int bl), (.int ix), (.int (cs.getD ii 0))])) _
    refine XS.iload X1.here hx rfl (hb hby d33_18) rfl ?_
    show Steps p.tables e below (T1.setTop (mkF m 20 #[.val (.ref xs), .val (.int ix), .val (.int nn), .val (.int bl), .val (.int b0), .val (.int b1), .val (.int l0), .val (.int l1)] [(.int l0), (.int b1), (.int b0), (.int bl), (.int ix), (.int (cs.getD ii 0))])) _
    refine XS.iload X1.here hx rfl (hb hby d33_20) rfl ?_
    show Steps p.tables e below (T1.setTop (mkF m 22 #[.val (.ref xs), .val (.int ix), .val (.int nn), .val (.int bl), .val (.int b0), .val (.int b1), .val (.int l0), .val (.int l1)] [(.int l1), (.int l0), (.int b1), (.int b0), (.int bl), (.int ix), (.int (cs.getD ii 0))])) _
    refine st2 _ ?_
    show Steps p.tables e below (T2.setTop (mkF m 25 #[.val (.ref xs), .val (.int ix), .val (.int nn), .val (.int bl), .val (.int b0), .val (.int b1), .val (.int l0), .val (.int l1)] [(.int (own_exp ix bl b0 b1 l0 l1)), (.int (cs.getD ii 0))])) _
    refine XS.icmpNo X2.here hx rfl (hb hby d33_25) rfl (teq (hv : (cs.getD ii 0) = (own_exp ix bl b0 b1 l0 l1))).2 ?_
    show Steps p.tables e below (T2.setTop (mkF m 28 #[.val (.ref xs), .val (.int ix), .val (.int nn), .val (.int bl), .val (.int b0), .val (.int b1), .val (.int l0), .val (.int l1)] [])) _
    refine XS.iconst X2.here hx rfl (hb hby d33_28) ?_
    show Steps p.tables e below (T2.setTop (mkF m 29 #[.val (.ref xs), .val (.int ix), .val (.int nn), .val (.int bl), .val (.int b0), .val (.int b1), .val (.int l0), .val (.int l1)] [(.int (1 : Int32))])) _
    refine XS.goto X2.here hx rfl (pc0 := 29) (pc' := 33) rfl (hb hby d33_29) (by decide) (by decide) ?_
    show Steps p.tables e below (T2.setTop (mkF m 33 #[.val (.ref xs), .val (.int ix), .val (.int nn), .val (.int bl), .val (.int b0), .val (.int b1), .val (.int l0), .val (.int l1)] [(.int (1 : Int32))])) _
    exact retN X2 hx (t := .boolean) Bd.returns (by simp) (hb hby d33_33) hr
  · show Qd22 Z xs tt kb cs z ix nn bl b0 b1 l0 l1 ii fm h0 n0 _ T2.heap _
    rw [e2]
    exact ⟨rfl, N2, rfl⟩
theorem rmAt (l : Launch) (Z : State) (a0 : Array Value) (hw : ∀ d ∈ tables_1, d.before a0 Z = true) (ws : List Jvm.Cond) (xs tt : Addr) (kb : ClassId) (cs : List Int32) (z ix nn bl b0 b1 l0 l1 : Int32) (ii : Nat) (fm : Value) (h0 : Heap) (n0 : Nat) (O0 : Old Z n0 h0) (Ex : Exa Z h0 xs "java/lang/String") (Vx : Fld Z h0 xs "java/lang/String" "value" "[B" (.ref tt)) (Cx : Fld Z h0 xs "java/lang/String" "coder" "B" (.int 0)) (Kx : Arv Z h0 tt kb .byte (Int32.ofNat (cs).length) (((cs).map StrChars.lo8).map Value.int) (.int 0)) (SC : Sta Z Z.heap "java/lang/String" "COMPACT_STRINGS" "Z" (.int z)) (hz : ¬ z = 0) (SF : Sta Z Z.heap "jdk/internal/util/Preconditions" "SIOOBE_FORMATTER" "Ljava/util/function/BiFunction;" fm) (hf : fm.isRef = true) (Hb0 : own_ch b0) (Hb1 : own_ch b1) (Hl0 : own_ch l0) (Hl1 : own_ch l1) (hg : own_good cs) (hq : ix < nn → ii < cs.length ∧ ix = Int32.ofNat ii ∧ cs.getD ii 0 = own_exp ix bl b0 b1 l0 l1) :
    MetFree l (⟨"com/example/lendloop/lendloop/core/PatronRefToStringPinLaw", "at", "(Ljava/lang/String;IIICCCC)Z"⟩ : MethodName) (head1 (Jvm.Cond.code (⟨"com/example/lendloop/lendloop/core/PatronRefToStringPinLaw", "at", "(Ljava/lang/String;IIICCCC)Z"⟩ : MethodName) method_4_code 8 (some .boolean) :: ws) ({ frames := 4, cells := 0, slots := 0, locals := 60 } : Room)) (fun qq U => qq = #[(.ref xs), (.int ix), (.int nn), (.int bl), (.int b0), (.int b1), (.int l0), (.int l1)] ∧ Z.Warmed39 U.vm ∧ U.heap = h0) (fun _ _ _ _ _ => True) (fun _ UU oo UU' => ∃ vv LL, oo = .returned vv ∧ Qd22 Z xs tt kb cs z ix nn bl b0 b1 l0 l1 ii fm h0 n0 vv UU'.heap LL ∧ FrameEnd UU oo UU' LL ({ frames := 4, cells := 0, slots := 0, locals := 60 } : Room).cells ({ frames := 4, cells := 0, slots := 0, locals := 60 } : Room).slots) := by
  by_cases q : ix < nn
  · exact rmAt1 l Z a0 hw ws xs tt kb cs z ix nn bl b0 b1 l0 l1 ii fm h0 n0 O0 Ex Vx Cx Kx SC hz SF hf Hb0 Hb1 Hl0 Hl1 hg (hq q).1 (hq q).2.1 (hq q).2.2 q
  · exact rmAt0 l Z a0 hw ws xs tt kb cs z ix nn bl b0 b1 l0 l1 ii fm h0 n0 O0 Ex Vx Cx Kx SC hz SF hf Hb0 Hb1 Hl0 Hl1 hg q
theorem own_r3 (x : Int32) : (x &&& (3 : Int32)) % (3 : Int32) = 0 ∨ (x &&& (3 : Int32)) % (3 : Int32) = 1 ∨ (x &&& (3 : Int32)) % (3 : Int32) = 2 := by
  have m1 := c_mask x 3 2 (by decide) (by decide)
  have v := (c_iremV (x &&& 3) (3 : Int32)).1 (by omega) (by decide)
  have e3 : (3 : Int32).toInt = 3 := rfl
  rcases (show ((x &&& (3 : Int32)) % (3 : Int32)).toInt = 0 ∨ ((x &&& (3 : Int32)) % (3 : Int32)).toInt = 1 ∨ ((x &&& (3 : Int32)) % (3 : Int32)).toInt = 2 by omega) with q | q | q
  · exact Or.inl (Int32.toInt_inj.mp q)
  · exact Or.inr (Or.inl (Int32.toInt_inj.mp q))
  · exact Or.inr (Or.inr (Int32.toInt_inj.mp q))
abbrev own_tri (x : Int32) : Prop := x = 0 ∨ x = 1 ∨ x = 2
theorem own_mkg {x c0 c1 : Int32} (h : own_tri x) (H0 : own_ch c0) (H1 : own_ch c1) : own_good (own_mk x c0 c1) ∧ (own_mk x c0 c1).length ≤ 2 := by
  have l2 : (own_mk x c0 c1).length ≤ 2 := by rcases h with rfl | rfl | rfl <;> exact Nat.le_of_ble_eq_true rfl
  refine ⟨⟨Nat.le_trans l2 (by decide), ?_⟩, l2⟩
  intro c hc
  rcases h with rfl | rfl | rfl
  · exact nomatch hc
  · have e : own_mk 1 c0 c1 = [c0] := rfl
    rw [e, List.mem_singleton] at hc
    rw [hc]; exact H0.2
  · have e : own_mk 2 c0 c1 = [c0, c1] := rfl
    rw [e] at hc
    simp only [List.mem_cons, List.not_mem_nil, or_false] at hc
    rcases hc with rfl | rfl
    · exact H0.2
    · exact H1.2
theorem own_gapp {a b : List Int32} (ha : own_good a) (hb : own_good b) (hl : a.length + b.length ≤ 17) : own_good (a ++ b) := ⟨by rw [List.length_append]; exact hl, fun c hc => by
  rcases List.mem_append.mp hc with q | q
  · exact ha.2 c q
  · exact hb.2 c q⟩
theorem own_gtx {a b : List Int32} (ha : own_good a) (hb : own_good b) (la : a.length ≤ 2) (lb : b.length ≤ 2) : own_good ((([] ++ a) ++ ([32, 111, 102, 32] : List Int32)) ++ b) :=
  own_gapp (own_gapp ha own_gl (by simp only [List.nil_append, List.length_cons, List.length_nil]; omega)) hb (by simp only [List.nil_append, List.length_append, List.length_cons, List.length_nil]; omega)
theorem own_tlen {x y : Int32} (hx : own_tri x) (hy : own_tri y) (b0 b1 l0 l1 : Int32) : Int32.ofNat ((([] ++ own_mk x b0 b1) ++ ([32, 111, 102, 32] : List Int32)) ++ own_mk y l0 l1).length = (x + (4 : Int32)) + y := by
  rcases hx with rfl | rfl | rfl <;> rcases hy with rfl | rfl | rfl <;> rfl
theorem own_tat {x y : Int32} (hx : own_tri x) (hy : own_tri y) (b0 b1 l0 l1 : Int32) (k : Nat) (hk : k < 8) (h : Int32.ofNat k < (x + (4 : Int32)) + y) : k < ((([] ++ own_mk x b0 b1) ++ ([32, 111, 102, 32] : List Int32)) ++ own_mk y l0 l1).length ∧ Int32.ofNat k = Int32.ofNat k ∧ ((([] ++ own_mk x b0 b1) ++ ([32, 111, 102, 32] : List Int32)) ++ own_mk y l0 l1).getD k 0 = own_exp (Int32.ofNat k) x b0 b1 l0 l1 := by
  rcases hx with rfl | rfl | rfl <;> rcases hy with rfl | rfl | rfl <;>
  (rcases (show k = 0 ∨ k = 1 ∨ k = 2 ∨ k = 3 ∨ k = 4 ∨ k = 5 ∨ k = 6 ∨ k = 7 by omega) with rfl | rfl | rfl | rfl | rfl | rfl | rfl | rfl <;>
   first | exact absurd h (by decide) | exact ⟨Nat.le_of_ble_eq_true rfl, rfl, rfl⟩)

set_option maxRecDepth 65536 in
set_option maxHeartbeats 40000000 in
theorem lp0 {p : Program} {l : Launch} {e : Env} {R : Room} {s : State} {m : MethodId} {args : Array Value} {below : List Frame} {meth : Method} {c : Code} {T0 : State} {locs : List Loc} {cells slots : Nat} {Z : State} {a0 : Array Value} {h0 : Heap} (X0 : Stand p l e R s m args below meth c T0 locs cells slots) (hx : p.tables.exec = Jvm.exec) (hZ : Z.Warmed39 s.vm) (hw : ∀ d ∈ tables_1, d.before a0 Z = true) (hby : c.code = code) (hown : s.vm.findClass "com/example/lendloop/lendloop/core/PatronRefToStringPinLaw" = some m.cls) (e0 : T0.heap = h0) {p0 p1 p2 : Int32} :
    ∀ target, Steps p.tables e below (T0.setTop (mkF m 53 #[.val (.int p0), .val (.int p1), .val (.int p2), .val (.int ((p2 &&& (3 : Int32)) % (3 : Int32))), .val (.int ((((p2.toUInt32 >>> ((2 : Int32) &&& 31).toUInt32).toInt32) &&& (3 : Int32)) % (3 : Int32))), .val (.int ((p0 &&& (255 : Int32)).toUInt32.toUInt16.toUInt32.toInt32)), .val (.int ((((p0.toUInt32 >>> ((8 : Int32) &&& 31).toUInt32).toInt32) &&& (255 : Int32)).toUInt32.toUInt16.toUInt32.toInt32)), .val (.int ((p1 &&& (255 : Int32)).toUInt32.toUInt16.toUInt32.toInt32)), .val (.int ((((p1.toUInt32 >>> ((8 : Int32) &&& 31).toUInt32).toInt32) &&& (255 : Int32)).toUInt32.toUInt16.toUInt32.toInt32)), .unset, .unset, .unset, .unset, .unset] [])) target → Steps p.tables e below (T0.setTop (mkF m 0 #[.val (.int p0), .val (.int p1), .val (.int p2), .unset, .unset, .unset, .unset, .unset, .unset, .unset, .unset, .unset, .unset, .unset] [])) target := by
  intro target kt
  show Steps p.tables e below (T0.setTop (mkF m 0 #[.val (.int p0), .val (.int p1), .val (.int p2), .unset, .unset, .unset, .unset, .unset, .unset, .unset, .unset, .unset, .unset, .unset] [])) _
  refine XS.iloadN X0.here hx rfl (hb hby at_0) rfl ?_
  show Steps p.tables e below (T0.setTop (mkF m 1 #[.val (.int p0), .val (.int p1), .val (.int p2), .unset, .unset, .unset, .unset, .unset, .unset, .unset, .unset, .unset, .unset, .unset] [(.int p2)])) _
  refine XS.iconst X0.here hx rfl (hb hby at_1) ?_
  show Steps p.tables e below (T0.setTop (mkF m 2 #[.val (.int p0), .val (.int p1), .val (.int p2), .unset, .unset, .unset, .unset, .unset, .unset, .unset, .unset, .unset, .unset, .unset] [(.int (3 : Int32)), (.int p2)])) _
  refine XS.iand X0.here hx rfl (hb hby at_2) rfl ?_
  show Steps p.tables e below (T0.setTop (mkF m 3 #[.val (.int p0), .val (.int p1), .val (.int p2), .unset, .unset, .unset, .unset, .unset, .unset, .unset, .unset, .unset, .unset, .unset] [(.int (p2 &&& (3 : Int32)))])) _
  refine XS.iconst X0.here hx rfl (hb hby at_3) ?_
  show Steps p.tables e below (T0.setTop (mkF m 4 #[.val (.int p0), .val (.int p1), .val (.int p2), .unset, .unset, .unset, .unset, .unset, .unset, .unset, .unset, .unset, .unset, .unset] [(.int (3 : Int32)), (.int (p2 &&& (3 : Int32)))])) _
  refine Jvm.RoadKit.iremM (g := (mkF m 4 #[.val (.int p0), .val (.int p1), .val (.int p2), .unset, .unset, .unset, .unset, .unset, .unset, .unset, .unset, .unset, .unset, .unset] [(.int (3 : Int32)), (.int (p2 &&& (3 : Int32)))])) X0 hx rfl (hb hby at_4) rfl (by decide) ?_
  show Steps p.tables e below (T0.setTop (mkF m 5 #[.val (.int p0), .val (.int p1), .val (.int p2), .unset, .unset, .unset, .unset, .unset, .unset, .unset, .unset, .unset, .unset, .unset] [(.int ((p2 &&& (3 : Int32)) % (3 : Int32)))])) _
  refine XS.istoreN X0.here hx rfl (hb hby at_5) rfl (l' := #[.val (.int p0), .val (.int p1), .val (.int p2), .val (.int ((p2 &&& (3 : Int32)) % (3 : Int32))), .unset, .unset, .unset, .unset, .unset, .unset, .unset, .unset, .unset, .unset]) rfl ?_
  show Steps p.tables e below (T0.setTop (mkF m 6 #[.val (.int p0), .val (.int p1), .val (.int p2), .val (.int ((p2 &&& (3 : Int32)) % (3 : Int32))), .unset, .unset, .unset, .unset, .unset, .unset, .unset, .unset, .unset, .unset] [])) _
  refine XS.iloadN X0.here hx rfl (hb hby at_6) rfl ?_
  show Steps p.tables e below (T0.setTop (mkF m 7 #[.val (.int p0), .val (.int p1), .val (.int p2), .val (.int ((p2 &&& (3 : Int32)) % (3 : Int32))), .unset, .unset, .unset, .unset, .unset, .unset, .unset, .unset, .unset, .unset] [(.int p2)])) _
  refine XS.iconst X0.here hx rfl (hb hby at_7) ?_
  show Steps p.tables e below (T0.setTop (mkF m 8 #[.val (.int p0), .val (.int p1), .val (.int p2), .val (.int ((p2 &&& (3 : Int32)) % (3 : Int32))), .unset, .unset, .unset, .unset, .unset, .unset, .unset, .unset, .unset, .unset] [(.int (2 : Int32)), (.int p2)])) _
  refine XS.iushr X0.here hx rfl (hb hby at_8) rfl ?_
  show Steps p.tables e below (T0.setTop (mkF m 9 #[.val (.int p0), .val (.int p1), .val (.int p2), .val (.int ((p2 &&& (3 : Int32)) % (3 : Int32))), .unset, .unset, .unset, .unset, .unset, .unset, .unset, .unset, .unset, .unset] [(.int ((p2.toUInt32 >>> ((2 : Int32) &&& 31).toUInt32).toInt32))])) _
  refine XS.iconst X0.here hx rfl (hb hby at_9) ?_
  show Steps p.tables e below (T0.setTop (mkF m 10 #[.val (.int p0), .val (.int p1), .val (.int p2), .val (.int ((p2 &&& (3 : Int32)) % (3 : Int32))), .unset, .unset, .unset, .unset, .unset, .unset, .unset, .unset, .unset, .unset] [(.int (3 : Int32)), (.int ((p2.toUInt32 >>> ((2 : Int32) &&& 31).toUInt32).toInt32))])) _
  refine XS.iand X0.here hx rfl (hb hby at_10) rfl ?_
  show Steps p.tables e below (T0.setTop (mkF m 11 #[.val (.int p0), .val (.int p1), .val (.int p2), .val (.int ((p2 &&& (3 : Int32)) % (3 : Int32))), .unset, .unset, .unset, .unset, .unset, .unset, .unset, .unset, .unset, .unset] [(.int (((p2.toUInt32 >>> ((2 : Int32) &&& 31).toUInt32).toInt32) &&& (3 : Int32)))])) _
  refine XS.iconst X0.here hx rfl (hb hby at_11) ?_
  show Steps p.tables e below (T0.setTop (mkF m 12 #[.val (.int p0), .val (.int p1), .val (.int p2), .val (.int ((p2 &&& (3 : Int32)) % (3 : Int32))), .unset, .unset, .unset, .unset, .unset, .unset, .unset, .unset, .unset, .unset] [(.int (3 : Int32)), (.int (((p2.toUInt32 >>> ((2 : Int32) &&& 31).toUInt32).toInt32) &&& (3 : Int32)))])) _
  refine Jvm.RoadKit.iremM (g := (mkF m 12 #[.val (.int p0), .val (.int p1), .val (.int p2), .val (.int ((p2 &&& (3 : Int32)) % (3 : Int32))), .unset, .unset, .unset, .unset, .unset, .unset, .unset, .unset, .unset, .unset] [(.int (3 : Int32)), (.int (((p2.toUInt32 >>> ((2 : Int32) &&& 31).toUInt32).toInt32) &&& (3 : Int32)))])) X0 hx rfl (hb hby at_12) rfl (by decide) ?_
  show Steps p.tables e below (T0.setTop (mkF m 13 #[.val (.int p0), .val (.int p1), .val (.int p2), .val (.int ((p2 &&& (3 : Int32)) % (3 : Int32))), .unset, .unset, .unset, .unset, .unset, .unset, .unset, .unset, .unset, .unset] [(.int ((((p2.toUInt32 >>> ((2 : Int32) &&& 31).toUInt32).toInt32) &&& (3 : Int32)) % (3 : Int32)))])) _
  refine XS.istore X0.here hx rfl (hb hby at_13) rfl (l' := #[.val (.int p0), .val (.int p1), .val (.int p2), .val (.int ((p2 &&& (3 : Int32)) % (3 : Int32))), .val (.int ((((p2.toUInt32 >>> ((2 : Int32) &&& 31).toUInt32).toInt32) &&& (3 : Int32)) % (3 : Int32))), .unset, .unset, .unset, .unset, .unset, .unset, .unset, .unset, .unset]) rfl ?_
  show Steps p.tables e below (T0.setTop (mkF m 15 #[.val (.int p0), .val (.int p1), .val (.int p2), .val (.int ((p2 &&& (3 : Int32)) % (3 : Int32))), .val (.int ((((p2.toUInt32 >>> ((2 : Int32) &&& 31).toUInt32).toInt32) &&& (3 : Int32)) % (3 : Int32))), .unset, .unset, .unset, .unset, .unset, .unset, .unset, .unset, .unset] [])) _
  refine XS.iloadN X0.here hx rfl (hb hby at_15) rfl ?_
  show Steps p.tables e below (T0.setTop (mkF m 16 #[.val (.int p0), .val (.int p1), .val (.int p2), .val (.int ((p2 &&& (3 : Int32)) % (3 : Int32))), .val (.int ((((p2.toUInt32 >>> ((2 : Int32) &&& 31).toUInt32).toInt32) &&& (3 : Int32)) % (3 : Int32))), .unset, .unset, .unset, .unset, .unset, .unset, .unset, .unset, .unset] [(.int p0)])) _
  refine XS.sipush X0.here hx rfl (hb hby at_16) ?_
  show Steps p.tables e below (T0.setTop (mkF m 19 #[.val (.int p0), .val (.int p1), .val (.int p2), .val (.int ((p2 &&& (3 : Int32)) % (3 : Int32))), .val (.int ((((p2.toUInt32 >>> ((2 : Int32) &&& 31).toUInt32).toInt32) &&& (3 : Int32)) % (3 : Int32))), .unset, .unset, .unset, .unset, .unset, .unset, .unset, .unset, .unset] [(.int (255 : Int32)), (.int p0)])) _
  refine XS.iand X0.here hx rfl (hb hby at_19) rfl ?_
  show Steps p.tables e below (T0.setTop (mkF m 20 #[.val (.int p0), .val (.int p1), .val (.int p2), .val (.int ((p2 &&& (3 : Int32)) % (3 : Int32))), .val (.int ((((p2.toUInt32 >>> ((2 : Int32) &&& 31).toUInt32).toInt32) &&& (3 : Int32)) % (3 : Int32))), .unset, .unset, .unset, .unset, .unset, .unset, .unset, .unset, .unset] [(.int (p0 &&& (255 : Int32)))])) _
  refine XS.i2c X0.here hx rfl (hb hby at_20) rfl ?_
  show Steps p.tables e below (T0.setTop (mkF m 21 #[.val (.int p0), .val (.int p1), .val (.int p2), .val (.int ((p2 &&& (3 : Int32)) % (3 : Int32))), .val (.int ((((p2.toUInt32 >>> ((2 : Int32) &&& 31).toUInt32).toInt32) &&& (3 : Int32)) % (3 : Int32))), .unset, .unset, .unset, .unset, .unset, .unset, .unset, .unset, .unset] [(.int ((p0 &&& (255 : Int32)).toUInt32.toUInt16.toUInt32.toInt32))])) _
  refine XS.istore X0.here hx rfl (hb hby at_21) rfl (l' := #[.val (.int p0), .val (.int p1), .val (.int p2), .val (.int ((p2 &&& (3 : Int32)) % (3 : Int32))), .val (.int ((((p2.toUInt32 >>> ((2 : Int32) &&& 31).toUInt32).toInt32) &&& (3 : Int32)) % (3 : Int32))), .val (.int ((p0 &&& (255 : Int32)).toUInt32.toUInt16.toUInt32.toInt32)), .unset, .unset, .unset, .unset, .unset, .unset, .unset, .unset]) rfl ?_
  show Steps p.tables e below (T0.setTop (mkF m 23 #[.val (.int p0), .val (.int p1), .val (.int p2), .val (.int ((p2 &&& (3 : Int32)) % (3 : Int32))), .val (.int ((((p2.toUInt32 >>> ((2 : Int32) &&& 31).toUInt32).toInt32) &&& (3 : Int32)) % (3 : Int32))), .val (.int ((p0 &&& (255 : Int32)).toUInt32.toUInt16.toUInt32.toInt32)), .unset, .unset, .unset, .unset, .unset, .unset, .unset, .unset] [])) _
  refine XS.iloadN X0.here hx rfl (hb hby at_23) rfl ?_
  show Steps p.tables e below (T0.setTop (mkF m 24 #[.val (.int p0), .val (.int p1), .val (.int p2), .val (.int ((p2 &&& (3 : Int32)) % (3 : Int32))), .val (.int ((((p2.toUInt32 >>> ((2 : Int32) &&& 31).toUInt32).toInt32) &&& (3 : Int32)) % (3 : Int32))), .val (.int ((p0 &&& (255 : Int32)).toUInt32.toUInt16.toUInt32.toInt32)), .unset, .unset, .unset, .unset, .unset, .unset, .unset, .unset] [(.int p0)])) _
  refine XS.bipush X0.here hx rfl (hb hby at_24) ?_
  show Steps p.tables e below (T0.setTop (mkF m 26 #[.val (.int p0), .val (.int p1), .val (.int p2), .val (.int ((p2 &&& (3 : Int32)) % (3 : Int32))), .val (.int ((((p2.toUInt32 >>> ((2 : Int32) &&& 31).toUInt32).toInt32) &&& (3 : Int32)) % (3 : Int32))), .val (.int ((p0 &&& (255 : Int32)).toUInt32.toUInt16.toUInt32.toInt32)), .unset, .unset, .unset, .unset, .unset, .unset, .unset, .unset] [(.int (8 : Int32)), (.int p0)])) _
  refine XS.iushr X0.here hx rfl (hb hby at_26) rfl ?_
  show Steps p.tables e below (T0.setTop (mkF m 27 #[.val (.int p0), .val (.int p1), .val (.int p2), .val (.int ((p2 &&& (3 : Int32)) % (3 : Int32))), .val (.int ((((p2.toUInt32 >>> ((2 : Int32) &&& 31).toUInt32).toInt32) &&& (3 : Int32)) % (3 : Int32))), .val (.int ((p0 &&& (255 : Int32)).toUInt32.toUInt16.toUInt32.toInt32)), .unset, .unset, .unset, .unset, .unset, .unset, .unset, .unset] [(.int ((p0.toUInt32 >>> ((8 : Int32) &&& 31).toUInt32).toInt32))])) _
  refine XS.sipush X0.here hx rfl (hb hby at_27) ?_
  show Steps p.tables e below (T0.setTop (mkF m 30 #[.val (.int p0), .val (.int p1), .val (.int p2), .val (.int ((p2 &&& (3 : Int32)) % (3 : Int32))), .val (.int ((((p2.toUInt32 >>> ((2 : Int32) &&& 31).toUInt32).toInt32) &&& (3 : Int32)) % (3 : Int32))), .val (.int ((p0 &&& (255 : Int32)).toUInt32.toUInt16.toUInt32.toInt32)), .unset, .unset, .unset, .unset, .unset, .unset, .unset, .unset] [(.int (255 : Int32)), (.int ((p0.toUInt32 >>> ((8 : Int32) &&& 31).toUInt32).toInt32))])) _
  refine XS.iand X0.here hx rfl (hb hby at_30) rfl ?_
  show Steps p.tables e below (T0.setTop (mkF m 31 #[.val (.int p0), .val (.int p1), .val (.int p2), .val (.int ((p2 &&& (3 : Int32)) % (3 : Int32))), .val (.int ((((p2.toUInt32 >>> ((2 : Int32) &&& 31).toUInt32).toInt32) &&& (3 : Int32)) % (3 : Int32))), .val (.int ((p0 &&& (255 : Int32)).toUInt32.toUInt16.toUInt32.toInt32)), .unset, .unset, .unset, .unset, .unset, .unset, .unset, .unset] [(.int (((p0.toUInt32 >>> ((8 : Int32) &&& 31).toUInt32).toInt32) &&& (255 : Int32)))])) _
  refine XS.i2c X0.here hx rfl (hb hby at_31) rfl ?_
  show Steps p.tables e below (T0.setTop (mkF m 32 #[.val (.int p0), .val (.int p1), .val (.int p2), .val (.int ((p2 &&& (3 : Int32)) % (3 : Int32))), .val (.int ((((p2.toUInt32 >>> ((2 : Int32) &&& 31).toUInt32).toInt32) &&& (3 : Int32)) % (3 : Int32))), .val (.int ((p0 &&& (255 : Int32)).toUInt32.toUInt16.toUInt32.toInt32)), .unset, .unset, .unset, .unset, .unset, .unset, .unset, .unset] [(.int ((((p0.toUInt32 >>> ((8 : Int32) &&& 31).toUInt32).toInt32) &&& (255 : Int32)).toUInt32.toUInt16.toUInt32.toInt32))])) _
  refine XS.istore X0.here hx rfl (hb hby at_32) rfl (l' := #[.val (.int p0), .val (.int p1), .val (.int p2), .val (.int ((p2 &&& (3 : Int32)) % (3 : Int32))), .val (.int ((((p2.toUInt32 >>> ((2 : Int32) &&& 31).toUInt32).toInt32) &&& (3 : Int32)) % (3 : Int32))), .val (.int ((p0 &&& (255 : Int32)).toUInt32.toUInt16.toUInt32.toInt32)), .val (.int ((((p0.toUInt32 >>> ((8 : Int32) &&& 31).toUInt32).toInt32) &&& (255 : Int32)).toUInt32.toUInt16.toUInt32.toInt32)), .unset, .unset, .unset, .unset, .unset, .unset, .unset]) rfl ?_
  show Steps p.tables e below (T0.setTop (mkF m 34 #[.val (.int p0), .val (.int p1), .val (.int p2), .val (.int ((p2 &&& (3 : Int32)) % (3 : Int32))), .val (.int ((((p2.toUInt32 >>> ((2 : Int32) &&& 31).toUInt32).toInt32) &&& (3 : Int32)) % (3 : Int32))), .val (.int ((p0 &&& (255 : Int32)).toUInt32.toUInt16.toUInt32.toInt32)), .val (.int ((((p0.toUInt32 >>> ((8 : Int32) &&& 31).toUInt32).toInt32) &&& (255 : Int32)).toUInt32.toUInt16.toUInt32.toInt32)), .unset, .unset, .unset, .unset, .unset, .unset, .unset] [])) _
  refine XS.iloadN X0.here hx rfl (hb hby at_34) rfl ?_
  show Steps p.tables e below (T0.setTop (mkF m 35 #[.val (.int p0), .val (.int p1), .val (.int p2), .val (.int ((p2 &&& (3 : Int32)) % (3 : Int32))), .val (.int ((((p2.toUInt32 >>> ((2 : Int32) &&& 31).toUInt32).toInt32) &&& (3 : Int32)) % (3 : Int32))), .val (.int ((p0 &&& (255 : Int32)).toUInt32.toUInt16.toUInt32.toInt32)), .val (.int ((((p0.toUInt32 >>> ((8 : Int32) &&& 31).toUInt32).toInt32) &&& (255 : Int32)).toUInt32.toUInt16.toUInt32.toInt32)), .unset, .unset, .unset, .unset, .unset, .unset, .unset] [(.int p1)])) _
  refine XS.sipush X0.here hx rfl (hb hby at_35) ?_
  show Steps p.tables e below (T0.setTop (mkF m 38 #[.val (.int p0), .val (.int p1), .val (.int p2), .val (.int ((p2 &&& (3 : Int32)) % (3 : Int32))), .val (.int ((((p2.toUInt32 >>> ((2 : Int32) &&& 31).toUInt32).toInt32) &&& (3 : Int32)) % (3 : Int32))), .val (.int ((p0 &&& (255 : Int32)).toUInt32.toUInt16.toUInt32.toInt32)), .val (.int ((((p0.toUInt32 >>> ((8 : Int32) &&& 31).toUInt32).toInt32) &&& (255 : Int32)).toUInt32.toUInt16.toUInt32.toInt32)), .unset, .unset, .unset, .unset, .unset, .unset, .unset] [(.int (255 : Int32)), (.int p1)])) _
  refine XS.iand X0.here hx rfl (hb hby at_38) rfl ?_
  show Steps p.tables e below (T0.setTop (mkF m 39 #[.val (.int p0), .val (.int p1), .val (.int p2), .val (.int ((p2 &&& (3 : Int32)) % (3 : Int32))), .val (.int ((((p2.toUInt32 >>> ((2 : Int32) &&& 31).toUInt32).toInt32) &&& (3 : Int32)) % (3 : Int32))), .val (.int ((p0 &&& (255 : Int32)).toUInt32.toUInt16.toUInt32.toInt32)), .val (.int ((((p0.toUInt32 >>> ((8 : Int32) &&& 31).toUInt32).toInt32) &&& (255 : Int32)).toUInt32.toUInt16.toUInt32.toInt32)), .unset, .unset, .unset, .unset, .unset, .unset, .unset] [(.int (p1 &&& (255 : Int32)))])) _
  refine XS.i2c X0.here hx rfl (hb hby at_39) rfl ?_
  show Steps p.tables e below (T0.setTop (mkF m 40 #[.val (.int p0), .val (.int p1), .val (.int p2), .val (.int ((p2 &&& (3 : Int32)) % (3 : Int32))), .val (.int ((((p2.toUInt32 >>> ((2 : Int32) &&& 31).toUInt32).toInt32) &&& (3 : Int32)) % (3 : Int32))), .val (.int ((p0 &&& (255 : Int32)).toUInt32.toUInt16.toUInt32.toInt32)), .val (.int ((((p0.toUInt32 >>> ((8 : Int32) &&& 31).toUInt32).toInt32) &&& (255 : Int32)).toUInt32.toUInt16.toUInt32.toInt32)), .unset, .unset, .unset, .unset, .unset, .unset, .unset] [(.int ((p1 &&& (255 : Int32)).toUInt32.toUInt16.toUInt32.toInt32))])) _
  refine XS.istore X0.here hx rfl (hb hby at_40) rfl (l' := #[.val (.int p0), .val (.int p1), .val (.int p2), .val (.int ((p2 &&& (3 : Int32)) % (3 : Int32))), .val (.int ((((p2.toUInt32 >>> ((2 : Int32) &&& 31).toUInt32).toInt32) &&& (3 : Int32)) % (3 : Int32))), .val (.int ((p0 &&& (255 : Int32)).toUInt32.toUInt16.toUInt32.toInt32)), .val (.int ((((p0.toUInt32 >>> ((8 : Int32) &&& 31).toUInt32).toInt32) &&& (255 : Int32)).toUInt32.toUInt16.toUInt32.toInt32)), .val (.int ((p1 &&& (255 : Int32)).toUInt32.toUInt16.toUInt32.toInt32)), .unset, .unset, .unset, .unset, .unset, .unset]) rfl ?_
  show Steps p.tables e below (T0.setTop (mkF m 42 #[.val (.int p0), .val (.int p1), .val (.int p2), .val (.int ((p2 &&& (3 : Int32)) % (3 : Int32))), .val (.int ((((p2.toUInt32 >>> ((2 : Int32) &&& 31).toUInt32).toInt32) &&& (3 : Int32)) % (3 : Int32))), .val (.int ((p0 &&& (255 : Int32)).toUInt32.toUInt16.toUInt32.toInt32)), .val (.int ((((p0.toUInt32 >>> ((8 : Int32) &&& 31).toUInt32).toInt32) &&& (255 : Int32)).toUInt32.toUInt16.toUInt32.toInt32)), .val (.int ((p1 &&& (255 : Int32)).toUInt32.toUInt16.toUInt32.toInt32)), .unset, .unset, .unset, .unset, .unset, .unset] [])) _
  refine XS.iloadN X0.here hx rfl (hb hby at_42) rfl ?_
  show Steps p.tables e below (T0.setTop (mkF m 43 #[.val (.int p0), .val (.int p1), .val (.int p2), .val (.int ((p2 &&& (3 : Int32)) % (3 : Int32))), .val (.int ((((p2.toUInt32 >>> ((2 : Int32) &&& 31).toUInt32).toInt32) &&& (3 : Int32)) % (3 : Int32))), .val (.int ((p0 &&& (255 : Int32)).toUInt32.toUInt16.toUInt32.toInt32)), .val (.int ((((p0.toUInt32 >>> ((8 : Int32) &&& 31).toUInt32).toInt32) &&& (255 : Int32)).toUInt32.toUInt16.toUInt32.toInt32)), .val (.int ((p1 &&& (255 : Int32)).toUInt32.toUInt16.toUInt32.toInt32)), .unset, .unset, .unset, .unset, .unset, .unset] [(.int p1)])) _
  refine XS.bipush X0.here hx rfl (hb hby at_43) ?_
  show Steps p.tables e below (T0.setTop (mkF m 45 #[.val (.int p0), .val (.int p1), .val (.int p2), .val (.int ((p2 &&& (3 : Int32)) % (3 : Int32))), .val (.int ((((p2.toUInt32 >>> ((2 : Int32) &&& 31).toUInt32).toInt32) &&& (3 : Int32)) % (3 : Int32))), .val (.int ((p0 &&& (255 : Int32)).toUInt32.toUInt16.toUInt32.toInt32)), .val (.int ((((p0.toUInt32 >>> ((8 : Int32) &&& 31).toUInt32).toInt32) &&& (255 : Int32)).toUInt32.toUInt16.toUInt32.toInt32)), .val (.int ((p1 &&& (255 : Int32)).toUInt32.toUInt16.toUInt32.toInt32)), .unset, .unset, .unset, .unset, .unset, .unset] [(.int (8 : Int32)), (.int p1)])) _
  refine XS.iushr X0.here hx rfl (hb hby at_45) rfl ?_
  show Steps p.tables e below (T0.setTop (mkF m 46 #[.val (.int p0), .val (.int p1), .val (.int p2), .val (.int ((p2 &&& (3 : Int32)) % (3 : Int32))), .val (.int ((((p2.toUInt32 >>> ((2 : Int32) &&& 31).toUInt32).toInt32) &&& (3 : Int32)) % (3 : Int32))), .val (.int ((p0 &&& (255 : Int32)).toUInt32.toUInt16.toUInt32.toInt32)), .val (.int ((((p0.toUInt32 >>> ((8 : Int32) &&& 31).toUInt32).toInt32) &&& (255 : Int32)).toUInt32.toUInt16.toUInt32.toInt32)), .val (.int ((p1 &&& (255 : Int32)).toUInt32.toUInt16.toUInt32.toInt32)), .unset, .unset, .unset, .unset, .unset, .unset] [(.int ((p1.toUInt32 >>> ((8 : Int32) &&& 31).toUInt32).toInt32))])) _
  refine XS.sipush X0.here hx rfl (hb hby at_46) ?_
  show Steps p.tables e below (T0.setTop (mkF m 49 #[.val (.int p0), .val (.int p1), .val (.int p2), .val (.int ((p2 &&& (3 : Int32)) % (3 : Int32))), .val (.int ((((p2.toUInt32 >>> ((2 : Int32) &&& 31).toUInt32).toInt32) &&& (3 : Int32)) % (3 : Int32))), .val (.int ((p0 &&& (255 : Int32)).toUInt32.toUInt16.toUInt32.toInt32)), .val (.int ((((p0.toUInt32 >>> ((8 : Int32) &&& 31).toUInt32).toInt32) &&& (255 : Int32)).toUInt32.toUInt16.toUInt32.toInt32)), .val (.int ((p1 &&& (255 : Int32)).toUInt32.toUInt16.toUInt32.toInt32)), .unset, .unset, .unset, .unset, .unset, .unset] [(.int (255 : Int32)), (.int ((p1.toUInt32 >>> ((8 : Int32) &&& 31).toUInt32).toInt32))])) _
  refine XS.iand X0.here hx rfl (hb hby at_49) rfl ?_
  show Steps p.tables e below (T0.setTop (mkF m 50 #[.val (.int p0), .val (.int p1), .val (.int p2), .val (.int ((p2 &&& (3 : Int32)) % (3 : Int32))), .val (.int ((((p2.toUInt32 >>> ((2 : Int32) &&& 31).toUInt32).toInt32) &&& (3 : Int32)) % (3 : Int32))), .val (.int ((p0 &&& (255 : Int32)).toUInt32.toUInt16.toUInt32.toInt32)), .val (.int ((((p0.toUInt32 >>> ((8 : Int32) &&& 31).toUInt32).toInt32) &&& (255 : Int32)).toUInt32.toUInt16.toUInt32.toInt32)), .val (.int ((p1 &&& (255 : Int32)).toUInt32.toUInt16.toUInt32.toInt32)), .unset, .unset, .unset, .unset, .unset, .unset] [(.int (((p1.toUInt32 >>> ((8 : Int32) &&& 31).toUInt32).toInt32) &&& (255 : Int32)))])) _
  refine XS.i2c X0.here hx rfl (hb hby at_50) rfl ?_
  show Steps p.tables e below (T0.setTop (mkF m 51 #[.val (.int p0), .val (.int p1), .val (.int p2), .val (.int ((p2 &&& (3 : Int32)) % (3 : Int32))), .val (.int ((((p2.toUInt32 >>> ((2 : Int32) &&& 31).toUInt32).toInt32) &&& (3 : Int32)) % (3 : Int32))), .val (.int ((p0 &&& (255 : Int32)).toUInt32.toUInt16.toUInt32.toInt32)), .val (.int ((((p0.toUInt32 >>> ((8 : Int32) &&& 31).toUInt32).toInt32) &&& (255 : Int32)).toUInt32.toUInt16.toUInt32.toInt32)), .val (.int ((p1 &&& (255 : Int32)).toUInt32.toUInt16.toUInt32.toInt32)), .unset, .unset, .unset, .unset, .unset, .unset] [(.int ((((p1.toUInt32 >>> ((8 : Int32) &&& 31).toUInt32).toInt32) &&& (255 : Int32)).toUInt32.toUInt16.toUInt32.toInt32))])) _
  refine XS.istore X0.here hx rfl (hb hby at_51) rfl (l' := #[.val (.int p0), .val (.int p1), .val (.int p2), .val (.int ((p2 &&& (3 : Int32)) % (3 : Int32))), .val (.int ((((p2.toUInt32 >>> ((2 : Int32) &&& 31).toUInt32).toInt32) &&& (3 : Int32)) % (3 : Int32))), .val (.int ((p0 &&& (255 : Int32)).toUInt32.toUInt16.toUInt32.toInt32)), .val (.int ((((p0.toUInt32 >>> ((8 : Int32) &&& 31).toUInt32).toInt32) &&& (255 : Int32)).toUInt32.toUInt16.toUInt32.toInt32)), .val (.int ((p1 &&& (255 : Int32)).toUInt32.toUInt16.toUInt32.toInt32)), .val (.int ((((p1.toUInt32 >>> ((8 : Int32) &&& 31).toUInt32).toInt32) &&& (255 : Int32)).toUInt32.toUInt16.toUInt32.toInt32)), .unset, .unset, .unset, .unset, .unset]) rfl ?_
  exact kt
theorem lawpre {p : Program} {l : Launch} {e : Env} {R : Room} {s : State} {m : MethodId} {args : Array Value} {below : List Frame} {meth : Method} {c : Code} {T0 : State} {locs : List Loc} {cells slots : Nat} {Z : State} {a0 : Array Value} {h0 : Heap} (X0 : Stand p l e R s m args below meth c T0 locs cells slots) (hx : p.tables.exec = Jvm.exec) (hZ : Z.Warmed39 s.vm) (hw : ∀ d ∈ tables_1, d.before a0 Z = true) (hby : c.code = code) (hown : s.vm.findClass "com/example/lendloop/lendloop/core/PatronRefToStringPinLaw" = some m.cls) (e0 : T0.heap = h0) {p0 p1 p2 : Int32} : ∃ bl ll b0 b1 l0 l1 : Int32, (own_tri bl ∧ own_tri ll ∧ own_ch b0 ∧ own_ch b1 ∧ own_ch l0 ∧ own_ch l1) ∧ ∀ target, Steps p.tables e below (T0.setTop (mkF m 53 #[.val (.int p0), .val (.int p1), .val (.int p2), .val (.int bl), .val (.int ll), .val (.int b0), .val (.int b1), .val (.int l0), .val (.int l1), .unset, .unset, .unset, .unset, .unset] [])) target → Steps p.tables e below (T0.setTop (mkF m 0 #[.val (.int p0), .val (.int p1), .val (.int p2), .unset, .unset, .unset, .unset, .unset, .unset, .unset, .unset, .unset, .unset, .unset] [])) target :=
  ⟨((p2 &&& (3 : Int32)) % (3 : Int32)), ((((p2.toUInt32 >>> ((2 : Int32) &&& 31).toUInt32).toInt32) &&& (3 : Int32)) % (3 : Int32)), ((p0 &&& (255 : Int32)).toUInt32.toUInt16.toUInt32.toInt32), ((((p0.toUInt32 >>> ((8 : Int32) &&& 31).toUInt32).toInt32) &&& (255 : Int32)).toUInt32.toUInt16.toUInt32.toInt32), ((p1 &&& (255 : Int32)).toUInt32.toUInt16.toUInt32.toInt32), ((((p1.toUInt32 >>> ((8 : Int32) &&& 31).toUInt32).toInt32) &&& (255 : Int32)).toUInt32.toUInt16.toUInt32.toInt32), ⟨own_r3 _, own_r3 _, own_chE _, own_chE _, own_chE _, own_chE _⟩, lp0 X0 hx hZ hw hby hown e0⟩
theorem own_pd22 : parseMethodDescriptor "(ICC)Ljava/lang/String;" = some ⟨[.int, .char, .char], some (.object "java/lang/String")⟩ := by decide +kernel
theorem own_pd23 : parseMethodDescriptor "(Ljava/lang/String;Ljava/lang/String;)V" = some ⟨[(.object "java/lang/String"), (.object "java/lang/String")], none⟩ := by decide +kernel
theorem own_pd24 : parseMethodDescriptor "(Ljava/lang/String;IIICCCC)Z" = some ⟨[(.object "java/lang/String"), .int, .int, .int, .char, .char, .char, .char], some .boolean⟩ := by decide +kernel
theorem ef_0 (m : MethodId) (x0 : Int32) (x1 : Int32) (x2 : Int32) : entryFrame m #[(.int x0), (.int x1), (.int x2)] maxLocals = mkF m 0 #[.val (.int x0), .val (.int x1), .val (.int x2), .unset, .unset, .unset, .unset, .unset, .unset, .unset, .unset, .unset, .unset, .unset] [] := by first | (simp [entryFrame, mkF, argsToLocals, Value.category, maxLocals]; done) | rfl
theorem pn_0 : plainName "com/example/lendloop/lendloop/core/PatronRefToStringPinLaw" = true := by first | (simp [plainName, overriddenIn]; done) | decide +kernel
def Qd23 (Z : State) (p0 p1 p2 z : Int32) (fm : Value) (h0 : Heap) (n0 : Nat) (v : Option Value) (h : Heap) (L : List Loc) : Prop := v = some (.int 1) ∧ Fr n0 L
set_option maxRecDepth 65536 in
set_option maxHeartbeats 40000000 in
theorem rm0 (l : Launch) (Z : State) (a0 : Array Value) (hw : ∀ d ∈ tables_1, d.before a0 Z = true) (ws : List Jvm.Cond) (p0 p1 p2 z : Int32) (fm : Value) (h0 : Heap) (n0 : Nat) (O0 : Old Z n0 h0) (SC : Sta Z Z.heap "java/lang/String" "COMPACT_STRINGS" "Z" (.int z)) (hz : ¬ z = 0) (SF : Sta Z Z.heap "jdk/internal/util/Preconditions" "SIOOBE_FORMATTER" "Ljava/util/function/BiFunction;" fm) (hf : fm.isRef = true) :
    MetFree l x (head1 (Jvm.Cond.code x code maxLocals ret :: ws) room_1) (fun qq U => qq = #[(.int p0), (.int p1), (.int p2)] ∧ Z.Warmed39 U.vm ∧ U.heap = h0 ∧ CHv Z consts_1 U.vm h0) (fun _ _ _ _ _ => True) (fun _ UU oo UU' => ∃ vv LL, oo = .returned vv ∧ Qd23 Z p0 p1 p2 z fm h0 n0 vv UU'.heap LL ∧ CHr Z consts_1 UU.vm UU.heap UU'.vm UU'.heap ∧ ReturnedEndW UU oo UU' LL room_1.cells room_1.slots) := by
  refine MetFree.of_bodySF (plainFor_of_name pn_0) hisR ?_
  intro p e s m args below meth c s₁ Bd hml0 hP hK
  obtain ⟨rfl, hZ, hh, hC0⟩ := hP
  have hZ : Z.Warmed39 (s.setVm s.vm).vm := hZ
  have CR0 := CHr.refl hC0
  have hx := Bd.exec
  have hby := Bd.bytes
  have hml : c.maxLocals = 14 := hml0
  have hown : (s.setVm s.vm).vm.findClass "com/example/lendloop/lendloop/core/PatronRefToStringPinLaw" = some m.cls := findClass_of_methodNamed Bd.named
  have hnm := (name_of_methodNamed Bd.named Bd.method).1
  have X0 : Stand p l e room_1 (s.setVm s.vm) m #[(.int p0), (.int p1), (.int p2)] below meth c s₁ [] 0 0 := Stand.of_body Bd
  have e0 : s₁.heap = h0 := by rw [← hh, Bd.state]; rfl
  have N0 := Fr.nil n0
  have pre0 : ∀ tgt, Steps p.tables e below (s₁.setTop (mkF m 0 #[.val (.int p0), .val (.int p1), .val (.int p2), .unset, .unset, .unset, .unset, .unset, .unset, .unset, .unset, .unset, .unset, .unset] [])) tgt → Steps p.tables e below (s₁.setTop (entryFrame m #[(.int p0), (.int p1), (.int p2)] maxLocals)) tgt := fun tt kk => castTop (ef_0 m p0 p1 p2) kk
  obtain ⟨bl, ll, b0, b1, l0, l1, ⟨hbl, hll, Hb0, Hb1, Hl0, Hl1⟩, stA⟩ := lawpre (p0 := p0) (p1 := p1) (p2 := p2) X0 hx hZ hw hby hown e0
  have gB := own_mkg hbl Hb0 Hb1
  have gL := own_mkg hll Hl0 Hl1
  obtain ⟨_, _, ⟨T1q, L1q, k1q, n1q⟩, -, X1q, Sq1q, gq1q, ⟨Lc1q, hQ1q, l1q, y1q, z1q, CC1q⟩, st1q⟩ := callSS X0 hx (y := (⟨"com/example/lendloop/lendloop/core/PatronRefToStringPinLaw", "mk", "(ICC)Ljava/lang/String;"⟩ : MethodName)) hown (mvT hZ (ww hw 0 rfl)) (mvT hZ (ww hw 1 rfl)) (mvT hZ (ww hw 2 rfl)) (mvT hZ (ww hw 3 rfl)) (by decide) (backOfSH (W := 0) (rmM l Z a0 hw [] bl b0 b1 z h0 n0 O0 SC hz Hb0 Hb1) hZ (ww hw 3 rfl) (ww hw 2 rfl) (by decide) (by decide) (own_EW hw) CR0.1) (g := (mkF m 58 #[.val (.int p0), .val (.int p1), .val (.int p2), .val (.int bl), .val (.int ll), .val (.int b0), .val (.int b1), .val (.int l0), .val (.int l1), .unset, .unset, .unset, .unset, .unset] [(.int b1), (.int b0), (.int bl)])) rfl (by rw [hml]; rfl) (argsL := [(.int bl), (.int b0), (.int b1)]) (rest := []) (lenOf own_pd22 rfl) rfl (by show 2 * 0 + _ ≤ _; exact Nat.le_of_eq rfl) (hb hby at_58) (fun _ _ => ⟨rfl, e0, (by decide : 0 + 6 ≤ _), (by decide : 0 + 16 ≤ _)⟩)
  dsimp only [Pt.U, Pt.locs, Pt.cells, Pt.slots] at X1q l1q y1q z1q st1q hQ1q Sq1q gq1q CC1q
  subst l1q y1q z1q
  obtain ⟨X1q, S1q, hZ1q, hown1q⟩ := rebS (n1 := s₁.heap.size) (State.WarmedH.since (State.WarmedH.refl s) 0) (by rw [e0]; exact (Nat.zero_le _)) X1q Sq1q gq1q hZ hown
  obtain ⟨bx, tb, kbB, rfl, N1qq, KK1q, fE58, fV58, fC58, fK58⟩ := hQ1q
  have N1q := Fr.app N0 N1qq
  have SC1q := CC1q
  have CR1q := CHr.trans CR0 SC1q
  have O1q := Old.keep O0 KK1q all0
  obtain ⟨_, _, ⟨T2q, L2q, k2q, n2q⟩, -, X2q, Sq2q, gq2q, ⟨Lc2q, hQ2q, l2q, y2q, z2q, CC2q⟩, st2q⟩ := callSS X1q hx (y := (⟨"com/example/lendloop/lendloop/core/PatronRefToStringPinLaw", "mk", "(ICC)Ljava/lang/String;"⟩ : MethodName)) hown1q (mvT hZ1q (ww hw 0 rfl)) (mvT hZ1q (ww hw 1 rfl)) (mvT hZ1q (ww hw 2 rfl)) (mvT hZ1q (ww hw 3 rfl)) (by decide) (backOfSH (W := 0) (rmM l Z a0 hw [] ll l0 l1 z T1q.heap n0 O1q SC hz Hl0 Hl1) hZ1q (ww hw 3 rfl) (ww hw 2 rfl) (by decide) (by decide) (own_EW hw) CR1q.1) (g := (mkF m 69 #[.val (.int p0), .val (.int p1), .val (.int p2), .val (.int bl), .val (.int ll), .val (.int b0), .val (.int b1), .val (.int l0), .val (.int l1), .val (.ref bx), .unset, .unset, .unset, .unset] [(.int l1), (.int l0), (.int ll)])) rfl (by rw [hml]; rfl) (argsL := [(.int ll), (.int l0), (.int l1)]) (rest := []) (lenOf own_pd22 rfl) rfl (by show 2 * 0 + _ ≤ _; exact Nat.le_of_eq rfl) (hb hby at_69) (fun _ _ => ⟨rfl, rfl, (by decide : 6 + 6 ≤ _), (by decide : 16 + 16 ≤ _)⟩)
  dsimp only [Pt.U, Pt.locs, Pt.cells, Pt.slots] at X2q l2q y2q z2q st2q hQ2q Sq2q gq2q CC2q
  subst l2q y2q z2q
  obtain ⟨X2q, S2q, hZ2q, hown2q⟩ := rebS (n1 := T1q.heap.size) S1q ((Nat.le_refl _)) X2q Sq2q gq2q hZ1q hown1q
  obtain ⟨lx, tl, kbL, rfl, N2qq, KK2q, fE69, fV69, fC69, fK69⟩ := hQ2q
  have N2q := Fr.app N1q N2qq
  have SC2q := CC2q
  have CR2q := CHr.trans CR1q SC2q
  have O2q := Old.keep O1q KK2q all0
  obtain ⟨T3q, h3q, X3q, e3q, E3q, A3q, D3q, -, st3q⟩ := newO X2q hx hZ2q hown2q (ww hw 37 rfl) (ww hw 38 rfl) (ww hw 39 rfl) rfl (g := (mkF m 74 #[.val (.int p0), .val (.int p1), .val (.int p2), .val (.int bl), .val (.int ll), .val (.int b0), .val (.int b1), .val (.int l0), .val (.int l1), .val (.ref bx), .val (.ref lx), .unset, .unset, .unset] [])) rfl (hb hby at_74) (by decide) (by decide)
  obtain ⟨b3q, q3q⟩ : ∃ z, z = T2q.heap.size := ⟨_, rfl⟩
  rw [← q3q] at A3q D3q st3q
  have g_b3q : n0 ≤ b3q := by rw [q3q]; exact (O2q).1 ▸ (O2q).2.1
  have ne_bx_b3q : bx ≠ b3q := by rw [q3q]; exact Nat.ne_of_lt (fE58.keep KK2q).lt
  have ne_tb_b3q : tb ≠ b3q := by rw [q3q]; exact Nat.ne_of_lt (fK58.keep KK2q nin0).lt
  have ne_lx_b3q : lx ≠ b3q := by rw [q3q]; exact Nat.ne_of_lt fE69.lt
  have ne_tl_b3q : tl ≠ b3q := by rw [q3q]; exact Nat.ne_of_lt fK69.lt
  have SC3q := CHr.ext E3q CR2q.1
  have CR3q := CHr.trans CR2q SC3q
  have O3q := Old.ext O2q E3q
  have sz3q := Nat.le_trans (Nat.le_refl _) (E3q.1)
  have F3q_library : Fld Z h3q b3q "com/example/lendloop/lendloop/core/PatronRef" "library" "Ljava/lang/String;" .null := D3q (Or.inr (ww hw 56 rfl)) (ty := (.object "java/lang/String")) (by decide)
  have F3q_barcode : Fld Z h3q b3q "com/example/lendloop/lendloop/core/PatronRef" "barcode" "Ljava/lang/String;" .null := D3q (Or.inr (ww hw 58 rfl)) (ty := (.object "java/lang/String")) (by decide)
  obtain ⟨_, _, ⟨T4q, L4q, k4q, n4q⟩, -, X4q, Sq4q, gq4q, ⟨Lc4q, hQ4q, l4q, y4q, z4q, CC4q⟩, st4q⟩ := X3q.specialBackS hx (y := (⟨"com/example/lendloop/lendloop/core/PatronRef", "<init>", "(Ljava/lang/String;Ljava/lang/String;)V"⟩ : MethodName)) rfl hown2q (mvT hZ2q (ww hw 40 rfl)) (mvT hZ2q (ww hw 41 rfl)) (mvT hZ2q (ww hw 42 rfl)) (by decide) (backOfSH (W := 1) (rmPR l Z a0 hw [] b3q lx bx h3q n0 O3q g_b3q A3q F3q_library F3q_barcode) hZ2q (ww hw 42 rfl) (ww hw 39 rfl) (by decide) (by decide) (own_EW hw) CR3q.1) (g := (mkF m 82 #[.val (.int p0), .val (.int p1), .val (.int p2), .val (.int bl), .val (.int ll), .val (.int b0), .val (.int b1), .val (.int l0), .val (.int l1), .val (.ref bx), .val (.ref lx), .unset, .unset, .unset] [(.ref bx), (.ref lx), (.ref b3q), (.ref b3q)])) rfl (by rw [hml]; rfl) (Steps.refl _) (a := b3q) (argsL := [(.ref lx), (.ref bx)]) (rest := [(.ref b3q)]) (lenOf own_pd23 rfl) rfl (by show 2 * 0 + _ ≤ _; exact Nat.le_of_eq rfl) (hb hby at_82) (fun _ _ => ⟨rfl, e3q, (by decide : 13 + 4 ≤ _), (by decide : 34 + 64 ≤ _)⟩)
  dsimp only [Pt.U, Pt.locs, Pt.cells, Pt.slots] at X4q l4q y4q z4q st4q hQ4q Sq4q gq4q CC4q
  subst l4q y4q z4q
  obtain ⟨X4q, S4q, hZ4q, hown4q⟩ := rebS (n1 := T3q.heap.size) S2q (by rw [e3q]; exact sz3q) X4q Sq4q gq4q hZ2q hown2q
  obtain ⟨rfl, N4qq, KK4q, f4q_0, f4q_1⟩ := hQ4q
  have N4q := Fr.app N2q N4qq
  have SC4q := CC4q
  have CR4q := CHr.trans CR3q SC4q
  have O4q := Old.keep O3q KK4q (allS g_b3q all0)
  have c5q := ((Fld.ext E3q (fV58.keep KK2q nin0)).keep KK4q (ninS ne_bx_b3q nin0))
  have c6q := ((Fld.ext E3q (fC58.keep KK2q nin0)).keep KK4q (ninS ne_bx_b3q nin0))
  have c7q := (((fK58.keep KK2q nin0).ext E3q).keep KK4q (ninS ne_tb_b3q nin0))
  obtain ⟨cq8q, kq8q, q8qa, q8qb, q8qc⟩ := isOf hZ4q rfl (A3q.keep KK4q)
  obtain ⟨_, _, ⟨T8q, L8q, k8q, n8q⟩, -, X8q, Sq8q, gq8q, ⟨Lc8q, hQ8q, l8q, y8q, z8q, CC8q⟩, st8q⟩ := X4q.virtualBackS hx (y := (⟨"com/example/lendloop/lendloop/core/PatronRef", "toString", "()Ljava/lang/String;"⟩ : MethodName)) (z := (⟨"com/example/lendloop/lendloop/core/PatronRef", "toString", "()Ljava/lang/String;"⟩ : MethodName)) hown4q (mvT hZ4q (ww hw 59 rfl)) (mvT hZ4q (ww hw 60 rfl)) (notFace_of_selects (args := #[]) (mvT hZ4q (ww hw 62 rfl))) (mvT hZ4q (ww hw 62 rfl)) (mvT hZ4q (ww hw 61 rfl)) (by decide) (backOfSH (W := 0) (rmPT l Z a0 hw [] b3q lx tl bx tb kbL kbB (own_mk ll l0 l1) (own_mk bl b0 b1) z T4q.heap n0 O4q f4q_0 f4q_1 ((Exa.ext E3q fE69).keep KK4q) ((Fld.ext E3q fV69).keep KK4q (ninS ne_lx_b3q nin0)) ((Fld.ext E3q fC69).keep KK4q (ninS ne_lx_b3q nin0)) ((fK69.ext E3q).keep KK4q (ninS ne_tl_b3q nin0)) ((Exa.ext E3q (fE58.keep KK2q)).keep KK4q) c5q c6q c7q SC hz gL.1 gB.1 gL.2 gB.2) hZ4q (ww hw 63 rfl) (ww hw 39 rfl) (by decide) (by decide) (own_EW hw) CR4q.1) q8qa q8qc (g := (mkF m 89 #[.val (.int p0), .val (.int p1), .val (.int p2), .val (.int bl), .val (.int ll), .val (.int b0), .val (.int b1), .val (.int l0), .val (.int l1), .val (.ref bx), .val (.ref lx), .val (.ref b3q), .unset, .unset] [(.ref b3q)])) rfl (by rw [hml]; rfl) (Steps.refl _) (argsL := []) (rest := []) (lenOf own_pd19 rfl) rfl (by show 2 * 0 + _ ≤ _; exact Nat.le_of_eq rfl) (hb hby at_89) (fun _ _ => ⟨rfl, rfl, (by decide : 17 + 6 ≤ _), (by decide : 98 + 60 ≤ _)⟩)
  dsimp only [Pt.U, Pt.locs, Pt.cells, Pt.slots] at X8q l8q y8q z8q st8q hQ8q Sq8q gq8q CC8q
  subst l8q y8q z8q
  obtain ⟨X8q, S8q, hZ8q, hown8q⟩ := rebS (n1 := T4q.heap.size) S4q ((Nat.le_refl _)) X8q Sq8q gq8q hZ4q hown4q
  obtain ⟨xs, nb, kn, rfl, N8qq, KK8q, fE89, fV89, fC89, fK89⟩ := hQ8q
  have N8q := Fr.app N4q N8qq
  have SC8q := CC8q
  have CR8q := CHr.trans CR4q SC8q
  have O8q := Old.keep O4q KK8q all0
  have hg := own_gtx gB.1 gL.1 gB.2 gL.2
  obtain ⟨cq9q, kq9q, q9qa, q9qb, q9qc⟩ := isOf hZ8q rfl fE89
  obtain ⟨_, _, ⟨T9q, L9q, k9q, n9q⟩, -, X9q, ⟨Lc9q, hQ9q, l9q, y9q, z9q⟩, st9q⟩ := X8q.virtualBack hx (y := (⟨"java/lang/String", "length", "()I"⟩ : MethodName)) (z := (⟨"java/lang/String", "length", "()I"⟩ : MethodName)) hown8q (mvT hZ8q (ww hw 175 rfl)) (mvT hZ8q (ww hw 93 rfl)) (notFace_of_selects (args := #[]) (mvT hZ8q (ww hw 95 rfl))) (mvT hZ8q (ww hw 95 rfl)) (mvT hZ8q (ww hw 94 rfl)) (by decide) (own_bk (n0 := n0) (fun _ q => q) (StrChars.Road.lenW (W := 0) hZ8q (own_wL hw) (kI := 4) (ww hw 5 rfl) fE89 fV89 fC89 fK89 (own_cd hg) (own_hb hg) (Sta.ext O8q.2 SC) hz (Nat.le_trans hg.1 (by decide)) (by decide) (by decide))) q9qa q9qc (g := (mkF m 109 #[.val (.int p0), .val (.int p1), .val (.int p2), .val (.int bl), .val (.int ll), .val (.int b0), .val (.int b1), .val (.int l0), .val (.int l1), .val (.ref bx), .val (.ref lx), .val (.ref b3q), .val (.ref xs), .val (.int ((bl + (4 : Int32)) + ll))] [(.ref xs)])) rfl (by rw [hml]; rfl) (Steps.refl _) (argsL := []) (rest := []) (lenOf own_pd4 rfl) rfl (by show 2 * 0 + _ ≤ _; exact Nat.le_of_eq rfl) (hb hby at_109) (fun _ _ => ⟨rfl, rfl, (by decide : 23 + 0 ≤ _), (by decide : 158 + 0 ≤ _)⟩)
  dsimp only [Pt.U, Pt.locs, Pt.cells, Pt.slots] at X9q l9q y9q z9q st9q hQ9q
  subst l9q y9q z9q
  obtain ⟨rfl, N9qq, e9q⟩ := hQ9q
  have N9q := Fr.app N8q N9qq
  obtain ⟨_, _, ⟨T10q, L10q, k10q, n10q⟩, -, X10q, ⟨Lc10q, hQ10q, l10q, y10q, z10q⟩, st10q⟩ := Jvm.LawKit.callS X9q hx (y := (⟨"com/example/lendloop/lendloop/core/PatronRefToStringPinLaw", "at", "(Ljava/lang/String;IIICCCC)Z"⟩ : MethodName)) hown8q (mvT hZ8q (ww hw 176 rfl)) (mvT hZ8q (ww hw 177 rfl)) (mvT hZ8q (ww hw 2 rfl)) (mvT hZ8q (ww hw 178 rfl)) (by decide) (backOf (W := 0) (rmAt l Z a0 hw [] xs nb kn ((([] ++ own_mk bl b0 b1) ++ ([32, 111, 102, 32] : List Int32)) ++ own_mk ll l0 l1) z (0 : Int32) ((bl + (4 : Int32)) + ll) bl b0 b1 l0 l1 0 fm T8q.heap n0 O8q fE89 fV89 fC89 fK89 SC hz SF hf Hb0 Hb1 Hl0 Hl1 hg (own_tat hbl hll b0 b1 l0 l1 0 (by decide))) hZ8q (ww hw 178 rfl) (ww hw 2 rfl) (by decide) (by decide)) (g := (mkF m 133 #[.val (.int p0), .val (.int p1), .val (.int p2), .val (.int bl), .val (.int ll), .val (.int b0), .val (.int b1), .val (.int l0), .val (.int l1), .val (.ref bx), .val (.ref lx), .val (.ref b3q), .val (.ref xs), .val (.int ((bl + (4 : Int32)) + ll))] [(.int l1), (.int l0), (.int b1), (.int b0), (.int bl), (.int ((bl + (4 : Int32)) + ll)), (.int (0 : Int32)), (.ref xs)])) rfl (by rw [hml]; rfl) (argsL := [(.ref xs), (.int (0 : Int32)), (.int ((bl + (4 : Int32)) + ll)), (.int bl), (.int b0), (.int b1), (.int l0), (.int l1)]) (rest := []) (lenOf own_pd24 rfl) rfl (by show 2 * 0 + _ ≤ _; exact Nat.le_of_eq rfl) (hb hby at_133) (fun _ _ => ⟨rfl, e9q, (by decide : 23 + 0 ≤ _), (by decide : 158 + 0 ≤ _)⟩)
  dsimp only [Pt.U, Pt.locs, Pt.cells, Pt.slots] at X10q l10q y10q z10q st10q hQ10q
  subst l10q y10q z10q
  obtain ⟨rfl, N10qq, e10q⟩ := hQ10q
  have N10q := Fr.app N9q N10qq
  obtain ⟨_, _, ⟨T11q, L11q, k11q, n11q⟩, -, X11q, ⟨Lc11q, hQ11q, l11q, y11q, z11q⟩, st11q⟩ := Jvm.LawKit.callS X10q hx (y := (⟨"com/example/lendloop/lendloop/core/PatronRefToStringPinLaw", "at", "(Ljava/lang/String;IIICCCC)Z"⟩ : MethodName)) hown8q (mvT hZ8q (ww hw 176 rfl)) (mvT hZ8q (ww hw 177 rfl)) (mvT hZ8q (ww hw 2 rfl)) (mvT hZ8q (ww hw 178 rfl)) (by decide) (backOf (W := 0) (rmAt l Z a0 hw [] xs nb kn ((([] ++ own_mk bl b0 b1) ++ ([32, 111, 102, 32] : List Int32)) ++ own_mk ll l0 l1) z (1 : Int32) ((bl + (4 : Int32)) + ll) bl b0 b1 l0 l1 1 fm T8q.heap n0 O8q fE89 fV89 fC89 fK89 SC hz SF hf Hb0 Hb1 Hl0 Hl1 hg (own_tat hbl hll b0 b1 l0 l1 1 (by decide))) hZ8q (ww hw 178 rfl) (ww hw 2 rfl) (by decide) (by decide)) (g := (mkF m 153 #[.val (.int p0), .val (.int p1), .val (.int p2), .val (.int bl), .val (.int ll), .val (.int b0), .val (.int b1), .val (.int l0), .val (.int l1), .val (.ref bx), .val (.ref lx), .val (.ref b3q), .val (.ref xs), .val (.int ((bl + (4 : Int32)) + ll))] [(.int l1), (.int l0), (.int b1), (.int b0), (.int bl), (.int ((bl + (4 : Int32)) + ll)), (.int (1 : Int32)), (.ref xs)])) rfl (by rw [hml]; rfl) (argsL := [(.ref xs), (.int (1 : Int32)), (.int ((bl + (4 : Int32)) + ll)), (.int bl), (.int b0), (.int b1), (.int l0), (.int l1)]) (rest := []) (lenOf own_pd24 rfl) rfl (by show 2 * 0 + _ ≤ _; exact Nat.le_of_eq rfl) (hb hby at_153) (fun _ _ => ⟨rfl, e10q, (by decide : 23 + 0 ≤ _), (by decide : 158 + 0 ≤ _)⟩)
  dsimp only [Pt.U, Pt.locs, Pt.cells, Pt.slots] at X11q l11q y11q z11q st11q hQ11q
  subst l11q y11q z11q
  obtain ⟨rfl, N11qq, e11q⟩ := hQ11q
  have N11q := Fr.app N10q N11qq
  obtain ⟨_, _, ⟨T12q, L12q, k12q, n12q⟩, -, X12q, ⟨Lc12q, hQ12q, l12q, y12q, z12q⟩, st12q⟩ := Jvm.LawKit.callS X11q hx (y := (⟨"com/example/lendloop/lendloop/core/PatronRefToStringPinLaw", "at", "(Ljava/lang/String;IIICCCC)Z"⟩ : MethodName)) hown8q (mvT hZ8q (ww hw 176 rfl)) (mvT hZ8q (ww hw 177 rfl)) (mvT hZ8q (ww hw 2 rfl)) (mvT hZ8q (ww hw 178 rfl)) (by decide) (backOf (W := 0) (rmAt l Z a0 hw [] xs nb kn ((([] ++ own_mk bl b0 b1) ++ ([32, 111, 102, 32] : List Int32)) ++ own_mk ll l0 l1) z (2 : Int32) ((bl + (4 : Int32)) + ll) bl b0 b1 l0 l1 2 fm T8q.heap n0 O8q fE89 fV89 fC89 fK89 SC hz SF hf Hb0 Hb1 Hl0 Hl1 hg (own_tat hbl hll b0 b1 l0 l1 2 (by decide))) hZ8q (ww hw 178 rfl) (ww hw 2 rfl) (by decide) (by decide)) (g := (mkF m 173 #[.val (.int p0), .val (.int p1), .val (.int p2), .val (.int bl), .val (.int ll), .val (.int b0), .val (.int b1), .val (.int l0), .val (.int l1), .val (.ref bx), .val (.ref lx), .val (.ref b3q), .val (.ref xs), .val (.int ((bl + (4 : Int32)) + ll))] [(.int l1), (.int l0), (.int b1), (.int b0), (.int bl), (.int ((bl + (4 : Int32)) + ll)), (.int (2 : Int32)), (.ref xs)])) rfl (by rw [hml]; rfl) (argsL := [(.ref xs), (.int (2 : Int32)), (.int ((bl + (4 : Int32)) + ll)), (.int bl), (.int b0), (.int b1), (.int l0), (.int l1)]) (rest := []) (lenOf own_pd24 rfl) rfl (by show 2 * 0 + _ ≤ _; exact Nat.le_of_eq rfl) (hb hby at_173) (fun _ _ => ⟨rfl, e11q, (by decide : 23 + 0 ≤ _), (by decide : 158 + 0 ≤ _)⟩)
  dsimp only [Pt.U, Pt.locs, Pt.cells, Pt.slots] at X12q l12q y12q z12q st12q hQ12q
  subst l12q y12q z12q
  obtain ⟨rfl, N12qq, e12q⟩ := hQ12q
  have N12q := Fr.app N11q N12qq
  obtain ⟨_, _, ⟨T13q, L13q, k13q, n13q⟩, -, X13q, ⟨Lc13q, hQ13q, l13q, y13q, z13q⟩, st13q⟩ := Jvm.LawKit.callS X12q hx (y := (⟨"com/example/lendloop/lendloop/core/PatronRefToStringPinLaw", "at", "(Ljava/lang/String;IIICCCC)Z"⟩ : MethodName)) hown8q (mvT hZ8q (ww hw 176 rfl)) (mvT hZ8q (ww hw 177 rfl)) (mvT hZ8q (ww hw 2 rfl)) (mvT hZ8q (ww hw 178 rfl)) (by decide) (backOf (W := 0) (rmAt l Z a0 hw [] xs nb kn ((([] ++ own_mk bl b0 b1) ++ ([32, 111, 102, 32] : List Int32)) ++ own_mk ll l0 l1) z (3 : Int32) ((bl + (4 : Int32)) + ll) bl b0 b1 l0 l1 3 fm T8q.heap n0 O8q fE89 fV89 fC89 fK89 SC hz SF hf Hb0 Hb1 Hl0 Hl1 hg (own_tat hbl hll b0 b1 l0 l1 3 (by decide))) hZ8q (ww hw 178 rfl) (ww hw 2 rfl) (by decide) (by decide)) (g := (mkF m 193 #[.val (.int p0), .val (.int p1), .val (.int p2), .val (.int bl), .val (.int ll), .val (.int b0), .val (.int b1), .val (.int l0), .val (.int l1), .val (.ref bx), .val (.ref lx), .val (.ref b3q), .val (.ref xs), .val (.int ((bl + (4 : Int32)) + ll))] [(.int l1), (.int l0), (.int b1), (.int b0), (.int bl), (.int ((bl + (4 : Int32)) + ll)), (.int (3 : Int32)), (.ref xs)])) rfl (by rw [hml]; rfl) (argsL := [(.ref xs), (.int (3 : Int32)), (.int ((bl + (4 : Int32)) + ll)), (.int bl), (.int b0), (.int b1), (.int l0), (.int l1)]) (rest := []) (lenOf own_pd24 rfl) rfl (by show 2 * 0 + _ ≤ _; exact Nat.le_of_eq rfl) (hb hby at_193) (fun _ _ => ⟨rfl, e12q, (by decide : 23 + 0 ≤ _), (by decide : 158 + 0 ≤ _)⟩)
  dsimp only [Pt.U, Pt.locs, Pt.cells, Pt.slots] at X13q l13q y13q z13q st13q hQ13q
  subst l13q y13q z13q
  obtain ⟨rfl, N13qq, e13q⟩ := hQ13q
  have N13q := Fr.app N12q N13qq
  obtain ⟨_, _, ⟨T14q, L14q, k14q, n14q⟩, -, X14q, ⟨Lc14q, hQ14q, l14q, y14q, z14q⟩, st14q⟩ := Jvm.LawKit.callS X13q hx (y := (⟨"com/example/lendloop/lendloop/core/PatronRefToStringPinLaw", "at", "(Ljava/lang/String;IIICCCC)Z"⟩ : MethodName)) hown8q (mvT hZ8q (ww hw 176 rfl)) (mvT hZ8q (ww hw 177 rfl)) (mvT hZ8q (ww hw 2 rfl)) (mvT hZ8q (ww hw 178 rfl)) (by decide) (backOf (W := 0) (rmAt l Z a0 hw [] xs nb kn ((([] ++ own_mk bl b0 b1) ++ ([32, 111, 102, 32] : List Int32)) ++ own_mk ll l0 l1) z (4 : Int32) ((bl + (4 : Int32)) + ll) bl b0 b1 l0 l1 4 fm T8q.heap n0 O8q fE89 fV89 fC89 fK89 SC hz SF hf Hb0 Hb1 Hl0 Hl1 hg (own_tat hbl hll b0 b1 l0 l1 4 (by decide))) hZ8q (ww hw 178 rfl) (ww hw 2 rfl) (by decide) (by decide)) (g := (mkF m 213 #[.val (.int p0), .val (.int p1), .val (.int p2), .val (.int bl), .val (.int ll), .val (.int b0), .val (.int b1), .val (.int l0), .val (.int l1), .val (.ref bx), .val (.ref lx), .val (.ref b3q), .val (.ref xs), .val (.int ((bl + (4 : Int32)) + ll))] [(.int l1), (.int l0), (.int b1), (.int b0), (.int bl), (.int ((bl + (4 : Int32)) + ll)), (.int (4 : Int32)), (.ref xs)])) rfl (by rw [hml]; rfl) (argsL := [(.ref xs), (.int (4 : Int32)), (.int ((bl + (4 : Int32)) + ll)), (.int bl), (.int b0), (.int b1), (.int l0), (.int l1)]) (rest := []) (lenOf own_pd24 rfl) rfl (by show 2 * 0 + _ ≤ _; exact Nat.le_of_eq rfl) (hb hby at_213) (fun _ _ => ⟨rfl, e13q, (by decide : 23 + 0 ≤ _), (by decide : 158 + 0 ≤ _)⟩)
  dsimp only [Pt.U, Pt.locs, Pt.cells, Pt.slots] at X14q l14q y14q z14q st14q hQ14q
  subst l14q y14q z14q
  obtain ⟨rfl, N14qq, e14q⟩ := hQ14q
  have N14q := Fr.app N13q N14qq
  obtain ⟨_, _, ⟨T15q, L15q, k15q, n15q⟩, -, X15q, ⟨Lc15q, hQ15q, l15q, y15q, z15q⟩, st15q⟩ := Jvm.LawKit.callS X14q hx (y := (⟨"com/example/lendloop/lendloop/core/PatronRefToStringPinLaw", "at", "(Ljava/lang/String;IIICCCC)Z"⟩ : MethodName)) hown8q (mvT hZ8q (ww hw 176 rfl)) (mvT hZ8q (ww hw 177 rfl)) (mvT hZ8q (ww hw 2 rfl)) (mvT hZ8q (ww hw 178 rfl)) (by decide) (backOf (W := 0) (rmAt l Z a0 hw [] xs nb kn ((([] ++ own_mk bl b0 b1) ++ ([32, 111, 102, 32] : List Int32)) ++ own_mk ll l0 l1) z (5 : Int32) ((bl + (4 : Int32)) + ll) bl b0 b1 l0 l1 5 fm T8q.heap n0 O8q fE89 fV89 fC89 fK89 SC hz SF hf Hb0 Hb1 Hl0 Hl1 hg (own_tat hbl hll b0 b1 l0 l1 5 (by decide))) hZ8q (ww hw 178 rfl) (ww hw 2 rfl) (by decide) (by decide)) (g := (mkF m 233 #[.val (.int p0), .val (.int p1), .val (.int p2), .val (.int bl), .val (.int ll), .val (.int b0), .val (.int b1), .val (.int l0), .val (.int l1), .val (.ref bx), .val (.ref lx), .val (.ref b3q), .val (.ref xs), .val (.int ((bl + (4 : Int32)) + ll))] [(.int l1), (.int l0), (.int b1), (.int b0), (.int bl), (.int ((bl + (4 : Int32)) + ll)), (.int (5 : Int32)), (.ref xs)])) rfl (by rw [hml]; rfl) (argsL := [(.ref xs), (.int (5 : Int32)), (.int ((bl + (4 : Int32)) + ll)), (.int bl), (.int b0), (.int b1), (.int l0), (.int l1)]) (rest := []) (lenOf own_pd24 rfl) rfl (by show 2 * 0 + _ ≤ _; exact Nat.le_of_eq rfl) (hb hby at_233) (fun _ _ => ⟨rfl, e14q, (by decide : 23 + 0 ≤ _), (by decide : 158 + 0 ≤ _)⟩)
  dsimp only [Pt.U, Pt.locs, Pt.cells, Pt.slots] at X15q l15q y15q z15q st15q hQ15q
  subst l15q y15q z15q
  obtain ⟨rfl, N15qq, e15q⟩ := hQ15q
  have N15q := Fr.app N14q N15qq
  obtain ⟨_, _, ⟨T16q, L16q, k16q, n16q⟩, -, X16q, ⟨Lc16q, hQ16q, l16q, y16q, z16q⟩, st16q⟩ := Jvm.LawKit.callS X15q hx (y := (⟨"com/example/lendloop/lendloop/core/PatronRefToStringPinLaw", "at", "(Ljava/lang/String;IIICCCC)Z"⟩ : MethodName)) hown8q (mvT hZ8q (ww hw 176 rfl)) (mvT hZ8q (ww hw 177 rfl)) (mvT hZ8q (ww hw 2 rfl)) (mvT hZ8q (ww hw 178 rfl)) (by decide) (backOf (W := 0) (rmAt l Z a0 hw [] xs nb kn ((([] ++ own_mk bl b0 b1) ++ ([32, 111, 102, 32] : List Int32)) ++ own_mk ll l0 l1) z (6 : Int32) ((bl + (4 : Int32)) + ll) bl b0 b1 l0 l1 6 fm T8q.heap n0 O8q fE89 fV89 fC89 fK89 SC hz SF hf Hb0 Hb1 Hl0 Hl1 hg (own_tat hbl hll b0 b1 l0 l1 6 (by decide))) hZ8q (ww hw 178 rfl) (ww hw 2 rfl) (by decide) (by decide)) (g := (mkF m 254 #[.val (.int p0), .val (.int p1), .val (.int p2), .val (.int bl), .val (.int ll), .val (.int b0), .val (.int b1), .val (.int l0), .val (.int l1), .val (.ref bx), .val (.ref lx), .val (.ref b3q), .val (.ref xs), .val (.int ((bl + (4 : Int32)) + ll))] [(.int l1), (.int l0), (.int b1), (.int b0), (.int bl), (.int ((bl + (4 : Int32)) + ll)), (.int (6 : Int32)), (.ref xs)])) rfl (by rw [hml]; rfl) (argsL := [(.ref xs), (.int (6 : Int32)), (.int ((bl + (4 : Int32)) + ll)), (.int bl), (.int b0), (.int b1), (.int l0), (.int l1)]) (rest := []) (lenOf own_pd24 rfl) rfl (by show 2 * 0 + _ ≤ _; exact Nat.le_of_eq rfl) (hb hby at_254) (fun _ _ => ⟨rfl, e15q, (by decide : 23 + 0 ≤ _), (by decide : 158 + 0 ≤ _)⟩)
  dsimp only [Pt.U, Pt.locs, Pt.cells, Pt.slots] at X16q l16q y16q z16q st16q hQ16q
  subst l16q y16q z16q
  obtain ⟨rfl, N16qq, e16q⟩ := hQ16q
  have N16q := Fr.app N15q N16qq
  obtain ⟨_, _, ⟨T17q, L17q, k17q, n17q⟩, -, X17q, ⟨Lc17q, hQ17q, l17q, y17q, z17q⟩, st17q⟩ := Jvm.LawKit.callS X16q hx (y := (⟨"com/example/lendloop/lendloop/core/PatronRefToStringPinLaw", "at", "(Ljava/lang/String;IIICCCC)Z"⟩ : MethodName)) hown8q (mvT hZ8q (ww hw 176 rfl)) (mvT hZ8q (ww hw 177 rfl)) (mvT hZ8q (ww hw 2 rfl)) (mvT hZ8q (ww hw 178 rfl)) (by decide) (backOf (W := 0) (rmAt l Z a0 hw [] xs nb kn ((([] ++ own_mk bl b0 b1) ++ ([32, 111, 102, 32] : List Int32)) ++ own_mk ll l0 l1) z (7 : Int32) ((bl + (4 : Int32)) + ll) bl b0 b1 l0 l1 7 fm T8q.heap n0 O8q fE89 fV89 fC89 fK89 SC hz SF hf Hb0 Hb1 Hl0 Hl1 hg (own_tat hbl hll b0 b1 l0 l1 7 (by decide))) hZ8q (ww hw 178 rfl) (ww hw 2 rfl) (by decide) (by decide)) (g := (mkF m 275 #[.val (.int p0), .val (.int p1), .val (.int p2), .val (.int bl), .val (.int ll), .val (.int b0), .val (.int b1), .val (.int l0), .val (.int l1), .val (.ref bx), .val (.ref lx), .val (.ref b3q), .val (.ref xs), .val (.int ((bl + (4 : Int32)) + ll))] [(.int l1), (.int l0), (.int b1), (.int b0), (.int bl), (.int ((bl + (4 : Int32)) + ll)), (.int (7 : Int32)), (.ref xs)])) rfl (by rw [hml]; rfl) (argsL := [(.ref xs), (.int (7 : Int32)), (.int ((bl + (4 : Int32)) + ll)), (.int bl), (.int b0), (.int b1), (.int l0), (.int l1)]) (rest := []) (lenOf own_pd24 rfl) rfl (by show 2 * 0 + _ ≤ _; exact Nat.le_of_eq rfl) (hb hby at_275) (fun _ _ => ⟨rfl, e16q, (by decide : 23 + 0 ≤ _), (by decide : 158 + 0 ≤ _)⟩)
  dsimp only [Pt.U, Pt.locs, Pt.cells, Pt.slots] at X17q l17q y17q z17q st17q hQ17q
  subst l17q y17q z17q
  obtain ⟨rfl, N17qq, e17q⟩ := hQ17q
  have N17q := Fr.app N16q N17qq
  obtain ⟨fs, hr, hrun, hended, hE⟩ := X17q.leaveW (s := s) (vm₁ := T8q.vm) S8q (by rw [e17q]; exact (Nat.le_refl _)) (v := some (.int (1 : Int32))) (fun h => by rw [Bd.returns] at h; cases h)
  have CE : CHr Z consts_1 s.vm s.heap T17q.vm T17q.heap := by
    rw [hh, e17q]
    exact CHr.trans CR8q (CHv.at X17q hZ8q (own_EW hw) CR8q.1)
  refine ⟨_, _, pre0 _ ?_, hrun, hended, _, _, rfl, ?_, CE, hE.1, hE.2.1, hE.2.2.1, hE.2.2.2.mono (by decide) (by decide)⟩
  · show Steps p.tables e below (s₁.setTop (mkF m 0 #[.val (.int p0), .val (.int p1), .val (.int p2), .unset, .unset, .unset, .unset, .unset, .unset, .unset, .unset, .unset, .unset, .unset] [])) _
    refine stA _ ?_
    show Steps p.tables e below (s₁.setTop (mkF m 53 #[.val (.int p0), .val (.int p1), .val (.int p2), .val (.int bl), .val (.int ll), .val (.int b0), .val (.int b1), .val (.int l0), .val (.int l1), .unset, .unset, .unset, .unset, .unset] [])) _
    refine XS.iloadN X0.here hx rfl (hb hby at_53) rfl ?_
    show Steps p.tables e below (s₁.setTop (mkF m 54 #[.val (.int p0), .val (.int p1), .val (.int p2), .val (.int bl), .val (.int ll), .val (.int b0), .val (.int b1), .val (.int l0), .val (.int l1), .unset, .unset, .unset, .unset, .unset] [(.int bl)])) _
    refine XS.iload X0.here hx rfl (hb hby at_54) rfl ?_
    show Steps p.tables e below (s₁.setTop (mkF m 56 #[.val (.int p0), .val (.int p1), .val (.int p2), .val (.int bl), .val (.int ll), .val (.int b0), .val (.int b1), .val (.int l0), .val (.int l1), .unset, .unset, .unset, .unset, .unset] [(.int b0), (.int bl)])) _
    refine XS.iload X0.here hx rfl (hb hby at_56) rfl ?_
    show Steps p.tables e below (s₁.setTop (mkF m 58 #[.val (.int p0), .val (.int p1), .val (.int p2), .val (.int bl), .val (.int ll), .val (.int b0), .val (.int b1), .val (.int l0), .val (.int l1), .unset, .unset, .unset, .unset, .unset] [(.int b1), (.int b0), (.int bl)])) _
    refine st1q.trans ?_
    show Steps p.tables e below (T1q.setTop (mkF m 61 #[.val (.int p0), .val (.int p1), .val (.int p2), .val (.int bl), .val (.int ll), .val (.int b0), .val (.int b1), .val (.int l0), .val (.int l1), .unset, .unset, .unset, .unset, .unset] [(.ref bx)])) _
    refine XS.astore X1q.here hx rfl (hb hby at_61) rfl rfl (l' := #[.val (.int p0), .val (.int p1), .val (.int p2), .val (.int bl), .val (.int ll), .val (.int b0), .val (.int b1), .val (.int l0), .val (.int l1), .val (.ref bx), .unset, .unset, .unset, .unset]) rfl ?_
    show Steps p.tables e below (T1q.setTop (mkF m 63 #[.val (.int p0), .val (.int p1), .val (.int p2), .val (.int bl), .val (.int ll), .val (.int b0), .val (.int b1), .val (.int l0), .val (.int l1), .val (.ref bx), .unset, .unset, .unset, .unset] [])) _
    refine XS.iload X1q.here hx rfl (hb hby at_63) rfl ?_
    show Steps p.tables e below (T1q.setTop (mkF m 65 #[.val (.int p0), .val (.int p1), .val (.int p2), .val (.int bl), .val (.int ll), .val (.int b0), .val (.int b1), .val (.int l0), .val (.int l1), .val (.ref bx), .unset, .unset, .unset, .unset] [(.int ll)])) _
    refine XS.iload X1q.here hx rfl (hb hby at_65) rfl ?_
    show Steps p.tables e below (T1q.setTop (mkF m 67 #[.val (.int p0), .val (.int p1), .val (.int p2), .val (.int bl), .val (.int ll), .val (.int b0), .val (.int b1), .val (.int l0), .val (.int l1), .val (.ref bx), .unset, .unset, .unset, .unset] [(.int l0), (.int ll)])) _
    refine XS.iload X1q.here hx rfl (hb hby at_67) rfl ?_
    show Steps p.tables e below (T1q.setTop (mkF m 69 #[.val (.int p0), .val (.int p1), .val (.int p2), .val (.int bl), .val (.int ll), .val (.int b0), .val (.int b1), .val (.int l0), .val (.int l1), .val (.ref bx), .unset, .unset, .unset, .unset] [(.int l1), (.int l0), (.int ll)])) _
    refine st2q.trans ?_
    show Steps p.tables e below (T2q.setTop (mkF m 72 #[.val (.int p0), .val (.int p1), .val (.int p2), .val (.int bl), .val (.int ll), .val (.int b0), .val (.int b1), .val (.int l0), .val (.int l1), .val (.ref bx), .unset, .unset, .unset, .unset] [(.ref lx)])) _
    refine XS.astore X2q.here hx rfl (hb hby at_72) rfl rfl (l' := #[.val (.int p0), .val (.int p1), .val (.int p2), .val (.int bl), .val (.int ll), .val (.int b0), .val (.int b1), .val (.int l0), .val (.int l1), .val (.ref bx), .val (.ref lx), .unset, .unset, .unset]) rfl ?_
    show Steps p.tables e below (T2q.setTop (mkF m 74 #[.val (.int p0), .val (.int p1), .val (.int p2), .val (.int bl), .val (.int ll), .val (.int b0), .val (.int b1), .val (.int l0), .val (.int l1), .val (.ref bx), .val (.ref lx), .unset, .unset, .unset] [])) _
    refine st3q _ ?_
    show Steps p.tables e below (T3q.setTop (mkF m 77 #[.val (.int p0), .val (.int p1), .val (.int p2), .val (.int bl), .val (.int ll), .val (.int b0), .val (.int b1), .val (.int l0), .val (.int l1), .val (.ref bx), .val (.ref lx), .unset, .unset, .unset] [(.ref b3q)])) _
    refine XS.dup X3q.here hx rfl (hb hby at_77) rfl rfl ?_
    show Steps p.tables e below (T3q.setTop (mkF m 78 #[.val (.int p0), .val (.int p1), .val (.int p2), .val (.int bl), .val (.int ll), .val (.int b0), .val (.int b1), .val (.int l0), .val (.int l1), .val (.ref bx), .val (.ref lx), .unset, .unset, .unset] [(.ref b3q), (.ref b3q)])) _
    refine XS.aload X3q.here hx rfl (hb hby at_78) rfl rfl ?_
    show Steps p.tables e below (T3q.setTop (mkF m 80 #[.val (.int p0), .val (.int p1), .val (.int p2), .val (.int bl), .val (.int ll), .val (.int b0), .val (.int b1), .val (.int l0), .val (.int l1), .val (.ref bx), .val (.ref lx), .unset, .unset, .unset] [(.ref lx), (.ref b3q), (.ref b3q)])) _
    refine XS.aload X3q.here hx rfl (hb hby at_80) rfl rfl ?_
    show Steps p.tables e below (T3q.setTop (mkF m 82 #[.val (.int p0), .val (.int p1), .val (.int p2), .val (.int bl), .val (.int ll), .val (.int b0), .val (.int b1), .val (.int l0), .val (.int l1), .val (.ref bx), .val (.ref lx), .unset, .unset, .unset] [(.ref bx), (.ref lx), (.ref b3q), (.ref b3q)])) _
    refine st4q.trans ?_
    show Steps p.tables e below (T4q.setTop (mkF m 85 #[.val (.int p0), .val (.int p1), .val (.int p2), .val (.int bl), .val (.int ll), .val (.int b0), .val (.int b1), .val (.int l0), .val (.int l1), .val (.ref bx), .val (.ref lx), .unset, .unset, .unset] [(.ref b3q)])) _
    refine XS.astore X4q.here hx rfl (hb hby at_85) rfl rfl (l' := #[.val (.int p0), .val (.int p1), .val (.int p2), .val (.int bl), .val (.int ll), .val (.int b0), .val (.int b1), .val (.int l0), .val (.int l1), .val (.ref bx), .val (.ref lx), .val (.ref b3q), .unset, .unset]) rfl ?_
    show Steps p.tables e below (T4q.setTop (mkF m 87 #[.val (.int p0), .val (.int p1), .val (.int p2), .val (.int bl), .val (.int ll), .val (.int b0), .val (.int b1), .val (.int l0), .val (.int l1), .val (.ref bx), .val (.ref lx), .val (.ref b3q), .unset, .unset] [])) _
    refine XS.aload X4q.here hx rfl (hb hby at_87) rfl rfl ?_
    show Steps p.tables e below (T4q.setTop (mkF m 89 #[.val (.int p0), .val (.int p1), .val (.int p2), .val (.int bl), .val (.int ll), .val (.int b0), .val (.int b1), .val (.int l0), .val (.int l1), .val (.ref bx), .val (.ref lx), .val (.ref b3q), .unset, .unset] [(.ref b3q)])) _
    refine st8q.trans ?_
    show Steps p.tables e below (T8q.setTop (mkF m 92 #[.val (.int p0), .val (.int p1), .val (.int p2), .val (.int bl), .val (.int ll), .val (.int b0), .val (.int b1), .val (.int l0), .val (.int l1), .val (.ref bx), .val (.ref lx), .val (.ref b3q), .unset, .unset] [(.ref xs)])) _
    refine XS.astore X8q.here hx rfl (hb hby at_92) rfl rfl (l' := #[.val (.int p0), .val (.int p1), .val (.int p2), .val (.int bl), .val (.int ll), .val (.int b0), .val (.int b1), .val (.int l0), .val (.int l1), .val (.ref bx), .val (.ref lx), .val (.ref b3q), .val (.ref xs), .unset]) rfl ?_
    show Steps p.tables e below (T8q.setTop (mkF m 94 #[.val (.int p0), .val (.int p1), .val (.int p2), .val (.int bl), .val (.int ll), .val (.int b0), .val (.int b1), .val (.int l0), .val (.int l1), .val (.ref bx), .val (.ref lx), .val (.ref b3q), .val (.ref xs), .unset] [])) _
    refine XS.iloadN X8q.here hx rfl (hb hby at_94) rfl ?_
    show Steps p.tables e below (T8q.setTop (mkF m 95 #[.val (.int p0), .val (.int p1), .val (.int p2), .val (.int bl), .val (.int ll), .val (.int b0), .val (.int b1), .val (.int l0), .val (.int l1), .val (.ref bx), .val (.ref lx), .val (.ref b3q), .val (.ref xs), .unset] [(.int bl)])) _
    refine XS.iconst X8q.here hx rfl (hb hby at_95) ?_
    show Steps p.tables e below (T8q.setTop (mkF m 96 #[.val (.int p0), .val (.int p1), .val (.int p2), .val (.int bl), .val (.int ll), .val (.int b0), .val (.int b1), .val (.int l0), .val (.int l1), .val (.ref bx), .val (.ref lx), .val (.ref b3q), .val (.ref xs), .unset] [(.int (4 : Int32)), (.int bl)])) _
    refine XS.iadd X8q.here hx rfl (hb hby at_96) rfl ?_
    show Steps p.tables e below (T8q.setTop (mkF m 97 #[.val (.int p0), .val (.int p1), .val (.int p2), .val (.int bl), .val (.int ll), .val (.int b0), .val (.int b1), .val (.int l0), .val (.int l1), .val (.ref bx), .val (.ref lx), .val (.ref b3q), .val (.ref xs), .unset] [(.int (bl + (4 : Int32)))])) _
    refine XS.iload X8q.here hx rfl (hb hby at_97) rfl ?_
    show Steps p.tables e below (T8q.setTop (mkF m 99 #[.val (.int p0), .val (.int p1), .val (.int p2), .val (.int bl), .val (.int ll), .val (.int b0), .val (.int b1), .val (.int l0), .val (.int l1), .val (.ref bx), .val (.ref lx), .val (.ref b3q), .val (.ref xs), .unset] [(.int ll), (.int (bl + (4 : Int32)))])) _
    refine XS.iadd X8q.here hx rfl (hb hby at_99) rfl ?_
    show Steps p.tables e below (T8q.setTop (mkF m 100 #[.val (.int p0), .val (.int p1), .val (.int p2), .val (.int bl), .val (.int ll), .val (.int b0), .val (.int b1), .val (.int l0), .val (.int l1), .val (.ref bx), .val (.ref lx), .val (.ref b3q), .val (.ref xs), .unset] [(.int ((bl + (4 : Int32)) + ll))])) _
    refine XS.istore X8q.here hx rfl (hb hby at_100) rfl (l' := #[.val (.int p0), .val (.int p1), .val (.int p2), .val (.int bl), .val (.int ll), .val (.int b0), .val (.int b1), .val (.int l0), .val (.int l1), .val (.ref bx), .val (.ref lx), .val (.ref b3q), .val (.ref xs), .val (.int ((bl + (4 : Int32)) + ll))]) rfl ?_
    show Steps p.tables e below (T8q.setTop (mkF m 102 #[.val (.int p0), .val (.int p1), .val (.int p2), .val (.int bl), .val (.int ll), .val (.int b0), .val (.int b1), .val (.int l0), .val (.int l1), .val (.ref bx), .val (.ref lx), .val (.ref b3q), .val (.ref xs), .val (.int ((bl + (4 : Int32)) + ll))] [])) _
    refine XS.aload X8q.here hx rfl (hb hby at_102) rfl rfl ?_
    show Steps p.tables e below (T8q.setTop (mkF m 104 #[.val (.int p0), .val (.int p1), .val (.int p2), .val (.int bl), .val (.int ll), .val (.int b0), .val (.int b1), .val (.int l0), .val (.int l1), .val (.ref bx), .val (.ref lx), .val (.ref b3q), .val (.ref xs), .val (.int ((bl + (4 : Int32)) + ll))] [(.ref xs)])) _
    refine XS.ifnullNo X8q.here hx rfl (hb hby at_104) rfl ?_
    show Steps p.tables e below (T8q.setTop (mkF m 107 #[.val (.int p0), .val (.int p1), .val (.int p2), .val (.int bl), .val (.int ll), .val (.int b0), .val (.int b1), .val (.int l0), .val (.int l1), .val (.ref bx), .val (.ref lx), .val (.ref b3q), .val (.ref xs), .val (.int ((bl + (4 : Int32)) + ll))] [])) _
    refine XS.aload X8q.here hx rfl (hb hby at_107) rfl rfl ?_
    show Steps p.tables e below (T8q.setTop (mkF m 109 #[.val (.int p0), .val (.int p1), .val (.int p2), .val (.int bl), .val (.int ll), .val (.int b0), .val (.int b1), .val (.int l0), .val (.int l1), .val (.ref bx), .val (.ref lx), .val (.ref b3q), .val (.ref xs), .val (.int ((bl + (4 : Int32)) + ll))] [(.ref xs)])) _
    refine st9q.trans ?_
    show Steps p.tables e below (T9q.setTop (mkF m 112 #[.val (.int p0), .val (.int p1), .val (.int p2), .val (.int bl), .val (.int ll), .val (.int b0), .val (.int b1), .val (.int l0), .val (.int l1), .val (.ref bx), .val (.ref lx), .val (.ref b3q), .val (.ref xs), .val (.int ((bl + (4 : Int32)) + ll))] [(.int (Int32.ofNat ((([] ++ own_mk bl b0 b1) ++ ([32, 111, 102, 32] : List Int32)) ++ own_mk ll l0 l1).length))])) _
    refine XS.iload X9q.here hx rfl (hb hby at_112) rfl ?_
    show Steps p.tables e below (T9q.setTop (mkF m 114 #[.val (.int p0), .val (.int p1), .val (.int p2), .val (.int bl), .val (.int ll), .val (.int b0), .val (.int b1), .val (.int l0), .val (.int l1), .val (.ref bx), .val (.ref lx), .val (.ref b3q), .val (.ref xs), .val (.int ((bl + (4 : Int32)) + ll))] [(.int ((bl + (4 : Int32)) + ll)), (.int (Int32.ofNat ((([] ++ own_mk bl b0 b1) ++ ([32, 111, 102, 32] : List Int32)) ++ own_mk ll l0 l1).length))])) _
    refine XS.icmpYes X9q.here hx rfl (pc0 := 114) (pc' := 119) rfl (hb hby at_114) rfl (teq (own_tlen hbl hll b0 b1 l0 l1 : (Int32.ofNat ((([] ++ own_mk bl b0 b1) ++ ([32, 111, 102, 32] : List Int32)) ++ own_mk ll l0 l1).length) = ((bl + (4 : Int32)) + ll))).1 (by decide) (by decide) ?_
    show Steps p.tables e below (T9q.setTop (mkF m 119 #[.val (.int p0), .val (.int p1), .val (.int p2), .val (.int bl), .val (.int ll), .val (.int b0), .val (.int b1), .val (.int l0), .val (.int l1), .val (.ref bx), .val (.ref lx), .val (.ref b3q), .val (.ref xs), .val (.int ((bl + (4 : Int32)) + ll))] [])) _
    refine XS.aload X9q.here hx rfl (hb hby at_119) rfl rfl ?_
    show Steps p.tables e below (T9q.setTop (mkF m 121 #[.val (.int p0), .val (.int p1), .val (.int p2), .val (.int bl), .val (.int ll), .val (.int b0), .val (.int b1), .val (.int l0), .val (.int l1), .val (.ref bx), .val (.ref lx), .val (.ref b3q), .val (.ref xs), .val (.int ((bl + (4 : Int32)) + ll))] [(.ref xs)])) _
    refine XS.iconst X9q.here hx rfl (hb hby at_121) ?_
    show Steps p.tables e below (T9q.setTop (mkF m 122 #[.val (.int p0), .val (.int p1), .val (.int p2), .val (.int bl), .val (.int ll), .val (.int b0), .val (.int b1), .val (.int l0), .val (.int l1), .val (.ref bx), .val (.ref lx), .val (.ref b3q), .val (.ref xs), .val (.int ((bl + (4 : Int32)) + ll))] [(.int (0 : Int32)), (.ref xs)])) _
    refine XS.iload X9q.here hx rfl (hb hby at_122) rfl ?_
    show Steps p.tables e below (T9q.setTop (mkF m 124 #[.val (.int p0), .val (.int p1), .val (.int p2), .val (.int bl), .val (.int ll), .val (.int b0), .val (.int b1), .val (.int l0), .val (.int l1), .val (.ref bx), .val (.ref lx), .val (.ref b3q), .val (.ref xs), .val (.int ((bl + (4 : Int32)) + ll))] [(.int ((bl + (4 : Int32)) + ll)), (.int (0 : Int32)), (.ref xs)])) _
    refine XS.iloadN X9q.here hx rfl (hb hby at_124) rfl ?_
    show Steps p.tables e below (T9q.setTop (mkF m 125 #[.val (.int p0), .val (.int p1), .val (.int p2), .val (.int bl), .val (.int ll), .val (.int b0), .val (.int b1), .val (.int l0), .val (.int l1), .val (.ref bx), .val (.ref lx), .val (.ref b3q), .val (.ref xs), .val (.int ((bl + (4 : Int32)) + ll))] [(.int bl), (.int ((bl + (4 : Int32)) + ll)), (.int (0 : Int32)), (.ref xs)])) _
    refine XS.iload X9q.here hx rfl (hb hby at_125) rfl ?_
    show Steps p.tables e below (T9q.setTop (mkF m 127 #[.val (.int p0), .val (.int p1), .val (.int p2), .val (.int bl), .val (.int ll), .val (.int b0), .val (.int b1), .val (.int l0), .val (.int l1), .val (.ref bx), .val (.ref lx), .val (.ref b3q), .val (.ref xs), .val (.int ((bl + (4 : Int32)) + ll))] [(.int b0), (.int bl), (.int ((bl + (4 : Int32)) + ll)), (.int (0 : Int32)), (.ref xs)])) _
    refine XS.iload X9q.here hx rfl (hb hby at_127) rfl ?_
    show Steps p.tables e below (T9q.setTop (mkF m 129 #[.val (.int p0), .val (.int p1), .val (.int p2), .val (.int bl), .val (.int ll), .val (.int b0), .val (.int b1), .val (.int l0), .val (.int l1), .val (.ref bx), .val (.ref lx), .val (.ref b3q), .val (.ref xs), .val (.int ((bl + (4 : Int32)) + ll))] [(.int b1), (.int b0), (.int bl), (.int ((bl + (4 : Int32)) + ll)), (.int (0 : Int32)), (.ref xs)])) _
    refine XS.iload X9q.here hx rfl (hb hby at_129) rfl ?_
    show Steps p.tables e below (T9q.setTop (mkF m 131 #[.val (.int p0), .val (.int p1), .val (.int p2), .val (.int bl), .val (.int ll), .val (.int b0), .val (.int b1), .val (.int l0), .val (.int l1), .val (.ref bx), .val (.ref lx), .val (.ref b3q), .val (.ref xs), .val (.int ((bl + (4 : Int32)) + ll))] [(.int l0), (.int b1), (.int b0), (.int bl), (.int ((bl + (4 : Int32)) + ll)), (.int (0 : Int32)), (.ref xs)])) _
    refine XS.iload X9q.here hx rfl (hb hby at_131) rfl ?_
    show Steps p.tables e below (T9q.setTop (mkF m 133 #[.val (.int p0), .val (.int p1), .val (.int p2), .val (.int bl), .val (.int ll), .val (.int b0), .val (.int b1), .val (.int l0), .val (.int l1), .val (.ref bx), .val (.ref lx), .val (.ref b3q), .val (.ref xs), .val (.int ((bl + (4 : Int32)) + ll))] [(.int l1), (.int l0), (.int b1), (.int b0), (.int bl), (.int ((bl + (4 : Int32)) + ll)), (.int (0 : Int32)), (.ref xs)])) _
    refine st10q _ ?_
    show Steps p.tables e below (T10q.setTop (mkF m 136 #[.val (.int p0), .val (.int p1), .val (.int p2), .val (.int bl), .val (.int ll), .val (.int b0), .val (.int b1), .val (.int l0), .val (.int l1), .val (.ref bx), .val (.ref lx), .val (.ref b3q), .val (.ref xs), .val (.int ((bl + (4 : Int32)) + ll))] [(.int (1 : Int32))])) _
    refine XS.ifNo X10q.here hx rfl (hb hby at_136) rfl ((if0 _ _).trans (feq (by decide : ¬ ((1 : Int32) = (0 : Int32)))).1) ?_
    show Steps p.tables e below (T10q.setTop (mkF m 139 #[.val (.int p0), .val (.int p1), .val (.int p2), .val (.int bl), .val (.int ll), .val (.int b0), .val (.int b1), .val (.int l0), .val (.int l1), .val (.ref bx), .val (.ref lx), .val (.ref b3q), .val (.ref xs), .val (.int ((bl + (4 : Int32)) + ll))] [])) _
    refine XS.aload X10q.here hx rfl (hb hby at_139) rfl rfl ?_
    show Steps p.tables e below (T10q.setTop (mkF m 141 #[.val (.int p0), .val (.int p1), .val (.int p2), .val (.int bl), .val (.int ll), .val (.int b0), .val (.int b1), .val (.int l0), .val (.int l1), .val (.ref bx), .val (.ref lx), .val (.ref b3q), .val (.ref xs), .val (.int ((bl + (4 : Int32)) + ll))] [(.ref xs)])) _
    refine XS.iconst X10q.here hx rfl (hb hby at_141) ?_
    show Steps p.tables e below (T10q.setTop (mkF m 142 #[.val (.int p0), .val (.int p1), .val (.int p2), .val (.int bl), .val (.int ll), .val (.int b0), .val (.int b1), .val (.int l0), .val (.int l1), .val (.ref bx), .val (.ref lx), .val (.ref b3q), .val (.ref xs), .val (.int ((bl + (4 : Int32)) + ll))] [(.int (1 : Int32)), (.ref xs)])) _
    refine XS.iload X10q.here hx rfl (hb hby at_142) rfl ?_
    show Steps p.tables e below (T10q.setTop (mkF m 144 #[.val (.int p0), .val (.int p1), .val (.int p2), .val (.int bl), .val (.int ll), .val (.int b0), .val (.int b1), .val (.int l0), .val (.int l1), .val (.ref bx), .val (.ref lx), .val (.ref b3q), .val (.ref xs), .val (.int ((bl + (4 : Int32)) + ll))] [(.int ((bl + (4 : Int32)) + ll)), (.int (1 : Int32)), (.ref xs)])) _
    refine XS.iloadN X10q.here hx rfl (hb hby at_144) rfl ?_
    show Steps p.tables e below (T10q.setTop (mkF m 145 #[.val (.int p0), .val (.int p1), .val (.int p2), .val (.int bl), .val (.int ll), .val (.int b0), .val (.int b1), .val (.int l0), .val (.int l1), .val (.ref bx), .val (.ref lx), .val (.ref b3q), .val (.ref xs), .val (.int ((bl + (4 : Int32)) + ll))] [(.int bl), (.int ((bl + (4 : Int32)) + ll)), (.int (1 : Int32)), (.ref xs)])) _
    refine XS.iload X10q.here hx rfl (hb hby at_145) rfl ?_
    show Steps p.tables e below (T10q.setTop (mkF m 147 #[.val (.int p0), .val (.int p1), .val (.int p2), .val (.int bl), .val (.int ll), .val (.int b0), .val (.int b1), .val (.int l0), .val (.int l1), .val (.ref bx), .val (.ref lx), .val (.ref b3q), .val (.ref xs), .val (.int ((bl + (4 : Int32)) + ll))] [(.int b0), (.int bl), (.int ((bl + (4 : Int32)) + ll)), (.int (1 : Int32)), (.ref xs)])) _
    refine XS.iload X10q.here hx rfl (hb hby at_147) rfl ?_
    show Steps p.tables e below (T10q.setTop (mkF m 149 #[.val (.int p0), .val (.int p1), .val (.int p2), .val (.int bl), .val (.int ll), .val (.int b0), .val (.int b1), .val (.int l0), .val (.int l1), .val (.ref bx), .val (.ref lx), .val (.ref b3q), .val (.ref xs), .val (.int ((bl + (4 : Int32)) + ll))] [(.int b1), (.int b0), (.int bl), (.int ((bl + (4 : Int32)) + ll)), (.int (1 : Int32)), (.ref xs)])) _
    refine XS.iload X10q.here hx rfl (hb hby at_149) rfl ?_
    show Steps p.tables e below (T10q.setTop (mkF m 151 #[.val (.int p0), .val (.int p1), .val (.int p2), .val (.int bl), .val (.int ll), .val (.int b0), .val (.int b1), .val (.int l0), .val (.int l1), .val (.ref bx), .val (.ref lx), .val (.ref b3q), .val (.ref xs), .val (.int ((bl + (4 : Int32)) + ll))] [(.int l0), (.int b1), (.int b0), (.int bl), (.int ((bl + (4 : Int32)) + ll)), (.int (1 : Int32)), (.ref xs)])) _
    refine XS.iload X10q.here hx rfl (hb hby at_151) rfl ?_
    show Steps p.tables e below (T10q.setTop (mkF m 153 #[.val (.int p0), .val (.int p1), .val (.int p2), .val (.int bl), .val (.int ll), .val (.int b0), .val (.int b1), .val (.int l0), .val (.int l1), .val (.ref bx), .val (.ref lx), .val (.ref b3q), .val (.ref xs), .val (.int ((bl + (4 : Int32)) + ll))] [(.int l1), (.int l0), (.int b1), (.int b0), (.int bl), (.int ((bl + (4 : Int32)) + ll)), (.int (1 : Int32)), (.ref xs)])) _
    refine st11q _ ?_
    show Steps p.tables e below (T11q.setTop (mkF m 156 #[.val (.int p0), .val (.int p1), .val (.int p2), .val (.int bl), .val (.int ll), .val (.int b0), .val (.int b1), .val (.int l0), .val (.int l1), .val (.ref bx), .val (.ref lx), .val (.ref b3q), .val (.ref xs), .val (.int ((bl + (4 : Int32)) + ll))] [(.int (1 : Int32))])) _
    refine XS.ifNo X11q.here hx rfl (hb hby at_156) rfl ((if0 _ _).trans (feq (by decide : ¬ ((1 : Int32) = (0 : Int32)))).1) ?_
    show Steps p.tables e below (T11q.setTop (mkF m 159 #[.val (.int p0), .val (.int p1), .val (.int p2), .val (.int bl), .val (.int ll), .val (.int b0), .val (.int b1), .val (.int l0), .val (.int l1), .val (.ref bx), .val (.ref lx), .val (.ref b3q), .val (.ref xs), .val (.int ((bl + (4 : Int32)) + ll))] [])) _
    refine XS.aload X11q.here hx rfl (hb hby at_159) rfl rfl ?_
    show Steps p.tables e below (T11q.setTop (mkF m 161 #[.val (.int p0), .val (.int p1), .val (.int p2), .val (.int bl), .val (.int ll), .val (.int b0), .val (.int b1), .val (.int l0), .val (.int l1), .val (.ref bx), .val (.ref lx), .val (.ref b3q), .val (.ref xs), .val (.int ((bl + (4 : Int32)) + ll))] [(.ref xs)])) _
    refine XS.iconst X11q.here hx rfl (hb hby at_161) ?_
    show Steps p.tables e below (T11q.setTop (mkF m 162 #[.val (.int p0), .val (.int p1), .val (.int p2), .val (.int bl), .val (.int ll), .val (.int b0), .val (.int b1), .val (.int l0), .val (.int l1), .val (.ref bx), .val (.ref lx), .val (.ref b3q), .val (.ref xs), .val (.int ((bl + (4 : Int32)) + ll))] [(.int (2 : Int32)), (.ref xs)])) _
    refine XS.iload X11q.here hx rfl (hb hby at_162) rfl ?_
    show Steps p.tables e below (T11q.setTop (mkF m 164 #[.val (.int p0), .val (.int p1), .val (.int p2), .val (.int bl), .val (.int ll), .val (.int b0), .val (.int b1), .val (.int l0), .val (.int l1), .val (.ref bx), .val (.ref lx), .val (.ref b3q), .val (.ref xs), .val (.int ((bl + (4 : Int32)) + ll))] [(.int ((bl + (4 : Int32)) + ll)), (.int (2 : Int32)), (.ref xs)])) _
    refine XS.iloadN X11q.here hx rfl (hb hby at_164) rfl ?_
    show Steps p.tables e below (T11q.setTop (mkF m 165 #[.val (.int p0), .val (.int p1), .val (.int p2), .val (.int bl), .val (.int ll), .val (.int b0), .val (.int b1), .val (.int l0), .val (.int l1), .val (.ref bx), .val (.ref lx), .val (.ref b3q), .val (.ref xs), .val (.int ((bl + (4 : Int32)) + ll))] [(.int bl), (.int ((bl + (4 : Int32)) + ll)), (.int (2 : Int32)), (.ref xs)])) _
    refine XS.iload X11q.here hx rfl (hb hby at_165) rfl ?_
    show Steps p.tables e below (T11q.setTop (mkF m 167 #[.val (.int p0), .val (.int p1), .val (.int p2), .val (.int bl), .val (.int ll), .val (.int b0), .val (.int b1), .val (.int l0), .val (.int l1), .val (.ref bx), .val (.ref lx), .val (.ref b3q), .val (.ref xs), .val (.int ((bl + (4 : Int32)) + ll))] [(.int b0), (.int bl), (.int ((bl + (4 : Int32)) + ll)), (.int (2 : Int32)), (.ref xs)])) _
    refine XS.iload X11q.here hx rfl (hb hby at_167) rfl ?_
    show Steps p.tables e below (T11q.setTop (mkF m 169 #[.val (.int p0), .val (.int p1), .val (.int p2), .val (.int bl), .val (.int ll), .val (.int b0), .val (.int b1), .val (.int l0), .val (.int l1), .val (.ref bx), .val (.ref lx), .val (.ref b3q), .val (.ref xs), .val (.int ((bl + (4 : Int32)) + ll))] [(.int b1), (.int b0), (.int bl), (.int ((bl + (4 : Int32)) + ll)), (.int (2 : Int32)), (.ref xs)])) _
    refine XS.iload X11q.here hx rfl (hb hby at_169) rfl ?_
    show Steps p.tables e below (T11q.setTop (mkF m 171 #[.val (.int p0), .val (.int p1), .val (.int p2), .val (.int bl), .val (.int ll), .val (.int b0), .val (.int b1), .val (.int l0), .val (.int l1), .val (.ref bx), .val (.ref lx), .val (.ref b3q), .val (.ref xs), .val (.int ((bl + (4 : Int32)) + ll))] [(.int l0), (.int b1), (.int b0), (.int bl), (.int ((bl + (4 : Int32)) + ll)), (.int (2 : Int32)), (.ref xs)])) _
    refine XS.iload X11q.here hx rfl (hb hby at_171) rfl ?_
    show Steps p.tables e below (T11q.setTop (mkF m 173 #[.val (.int p0), .val (.int p1), .val (.int p2), .val (.int bl), .val (.int ll), .val (.int b0), .val (.int b1), .val (.int l0), .val (.int l1), .val (.ref bx), .val (.ref lx), .val (.ref b3q), .val (.ref xs), .val (.int ((bl + (4 : Int32)) + ll))] [(.int l1), (.int l0), (.int b1), (.int b0), (.int bl), (.int ((bl + (4 : Int32)) + ll)), (.int (2 : Int32)), (.ref xs)])) _
    refine st12q _ ?_
    show Steps p.tables e below (T12q.setTop (mkF m 176 #[.val (.int p0), .val (.int p1), .val (.int p2), .val (.int bl), .val (.int ll), .val (.int b0), .val (.int b1), .val (.int l0), .val (.int l1), .val (.ref bx), .val (.ref lx), .val (.ref b3q), .val (.ref xs), .val (.int ((bl + (4 : Int32)) + ll))] [(.int (1 : Int32))])) _
    refine XS.ifNo X12q.here hx rfl (hb hby at_176) rfl ((if0 _ _).trans (feq (by decide : ¬ ((1 : Int32) = (0 : Int32)))).1) ?_
    show Steps p.tables e below (T12q.setTop (mkF m 179 #[.val (.int p0), .val (.int p1), .val (.int p2), .val (.int bl), .val (.int ll), .val (.int b0), .val (.int b1), .val (.int l0), .val (.int l1), .val (.ref bx), .val (.ref lx), .val (.ref b3q), .val (.ref xs), .val (.int ((bl + (4 : Int32)) + ll))] [])) _
    refine XS.aload X12q.here hx rfl (hb hby at_179) rfl rfl ?_
    show Steps p.tables e below (T12q.setTop (mkF m 181 #[.val (.int p0), .val (.int p1), .val (.int p2), .val (.int bl), .val (.int ll), .val (.int b0), .val (.int b1), .val (.int l0), .val (.int l1), .val (.ref bx), .val (.ref lx), .val (.ref b3q), .val (.ref xs), .val (.int ((bl + (4 : Int32)) + ll))] [(.ref xs)])) _
    refine XS.iconst X12q.here hx rfl (hb hby at_181) ?_
    show Steps p.tables e below (T12q.setTop (mkF m 182 #[.val (.int p0), .val (.int p1), .val (.int p2), .val (.int bl), .val (.int ll), .val (.int b0), .val (.int b1), .val (.int l0), .val (.int l1), .val (.ref bx), .val (.ref lx), .val (.ref b3q), .val (.ref xs), .val (.int ((bl + (4 : Int32)) + ll))] [(.int (3 : Int32)), (.ref xs)])) _
    refine XS.iload X12q.here hx rfl (hb hby at_182) rfl ?_
    show Steps p.tables e below (T12q.setTop (mkF m 184 #[.val (.int p0), .val (.int p1), .val (.int p2), .val (.int bl), .val (.int ll), .val (.int b0), .val (.int b1), .val (.int l0), .val (.int l1), .val (.ref bx), .val (.ref lx), .val (.ref b3q), .val (.ref xs), .val (.int ((bl + (4 : Int32)) + ll))] [(.int ((bl + (4 : Int32)) + ll)), (.int (3 : Int32)), (.ref xs)])) _
    refine XS.iloadN X12q.here hx rfl (hb hby at_184) rfl ?_
    show Steps p.tables e below (T12q.setTop (mkF m 185 #[.val (.int p0), .val (.int p1), .val (.int p2), .val (.int bl), .val (.int ll), .val (.int b0), .val (.int b1), .val (.int l0), .val (.int l1), .val (.ref bx), .val (.ref lx), .val (.ref b3q), .val (.ref xs), .val (.int ((bl + (4 : Int32)) + ll))] [(.int bl), (.int ((bl + (4 : Int32)) + ll)), (.int (3 : Int32)), (.ref xs)])) _
    refine XS.iload X12q.here hx rfl (hb hby at_185) rfl ?_
    show Steps p.tables e below (T12q.setTop (mkF m 187 #[.val (.int p0), .val (.int p1), .val (.int p2), .val (.int bl), .val (.int ll), .val (.int b0), .val (.int b1), .val (.int l0), .val (.int l1), .val (.ref bx), .val (.ref lx), .val (.ref b3q), .val (.ref xs), .val (.int ((bl + (4 : Int32)) + ll))] [(.int b0), (.int bl), (.int ((bl + (4 : Int32)) + ll)), (.int (3 : Int32)), (.ref xs)])) _
    refine XS.iload X12q.here hx rfl (hb hby at_187) rfl ?_
    show Steps p.tables e below (T12q.setTop (mkF m 189 #[.val (.int p0), .val (.int p1), .val (.int p2), .val (.int bl), .val (.int ll), .val (.int b0), .val (.int b1), .val (.int l0), .val (.int l1), .val (.ref bx), .val (.ref lx), .val (.ref b3q), .val (.ref xs), .val (.int ((bl + (4 : Int32)) + ll))] [(.int b1), (.int b0), (.int bl), (.int ((bl + (4 : Int32)) + ll)), (.int (3 : Int32)), (.ref xs)])) _
    refine XS.iload X12q.here hx rfl (hb hby at_189) rfl ?_
    show Steps p.tables e below (T12q.setTop (mkF m 191 #[.val (.int p0), .val (.int p1), .val (.int p2), .val (.int bl), .val (.int ll), .val (.int b0), .val (.int b1), .val (.int l0), .val (.int l1), .val (.ref bx), .val (.ref lx), .val (.ref b3q), .val (.ref xs), .val (.int ((bl + (4 : Int32)) + ll))] [(.int l0), (.int b1), (.int b0), (.int bl), (.int ((bl + (4 : Int32)) + ll)), (.int (3 : Int32)), (.ref xs)])) _
    refine XS.iload X12q.here hx rfl (hb hby at_191) rfl ?_
    show Steps p.tables e below (T12q.setTop (mkF m 193 #[.val (.int p0), .val (.int p1), .val (.int p2), .val (.int bl), .val (.int ll), .val (.int b0), .val (.int b1), .val (.int l0), .val (.int l1), .val (.ref bx), .val (.ref lx), .val (.ref b3q), .val (.ref xs), .val (.int ((bl + (4 : Int32)) + ll))] [(.int l1), (.int l0), (.int b1), (.int b0), (.int bl), (.int ((bl + (4 : Int32)) + ll)), (.int (3 : Int32)), (.ref xs)])) _
    refine st13q _ ?_
    show Steps p.tables e below (T13q.setTop (mkF m 196 #[.val (.int p0), .val (.int p1), .val (.int p2), .val (.int bl), .val (.int ll), .val (.int b0), .val (.int b1), .val (.int l0), .val (.int l1), .val (.ref bx), .val (.ref lx), .val (.ref b3q), .val (.ref xs), .val (.int ((bl + (4 : Int32)) + ll))] [(.int (1 : Int32))])) _
    refine XS.ifNo X13q.here hx rfl (hb hby at_196) rfl ((if0 _ _).trans (feq (by decide : ¬ ((1 : Int32) = (0 : Int32)))).1) ?_
    show Steps p.tables e below (T13q.setTop (mkF m 199 #[.val (.int p0), .val (.int p1), .val (.int p2), .val (.int bl), .val (.int ll), .val (.int b0), .val (.int b1), .val (.int l0), .val (.int l1), .val (.ref bx), .val (.ref lx), .val (.ref b3q), .val (.ref xs), .val (.int ((bl + (4 : Int32)) + ll))] [])) _
    refine XS.aload X13q.here hx rfl (hb hby at_199) rfl rfl ?_
    show Steps p.tables e below (T13q.setTop (mkF m 201 #[.val (.int p0), .val (.int p1), .val (.int p2), .val (.int bl), .val (.int ll), .val (.int b0), .val (.int b1), .val (.int l0), .val (.int l1), .val (.ref bx), .val (.ref lx), .val (.ref b3q), .val (.ref xs), .val (.int ((bl + (4 : Int32)) + ll))] [(.ref xs)])) _
    refine XS.iconst X13q.here hx rfl (hb hby at_201) ?_
    show Steps p.tables e below (T13q.setTop (mkF m 202 #[.val (.int p0), .val (.int p1), .val (.int p2), .val (.int bl), .val (.int ll), .val (.int b0), .val (.int b1), .val (.int l0), .val (.int l1), .val (.ref bx), .val (.ref lx), .val (.ref b3q), .val (.ref xs), .val (.int ((bl + (4 : Int32)) + ll))] [(.int (4 : Int32)), (.ref xs)])) _
    refine XS.iload X13q.here hx rfl (hb hby at_202) rfl ?_
    show Steps p.tables e below (T13q.setTop (mkF m 204 #[.val (.int p0), .val (.int p1), .val (.int p2), .val (.int bl), .val (.int ll), .val (.int b0), .val (.int b1), .val (.int l0), .val (.int l1), .val (.ref bx), .val (.ref lx), .val (.ref b3q), .val (.ref xs), .val (.int ((bl + (4 : Int32)) + ll))] [(.int ((bl + (4 : Int32)) + ll)), (.int (4 : Int32)), (.ref xs)])) _
    refine XS.iloadN X13q.here hx rfl (hb hby at_204) rfl ?_
    show Steps p.tables e below (T13q.setTop (mkF m 205 #[.val (.int p0), .val (.int p1), .val (.int p2), .val (.int bl), .val (.int ll), .val (.int b0), .val (.int b1), .val (.int l0), .val (.int l1), .val (.ref bx), .val (.ref lx), .val (.ref b3q), .val (.ref xs), .val (.int ((bl + (4 : Int32)) + ll))] [(.int bl), (.int ((bl + (4 : Int32)) + ll)), (.int (4 : Int32)), (.ref xs)])) _
    refine XS.iload X13q.here hx rfl (hb hby at_205) rfl ?_
    show Steps p.tables e below (T13q.setTop (mkF m 207 #[.val (.int p0), .val (.int p1), .val (.int p2), .val (.int bl), .val (.int ll), .val (.int b0), .val (.int b1), .val (.int l0), .val (.int l1), .val (.ref bx), .val (.ref lx), .val (.ref b3q), .val (.ref xs), .val (.int ((bl + (4 : Int32)) + ll))] [(.int b0), (.int bl), (.int ((bl + (4 : Int32)) + ll)), (.int (4 : Int32)), (.ref xs)])) _
    refine XS.iload X13q.here hx rfl (hb hby at_207) rfl ?_
    show Steps p.tables e below (T13q.setTop (mkF m 209 #[.val (.int p0), .val (.int p1), .val (.int p2), .val (.int bl), .val (.int ll), .val (.int b0), .val (.int b1), .val (.int l0), .val (.int l1), .val (.ref bx), .val (.ref lx), .val (.ref b3q), .val (.ref xs), .val (.int ((bl + (4 : Int32)) + ll))] [(.int b1), (.int b0), (.int bl), (.int ((bl + (4 : Int32)) + ll)), (.int (4 : Int32)), (.ref xs)])) _
    refine XS.iload X13q.here hx rfl (hb hby at_209) rfl ?_
    show Steps p.tables e below (T13q.setTop (mkF m 211 #[.val (.int p0), .val (.int p1), .val (.int p2), .val (.int bl), .val (.int ll), .val (.int b0), .val (.int b1), .val (.int l0), .val (.int l1), .val (.ref bx), .val (.ref lx), .val (.ref b3q), .val (.ref xs), .val (.int ((bl + (4 : Int32)) + ll))] [(.int l0), (.int b1), (.int b0), (.int bl), (.int ((bl + (4 : Int32)) + ll)), (.int (4 : Int32)), (.ref xs)])) _
    refine XS.iload X13q.here hx rfl (hb hby at_211) rfl ?_
    show Steps p.tables e below (T13q.setTop (mkF m 213 #[.val (.int p0), .val (.int p1), .val (.int p2), .val (.int bl), .val (.int ll), .val (.int b0), .val (.int b1), .val (.int l0), .val (.int l1), .val (.ref bx), .val (.ref lx), .val (.ref b3q), .val (.ref xs), .val (.int ((bl + (4 : Int32)) + ll))] [(.int l1), (.int l0), (.int b1), (.int b0), (.int bl), (.int ((bl + (4 : Int32)) + ll)), (.int (4 : Int32)), (.ref xs)])) _
    refine st14q _ ?_
    show Steps p.tables e below (T14q.setTop (mkF m 216 #[.val (.int p0), .val (.int p1), .val (.int p2), .val (.int bl), .val (.int ll), .val (.int b0), .val (.int b1), .val (.int l0), .val (.int l1), .val (.ref bx), .val (.ref lx), .val (.ref b3q), .val (.ref xs), .val (.int ((bl + (4 : Int32)) + ll))] [(.int (1 : Int32))])) _
    refine XS.ifNo X14q.here hx rfl (hb hby at_216) rfl ((if0 _ _).trans (feq (by decide : ¬ ((1 : Int32) = (0 : Int32)))).1) ?_
    show Steps p.tables e below (T14q.setTop (mkF m 219 #[.val (.int p0), .val (.int p1), .val (.int p2), .val (.int bl), .val (.int ll), .val (.int b0), .val (.int b1), .val (.int l0), .val (.int l1), .val (.ref bx), .val (.ref lx), .val (.ref b3q), .val (.ref xs), .val (.int ((bl + (4 : Int32)) + ll))] [])) _
    refine XS.aload X14q.here hx rfl (hb hby at_219) rfl rfl ?_
    show Steps p.tables e below (T14q.setTop (mkF m 221 #[.val (.int p0), .val (.int p1), .val (.int p2), .val (.int bl), .val (.int ll), .val (.int b0), .val (.int b1), .val (.int l0), .val (.int l1), .val (.ref bx), .val (.ref lx), .val (.ref b3q), .val (.ref xs), .val (.int ((bl + (4 : Int32)) + ll))] [(.ref xs)])) _
    refine XS.iconst X14q.here hx rfl (hb hby at_221) ?_
    show Steps p.tables e below (T14q.setTop (mkF m 222 #[.val (.int p0), .val (.int p1), .val (.int p2), .val (.int bl), .val (.int ll), .val (.int b0), .val (.int b1), .val (.int l0), .val (.int l1), .val (.ref bx), .val (.ref lx), .val (.ref b3q), .val (.ref xs), .val (.int ((bl + (4 : Int32)) + ll))] [(.int (5 : Int32)), (.ref xs)])) _
    refine XS.iload X14q.here hx rfl (hb hby at_222) rfl ?_
    show Steps p.tables e below (T14q.setTop (mkF m 224 #[.val (.int p0), .val (.int p1), .val (.int p2), .val (.int bl), .val (.int ll), .val (.int b0), .val (.int b1), .val (.int l0), .val (.int l1), .val (.ref bx), .val (.ref lx), .val (.ref b3q), .val (.ref xs), .val (.int ((bl + (4 : Int32)) + ll))] [(.int ((bl + (4 : Int32)) + ll)), (.int (5 : Int32)), (.ref xs)])) _
    refine XS.iloadN X14q.here hx rfl (hb hby at_224) rfl ?_
    show Steps p.tables e below (T14q.setTop (mkF m 225 #[.val (.int p0), .val (.int p1), .val (.int p2), .val (.int bl), .val (.int ll), .val (.int b0), .val (.int b1), .val (.int l0), .val (.int l1), .val (.ref bx), .val (.ref lx), .val (.ref b3q), .val (.ref xs), .val (.int ((bl + (4 : Int32)) + ll))] [(.int bl), (.int ((bl + (4 : Int32)) + ll)), (.int (5 : Int32)), (.ref xs)])) _
    refine XS.iload X14q.here hx rfl (hb hby at_225) rfl ?_
    show Steps p.tables e below (T14q.setTop (mkF m 227 #[.val (.int p0), .val (.int p1), .val (.int p2), .val (.int bl), .val (.int ll), .val (.int b0), .val (.int b1), .val (.int l0), .val (.int l1), .val (.ref bx), .val (.ref lx), .val (.ref b3q), .val (.ref xs), .val (.int ((bl + (4 : Int32)) + ll))] [(.int b0), (.int bl), (.int ((bl + (4 : Int32)) + ll)), (.int (5 : Int32)), (.ref xs)])) _
    refine XS.iload X14q.here hx rfl (hb hby at_227) rfl ?_
    show Steps p.tables e below (T14q.setTop (mkF m 229 #[.val (.int p0), .val (.int p1), .val (.int p2), .val (.int bl), .val (.int ll), .val (.int b0), .val (.int b1), .val (.int l0), .val (.int l1), .val (.ref bx), .val (.ref lx), .val (.ref b3q), .val (.ref xs), .val (.int ((bl + (4 : Int32)) + ll))] [(.int b1), (.int b0), (.int bl), (.int ((bl + (4 : Int32)) + ll)), (.int (5 : Int32)), (.ref xs)])) _
    refine XS.iload X14q.here hx rfl (hb hby at_229) rfl ?_
    show Steps p.tables e below (T14q.setTop (mkF m 231 #[.val (.int p0), .val (.int p1), .val (.int p2), .val (.int bl), .val (.int ll), .val (.int b0), .val (.int b1), .val (.int l0), .val (.int l1), .val (.ref bx), .val (.ref lx), .val (.ref b3q), .val (.ref xs), .val (.int ((bl + (4 : Int32)) + ll))] [(.int l0), (.int b1), (.int b0), (.int bl), (.int ((bl + (4 : Int32)) + ll)), (.int (5 : Int32)), (.ref xs)])) _
    refine XS.iload X14q.here hx rfl (hb hby at_231) rfl ?_
    show Steps p.tables e below (T14q.setTop (mkF m 233 #[.val (.int p0), .val (.int p1), .val (.int p2), .val (.int bl), .val (.int ll), .val (.int b0), .val (.int b1), .val (.int l0), .val (.int l1), .val (.ref bx), .val (.ref lx), .val (.ref b3q), .val (.ref xs), .val (.int ((bl + (4 : Int32)) + ll))] [(.int l1), (.int l0), (.int b1), (.int b0), (.int bl), (.int ((bl + (4 : Int32)) + ll)), (.int (5 : Int32)), (.ref xs)])) _
    refine st15q _ ?_
    show Steps p.tables e below (T15q.setTop (mkF m 236 #[.val (.int p0), .val (.int p1), .val (.int p2), .val (.int bl), .val (.int ll), .val (.int b0), .val (.int b1), .val (.int l0), .val (.int l1), .val (.ref bx), .val (.ref lx), .val (.ref b3q), .val (.ref xs), .val (.int ((bl + (4 : Int32)) + ll))] [(.int (1 : Int32))])) _
    refine XS.ifNo X15q.here hx rfl (hb hby at_236) rfl ((if0 _ _).trans (feq (by decide : ¬ ((1 : Int32) = (0 : Int32)))).1) ?_
    show Steps p.tables e below (T15q.setTop (mkF m 239 #[.val (.int p0), .val (.int p1), .val (.int p2), .val (.int bl), .val (.int ll), .val (.int b0), .val (.int b1), .val (.int l0), .val (.int l1), .val (.ref bx), .val (.ref lx), .val (.ref b3q), .val (.ref xs), .val (.int ((bl + (4 : Int32)) + ll))] [])) _
    refine XS.aload X15q.here hx rfl (hb hby at_239) rfl rfl ?_
    show Steps p.tables e below (T15q.setTop (mkF m 241 #[.val (.int p0), .val (.int p1), .val (.int p2), .val (.int bl), .val (.int ll), .val (.int b0), .val (.int b1), .val (.int l0), .val (.int l1), .val (.ref bx), .val (.ref lx), .val (.ref b3q), .val (.ref xs), .val (.int ((bl + (4 : Int32)) + ll))] [(.ref xs)])) _
    refine XS.bipush X15q.here hx rfl (hb hby at_241) ?_
    show Steps p.tables e below (T15q.setTop (mkF m 243 #[.val (.int p0), .val (.int p1), .val (.int p2), .val (.int bl), .val (.int ll), .val (.int b0), .val (.int b1), .val (.int l0), .val (.int l1), .val (.ref bx), .val (.ref lx), .val (.ref b3q), .val (.ref xs), .val (.int ((bl + (4 : Int32)) + ll))] [(.int (6 : Int32)), (.ref xs)])) _
    refine XS.iload X15q.here hx rfl (hb hby at_243) rfl ?_
    show Steps p.tables e below (T15q.setTop (mkF m 245 #[.val (.int p0), .val (.int p1), .val (.int p2), .val (.int bl), .val (.int ll), .val (.int b0), .val (.int b1), .val (.int l0), .val (.int l1), .val (.ref bx), .val (.ref lx), .val (.ref b3q), .val (.ref xs), .val (.int ((bl + (4 : Int32)) + ll))] [(.int ((bl + (4 : Int32)) + ll)), (.int (6 : Int32)), (.ref xs)])) _
    refine XS.iloadN X15q.here hx rfl (hb hby at_245) rfl ?_
    show Steps p.tables e below (T15q.setTop (mkF m 246 #[.val (.int p0), .val (.int p1), .val (.int p2), .val (.int bl), .val (.int ll), .val (.int b0), .val (.int b1), .val (.int l0), .val (.int l1), .val (.ref bx), .val (.ref lx), .val (.ref b3q), .val (.ref xs), .val (.int ((bl + (4 : Int32)) + ll))] [(.int bl), (.int ((bl + (4 : Int32)) + ll)), (.int (6 : Int32)), (.ref xs)])) _
    refine XS.iload X15q.here hx rfl (hb hby at_246) rfl ?_
    show Steps p.tables e below (T15q.setTop (mkF m 248 #[.val (.int p0), .val (.int p1), .val (.int p2), .val (.int bl), .val (.int ll), .val (.int b0), .val (.int b1), .val (.int l0), .val (.int l1), .val (.ref bx), .val (.ref lx), .val (.ref b3q), .val (.ref xs), .val (.int ((bl + (4 : Int32)) + ll))] [(.int b0), (.int bl), (.int ((bl + (4 : Int32)) + ll)), (.int (6 : Int32)), (.ref xs)])) _
    refine XS.iload X15q.here hx rfl (hb hby at_248) rfl ?_
    show Steps p.tables e below (T15q.setTop (mkF m 250 #[.val (.int p0), .val (.int p1), .val (.int p2), .val (.int bl), .val (.int ll), .val (.int b0), .val (.int b1), .val (.int l0), .val (.int l1), .val (.ref bx), .val (.ref lx), .val (.ref b3q), .val (.ref xs), .val (.int ((bl + (4 : Int32)) + ll))] [(.int b1), (.int b0), (.int bl), (.int ((bl + (4 : Int32)) + ll)), (.int (6 : Int32)), (.ref xs)])) _
    refine XS.iload X15q.here hx rfl (hb hby at_250) rfl ?_
    show Steps p.tables e below (T15q.setTop (mkF m 252 #[.val (.int p0), .val (.int p1), .val (.int p2), .val (.int bl), .val (.int ll), .val (.int b0), .val (.int b1), .val (.int l0), .val (.int l1), .val (.ref bx), .val (.ref lx), .val (.ref b3q), .val (.ref xs), .val (.int ((bl + (4 : Int32)) + ll))] [(.int l0), (.int b1), (.int b0), (.int bl), (.int ((bl + (4 : Int32)) + ll)), (.int (6 : Int32)), (.ref xs)])) _
    refine XS.iload X15q.here hx rfl (hb hby at_252) rfl ?_
    show Steps p.tables e below (T15q.setTop (mkF m 254 #[.val (.int p0), .val (.int p1), .val (.int p2), .val (.int bl), .val (.int ll), .val (.int b0), .val (.int b1), .val (.int l0), .val (.int l1), .val (.ref bx), .val (.ref lx), .val (.ref b3q), .val (.ref xs), .val (.int ((bl + (4 : Int32)) + ll))] [(.int l1), (.int l0), (.int b1), (.int b0), (.int bl), (.int ((bl + (4 : Int32)) + ll)), (.int (6 : Int32)), (.ref xs)])) _
    refine st16q _ ?_
    show Steps p.tables e below (T16q.setTop (mkF m 257 #[.val (.int p0), .val (.int p1), .val (.int p2), .val (.int bl), .val (.int ll), .val (.int b0), .val (.int b1), .val (.int l0), .val (.int l1), .val (.ref bx), .val (.ref lx), .val (.ref b3q), .val (.ref xs), .val (.int ((bl + (4 : Int32)) + ll))] [(.int (1 : Int32))])) _
    refine XS.ifNo X16q.here hx rfl (hb hby at_257) rfl ((if0 _ _).trans (feq (by decide : ¬ ((1 : Int32) = (0 : Int32)))).1) ?_
    show Steps p.tables e below (T16q.setTop (mkF m 260 #[.val (.int p0), .val (.int p1), .val (.int p2), .val (.int bl), .val (.int ll), .val (.int b0), .val (.int b1), .val (.int l0), .val (.int l1), .val (.ref bx), .val (.ref lx), .val (.ref b3q), .val (.ref xs), .val (.int ((bl + (4 : Int32)) + ll))] [])) _
    refine XS.aload X16q.here hx rfl (hb hby at_260) rfl rfl ?_
    show Steps p.tables e below (T16q.setTop (mkF m 262 #[.val (.int p0), .val (.int p1), .val (.int p2), .val (.int bl), .val (.int ll), .val (.int b0), .val (.int b1), .val (.int l0), .val (.int l1), .val (.ref bx), .val (.ref lx), .val (.ref b3q), .val (.ref xs), .val (.int ((bl + (4 : Int32)) + ll))] [(.ref xs)])) _
    refine XS.bipush X16q.here hx rfl (hb hby at_262) ?_
    show Steps p.tables e below (T16q.setTop (mkF m 264 #[.val (.int p0), .val (.int p1), .val (.int p2), .val (.int bl), .val (.int ll), .val (.int b0), .val (.int b1), .val (.int l0), .val (.int l1), .val (.ref bx), .val (.ref lx), .val (.ref b3q), .val (.ref xs), .val (.int ((bl + (4 : Int32)) + ll))] [(.int (7 : Int32)), (.ref xs)])) _
    refine XS.iload X16q.here hx rfl (hb hby at_264) rfl ?_
    show Steps p.tables e below (T16q.setTop (mkF m 266 #[.val (.int p0), .val (.int p1), .val (.int p2), .val (.int bl), .val (.int ll), .val (.int b0), .val (.int b1), .val (.int l0), .val (.int l1), .val (.ref bx), .val (.ref lx), .val (.ref b3q), .val (.ref xs), .val (.int ((bl + (4 : Int32)) + ll))] [(.int ((bl + (4 : Int32)) + ll)), (.int (7 : Int32)), (.ref xs)])) _
    refine XS.iloadN X16q.here hx rfl (hb hby at_266) rfl ?_
    show Steps p.tables e below (T16q.setTop (mkF m 267 #[.val (.int p0), .val (.int p1), .val (.int p2), .val (.int bl), .val (.int ll), .val (.int b0), .val (.int b1), .val (.int l0), .val (.int l1), .val (.ref bx), .val (.ref lx), .val (.ref b3q), .val (.ref xs), .val (.int ((bl + (4 : Int32)) + ll))] [(.int bl), (.int ((bl + (4 : Int32)) + ll)), (.int (7 : Int32)), (.ref xs)])) _
    refine XS.iload X16q.here hx rfl (hb hby at_267) rfl ?_
    show Steps p.tables e below (T16q.setTop (mkF m 269 #[.val (.int p0), .val (.int p1), .val (.int p2), .val (.int bl), .val (.int ll), .val (.int b0), .val (.int b1), .val (.int l0), .val (.int l1), .val (.ref bx), .val (.ref lx), .val (.ref b3q), .val (.ref xs), .val (.int ((bl + (4 : Int32)) + ll))] [(.int b0), (.int bl), (.int ((bl + (4 : Int32)) + ll)), (.int (7 : Int32)), (.ref xs)])) _
    refine XS.iload X16q.here hx rfl (hb hby at_269) rfl ?_
    show Steps p.tables e below (T16q.setTop (mkF m 271 #[.val (.int p0), .val (.int p1), .val (.int p2), .val (.int bl), .val (.int ll), .val (.int b0), .val (.int b1), .val (.int l0), .val (.int l1), .val (.ref bx), .val (.ref lx), .val (.ref b3q), .val (.ref xs), .val (.int ((bl + (4 : Int32)) + ll))] [(.int b1), (.int b0), (.int bl), (.int ((bl + (4 : Int32)) + ll)), (.int (7 : Int32)), (.ref xs)])) _
    refine XS.iload X16q.here hx rfl (hb hby at_271) rfl ?_
    show Steps p.tables e below (T16q.setTop (mkF m 273 #[.val (.int p0), .val (.int p1), .val (.int p2), .val (.int bl), .val (.int ll), .val (.int b0), .val (.int b1), .val (.int l0), .val (.int l1), .val (.ref bx), .val (.ref lx), .val (.ref b3q), .val (.ref xs), .val (.int ((bl + (4 : Int32)) + ll))] [(.int l0), (.int b1), (.int b0), (.int bl), (.int ((bl + (4 : Int32)) + ll)), (.int (7 : Int32)), (.ref xs)])) _
    refine XS.iload X16q.here hx rfl (hb hby at_273) rfl ?_
    show Steps p.tables e below (T16q.setTop (mkF m 275 #[.val (.int p0), .val (.int p1), .val (.int p2), .val (.int bl), .val (.int ll), .val (.int b0), .val (.int b1), .val (.int l0), .val (.int l1), .val (.ref bx), .val (.ref lx), .val (.ref b3q), .val (.ref xs), .val (.int ((bl + (4 : Int32)) + ll))] [(.int l1), (.int l0), (.int b1), (.int b0), (.int bl), (.int ((bl + (4 : Int32)) + ll)), (.int (7 : Int32)), (.ref xs)])) _
    refine st17q _ ?_
    show Steps p.tables e below (T17q.setTop (mkF m 278 #[.val (.int p0), .val (.int p1), .val (.int p2), .val (.int bl), .val (.int ll), .val (.int b0), .val (.int b1), .val (.int l0), .val (.int l1), .val (.ref bx), .val (.ref lx), .val (.ref b3q), .val (.ref xs), .val (.int ((bl + (4 : Int32)) + ll))] [(.int (1 : Int32))])) _
    refine XS.ifNo X17q.here hx rfl (hb hby at_278) rfl ((if0 _ _).trans (feq (by decide : ¬ ((1 : Int32) = (0 : Int32)))).1) ?_
    show Steps p.tables e below (T17q.setTop (mkF m 281 #[.val (.int p0), .val (.int p1), .val (.int p2), .val (.int bl), .val (.int ll), .val (.int b0), .val (.int b1), .val (.int l0), .val (.int l1), .val (.ref bx), .val (.ref lx), .val (.ref b3q), .val (.ref xs), .val (.int ((bl + (4 : Int32)) + ll))] [])) _
    refine XS.iconst X17q.here hx rfl (hb hby at_281) ?_
    show Steps p.tables e below (T17q.setTop (mkF m 282 #[.val (.int p0), .val (.int p1), .val (.int p2), .val (.int bl), .val (.int ll), .val (.int b0), .val (.int b1), .val (.int l0), .val (.int l1), .val (.ref bx), .val (.ref lx), .val (.ref b3q), .val (.ref xs), .val (.int ((bl + (4 : Int32)) + ll))] [(.int (1 : Int32))])) _
    refine XS.goto X17q.here hx rfl (pc0 := 282) (pc' := 286) rfl (hb hby at_282) (by decide) (by decide) ?_
    show Steps p.tables e below (T17q.setTop (mkF m 286 #[.val (.int p0), .val (.int p1), .val (.int p2), .val (.int bl), .val (.int ll), .val (.int b0), .val (.int b1), .val (.int l0), .val (.int l1), .val (.ref bx), .val (.ref lx), .val (.ref b3q), .val (.ref xs), .val (.int ((bl + (4 : Int32)) + ll))] [(.int (1 : Int32))])) _
    exact retN X17q hx (t := .boolean) Bd.returns (by simp) (hb hby at_286) hr
  · show Qd23 Z p0 p1 p2 z fm h0 n0 _ T17q.heap _
    rw [e17q]
    exact ⟨rfl, N17q⟩
set_option maxRecDepth 65536 in
set_option maxHeartbeats 40000000 in
theorem comes_1 {Post : Tables → Env → Array Value → State → Outcome → State → Prop} (hpost : ∀ tb e args s v u, (limb_1_1.after args s (.returned v) u = true ∧ limb_1_2.after args s (.returned v) u = true ∧ True) → ReturnedEndW s (.returned v) u (Jvm.fieldLocs frame_1_writes args s ++ Jvm.arrayLocs frame_1_arrays args s ++ Jvm.staticLocs frame_1_statics s) 40 4288 → Post tb e args s (.returned v) u) :
    ArmFor flags0 classFile x code maxLocals ret World_1 tables_1 room_1 Calls_1 rest_1 Pre_1 Post := by
  intro l hfl _ _ p e ha hc hk s m args below hf hA hF happ hP
  obtain ⟨hcalls, hrest, hpre⟩ := hP
  obtain ⟨-, -, -, hnamed, -, -, -, hat⟩ := (Spec.applies_iff hf).mp happ
  obtain ⟨hg, hn⟩ := and_e (Cond.before_iff.mp (show (Jvm.Cond.and given_1 narrow_1).before args s = true from hpre))
  obtain ⟨gc, hg⟩ := and_e hg
  obtain ⟨g0, hg⟩ := and_e hg
  obtain ⟨g1, hg⟩ := and_e hg
  have g2 := hg
  obtain ⟨w0, w1, w2, rfl⟩ : ∃ w0 w1 w2 : Value, args = #[w0, w1, w2] := by
    have hs : args.size = 3 := by simpa [Cond.value, given_1] using gc
    obtain ⟨L⟩ := args
    match L, hs with
    | [w0, w1, w2], _ => exact ⟨w0, w1, w2, rfl⟩
  have hw := fun d (hd : d ∈ tables_1) => atoms_spec (ws := Jvm.Cond.code x code maxLocals ret :: tables_1) hat d (List.mem_cons_of_mem _ hd)
  have hfit : Fit s := fun {y c} hc i hi => by
    obtain ⟨ha, rfl⟩ := Array.getElem?_eq_some_iff.mp hc
    have q := List.all_eq_true.mp ((Array.all_eq_true_iff_forall_mem.mp hF) _ (Array.getElem_mem ha)) i (List.mem_range.mpr hi)
    simpa [Array.getElem?_eq_getElem hi] using q
  obtain ⟨hsets, hown0⟩ := atoms_of _ (rest_1_c_eq ▸ (show rest_1_c.before _ s = true from hrest))
  have hr0 := Cond.before_iff.mp hown0
  obtain ⟨i0, ei0⟩ := is_v g0
  obtain rfl : w0 = (.int i0) := Option.some.inj ei0
  obtain ⟨i1, ei1⟩ := is_v g1
  obtain rfl : w1 = (.int i1) := Option.some.inj ei1
  obtain ⟨i2, ei2⟩ := is_v g2
  obtain rfl : w2 = (.int i2) := Option.some.inj ei2
  obtain ⟨z, ez⟩ := is_v (Cond.before_iff.mp (hsets _ (List.mem_of_getElem? (i := 1) rfl)))
  have SC : Sta s s.heap "java/lang/String" "COMPACT_STRINGS" "Z" (.int z) := Sta.start ez (Or.inl (hsets _ (List.mem_of_getElem? (i := 0) rfl)))
  have hz : ¬ (z = (0 : Int32)) := gotF (Cond.eq_ints ez (Term.int_eval (0))) (not_v (Cond.before_iff.mp (hsets _ (List.mem_of_getElem? (i := 2) rfl))))
  obtain ⟨fm, ef, hfm⟩ := isR_v (Cond.before_iff.mp (hsets _ (List.mem_of_getElem? (i := 8) rfl)))
  have SF : Sta s s.heap "jdk/internal/util/Preconditions" "SIOOBE_FORMATTER" "Ljava/util/function/BiFunction;" fm := Sta.start ef (Or.inl (hsets _ (List.mem_of_getElem? (i := 7) rfl)))
  have HC0 : CHv s consts_1 s.vm s.heap := CHv.start (own_EW hw) (show ∀ p ∈ consts_1, Jvm.Lit.constHeld s p.1 p.2 from hcalls.1) (hsets _ (List.mem_of_getElem? (i := 2) rfl)) (hw _ (List.mem_of_getElem? (i := 23) rfl)) (hw _ (List.mem_of_getElem? (i := 5) rfl))
  obtain ⟨n, o, h1, h2, h3, _, L, rfl, ⟨rfl, N⟩, -, hq⟩ := rm0 l s _ hw tables_1 i0 i1 i2 z fm s.heap s.heap.size (Old.start s) SC hz SF hfm p e ha hc hk s m _ below hf ((Spec.applies_iff_loose hf).mp happ).1 ⟨rfl, State.Warmed39.refl s, rfl, HC0⟩ trivial
  refine ⟨n, _, h1, h2, h3, hpost _ _ _ _ _ _ ⟨Cond.after_iff.mpr rfl, Cond.after_iff.mpr (eq_i res_at (Term.int_eval (1)) rfl), trivial⟩ ⟨hq.1, hq.2.1, hq.2.2.1, (hq.2.2.2.sift fun y hy => Or.inr (N y hy)).mono (by decide) (by decide)⟩⟩
theorem main_1_1 : Claimed_1_1 := comes_1 fun _ _ _ _ _ _ h hF => ⟨h.1, hF⟩
theorem main_1_2 : Claimed_1_2 := comes_1 fun _ _ _ _ _ _ h hF => ⟨h.2.1, hF⟩
end Jvm.Pilot.@@N@@
namespace Jvm.Pilot.@@N@@
open Jvm Jvm.ClassFile Sem Op Lib Jvm.Free Jvm.Stand Jvm.Pilot.@@N@@.Jvm.D
/-! MADE BY PROGRAM (witnessworld.py) out of the Statement's table words and the real class files: 28 classes; the members and pool entries that the words name. The judged class is class 1, her method 1. -/
namespace start1
open Jvm.ClassFile
def u (s : String) : CpInfo := .utf8 (stringToUtf16 s)
/-- a pool by its gaps: so many unusable entries, then the entry; so many at the end -/
def gap : Nat → List CpInfo → List CpInfo
  | 0, r => r
  | n + 1, r => .unusable :: gap n r
def poolList (es : List (Nat × CpInfo)) (last : Nat) : List CpInfo := es.foldr (fun e r => gap e.1 (e.2 :: r)) (gap last [])
def pool (es : List (Nat × CpInfo)) (last : Nat) : Array CpInfo := ⟨poolList es last⟩
def fileOf (pool : Array CpInfo) (this : Nat) (attrs : Array Attribute := #[]) (ms : Array MethodInfo := #[]) (fl : Nat := 33) (sup : Nat := 0) (ifs : Array Nat := #[]) (fds : Array FieldInfo := #[]) : ClassFile where
  minorVersion := 0
  majorVersion := 65
  constantPool := pool
  accessFlags := fl
  thisClass := this
  superClass := sup
  interfaces := ifs
  fields := fds
  methods := ms
  attributes := attrs
def plain (name : String) (sup : Option ClassId) : Class where
  name := name
  kind := .ordinary
  loader := none
  accessFlags := 33
  super := sup
  interfaces := #[]
  cf := none
  fields := #[]
  methods := #[]
  instanceTypes := #[]
  staticTypes := #[]
  resolved := #[]
  callSites := []
  init := .initialized
  statics := none
  mirror := none

def pool0 : Array CpInfo := pool [(5, u "<init>"), (0, u "()V"), (1, .class_ 10), (1, u "java/lang/Object")] 113

def k0c0 : Code := { maxStack := 0, maxLocals := 1, code := object_method_1_code, exceptionTable := #[], attributes := #[] }
def k0m0 : Method := { name := "<init>", desc := "()V", sig := { parameters := [], returnType := none }, accessFlags := 1, code := some k0c0 }
/-- java/lang/Object -/
def k0 : Class := { plain "java/lang/Object" none with
  accessFlags := 33
  interfaces := #[]
  cf := some (fileOf pool0 8 #[] #[{ accessFlags := 1, nameIndex := 5, descriptorIndex := 6, attributes := #[] }] 33 0 #[] #[])
  fields := #[]
  methods := #[k0m0]
  instanceTypes := #[]
  staticTypes := #[]
  resolved := Array.replicate 124 none
  statics := none }

def pool1 : Array CpInfo := pool [(2, .class_ 4), (1, u "java/lang/Object"), (0, u "<init>"), (0, u "()V"), (0, .methodref 8 9), (0, .class_ 10), (0, .nameAndType 11 12), (0, u "com/example/lendloop/lendloop/core/PatronRefToStringPinLaw"), (0, u "mk"), (0, u "(ICC)Ljava/lang/String;"), (0, .class_ 14), (0, u "com/example/lendloop/lendloop/core/PatronRef"), (0, .methodref 13 16), (0, .nameAndType 5 17), (0, u "(Ljava/lang/String;Ljava/lang/String;)V"), (0, .methodref 13 19), (0, .nameAndType 20 21), (0, u "toString"), (0, u "()Ljava/lang/String;"), (0, .methodref 23 24), (0, .class_ 25), (0, .nameAndType 26 27), (0, u "java/lang/String"), (0, u "length"), (0, u "()I"), (0, .methodref 8 29), (0, .nameAndType 30 31), (0, u "at"), (0, u "(Ljava/lang/String;IIICCCC)Z"), (0, .methodref 23 33), (0, .nameAndType 5 34), (0, u "([C)V"), (0, .methodref 23 36), (0, .nameAndType 37 38), (0, u "charAt"), (0, u "(I)C"), (0, .methodref 8 40), (0, .nameAndType 41 42), (0, u "exp"), (0, u "(IICCCC)C"), (2, u "law"), (0, u "(III)Z")] 3

def k1m0 : Method := { name := "<init>", desc := "()V", sig := { parameters := [], returnType := none }, accessFlags := 1, code := none }
def k1c1 : Code := { maxStack := 8, maxLocals := 14, code := code, exceptionTable := #[], attributes := #[] }
def k1m1 : Method := { name := "law", desc := "(III)Z", sig := { parameters := [.int, .int, .int], returnType := some .boolean }, accessFlags := 9, code := some k1c1 }
def k1c2 : Code := { maxStack := 6, maxLocals := 3, code := method_3_code, exceptionTable := #[], attributes := #[] }
def k1m2 : Method := { name := "mk", desc := "(ICC)Ljava/lang/String;", sig := { parameters := [.int, .char, .char], returnType := some (.object "java/lang/String") }, accessFlags := 10, code := some k1c2 }
def k1c3 : Code := { maxStack := 7, maxLocals := 8, code := method_4_code, exceptionTable := #[], attributes := #[] }
def k1m3 : Method := { name := "at", desc := "(Ljava/lang/String;IIICCCC)Z", sig := { parameters := [(.object "java/lang/String"), .int, .int, .int, .char, .char, .char, .char], returnType := some .boolean }, accessFlags := 10, code := some k1c3 }
def k1c4 : Code := { maxStack := 2, maxLocals := 7, code := method_5_code, exceptionTable := #[], attributes := #[] }
def k1m4 : Method := { name := "exp", desc := "(IICCCC)C", sig := { parameters := [.int, .int, .char, .char, .char, .char], returnType := some .char }, accessFlags := 10, code := some k1c4 }
/-- com/example/lendloop/lendloop/core/PatronRefToStringPinLaw -/
def k1 : Class := { plain "com/example/lendloop/lendloop/core/PatronRefToStringPinLaw" (some 0) with
  accessFlags := 49
  interfaces := #[]
  cf := some (fileOf pool1 8 #[] #[{ accessFlags := 1, nameIndex := 5, descriptorIndex := 6, attributes := #[] }, { accessFlags := 9, nameIndex := 45, descriptorIndex := 46, attributes := #[] }, { accessFlags := 10, nameIndex := 11, descriptorIndex := 12, attributes := #[] }, { accessFlags := 10, nameIndex := 30, descriptorIndex := 31, attributes := #[] }, { accessFlags := 10, nameIndex := 41, descriptorIndex := 42, attributes := #[] }] 49 2 #[] #[])
  fields := #[]
  methods := #[k1m0, k1m1, k1m2, k1m3, k1m4]
  instanceTypes := #[]
  staticTypes := #[]
  resolved := Array.replicate 50 none
  statics := none }

def pool2 : Array CpInfo := pool [(1, .class_ 2), (0, u "java/io/Serializable"), (0, .class_ 4), (0, u "java/lang/Object")] 2

/-- java/io/Serializable -/
def k2 : Class := { plain "java/io/Serializable" (some 0) with
  accessFlags := 1537
  interfaces := #[]
  cf := some (fileOf pool2 1 #[] #[] 1537 3 #[] #[])
  fields := #[]
  methods := #[]
  instanceTypes := #[]
  staticTypes := #[]
  resolved := Array.replicate 7 none
  statics := none }

def pool3 : Array CpInfo := pool [(1, .class_ 2), (0, u "java/lang/Comparable"), (0, .class_ 4), (0, u "java/lang/Object")] 7

/-- java/lang/Comparable -/
def k3 : Class := { plain "java/lang/Comparable" (some 0) with
  accessFlags := 1537
  interfaces := #[]
  cf := some (fileOf pool3 1 #[] #[] 1537 3 #[] #[])
  fields := #[]
  methods := #[]
  instanceTypes := #[]
  staticTypes := #[]
  resolved := Array.replicate 12 none
  statics := none }

def pool4 : Array CpInfo := pool [(2, .class_ 4), (1, u "java/lang/CharSequence"), (42, .class_ 48), (0, u "java/lang/CharSequence$1CodePointIterator"), (10, .class_ 60), (0, u "java/lang/CharSequence$1CharIterator"), (5, .class_ 67), (0, u "java/lang/Object")] 63

/-- java/lang/CharSequence -/
def k4 : Class := { plain "java/lang/CharSequence" (some 0) with
  accessFlags := 1537
  interfaces := #[]
  cf := some (fileOf pool4 2 #[.nestMembers #[47, 59]] #[] 1537 66 #[] #[])
  fields := #[]
  methods := #[]
  instanceTypes := #[]
  staticTypes := #[]
  resolved := Array.replicate 131 none
  statics := none }

def pool5 : Array CpInfo := pool [(1, .class_ 2), (0, u "java/lang/constant/Constable"), (0, .class_ 4), (0, u "java/lang/Object")] 6

/-- java/lang/constant/Constable -/
def k5 : Class := { plain "java/lang/constant/Constable" (some 0) with
  accessFlags := 1537
  interfaces := #[]
  cf := some (fileOf pool5 1 #[] #[] 1537 3 #[] #[])
  fields := #[]
  methods := #[]
  instanceTypes := #[]
  staticTypes := #[]
  resolved := Array.replicate 11 none
  statics := none }

def pool6 : Array CpInfo := pool [(1, .class_ 2), (0, u "java/lang/constant/ConstantDesc"), (0, .class_ 4), (0, u "java/lang/Object")] 32

/-- java/lang/constant/ConstantDesc -/
def k6 : Class := { plain "java/lang/constant/ConstantDesc" (some 0) with
  accessFlags := 1537
  interfaces := #[]
  cf := some (fileOf pool6 1 #[] #[] 1537 3 #[] #[])
  fields := #[]
  methods := #[]
  instanceTypes := #[]
  staticTypes := #[]
  resolved := Array.replicate 37 none
  statics := none }

def pool7 : Array CpInfo := pool [(1, .methodref 2 3), (0, .class_ 4), (0, .nameAndType 5 6), (0, u "java/lang/Object"), (0, u "<init>"), (0, u "()V"), (0, .string 8), (0, u ""), (0, .fieldref 10 11), (0, .class_ 12), (0, .nameAndType 13 14), (0, u "java/lang/String"), (0, u "value"), (0, u "[B"), (0, .fieldref 10 16), (0, .nameAndType 17 18), (0, u "coder"), (0, u "B"), (2, u "hash"), (0, u "I"), (2, u "hashIsZero"), (0, u "Z"), (0, .methodref 10 28), (0, .nameAndType 5 29), (0, u "([CIILjava/lang/Void;)V"), (8, .fieldref 10 39), (0, .nameAndType 40 26), (0, u "COMPACT_STRINGS"), (1, .class_ 44), (1, u "java/lang/StringUTF16"), (0, u "compress"), (1, .methodref 42 48), (0, .nameAndType 49 50), (0, u "coderFromArrayLen"), (0, u "([BI)B"), (3, .methodref 55 56), (0, .class_ 57), (0, .nameAndType 58 59), (0, u "java/util/Arrays"), (0, u "copyOfRange"), (0, u "([BII)[B"), (47, .class_ 109), (1, u "java/lang/StringLatin1"), (32, u "()Z"), (34, .methodref 42 178), (0, .nameAndType 45 179), (0, u "([CII)[B"), (13, .class_ 195), (1, u "java/lang/System"), (16, .methodref 193 213), (0, .nameAndType 214 215), (0, u "arraycopy"), (0, u "(Ljava/lang/Object;ILjava/lang/Object;II)V"), (118, u "()I"), (0, .methodref 10 336), (0, .nameAndType 17 337), (0, u "()B"), (2, u "()[B"), (22, u "([BI)C"), (27, u "(II)V"), (35, u "(I)C"), (61, .methodref 10 490), (0, .nameAndType 5 491), (0, u "(Ljava/lang/AbstractStringBuilder;Ljava/lang/Void;)V"), (0, .methodref 10 493), (0, .nameAndType 494 142), (0, u "isLatin1"), (0, .methodref 107 496), (0, .nameAndType 497 363), (0, u "charAt"), (3, u "checkIndex"), (4, .nameAndType 507 334), (0, u "length"), (24, u "getBytes"), (16, .methodref 550 506), (0, .class_ 551), (0, u "java/lang/AbstractStringBuilder"), (0, .methodref 550 553), (0, .nameAndType 554 340), (0, u "getValue"), (20, .class_ 576), (0, u "java/lang/CharSequence"), (22, u "CASE_INSENSITIVE_ORDER"), (0, u "Ljava/util/Comparator;"), (220, u "([BIB)V"), (188, u "([C)V"), (36, .methodref 550 493), (5, .fieldref 1054 1055), (0, .class_ 1056), (0, .nameAndType 1057 1058), (0, u "jdk/internal/util/Preconditions"), (0, u "SIOOBE_FORMATTER"), (0, u "Ljava/util/function/BiFunction;"), (0, .methodref 1054 1060), (0, .nameAndType 501 1061), (0, u "(IILjava/util/function/BiFunction;)I"), (39, u "serialPersistentFields"), (0, u "[Ljava/io/ObjectStreamField;"), (0, .class_ 1104), (0, u "java/lang/String$CaseInsensitiveComparator"), (1, .class_ 1107), (0, u "java/io/Serializable"), (0, .class_ 1109), (0, u "java/lang/Comparable"), (0, .class_ 1111), (0, u "java/lang/constant/Constable"), (0, .class_ 1113), (0, u "java/lang/constant/ConstantDesc"), (2, u "serialVersionUID"), (0, u "J"), (3, u "REPL"), (0, u "C"), (2, u "LATIN1"), (1, u "UTF16"), (105, u "(Ljava/lang/StringBuilder;)V")] 217

def k7m0 : Method := { name := "<init>", desc := "()V", sig := { parameters := [], returnType := none }, accessFlags := 1, code := none }
def k7c1 : Code := { maxStack := 5, maxLocals := 2, code := jdk_42_method_3_code, exceptionTable := #[], attributes := #[] }
def k7m1 : Method := { name := "<init>", desc := "([C)V", sig := { parameters := [(.array .char)], returnType := none }, accessFlags := 1, code := some k7c1 }
def k7c2 : Code := { maxStack := 3, maxLocals := 2, code := jdk_42_method_53_code, exceptionTable := #[], attributes := #[] }
def k7m2 : Method := { name := "<init>", desc := "(Ljava/lang/StringBuilder;)V", sig := { parameters := [(.object "java/lang/StringBuilder")], returnType := none }, accessFlags := 1, code := some k7c2 }
def k7c3 : Code := { maxStack := 2, maxLocals := 1, code := jdk_42_method_54_code, exceptionTable := #[], attributes := #[] }
def k7m3 : Method := { name := "length", desc := "()I", sig := { parameters := [], returnType := some .int }, accessFlags := 1, code := some k7c3 }
def k7c4 : Code := { maxStack := 2, maxLocals := 2, code := jdk_42_method_56_code, exceptionTable := #[], attributes := #[] }
def k7m4 : Method := { name := "charAt", desc := "(I)C", sig := { parameters := [.int], returnType := some .char }, accessFlags := 1, code := some k7c4 }
def k7c5 : Code := { maxStack := 5, maxLocals := 4, code := jdk_42_method_147_code, exceptionTable := #[], attributes := #[] }
def k7m5 : Method := { name := "getBytes", desc := "([BIB)V", sig := { parameters := [(.array .byte), .int, .byte], returnType := none }, accessFlags := 0, code := some k7c5 }
def k7c6 : Code := { maxStack := 4, maxLocals := 6, code := jdk_42_method_149_code, exceptionTable := #[], attributes := #[] }
def k7m6 : Method := { name := "<init>", desc := "([CIILjava/lang/Void;)V", sig := { parameters := [(.array .char), .int, .int, (.object "java/lang/Void")], returnType := none }, accessFlags := 2, code := some k7c6 }
def k7c7 : Code := { maxStack := 5, maxLocals := 5, code := jdk_42_method_150_code, exceptionTable := #[], attributes := #[] }
def k7m7 : Method := { name := "<init>", desc := "(Ljava/lang/AbstractStringBuilder;Ljava/lang/Void;)V", sig := { parameters := [(.object "java/lang/AbstractStringBuilder"), (.object "java/lang/Void")], returnType := none }, accessFlags := 0, code := some k7c7 }
def k7c8 : Code := { maxStack := 1, maxLocals := 1, code := jdk_42_method_152_code, exceptionTable := #[], attributes := #[] }
def k7m8 : Method := { name := "coder", desc := "()B", sig := { parameters := [], returnType := some .byte }, accessFlags := 0, code := some k7c8 }
def k7c9 : Code := { maxStack := 1, maxLocals := 1, code := jdk_42_method_154_code, exceptionTable := #[], attributes := #[] }
def k7m9 : Method := { name := "isLatin1", desc := "()Z", sig := { parameters := [], returnType := some .boolean }, accessFlags := 0, code := some k7c9 }
def k7c10 : Code := { maxStack := 3, maxLocals := 2, code := jdk_42_method_155_code, exceptionTable := #[], attributes := #[] }
def k7m10 : Method := { name := "checkIndex", desc := "(II)V", sig := { parameters := [.int, .int], returnType := none }, accessFlags := 8, code := some k7c10 }
/-- java/lang/String -/
def k7 : Class := { plain "java/lang/String" (some 0) with
  accessFlags := 49
  interfaces := #[2, 3, 4, 5, 6]
  cf := some (fileOf pool7 10 #[.nestMembers #[1103]] #[{ accessFlags := 1, nameIndex := 5, descriptorIndex := 6, attributes := #[] }, { accessFlags := 1, nameIndex := 5, descriptorIndex := 1010, attributes := #[] }, { accessFlags := 1, nameIndex := 5, descriptorIndex := 1233, attributes := #[] }, { accessFlags := 1, nameIndex := 507, descriptorIndex := 334, attributes := #[] }, { accessFlags := 1, nameIndex := 497, descriptorIndex := 427, attributes := #[] }, { accessFlags := 0, nameIndex := 532, descriptorIndex := 821, attributes := #[] }, { accessFlags := 2, nameIndex := 5, descriptorIndex := 29, attributes := #[] }, { accessFlags := 0, nameIndex := 5, descriptorIndex := 491, attributes := #[] }, { accessFlags := 0, nameIndex := 17, descriptorIndex := 337, attributes := #[] }, { accessFlags := 0, nameIndex := 494, descriptorIndex := 142, attributes := #[] }, { accessFlags := 8, nameIndex := 501, descriptorIndex := 391, attributes := #[] }] 49 2 #[1106, 1108, 575, 1110, 1112] #[{ accessFlags := 18, nameIndex := 13, descriptorIndex := 14, attributes := #[] }, { accessFlags := 18, nameIndex := 17, descriptorIndex := 18, attributes := #[] }, { accessFlags := 2, nameIndex := 21, descriptorIndex := 22, attributes := #[] }, { accessFlags := 2, nameIndex := 25, descriptorIndex := 26, attributes := #[] }, { accessFlags := 26, nameIndex := 1116, descriptorIndex := 1117, attributes := #[] }, { accessFlags := 24, nameIndex := 40, descriptorIndex := 26, attributes := #[] }, { accessFlags := 26, nameIndex := 1101, descriptorIndex := 1102, attributes := #[] }, { accessFlags := 26, nameIndex := 1121, descriptorIndex := 1122, attributes := #[] }, { accessFlags := 25, nameIndex := 599, descriptorIndex := 600, attributes := #[] }, { accessFlags := 24, nameIndex := 1125, descriptorIndex := 18, attributes := #[] }, { accessFlags := 24, nameIndex := 1127, descriptorIndex := 18, attributes := #[] }])
  fields := #[{ name := "value", type := (.array .byte), accessFlags := 18, slot := 0, constantValue := 0 }, { name := "coder", type := .byte, accessFlags := 18, slot := 1, constantValue := 0 }, { name := "hash", type := .int, accessFlags := 2, slot := 2, constantValue := 0 }, { name := "hashIsZero", type := .boolean, accessFlags := 2, slot := 3, constantValue := 0 }, { name := "serialVersionUID", type := .long, accessFlags := 26, slot := 0, constantValue := 0 }, { name := "COMPACT_STRINGS", type := .boolean, accessFlags := 24, slot := 1, constantValue := 0 }, { name := "serialPersistentFields", type := (.array (.object "java/io/ObjectStreamField")), accessFlags := 26, slot := 2, constantValue := 0 }, { name := "REPL", type := .char, accessFlags := 26, slot := 3, constantValue := 0 }, { name := "CASE_INSENSITIVE_ORDER", type := (.object "java/util/Comparator"), accessFlags := 25, slot := 4, constantValue := 0 }, { name := "LATIN1", type := .byte, accessFlags := 24, slot := 5, constantValue := 0 }, { name := "UTF16", type := .byte, accessFlags := 24, slot := 6, constantValue := 0 }]
  methods := #[k7m0, k7m1, k7m2, k7m3, k7m4, k7m5, k7m6, k7m7, k7m8, k7m9, k7m10]
  instanceTypes := #[(.array .byte), .byte, .int, .boolean]
  staticTypes := #[.long, .boolean, (.array (.object "java/io/ObjectStreamField")), .char, (.object "java/util/Comparator"), .byte, .byte]
  resolved := Array.replicate 1451 none
  statics := some 0 }

def pool8 : Array CpInfo := pool [(6, .class_ 8), (1, u "java/lang/Object"), (0, u "<init>"), (0, u "()V"), (1, .class_ 14), (1, u "java/lang/StringUTF16"), (31, u "$assertionsDisabled"), (0, u "Z"), (13, u "HI_BYTE_SHIFT"), (0, u "I"), (2, u "LO_BYTE_SHIFT"), (49, .methodref 12 116), (0, .nameAndType 117 118), (0, u "compress"), (0, u "([CI[BII)I"), (3, u "([CII)[B"), (138, u "coderFromArrayLen"), (0, u "([BI)B"), (106, .class_ 371), (1, u "java/lang/StringUTF16$LinesSpliterator"), (58, u "MAX_LENGTH"), (196, .class_ 628), (0, u "java/lang/StringUTF16$CodePointsSpliterator"), (0, .class_ 630), (0, u "java/lang/StringUTF16$CharsSpliterator")] 4

def k8m0 : Method := { name := "<init>", desc := "()V", sig := { parameters := [], returnType := none }, accessFlags := 0, code := none }
def k8c1 : Code := { maxStack := 2, maxLocals := 2, code := jdk_52_method_15_code, exceptionTable := #[], attributes := #[] }
def k8m1 : Method := { name := "coderFromArrayLen", desc := "([BI)B", sig := { parameters := [(.array .byte), .int], returnType := some .byte }, accessFlags := 8, code := some k8c1 }
def k8c2 : Code := { maxStack := 5, maxLocals := 6, code := jdk_52_method_16_code, exceptionTable := #[], attributes := #[] }
def k8m2 : Method := { name := "compress", desc := "([CII)[B", sig := { parameters := [(.array .char), .int, .int], returnType := some (.array .byte) }, accessFlags := 9, code := some k8c2 }
def k8c3 : Code := { maxStack := 3, maxLocals := 7, code := jdk_52_method_21_code, exceptionTable := #[], attributes := #[] }
def k8m3 : Method := { name := "compress", desc := "([CI[BII)I", sig := { parameters := [(.array .char), .int, (.array .byte), .int, .int], returnType := some .int }, accessFlags := 9, code := some k8c3 }
/-- java/lang/StringUTF16 -/
def k8 : Class := { plain "java/lang/StringUTF16" (some 0) with
  accessFlags := 48
  interfaces := #[]
  cf := some (fileOf pool8 12 #[.nestMembers #[627, 629, 369]] #[{ accessFlags := 0, nameIndex := 9, descriptorIndex := 10, attributes := #[] }, { accessFlags := 8, nameIndex := 261, descriptorIndex := 262, attributes := #[] }, { accessFlags := 9, nameIndex := 117, descriptorIndex := 122, attributes := #[] }, { accessFlags := 9, nameIndex := 117, descriptorIndex := 118, attributes := #[] }] 48 6 #[] #[{ accessFlags := 26, nameIndex := 61, descriptorIndex := 62, attributes := #[] }, { accessFlags := 26, nameIndex := 65, descriptorIndex := 62, attributes := #[] }, { accessFlags := 24, nameIndex := 430, descriptorIndex := 62, attributes := #[] }, { accessFlags := 4120, nameIndex := 46, descriptorIndex := 47, attributes := #[] }])
  fields := #[{ name := "HI_BYTE_SHIFT", type := .int, accessFlags := 26, slot := 0, constantValue := 0 }, { name := "LO_BYTE_SHIFT", type := .int, accessFlags := 26, slot := 1, constantValue := 0 }, { name := "MAX_LENGTH", type := .int, accessFlags := 24, slot := 2, constantValue := 0 }, { name := "$assertionsDisabled", type := .boolean, accessFlags := 4120, slot := 3, constantValue := 0 }]
  methods := #[k8m0, k8m1, k8m2, k8m3]
  instanceTypes := #[]
  staticTypes := #[.int, .int, .int, .boolean]
  resolved := Array.replicate 635 none
  statics := none }

def pool9 : Array CpInfo := pool [(1, .methodref 2 3), (0, .class_ 4), (0, .nameAndType 5 6), (0, u "java/lang/Object"), (0, u "<init>"), (0, u "()V"), (0, .class_ 8), (0, u "java/lang/Record")] 13

def k9c0 : Code := { maxStack := 1, maxLocals := 1, code := jdk_30_method_1_code, exceptionTable := #[], attributes := #[] }
def k9m0 : Method := { name := "<init>", desc := "()V", sig := { parameters := [], returnType := none }, accessFlags := 4, code := some k9c0 }
/-- java/lang/Record -/
def k9 : Class := { plain "java/lang/Record" (some 0) with
  accessFlags := 1057
  interfaces := #[]
  cf := some (fileOf pool9 7 #[] #[{ accessFlags := 4, nameIndex := 5, descriptorIndex := 6, attributes := #[] }] 1057 2 #[] #[])
  fields := #[]
  methods := #[k9m0]
  instanceTypes := #[]
  staticTypes := #[]
  resolved := Array.replicate 22 none
  statics := none }

def pool10 : Array CpInfo := pool [(1, .methodref 2 3), (0, .class_ 4), (0, .nameAndType 5 6), (0, u "java/lang/Record"), (0, u "<init>"), (0, u "()V"), (0, .string 8), (0, u "library"), (0, .methodref 10 11), (0, .class_ 12), (0, .nameAndType 13 14), (0, u "java/util/Objects"), (0, u "requireNonNull"), (0, u "(Ljava/lang/Object;Ljava/lang/String;)Ljava/lang/Object;"), (0, .string 16), (0, u "barcode"), (0, .fieldref 18 19), (0, .class_ 20), (0, .nameAndType 8 21), (0, u "com/example/lendloop/lendloop/core/PatronRef"), (0, u "Ljava/lang/String;"), (0, .fieldref 18 23), (0, .nameAndType 16 21), (0, .class_ 25), (0, u "java/lang/StringBuilder"), (0, .methodref 24 3), (0, .methodref 24 28), (0, .nameAndType 29 30), (0, u "append"), (0, u "(Ljava/lang/String;)Ljava/lang/StringBuilder;"), (0, .string 32), (0, u " of "), (0, .methodref 24 34), (0, .nameAndType 35 36), (0, u "toString"), (0, u "()Ljava/lang/String;"), (8, u "(Ljava/lang/String;Ljava/lang/String;)V")] 26

def k10c0 : Code := { maxStack := 2, maxLocals := 3, code := prog_24_method_1_code, exceptionTable := #[], attributes := #[] }
def k10m0 : Method := { name := "<init>", desc := "(Ljava/lang/String;Ljava/lang/String;)V", sig := { parameters := [(.object "java/lang/String"), (.object "java/lang/String")], returnType := none }, accessFlags := 1, code := some k10c0 }
def k10c1 : Code := { maxStack := 2, maxLocals := 1, code := prog_24_method_2_code, exceptionTable := #[], attributes := #[] }
def k10m1 : Method := { name := "toString", desc := "()Ljava/lang/String;", sig := { parameters := [], returnType := some (.object "java/lang/String") }, accessFlags := 1, code := some k10c1 }
/-- com/example/lendloop/lendloop/core/PatronRef -/
def k10 : Class := { plain "com/example/lendloop/lendloop/core/PatronRef" (some 9) with
  accessFlags := 49
  interfaces := #[]
  cf := some (fileOf pool10 18 #[] #[{ accessFlags := 1, nameIndex := 5, descriptorIndex := 45, attributes := #[] }, { accessFlags := 1, nameIndex := 35, descriptorIndex := 36, attributes := #[] }] 49 2 #[] #[{ accessFlags := 18, nameIndex := 8, descriptorIndex := 21, attributes := #[] }, { accessFlags := 18, nameIndex := 16, descriptorIndex := 21, attributes := #[] }])
  fields := #[{ name := "library", type := (.object "java/lang/String"), accessFlags := 18, slot := 0, constantValue := 0 }, { name := "barcode", type := (.object "java/lang/String"), accessFlags := 18, slot := 1, constantValue := 0 }]
  methods := #[k10m0, k10m1]
  instanceTypes := #[(.object "java/lang/String"), (.object "java/lang/String")]
  staticTypes := #[]
  resolved := Array.replicate 72 none
  statics := none }

def pool11 : Array CpInfo := pool [(2, .class_ 4), (1, u "java/lang/Object"), (0, u "<init>"), (0, u "()V"), (35, .class_ 44), (1, u "java/util/Objects"), (0, u "requireNonNull"), (48, u "(Ljava/lang/Object;Ljava/lang/String;)Ljava/lang/Object;")] 89

def k11m0 : Method := { name := "<init>", desc := "()V", sig := { parameters := [], returnType := none }, accessFlags := 2, code := none }
def k11c1 : Code := { maxStack := 3, maxLocals := 2, code := jdk_31_method_11_code, exceptionTable := #[], attributes := #[] }
def k11m1 : Method := { name := "requireNonNull", desc := "(Ljava/lang/Object;Ljava/lang/String;)Ljava/lang/Object;", sig := { parameters := [(.object "java/lang/Object"), (.object "java/lang/String")], returnType := some (.object "java/lang/Object") }, accessFlags := 9, code := some k11c1 }
/-- java/util/Objects -/
def k11 : Class := { plain "java/util/Objects" (some 0) with
  accessFlags := 49
  interfaces := #[]
  cf := some (fileOf pool11 42 #[] #[{ accessFlags := 2, nameIndex := 5, descriptorIndex := 6, attributes := #[] }, { accessFlags := 9, nameIndex := 45, descriptorIndex := 94, attributes := #[] }] 49 2 #[] #[])
  fields := #[]
  methods := #[k11m0, k11m1]
  instanceTypes := #[]
  staticTypes := #[]
  resolved := Array.replicate 184 none
  statics := none }

def pool12 : Array CpInfo := pool [(1, .class_ 2), (0, u "java/lang/Appendable"), (0, .class_ 4), (0, u "java/lang/Object")] 9

/-- java/lang/Appendable -/
def k12 : Class := { plain "java/lang/Appendable" (some 0) with
  accessFlags := 1537
  interfaces := #[]
  cf := some (fileOf pool12 1 #[] #[] 1537 3 #[] #[])
  fields := #[]
  methods := #[]
  instanceTypes := #[]
  staticTypes := #[]
  resolved := Array.replicate 14 none
  statics := none }

def pool13 : Array CpInfo := pool [(1, .class_ 2), (0, u "java/lang/String"), (0, .methodref 4 5), (0, .class_ 6), (0, .nameAndType 7 8), (0, u "java/lang/Object"), (0, u "<init>"), (0, u "()V"), (1, .class_ 12), (1, u "java/lang/AbstractStringBuilder"), (0, u "EMPTYVALUE"), (0, u "[B"), (0, .fieldref 10 16), (0, .nameAndType 17 14), (0, u "value"), (0, .fieldref 1 19), (0, .nameAndType 20 21), (0, u "COMPACT_STRINGS"), (0, u "Z"), (0, .fieldref 10 23), (0, .nameAndType 24 25), (0, u "coder"), (0, u "B"), (6, .methodref 1 33), (0, .nameAndType 34 35), (0, u "length"), (0, u "()I"), (4, .methodref 1 41), (0, .nameAndType 24 42), (0, u "()B"), (2, u "append"), (0, u "(Ljava/lang/String;)Ljava/lang/AbstractStringBuilder;"), (1, .class_ 49), (0, u "java/lang/CharSequence"), (19, u "(Ljava/lang/String;)V"), (5, u "maybeLatin1"), (3, .fieldref 10 80), (0, .nameAndType 81 82), (0, u "count"), (0, u "I"), (2, u "isLatin1"), (0, u "()Z"), (13, .methodref 10 101), (0, .nameAndType 102 103), (0, u "ensureCapacityInternal"), (0, u "(I)V"), (104, .methodref 10 209), (0, .nameAndType 210 211), (0, u "putStringAt"), (0, u "(ILjava/lang/String;)V"), (5, u "inflateIfNeededFor"), (2, .nameAndType 221 222), (0, u "getBytes"), (0, u "([BIB)V"), (174, .methodref 10 398), (0, .nameAndType 217 69), (0, .methodref 1 220), (3, u "()[B"), (40, .class_ 445), (0, u "java/lang/Appendable"), (106, u "getValue")] 56

def k13m0 : Method := { name := "<init>", desc := "()V", sig := { parameters := [], returnType := none }, accessFlags := 0, code := none }
def k13c1 : Code := { maxStack := 2, maxLocals := 2, code := jdk_68_method_2_code, exceptionTable := #[], attributes := #[] }
def k13m1 : Method := { name := "<init>", desc := "(I)V", sig := { parameters := [.int], returnType := none }, accessFlags := 0, code := some k13c1 }
def k13c2 : Code := { maxStack := 1, maxLocals := 1, code := jdk_68_method_6_code, exceptionTable := #[], attributes := #[] }
def k13m2 : Method := { name := "length", desc := "()I", sig := { parameters := [], returnType := some .int }, accessFlags := 1, code := some k13c2 }
def k13c3 : Code := { maxStack := 4, maxLocals := 3, code := jdk_68_method_9_code, exceptionTable := #[], attributes := #[] }
def k13m3 : Method := { name := "ensureCapacityInternal", desc := "(I)V", sig := { parameters := [.int], returnType := none }, accessFlags := 2, code := some k13c3 }
def k13c4 : Code := { maxStack := 3, maxLocals := 3, code := jdk_68_method_22_code, exceptionTable := #[], attributes := #[] }
def k13m4 : Method := { name := "append", desc := "(Ljava/lang/String;)Ljava/lang/AbstractStringBuilder;", sig := { parameters := [(.object "java/lang/String")], returnType := some (.object "java/lang/AbstractStringBuilder") }, accessFlags := 1, code := some k13c4 }
def k13c5 : Code := { maxStack := 1, maxLocals := 1, code := jdk_68_method_64_code, exceptionTable := #[], attributes := #[] }
def k13m5 : Method := { name := "getValue", desc := "()[B", sig := { parameters := [], returnType := some (.array .byte) }, accessFlags := 16, code := some k13c5 }
def k13c6 : Code := { maxStack := 1, maxLocals := 1, code := jdk_68_method_68_code, exceptionTable := #[], attributes := #[] }
def k13m6 : Method := { name := "isLatin1", desc := "()Z", sig := { parameters := [], returnType := some .boolean }, accessFlags := 16, code := some k13c6 }
def k13c7 : Code := { maxStack := 2, maxLocals := 2, code := jdk_68_method_71_code, exceptionTable := #[], attributes := #[] }
def k13m7 : Method := { name := "inflateIfNeededFor", desc := "(Ljava/lang/String;)V", sig := { parameters := [(.object "java/lang/String")], returnType := none }, accessFlags := 2, code := some k13c7 }
def k13c8 : Code := { maxStack := 4, maxLocals := 3, code := jdk_68_method_73_code, exceptionTable := #[], attributes := #[] }
def k13m8 : Method := { name := "putStringAt", desc := "(ILjava/lang/String;)V", sig := { parameters := [.int, (.object "java/lang/String")], returnType := none }, accessFlags := 2, code := some k13c8 }
/-- java/lang/AbstractStringBuilder -/
def k13 : Class := { plain "java/lang/AbstractStringBuilder" (some 0) with
  accessFlags := 1056
  interfaces := #[12, 4]
  cf := some (fileOf pool13 10 #[] #[{ accessFlags := 0, nameIndex := 7, descriptorIndex := 8, attributes := #[] }, { accessFlags := 0, nameIndex := 7, descriptorIndex := 103, attributes := #[] }, { accessFlags := 1, nameIndex := 34, descriptorIndex := 35, attributes := #[] }, { accessFlags := 2, nameIndex := 102, descriptorIndex := 103, attributes := #[] }, { accessFlags := 1, nameIndex := 45, descriptorIndex := 46, attributes := #[] }, { accessFlags := 16, nameIndex := 552, descriptorIndex := 403, attributes := #[] }, { accessFlags := 16, nameIndex := 85, descriptorIndex := 86, attributes := #[] }, { accessFlags := 2, nameIndex := 217, descriptorIndex := 69, attributes := #[] }, { accessFlags := 2, nameIndex := 210, descriptorIndex := 211, attributes := #[] }] 1056 4 #[444, 48] #[{ accessFlags := 0, nameIndex := 17, descriptorIndex := 14, attributes := #[] }, { accessFlags := 0, nameIndex := 24, descriptorIndex := 25, attributes := #[] }, { accessFlags := 0, nameIndex := 75, descriptorIndex := 21, attributes := #[] }, { accessFlags := 0, nameIndex := 81, descriptorIndex := 82, attributes := #[] }, { accessFlags := 26, nameIndex := 13, descriptorIndex := 14, attributes := #[] }])
  fields := #[{ name := "value", type := (.array .byte), accessFlags := 0, slot := 0, constantValue := 0 }, { name := "coder", type := .byte, accessFlags := 0, slot := 1, constantValue := 0 }, { name := "maybeLatin1", type := .boolean, accessFlags := 0, slot := 2, constantValue := 0 }, { name := "count", type := .int, accessFlags := 0, slot := 3, constantValue := 0 }, { name := "EMPTYVALUE", type := (.array .byte), accessFlags := 26, slot := 0, constantValue := 0 }]
  methods := #[k13m0, k13m1, k13m2, k13m3, k13m4, k13m5, k13m6, k13m7, k13m8]
  instanceTypes := #[(.array .byte), .byte, .boolean, .int]
  staticTypes := #[(.array .byte)]
  resolved := Array.replicate 609 none
  statics := none }

def pool14 : Array CpInfo := pool [(1, .methodref 2 3), (0, .class_ 4), (0, .nameAndType 5 6), (0, u "java/lang/AbstractStringBuilder"), (0, u "<init>"), (0, u "(I)V"), (11, .class_ 20), (1, u "java/lang/String"), (3, .class_ 26), (1, u "java/lang/StringBuilder"), (0, u "append"), (0, u "(Ljava/lang/String;)Ljava/lang/StringBuilder;"), (0, .methodref 2 30), (0, .nameAndType 27 31), (0, u "(Ljava/lang/String;)Ljava/lang/AbstractStringBuilder;"), (105, .methodref 18 138), (0, .nameAndType 5 139), (0, u "(Ljava/lang/StringBuilder;)V"), (5, u "()V"), (10, u "()I"), (186, .methodref 2 344), (0, .nameAndType 345 156), (0, u "length"), (3, .class_ 350), (0, u "java/lang/Appendable"), (0, .class_ 352), (0, u "java/io/Serializable"), (0, .class_ 354), (0, u "java/lang/Comparable"), (0, .class_ 356), (0, u "java/lang/CharSequence"), (0, u "serialVersionUID"), (0, u "J"), (40, u "toString"), (0, u "()Ljava/lang/String;")] 21

def k14c0 : Code := { maxStack := 2, maxLocals := 1, code := jdk_67_method_1_code, exceptionTable := #[], attributes := #[] }
def k14m0 : Method := { name := "<init>", desc := "()V", sig := { parameters := [], returnType := none }, accessFlags := 1, code := some k14c0 }
def k14c1 : Code := { maxStack := 2, maxLocals := 2, code := jdk_67_method_7_code, exceptionTable := #[], attributes := #[] }
def k14m1 : Method := { name := "append", desc := "(Ljava/lang/String;)Ljava/lang/StringBuilder;", sig := { parameters := [(.object "java/lang/String")], returnType := some (.object "java/lang/StringBuilder") }, accessFlags := 1, code := some k14c1 }
def k14c2 : Code := { maxStack := 3, maxLocals := 1, code := jdk_67_method_42_code, exceptionTable := #[], attributes := #[] }
def k14m2 : Method := { name := "toString", desc := "()Ljava/lang/String;", sig := { parameters := [], returnType := some (.object "java/lang/String") }, accessFlags := 1, code := some k14c2 }
def k14c3 : Code := { maxStack := 1, maxLocals := 1, code := jdk_67_method_93_code, exceptionTable := #[], attributes := #[] }
def k14m3 : Method := { name := "length", desc := "()I", sig := { parameters := [], returnType := some .int }, accessFlags := 4161, code := some k14c3 }
/-- java/lang/StringBuilder -/
def k14 : Class := { plain "java/lang/StringBuilder" (some 13) with
  accessFlags := 49
  interfaces := #[12, 2, 3, 4]
  cf := some (fileOf pool14 24 #[] #[{ accessFlags := 1, nameIndex := 5, descriptorIndex := 145, attributes := #[] }, { accessFlags := 1, nameIndex := 27, descriptorIndex := 28, attributes := #[] }, { accessFlags := 1, nameIndex := 399, descriptorIndex := 400, attributes := #[] }, { accessFlags := 4161, nameIndex := 345, descriptorIndex := 156, attributes := #[] }] 49 2 #[349, 351, 353, 355] #[{ accessFlags := 24, nameIndex := 357, descriptorIndex := 358, attributes := #[] }])
  fields := #[{ name := "serialVersionUID", type := .long, accessFlags := 24, slot := 0, constantValue := 0 }]
  methods := #[k14m0, k14m1, k14m2, k14m3]
  instanceTypes := #[(.array .byte), .byte, .boolean, .int]
  staticTypes := #[.long]
  resolved := Array.replicate 422 none
  statics := none }

def pool15 : Array CpInfo := pool [(2, .class_ 4), (1, u "java/lang/Object"), (0, u "<init>"), (0, u "()V"), (1, .class_ 10), (1, u "java/lang/System"), (0, u "allowSecurityManager"), (0, u "I"), (16, u "cons"), (0, u "Ljava/io/Console;"), (77, .class_ 110), (1, u "java/lang/System$CallersHolder"), (43, u "initialErrStream"), (0, u "Ljava/io/PrintStream;"), (19, u "security"), (0, u "Ljava/lang/SecurityManager;"), (31, .class_ 209), (0, u "java/lang/System$1"), (7, u "props"), (0, u "Ljava/util/Properties;"), (2, u "lineSeparator"), (0, u "Ljava/lang/String;"), (96, .class_ 321), (1, u "java/lang/System$LoggerFinder"), (5, .class_ 328), (0, u "java/lang/System$Logger"), (67, u "err"), (2, u "out"), (91, u "notSupportedJnuEncoding"), (15, u "in"), (17, u "initialIn"), (0, u "Ljava/io/InputStream;"), (35, u "bootLayer"), (0, u "Ljava/lang/ModuleLayer;"), (99, .class_ 664), (0, u "java/lang/System$2"), (9, u "NEVER"), (2, u "MAYBE"), (49, u "arraycopy"), (0, u "(Ljava/lang/Object;ILjava/lang/Object;II)V"), (72, .class_ 802), (0, u "java/lang/System$Logger$Level")] 31

def k15m0 : Method := { name := "<init>", desc := "()V", sig := { parameters := [], returnType := none }, accessFlags := 2, code := none }
def k15m1 : Method := { name := "arraycopy", desc := "(Ljava/lang/Object;ILjava/lang/Object;II)V", sig := { parameters := [(.object "java/lang/Object"), .int, (.object "java/lang/Object"), .int, .int], returnType := none }, accessFlags := 265, code := none }
/-- java/lang/System -/
def k15 : Class := { plain "java/lang/System" (some 0) with
  accessFlags := 49
  interfaces := #[]
  cf := some (fileOf pool15 8 #[.nestMembers #[319, 327, 801, 108, 663, 208]] #[{ accessFlags := 2, nameIndex := 5, descriptorIndex := 6, attributes := #[] }, { accessFlags := 265, nameIndex := 727, descriptorIndex := 728, attributes := #[] }] 49 2 #[] #[{ accessFlags := 25, nameIndex := 507, descriptorIndex := 526, attributes := #[] }, { accessFlags := 25, nameIndex := 399, descriptorIndex := 155, attributes := #[] }, { accessFlags := 25, nameIndex := 396, descriptorIndex := 155, attributes := #[] }, { accessFlags := 10, nameIndex := 525, descriptorIndex := 526, attributes := #[] }, { accessFlags := 26, nameIndex := 674, descriptorIndex := 12, attributes := #[] }, { accessFlags := 26, nameIndex := 677, descriptorIndex := 12, attributes := #[] }, { accessFlags := 10, nameIndex := 11, descriptorIndex := 12, attributes := #[] }, { accessFlags := 74, nameIndex := 175, descriptorIndex := 176, attributes := #[] }, { accessFlags := 10, nameIndex := 491, descriptorIndex := 222, attributes := #[] }, { accessFlags := 74, nameIndex := 29, descriptorIndex := 30, attributes := #[] }, { accessFlags := 74, nameIndex := 154, descriptorIndex := 155, attributes := #[] }, { accessFlags := 10, nameIndex := 217, descriptorIndex := 218, attributes := #[] }, { accessFlags := 10, nameIndex := 221, descriptorIndex := 222, attributes := #[] }, { accessFlags := 8, nameIndex := 562, descriptorIndex := 563, attributes := #[] }])
  fields := #[{ name := "in", type := (.object "java/io/InputStream"), accessFlags := 25, slot := 0, constantValue := 0 }, { name := "out", type := (.object "java/io/PrintStream"), accessFlags := 25, slot := 1, constantValue := 0 }, { name := "err", type := (.object "java/io/PrintStream"), accessFlags := 25, slot := 2, constantValue := 0 }, { name := "initialIn", type := (.object "java/io/InputStream"), accessFlags := 10, slot := 3, constantValue := 0 }, { name := "NEVER", type := .int, accessFlags := 26, slot := 4, constantValue := 0 }, { name := "MAYBE", type := .int, accessFlags := 26, slot := 5, constantValue := 0 }, { name := "allowSecurityManager", type := .int, accessFlags := 10, slot := 6, constantValue := 0 }, { name := "security", type := (.object "java/lang/SecurityManager"), accessFlags := 74, slot := 7, constantValue := 0 }, { name := "notSupportedJnuEncoding", type := (.object "java/lang/String"), accessFlags := 10, slot := 8, constantValue := 0 }, { name := "cons", type := (.object "java/io/Console"), accessFlags := 74, slot := 9, constantValue := 0 }, { name := "initialErrStream", type := (.object "java/io/PrintStream"), accessFlags := 74, slot := 10, constantValue := 0 }, { name := "props", type := (.object "java/util/Properties"), accessFlags := 10, slot := 11, constantValue := 0 }, { name := "lineSeparator", type := (.object "java/lang/String"), accessFlags := 10, slot := 12, constantValue := 0 }, { name := "bootLayer", type := (.object "java/lang/ModuleLayer"), accessFlags := 8, slot := 13, constantValue := 0 }]
  methods := #[k15m0, k15m1]
  instanceTypes := #[]
  staticTypes := #[(.object "java/io/InputStream"), (.object "java/io/PrintStream"), (.object "java/io/PrintStream"), (.object "java/io/InputStream"), .int, .int, .int, (.object "java/lang/SecurityManager"), (.object "java/lang/String"), (.object "java/io/Console"), (.object "java/io/PrintStream"), (.object "java/util/Properties"), (.object "java/lang/String"), (.object "java/lang/ModuleLayer")]
  resolved := Array.replicate 834 none
  statics := none }

def pool16 : Array CpInfo := pool [(2, .class_ 4), (1, u "java/lang/Object"), (0, u "<init>"), (0, u "()V"), (7, .class_ 16), (1, u "java/util/Arrays"), (57, .class_ 76), (1, u "java/util/Arrays$NaturalOrder"), (36, .class_ 115), (1, u "java/util/Arrays$LegacyMergeSort"), (1, u "Z"), (21, u "copyOfRange"), (10, .methodref 151 152), (0, .class_ 153), (0, .nameAndType 154 155), (0, u "java/lang/System"), (0, u "arraycopy"), (0, u "(Ljava/lang/Object;ILjava/lang/Object;II)V"), (148, .methodref 305 306), (0, .class_ 307), (0, .nameAndType 308 309), (0, u "java/lang/Math"), (0, u "min"), (0, u "(II)I"), (29, .methodref 14 340), (0, .nameAndType 341 342), (0, u "copyOfRangeByte"), (0, u "([BII)[B"), (0, .methodref 14 344), (0, .nameAndType 345 346), (0, u "checkLength"), (0, u "(II)V"), (28, .class_ 376), (0, u "java/util/Arrays$ArrayList"), (68, u "$assertionsDisabled"), (269, u "MIN_ARRAY_SORT_GRAN"), (0, u "I"), (2, u "INSERTIONSORT_THRESHOLD"), (255, .class_ 976), (0, u "java/util/Arrays$ArrayItr")] 52

def k16m0 : Method := { name := "<init>", desc := "()V", sig := { parameters := [], returnType := none }, accessFlags := 2, code := none }
def k16c1 : Code := { maxStack := 4, maxLocals := 2, code := jdk_65_method_131_code, exceptionTable := #[], attributes := #[] }
def k16m1 : Method := { name := "checkLength", desc := "(II)V", sig := { parameters := [.int, .int], returnType := none }, accessFlags := 10, code := some k16c1 }
def k16c2 : Code := { maxStack := 3, maxLocals := 3, code := jdk_65_method_132_code, exceptionTable := #[], attributes := #[] }
def k16m2 : Method := { name := "copyOfRange", desc := "([BII)[B", sig := { parameters := [(.array .byte), .int, .int], returnType := some (.array .byte) }, accessFlags := 9, code := some k16c2 }
def k16c3 : Code := { maxStack := 6, maxLocals := 5, code := jdk_65_method_133_code, exceptionTable := #[], attributes := #[] }
def k16m3 : Method := { name := "copyOfRangeByte", desc := "([BII)[B", sig := { parameters := [(.array .byte), .int, .int], returnType := some (.array .byte) }, accessFlags := 10, code := some k16c3 }
/-- java/util/Arrays -/
def k16 : Class := { plain "java/util/Arrays" (some 0) with
  accessFlags := 49
  interfaces := #[]
  cf := some (fileOf pool16 14 #[.nestMembers #[975, 375, 113, 74]] #[{ accessFlags := 2, nameIndex := 5, descriptorIndex := 6, attributes := #[] }, { accessFlags := 10, nameIndex := 345, descriptorIndex := 346, attributes := #[] }, { accessFlags := 9, nameIndex := 139, descriptorIndex := 342, attributes := #[] }, { accessFlags := 10, nameIndex := 341, descriptorIndex := 342, attributes := #[] }] 49 2 #[] #[{ accessFlags := 26, nameIndex := 715, descriptorIndex := 716, attributes := #[] }, { accessFlags := 26, nameIndex := 719, descriptorIndex := 716, attributes := #[] }, { accessFlags := 4120, nameIndex := 445, descriptorIndex := 117, attributes := #[] }])
  fields := #[{ name := "MIN_ARRAY_SORT_GRAN", type := .int, accessFlags := 26, slot := 0, constantValue := 0 }, { name := "INSERTIONSORT_THRESHOLD", type := .int, accessFlags := 26, slot := 1, constantValue := 0 }, { name := "$assertionsDisabled", type := .boolean, accessFlags := 4120, slot := 2, constantValue := 0 }]
  methods := #[k16m0, k16m1, k16m2, k16m3]
  instanceTypes := #[]
  staticTypes := #[.int, .int, .boolean]
  resolved := Array.replicate 1029 none
  statics := none }

def pool17 : Array CpInfo := pool [(1, .class_ 2), (0, u "java/lang/Math"), (1, .class_ 6), (1, u "java/lang/Object"), (0, u "<init>"), (0, u "()V"), (89, .class_ 100), (1, u "java/lang/Math$RandomNumberGeneratorHolder"), (71, u "negativeZeroFloatBits"), (0, u "J"), (2, u "negativeZeroDoubleBits"), (24, u "min"), (43, u "$assertionsDisabled"), (0, u "Z"), (88, u "(II)I"), (2, u "twoToTheDoubleScaleDown"), (0, u "D"), (4, u "twoToTheDoubleScaleUp"), (9, u "E"), (3, u "PI"), (2, u "TAU"), (2, u "DEGREES_TO_RADIANS"), (0, u "RADIANS_TO_DEGREES")] 94

def k17m0 : Method := { name := "<init>", desc := "()V", sig := { parameters := [], returnType := none }, accessFlags := 2, code := none }
def k17c1 : Code := { maxStack := 2, maxLocals := 2, code := jdk_29_method_69_code, exceptionTable := #[], attributes := #[] }
def k17m1 : Method := { name := "min", desc := "(II)I", sig := { parameters := [.int, .int], returnType := some .int }, accessFlags := 9, code := some k17c1 }
/-- java/lang/Math -/
def k17 : Class := { plain "java/lang/Math" (some 0) with
  accessFlags := 49
  interfaces := #[]
  cf := some (fileOf pool17 1 #[.nestMembers #[98]] #[{ accessFlags := 2, nameIndex := 7, descriptorIndex := 8, attributes := #[] }, { accessFlags := 9, nameIndex := 201, descriptorIndex := 335, attributes := #[] }] 49 4 #[] #[{ accessFlags := 25, nameIndex := 354, descriptorIndex := 339, attributes := #[] }, { accessFlags := 25, nameIndex := 358, descriptorIndex := 339, attributes := #[] }, { accessFlags := 25, nameIndex := 361, descriptorIndex := 339, attributes := #[] }, { accessFlags := 26, nameIndex := 364, descriptorIndex := 339, attributes := #[] }, { accessFlags := 26, nameIndex := 365, descriptorIndex := 339, attributes := #[] }, { accessFlags := 26, nameIndex := 172, descriptorIndex := 173, attributes := #[] }, { accessFlags := 26, nameIndex := 176, descriptorIndex := 173, attributes := #[] }, { accessFlags := 8, nameIndex := 344, descriptorIndex := 339, attributes := #[] }, { accessFlags := 8, nameIndex := 338, descriptorIndex := 339, attributes := #[] }, { accessFlags := 4120, nameIndex := 245, descriptorIndex := 246, attributes := #[] }])
  fields := #[{ name := "E", type := .double, accessFlags := 25, slot := 0, constantValue := 0 }, { name := "PI", type := .double, accessFlags := 25, slot := 1, constantValue := 0 }, { name := "TAU", type := .double, accessFlags := 25, slot := 2, constantValue := 0 }, { name := "DEGREES_TO_RADIANS", type := .double, accessFlags := 26, slot := 3, constantValue := 0 }, { name := "RADIANS_TO_DEGREES", type := .double, accessFlags := 26, slot := 4, constantValue := 0 }, { name := "negativeZeroFloatBits", type := .long, accessFlags := 26, slot := 5, constantValue := 0 }, { name := "negativeZeroDoubleBits", type := .long, accessFlags := 26, slot := 6, constantValue := 0 }, { name := "twoToTheDoubleScaleUp", type := .double, accessFlags := 8, slot := 7, constantValue := 0 }, { name := "twoToTheDoubleScaleDown", type := .double, accessFlags := 8, slot := 8, constantValue := 0 }, { name := "$assertionsDisabled", type := .boolean, accessFlags := 4120, slot := 9, constantValue := 0 }]
  methods := #[k17m0, k17m1]
  instanceTypes := #[]
  staticTypes := #[.double, .double, .double, .double, .double, .long, .long, .double, .double, .boolean]
  resolved := Array.replicate 460 none
  statics := none }

def pool18 : Array CpInfo := pool [(1, .class_ 2), (0, u "java/lang/String"), (1, .class_ 6), (1, u "java/lang/Object"), (0, u "<init>"), (0, u "()V"), (0, .methodref 1 10), (0, .nameAndType 11 12), (0, u "checkIndex"), (0, u "(II)V"), (1, .class_ 16), (1, u "java/lang/StringLatin1"), (36, u "([BI)C"), (67, u "$assertionsDisabled"), (0, u "Z"), (98, .class_ 223), (1, u "java/lang/StringLatin1$LinesSpliterator"), (28, u "charAt"), (137, .class_ 391), (0, u "java/lang/StringLatin1$CharsSpliterator")] 3

def k18m0 : Method := { name := "<init>", desc := "()V", sig := { parameters := [], returnType := none }, accessFlags := 0, code := none }
def k18c1 : Code := { maxStack := 2, maxLocals := 2, code := jdk_43_method_2_code, exceptionTable := #[], attributes := #[] }
def k18m1 : Method := { name := "charAt", desc := "([BI)C", sig := { parameters := [(.array .byte), .int], returnType := some .char }, accessFlags := 9, code := some k18c1 }
/-- java/lang/StringLatin1 -/
def k18 : Class := { plain "java/lang/StringLatin1" (some 0) with
  accessFlags := 48
  interfaces := #[]
  cf := some (fileOf pool18 14 #[.nestMembers #[390, 221]] #[{ accessFlags := 0, nameIndex := 7, descriptorIndex := 8, attributes := #[] }, { accessFlags := 9, nameIndex := 252, descriptorIndex := 53, attributes := #[] }] 48 4 #[] #[{ accessFlags := 4120, nameIndex := 121, descriptorIndex := 122, attributes := #[] }])
  fields := #[{ name := "$assertionsDisabled", type := .boolean, accessFlags := 4120, slot := 0, constantValue := 0 }]
  methods := #[k18m0, k18m1]
  instanceTypes := #[]
  staticTypes := #[.boolean]
  resolved := Array.replicate 395 none
  statics := none }

def pool19 : Array CpInfo := pool [(2, .class_ 4), (1, u "java/lang/Object"), (0, u "<init>"), (0, u "()V"), (17, .class_ 26), (1, u "jdk/internal/util/Preconditions"), (6, u "checkIndex"), (21, .class_ 56), (0, u "jdk/internal/util/Preconditions$4"), (57, .class_ 115), (0, u "jdk/internal/util/Preconditions$1"), (7, u "SIOOBE_FORMATTER"), (0, u "Ljava/util/function/BiFunction;"), (0, .class_ 126), (0, u "jdk/internal/util/Preconditions$2"), (3, u "AIOOBE_FORMATTER"), (0, .class_ 132), (0, u "jdk/internal/util/Preconditions$3"), (3, u "IOOBE_FORMATTER"), (41, u "(IILjava/util/function/BiFunction;)I")] 15

def k19m0 : Method := { name := "<init>", desc := "()V", sig := { parameters := [], returnType := none }, accessFlags := 1, code := none }
def k19c1 : Code := { maxStack := 3, maxLocals := 3, code := jdk_41_method_11_code, exceptionTable := #[], attributes := #[] }
def k19m1 : Method := { name := "checkIndex", desc := "(IILjava/util/function/BiFunction;)I", sig := { parameters := [.int, .int, (.object "java/util/function/BiFunction")], returnType := some .int }, accessFlags := 9, code := some k19c1 }
/-- jdk/internal/util/Preconditions -/
def k19 : Class := { plain "jdk/internal/util/Preconditions" (some 0) with
  accessFlags := 33
  interfaces := #[]
  cf := some (fileOf pool19 24 #[.nestMembers #[55, 131, 125, 114]] #[{ accessFlags := 1, nameIndex := 5, descriptorIndex := 6, attributes := #[] }, { accessFlags := 9, nameIndex := 33, descriptorIndex := 178, attributes := #[] }] 33 2 #[] #[{ accessFlags := 25, nameIndex := 123, descriptorIndex := 124, attributes := #[] }, { accessFlags := 25, nameIndex := 130, descriptorIndex := 124, attributes := #[] }, { accessFlags := 25, nameIndex := 136, descriptorIndex := 124, attributes := #[] }])
  fields := #[{ name := "SIOOBE_FORMATTER", type := (.object "java/util/function/BiFunction"), accessFlags := 25, slot := 0, constantValue := 0 }, { name := "AIOOBE_FORMATTER", type := (.object "java/util/function/BiFunction"), accessFlags := 25, slot := 1, constantValue := 0 }, { name := "IOOBE_FORMATTER", type := (.object "java/util/function/BiFunction"), accessFlags := 25, slot := 2, constantValue := 0 }]
  methods := #[k19m0, k19m1]
  instanceTypes := #[]
  staticTypes := #[(.object "java/util/function/BiFunction"), (.object "java/util/function/BiFunction"), (.object "java/util/function/BiFunction")]
  resolved := Array.replicate 194 none
  statics := some 1 }

def pool20 : Array CpInfo := pool [(9, u "<init>"), (6, .class_ 18), (1, u "java/lang/Object"), (0, u "()V"), (1, .class_ 23), (1, u "jdk/internal/util/ArraysSupport"), (0, u "LOG2_ARRAY_LONG_INDEX_SCALE"), (0, u "I"), (2, u "U"), (0, u "Ljdk/internal/misc/Unsafe;"), (8, u "BIG_ENDIAN"), (0, u "Z"), (8, u "LOG2_BYTE_BIT_SIZE"), (4, u "LOG2_ARRAY_INT_INDEX_SCALE"), (54, u "JLA"), (0, u "Ljdk/internal/access/JavaLangAccess;"), (11, u "LOG2_ARRAY_BOOLEAN_INDEX_SCALE"), (9, u "LOG2_ARRAY_BYTE_INDEX_SCALE"), (5, u "LOG2_ARRAY_CHAR_INDEX_SCALE"), (5, u "LOG2_ARRAY_SHORT_INDEX_SCALE"), (18, u "LOG2_ARRAY_FLOAT_INDEX_SCALE"), (24, u "LOG2_ARRAY_DOUBLE_INDEX_SCALE"), (89, u "T_BOOLEAN"), (2, u "T_CHAR"), (1, u "T_FLOAT"), (1, u "T_DOUBLE"), (1, u "T_BYTE"), (1, u "T_SHORT"), (1, u "T_INT"), (1, u "T_LONG"), (1, u "SOFT_MAX_ARRAY_LENGTH")] 83

def k20m0 : Method := { name := "<init>", desc := "()V", sig := { parameters := [], returnType := none }, accessFlags := 2, code := none }
/-- jdk/internal/util/ArraysSupport -/
def k20 : Class := { plain "jdk/internal/util/ArraysSupport" (some 0) with
  accessFlags := 33
  interfaces := #[]
  cf := some (fileOf pool20 21 #[] #[{ accessFlags := 2, nameIndex := 9, descriptorIndex := 19, attributes := #[] }] 33 16 #[] #[{ accessFlags := 24, nameIndex := 28, descriptorIndex := 29, attributes := #[] }, { accessFlags := 26, nameIndex := 38, descriptorIndex := 39, attributes := #[] }, { accessFlags := 25, nameIndex := 121, descriptorIndex := 25, attributes := #[] }, { accessFlags := 25, nameIndex := 131, descriptorIndex := 25, attributes := #[] }, { accessFlags := 25, nameIndex := 137, descriptorIndex := 25, attributes := #[] }, { accessFlags := 25, nameIndex := 143, descriptorIndex := 25, attributes := #[] }, { accessFlags := 25, nameIndex := 53, descriptorIndex := 25, attributes := #[] }, { accessFlags := 25, nameIndex := 24, descriptorIndex := 25, attributes := #[] }, { accessFlags := 25, nameIndex := 162, descriptorIndex := 25, attributes := #[] }, { accessFlags := 25, nameIndex := 187, descriptorIndex := 25, attributes := #[] }, { accessFlags := 26, nameIndex := 48, descriptorIndex := 25, attributes := #[] }, { accessFlags := 25, nameIndex := 277, descriptorIndex := 25, attributes := #[] }, { accessFlags := 25, nameIndex := 280, descriptorIndex := 25, attributes := #[] }, { accessFlags := 25, nameIndex := 282, descriptorIndex := 25, attributes := #[] }, { accessFlags := 25, nameIndex := 284, descriptorIndex := 25, attributes := #[] }, { accessFlags := 25, nameIndex := 286, descriptorIndex := 25, attributes := #[] }, { accessFlags := 25, nameIndex := 288, descriptorIndex := 25, attributes := #[] }, { accessFlags := 25, nameIndex := 290, descriptorIndex := 25, attributes := #[] }, { accessFlags := 25, nameIndex := 292, descriptorIndex := 25, attributes := #[] }, { accessFlags := 26, nameIndex := 108, descriptorIndex := 109, attributes := #[] }, { accessFlags := 25, nameIndex := 294, descriptorIndex := 25, attributes := #[] }])
  fields := #[{ name := "U", type := (.object "jdk/internal/misc/Unsafe"), accessFlags := 24, slot := 0, constantValue := 0 }, { name := "BIG_ENDIAN", type := .boolean, accessFlags := 26, slot := 1, constantValue := 0 }, { name := "LOG2_ARRAY_BOOLEAN_INDEX_SCALE", type := .int, accessFlags := 25, slot := 2, constantValue := 0 }, { name := "LOG2_ARRAY_BYTE_INDEX_SCALE", type := .int, accessFlags := 25, slot := 3, constantValue := 0 }, { name := "LOG2_ARRAY_CHAR_INDEX_SCALE", type := .int, accessFlags := 25, slot := 4, constantValue := 0 }, { name := "LOG2_ARRAY_SHORT_INDEX_SCALE", type := .int, accessFlags := 25, slot := 5, constantValue := 0 }, { name := "LOG2_ARRAY_INT_INDEX_SCALE", type := .int, accessFlags := 25, slot := 6, constantValue := 0 }, { name := "LOG2_ARRAY_LONG_INDEX_SCALE", type := .int, accessFlags := 25, slot := 7, constantValue := 0 }, { name := "LOG2_ARRAY_FLOAT_INDEX_SCALE", type := .int, accessFlags := 25, slot := 8, constantValue := 0 }, { name := "LOG2_ARRAY_DOUBLE_INDEX_SCALE", type := .int, accessFlags := 25, slot := 9, constantValue := 0 }, { name := "LOG2_BYTE_BIT_SIZE", type := .int, accessFlags := 26, slot := 10, constantValue := 0 }, { name := "T_BOOLEAN", type := .int, accessFlags := 25, slot := 11, constantValue := 0 }, { name := "T_CHAR", type := .int, accessFlags := 25, slot := 12, constantValue := 0 }, { name := "T_FLOAT", type := .int, accessFlags := 25, slot := 13, constantValue := 0 }, { name := "T_DOUBLE", type := .int, accessFlags := 25, slot := 14, constantValue := 0 }, { name := "T_BYTE", type := .int, accessFlags := 25, slot := 15, constantValue := 0 }, { name := "T_SHORT", type := .int, accessFlags := 25, slot := 16, constantValue := 0 }, { name := "T_INT", type := .int, accessFlags := 25, slot := 17, constantValue := 0 }, { name := "T_LONG", type := .int, accessFlags := 25, slot := 18, constantValue := 0 }, { name := "JLA", type := (.object "jdk/internal/access/JavaLangAccess"), accessFlags := 26, slot := 19, constantValue := 0 }, { name := "SOFT_MAX_ARRAY_LENGTH", type := .int, accessFlags := 25, slot := 20, constantValue := 0 }]
  methods := #[k20m0]
  instanceTypes := #[]
  staticTypes := #[(.object "jdk/internal/misc/Unsafe"), .boolean, .int, .int, .int, .int, .int, .int, .int, .int, .int, .int, .int, .int, .int, .int, .int, .int, .int, (.object "jdk/internal/access/JavaLangAccess"), .int]
  resolved := Array.replicate 378 none
  statics := none }

def pool21 : Array CpInfo := pool [(1, u "java/lang/Cloneable"), (0, .class_ 1), (0, u "java/lang/Object"), (0, .class_ 3)] 3

/-- java/lang/Cloneable -/
def k21 : Class := { plain "java/lang/Cloneable" (some 0) with
  accessFlags := 1537
  interfaces := #[]
  cf := some (fileOf pool21 2 #[] #[] 1537 4 #[] #[])
  fields := #[]
  methods := #[]
  instanceTypes := #[]
  staticTypes := #[]
  resolved := Array.replicate 8 none
  statics := none }

/-- the primitive byte -/
def k22 : Class := { plain "byte" none with kind := .primitive 'B', accessFlags := 0x411 }
/-- [B -/
def k23 : Class := { plain "[B" (some 0) with kind := .array 22 .byte, interfaces := #[21, 2], accessFlags := 1041 }

/-- the primitive char -/
def k24 : Class := { plain "char" none with kind := .primitive 'C', accessFlags := 0x411 }
/-- [C -/
def k25 : Class := { plain "[C" (some 0) with kind := .array 24 .char, interfaces := #[21, 2], accessFlags := 1041 }

/-- the primitive int -/
def k26 : Class := { plain "int" none with kind := .primitive 'I', accessFlags := 0x411 }
/-- [I -/
def k27 : Class := { plain "[I" (some 0) with kind := .array 26 .int, interfaces := #[21, 2], accessFlags := 1041 }

def heap : Heap := #[{ cls := 7, slots := #[.long 0, .int 1, .null, .int 0, .null, .int 0, .int 0], vm := .statics 7 },
  { cls := 19, slots := #[.null, .null, .null], vm := .statics 19 }]
def classes : Array Class := #[k0, k1, k2, k3, k4, k5, k6, k7, k8, k9, k10, k11, k12, k13, k14, k15, k16, k17, k18, k19, k20, k21, k22, k23, k24, k25, k26, k27]
def interned : List (Array UInt16 × Addr) := []
def slotsUsed : Nat := 10
def theMethod : MethodId := ⟨1, 1⟩
def args0 : Array Value := #[.int 5, .int 5, .int 5]
def aboutOver (below : List Frame) : State where
  vm := { classes := classes, interned := interned.toArray }
  heap := heap
  slotsUsed := slotsUsed
  threads := #[{ frames := .invoking theMethod args0 :: below }]
def below0 : List Frame := [.native { method := ⟨0, 0⟩, args := #[] }]
def about1 : State := aboutOver below0
def p0 : Program := .bare "" "" ""
def e0 : Env := launch0.env 0 0 0
theorem w_frames : about1.frames = Frame.invoking theMethod args0 :: below0 := rfl
set_option maxRecDepth 65536 in
theorem w_args : argsFit about1.vm theMethod args0 = true := by decide +kernel
set_option maxRecDepth 65536 in
theorem w_heap : heapFits about1 = true := by decide +kernel
set_option maxRecDepth 65536 in
theorem w_runnable : about1.curStatus? = some .runnable := by decide +kernel
set_option maxRecDepth 65536 in
theorem w_alone : about1.alone = true := by decide +kernel
set_option maxRecDepth 65536 in
theorem w_named : about1.methodNamed? x = some theMethod := by decide +kernel
set_option maxRecDepth 65536 in
theorem w_hears : about1.hears theMethod below0 = true := by decide +kernel
set_option maxRecDepth 65536 in
theorem w_ripe : about1.ripe theMethod args0 below0 = true := by decide +kernel
theorem w_running : about1.status = .running := rfl
set_option maxRecDepth 65536 in
theorem w_room : about1.hasRoom e0.platform room_1 = true :=
  launch0.hasRoom_least _ room_1 (by decide +kernel) (by decide +kernel) (by decide +kernel) (by decide +kernel) (by decide +kernel) (by decide +kernel)
theorem allAtoms_all (ts : List Jvm.Cond) (a : Array Jvm.Value) (st : Jvm.State) : (allAtoms ts).before a st = ts.all (fun c => c.before a st) := by
  induction ts with
  | nil => rfl
  | cons c t ih =>
    show (Jvm.Cond.and c (allAtoms t)).before a st = _
    rw [Jvm.Cond.before_and, ih, List.all_cons]
def words1 : List Jvm.Cond := Jvm.Cond.code x code maxLocals ret :: tables_1
/-- a 'code' word, met by the world's own term for the bytes: nothing is compared byte by byte -/
theorem code_word {y : MethodName} {bytes : ByteArray} {mx : Nat} {rt : Option FieldType} {a : Array Value} {s : State} {m : MethodId} {meth : Method} {c : Code} (h1 : s.methodNamed? y = some m) (h2 : s.vm.method? m = some meth) (h3 : meth.code = some c) (h4 : c.code = bytes)
    (h5 : (c.maxLocals == mx && c.exceptionTable.isEmpty && decide (c.maxStack ≤ mostOperands) && decide (meth.sig.returnType = rt) && !meth.locks && decide (parseMethodDescriptor y.desc = some meth.sig)) = true) : (Jvm.Cond.code y bytes mx rt).before a s = true := by
  simp only [Bool.and_eq_true, beq_iff_eq, Bool.not_eq_true', decide_eq_true_eq] at h5
  obtain ⟨⟨⟨⟨⟨g1, g2⟩, g3⟩, g4⟩, g5⟩, g6⟩ := h5
  simp [Cond.before, Cond.holds, Cond.value, h1, h2, h3, h4, g1, g2, g3, g4, g5, g6]
def isCode : Jvm.Cond → Bool
  | .code _ _ _ _ => true
  | _ => false
theorem all_split {L : List Jvm.Cond} {P : Jvm.Cond → Bool} (h1 : L.all (fun c => isCode c || P c) = true) (h2 : ∀ c ∈ L.filter isCode, P c = true) : L.all P = true := by
  refine List.all_eq_true.mpr fun c hc => ?_
  have h := List.all_eq_true.mp h1 c hc
  rcases Bool.eq_false_or_eq_true (isCode c) with hi | hi
  · exact h2 c (List.mem_filter.mpr ⟨hc, hi⟩)
  · simpa [hi] using h
set_option maxRecDepth 65536 in
theorem w_c0 : (Jvm.Cond.code x code maxLocals ret).before args0 about1 = true := code_word (m := ⟨1, 1⟩) (meth := k1m1) (c := k1c1) (by decide +kernel) rfl rfl rfl (by decide +kernel)
set_option maxRecDepth 65536 in
theorem w_c1 : (Jvm.Cond.code ({ cls := "com/example/lendloop/lendloop/core/PatronRefToStringPinLaw", name := "mk", desc := "(ICC)Ljava/lang/String;" } : Jvm.MethodName) method_3_code (3 : Nat) (Option.some (Jvm.ClassFile.FieldType.object "java/lang/String"))).before args0 about1 = true := code_word (m := ⟨1, 2⟩) (meth := k1m2) (c := k1c2) (by decide +kernel) rfl rfl rfl (by decide +kernel)
set_option maxRecDepth 65536 in
theorem w_c2 : (Jvm.Cond.code ({ cls := "java/lang/String", name := "<init>", desc := "([C)V" } : Jvm.MethodName) jdk_42_method_3_code (2 : Nat) (Option.none : Option Jvm.ClassFile.FieldType)).before args0 about1 = true := code_word (m := ⟨7, 1⟩) (meth := k7m1) (c := k7c1) (by decide +kernel) rfl rfl rfl (by decide +kernel)
set_option maxRecDepth 65536 in
theorem w_c3 : (Jvm.Cond.code ({ cls := "java/lang/String", name := "<init>", desc := "([CIILjava/lang/Void;)V" } : Jvm.MethodName) jdk_42_method_149_code (6 : Nat) (Option.none : Option Jvm.ClassFile.FieldType)).before args0 about1 = true := code_word (m := ⟨7, 6⟩) (meth := k7m6) (c := k7c6) (by decide +kernel) rfl rfl rfl (by decide +kernel)
set_option maxRecDepth 65536 in
theorem w_c4 : (Jvm.Cond.code ({ cls := "java/lang/Object", name := "<init>", desc := "()V" } : Jvm.MethodName) object_method_1_code (1 : Nat) (Option.none : Option Jvm.ClassFile.FieldType)).before args0 about1 = true := code_word (m := ⟨0, 0⟩) (meth := k0m0) (c := k0c0) (by decide +kernel) rfl rfl rfl (by decide +kernel)
set_option maxRecDepth 65536 in
theorem w_c5 : (Jvm.Cond.code ({ cls := "java/lang/StringUTF16", name := "compress", desc := "([CII)[B" } : Jvm.MethodName) jdk_52_method_16_code (6 : Nat) (Option.some (Jvm.ClassFile.FieldType.array Jvm.ClassFile.FieldType.byte))).before args0 about1 = true := code_word (m := ⟨8, 2⟩) (meth := k8m2) (c := k8c2) (by decide +kernel) rfl rfl rfl (by decide +kernel)
set_option maxRecDepth 65536 in
theorem w_c6 : (Jvm.Cond.code ({ cls := "java/lang/StringUTF16", name := "compress", desc := "([CI[BII)I" } : Jvm.MethodName) jdk_52_method_21_code (7 : Nat) (Option.some Jvm.ClassFile.FieldType.int)).before args0 about1 = true := code_word (m := ⟨8, 3⟩) (meth := k8m3) (c := k8c3) (by decide +kernel) rfl rfl rfl (by decide +kernel)
set_option maxRecDepth 65536 in
theorem w_c7 : (Jvm.Cond.code ({ cls := "java/lang/StringUTF16", name := "coderFromArrayLen", desc := "([BI)B" } : Jvm.MethodName) jdk_52_method_15_code (2 : Nat) (Option.some Jvm.ClassFile.FieldType.byte)).before args0 about1 = true := code_word (m := ⟨8, 1⟩) (meth := k8m1) (c := k8c1) (by decide +kernel) rfl rfl rfl (by decide +kernel)
set_option maxRecDepth 65536 in
theorem w_c8 : (Jvm.Cond.code ({ cls := "com/example/lendloop/lendloop/core/PatronRef", name := "<init>", desc := "(Ljava/lang/String;Ljava/lang/String;)V" } : Jvm.MethodName) prog_24_method_1_code (3 : Nat) (Option.none : Option Jvm.ClassFile.FieldType)).before args0 about1 = true := code_word (m := ⟨10, 0⟩) (meth := k10m0) (c := k10c0) (by decide +kernel) rfl rfl rfl (by decide +kernel)
set_option maxRecDepth 65536 in
theorem w_c9 : (Jvm.Cond.code ({ cls := "java/lang/Record", name := "<init>", desc := "()V" } : Jvm.MethodName) jdk_30_method_1_code (1 : Nat) (Option.none : Option Jvm.ClassFile.FieldType)).before args0 about1 = true := code_word (m := ⟨9, 0⟩) (meth := k9m0) (c := k9c0) (by decide +kernel) rfl rfl rfl (by decide +kernel)
set_option maxRecDepth 65536 in
theorem w_c10 : (Jvm.Cond.code ({ cls := "java/util/Objects", name := "requireNonNull", desc := "(Ljava/lang/Object;Ljava/lang/String;)Ljava/lang/Object;" } : Jvm.MethodName) jdk_31_method_11_code (2 : Nat) (Option.some (Jvm.ClassFile.FieldType.object "java/lang/Object"))).before args0 about1 = true := code_word (m := ⟨11, 1⟩) (meth := k11m1) (c := k11c1) (by decide +kernel) rfl rfl rfl (by decide +kernel)
set_option maxRecDepth 65536 in
theorem w_c11 : (Jvm.Cond.code ({ cls := "com/example/lendloop/lendloop/core/PatronRef", name := "toString", desc := "()Ljava/lang/String;" } : Jvm.MethodName) prog_24_method_2_code (1 : Nat) (Option.some (Jvm.ClassFile.FieldType.object "java/lang/String"))).before args0 about1 = true := code_word (m := ⟨10, 1⟩) (meth := k10m1) (c := k10c1) (by decide +kernel) rfl rfl rfl (by decide +kernel)
set_option maxRecDepth 65536 in
theorem w_c12 : (Jvm.Cond.code ({ cls := "java/lang/StringBuilder", name := "<init>", desc := "()V" } : Jvm.MethodName) jdk_67_method_1_code (1 : Nat) (Option.none : Option Jvm.ClassFile.FieldType)).before args0 about1 = true := code_word (m := ⟨14, 0⟩) (meth := k14m0) (c := k14c0) (by decide +kernel) rfl rfl rfl (by decide +kernel)
set_option maxRecDepth 65536 in
theorem w_c13 : (Jvm.Cond.code ({ cls := "java/lang/AbstractStringBuilder", name := "<init>", desc := "(I)V" } : Jvm.MethodName) jdk_68_method_2_code (2 : Nat) (Option.none : Option Jvm.ClassFile.FieldType)).before args0 about1 = true := code_word (m := ⟨13, 1⟩) (meth := k13m1) (c := k13c1) (by decide +kernel) rfl rfl rfl (by decide +kernel)
set_option maxRecDepth 65536 in
theorem w_c14 : (Jvm.Cond.code ({ cls := "java/lang/StringBuilder", name := "append", desc := "(Ljava/lang/String;)Ljava/lang/StringBuilder;" } : Jvm.MethodName) jdk_67_method_7_code (2 : Nat) (Option.some (Jvm.ClassFile.FieldType.object "java/lang/StringBuilder"))).before args0 about1 = true := code_word (m := ⟨14, 1⟩) (meth := k14m1) (c := k14c1) (by decide +kernel) rfl rfl rfl (by decide +kernel)
set_option maxRecDepth 65536 in
theorem w_c15 : (Jvm.Cond.code ({ cls := "java/lang/AbstractStringBuilder", name := "append", desc := "(Ljava/lang/String;)Ljava/lang/AbstractStringBuilder;" } : Jvm.MethodName) jdk_68_method_22_code (3 : Nat) (Option.some (Jvm.ClassFile.FieldType.object "java/lang/AbstractStringBuilder"))).before args0 about1 = true := code_word (m := ⟨13, 4⟩) (meth := k13m4) (c := k13c4) (by decide +kernel) rfl rfl rfl (by decide +kernel)
set_option maxRecDepth 65536 in
theorem w_c16 : (Jvm.Cond.code ({ cls := "java/lang/String", name := "length", desc := "()I" } : Jvm.MethodName) jdk_42_method_54_code (1 : Nat) (Option.some Jvm.ClassFile.FieldType.int)).before args0 about1 = true := code_word (m := ⟨7, 3⟩) (meth := k7m3) (c := k7c3) (by decide +kernel) rfl rfl rfl (by decide +kernel)
set_option maxRecDepth 65536 in
theorem w_c17 : (Jvm.Cond.code ({ cls := "java/lang/String", name := "coder", desc := "()B" } : Jvm.MethodName) jdk_42_method_152_code (1 : Nat) (Option.some Jvm.ClassFile.FieldType.byte)).before args0 about1 = true := code_word (m := ⟨7, 8⟩) (meth := k7m8) (c := k7c8) (by decide +kernel) rfl rfl rfl (by decide +kernel)
set_option maxRecDepth 65536 in
theorem w_c18 : (Jvm.Cond.code ({ cls := "java/lang/AbstractStringBuilder", name := "ensureCapacityInternal", desc := "(I)V" } : Jvm.MethodName) jdk_68_method_9_code (3 : Nat) (Option.none : Option Jvm.ClassFile.FieldType)).before args0 about1 = true := code_word (m := ⟨13, 3⟩) (meth := k13m3) (c := k13c3) (by decide +kernel) rfl rfl rfl (by decide +kernel)
set_option maxRecDepth 65536 in
theorem w_c19 : (Jvm.Cond.code ({ cls := "java/lang/AbstractStringBuilder", name := "putStringAt", desc := "(ILjava/lang/String;)V" } : Jvm.MethodName) jdk_68_method_73_code (3 : Nat) (Option.none : Option Jvm.ClassFile.FieldType)).before args0 about1 = true := code_word (m := ⟨13, 8⟩) (meth := k13m8) (c := k13c8) (by decide +kernel) rfl rfl rfl (by decide +kernel)
set_option maxRecDepth 65536 in
theorem w_c20 : (Jvm.Cond.code ({ cls := "java/lang/AbstractStringBuilder", name := "inflateIfNeededFor", desc := "(Ljava/lang/String;)V" } : Jvm.MethodName) jdk_68_method_71_code (2 : Nat) (Option.none : Option Jvm.ClassFile.FieldType)).before args0 about1 = true := code_word (m := ⟨13, 7⟩) (meth := k13m7) (c := k13c7) (by decide +kernel) rfl rfl rfl (by decide +kernel)
set_option maxRecDepth 65536 in
theorem w_c21 : (Jvm.Cond.code ({ cls := "java/lang/String", name := "getBytes", desc := "([BIB)V" } : Jvm.MethodName) jdk_42_method_147_code (4 : Nat) (Option.none : Option Jvm.ClassFile.FieldType)).before args0 about1 = true := code_word (m := ⟨7, 5⟩) (meth := k7m5) (c := k7c5) (by decide +kernel) rfl rfl rfl (by decide +kernel)
set_option maxRecDepth 65536 in
theorem w_c22 : (Jvm.Cond.code ({ cls := "java/lang/StringBuilder", name := "toString", desc := "()Ljava/lang/String;" } : Jvm.MethodName) jdk_67_method_42_code (1 : Nat) (Option.some (Jvm.ClassFile.FieldType.object "java/lang/String"))).before args0 about1 = true := code_word (m := ⟨14, 2⟩) (meth := k14m2) (c := k14c2) (by decide +kernel) rfl rfl rfl (by decide +kernel)
set_option maxRecDepth 65536 in
theorem w_c23 : (Jvm.Cond.code ({ cls := "java/lang/String", name := "<init>", desc := "(Ljava/lang/StringBuilder;)V" } : Jvm.MethodName) jdk_42_method_53_code (2 : Nat) (Option.none : Option Jvm.ClassFile.FieldType)).before args0 about1 = true := code_word (m := ⟨7, 2⟩) (meth := k7m2) (c := k7c2) (by decide +kernel) rfl rfl rfl (by decide +kernel)
set_option maxRecDepth 65536 in
theorem w_c24 : (Jvm.Cond.code ({ cls := "java/lang/String", name := "<init>", desc := "(Ljava/lang/AbstractStringBuilder;Ljava/lang/Void;)V" } : Jvm.MethodName) jdk_42_method_150_code (5 : Nat) (Option.none : Option Jvm.ClassFile.FieldType)).before args0 about1 = true := code_word (m := ⟨7, 7⟩) (meth := k7m7) (c := k7c7) (by decide +kernel) rfl rfl rfl (by decide +kernel)
set_option maxRecDepth 65536 in
theorem w_c25 : (Jvm.Cond.code ({ cls := "java/lang/AbstractStringBuilder", name := "getValue", desc := "()[B" } : Jvm.MethodName) jdk_68_method_64_code (1 : Nat) (Option.some (Jvm.ClassFile.FieldType.array Jvm.ClassFile.FieldType.byte))).before args0 about1 = true := code_word (m := ⟨13, 5⟩) (meth := k13m5) (c := k13c5) (by decide +kernel) rfl rfl rfl (by decide +kernel)
set_option maxRecDepth 65536 in
theorem w_c26 : (Jvm.Cond.code ({ cls := "java/lang/StringBuilder", name := "length", desc := "()I" } : Jvm.MethodName) jdk_67_method_93_code (1 : Nat) (Option.some Jvm.ClassFile.FieldType.int)).before args0 about1 = true := code_word (m := ⟨14, 3⟩) (meth := k14m3) (c := k14c3) (by decide +kernel) rfl rfl rfl (by decide +kernel)
set_option maxRecDepth 65536 in
theorem w_c27 : (Jvm.Cond.code ({ cls := "java/lang/AbstractStringBuilder", name := "length", desc := "()I" } : Jvm.MethodName) jdk_68_method_6_code (1 : Nat) (Option.some Jvm.ClassFile.FieldType.int)).before args0 about1 = true := code_word (m := ⟨13, 2⟩) (meth := k13m2) (c := k13c2) (by decide +kernel) rfl rfl rfl (by decide +kernel)
set_option maxRecDepth 65536 in
theorem w_c28 : (Jvm.Cond.code ({ cls := "java/lang/AbstractStringBuilder", name := "isLatin1", desc := "()Z" } : Jvm.MethodName) jdk_68_method_68_code (1 : Nat) (Option.some Jvm.ClassFile.FieldType.boolean)).before args0 about1 = true := code_word (m := ⟨13, 6⟩) (meth := k13m6) (c := k13c6) (by decide +kernel) rfl rfl rfl (by decide +kernel)
set_option maxRecDepth 65536 in
theorem w_c29 : (Jvm.Cond.code ({ cls := "java/util/Arrays", name := "copyOfRange", desc := "([BII)[B" } : Jvm.MethodName) jdk_65_method_132_code (3 : Nat) (Option.some (Jvm.ClassFile.FieldType.array Jvm.ClassFile.FieldType.byte))).before args0 about1 = true := code_word (m := ⟨16, 2⟩) (meth := k16m2) (c := k16c2) (by decide +kernel) rfl rfl rfl (by decide +kernel)
set_option maxRecDepth 65536 in
theorem w_c30 : (Jvm.Cond.code ({ cls := "java/util/Arrays", name := "copyOfRangeByte", desc := "([BII)[B" } : Jvm.MethodName) jdk_65_method_133_code (5 : Nat) (Option.some (Jvm.ClassFile.FieldType.array Jvm.ClassFile.FieldType.byte))).before args0 about1 = true := code_word (m := ⟨16, 3⟩) (meth := k16m3) (c := k16c3) (by decide +kernel) rfl rfl rfl (by decide +kernel)
set_option maxRecDepth 65536 in
theorem w_c31 : (Jvm.Cond.code ({ cls := "java/util/Arrays", name := "checkLength", desc := "(II)V" } : Jvm.MethodName) jdk_65_method_131_code (2 : Nat) (Option.none : Option Jvm.ClassFile.FieldType)).before args0 about1 = true := code_word (m := ⟨16, 1⟩) (meth := k16m1) (c := k16c1) (by decide +kernel) rfl rfl rfl (by decide +kernel)
set_option maxRecDepth 65536 in
theorem w_c32 : (Jvm.Cond.code ({ cls := "java/lang/Math", name := "min", desc := "(II)I" } : Jvm.MethodName) jdk_29_method_69_code (2 : Nat) (Option.some Jvm.ClassFile.FieldType.int)).before args0 about1 = true := code_word (m := ⟨17, 1⟩) (meth := k17m1) (c := k17c1) (by decide +kernel) rfl rfl rfl (by decide +kernel)
set_option maxRecDepth 65536 in
theorem w_c33 : (Jvm.Cond.code ({ cls := "com/example/lendloop/lendloop/core/PatronRefToStringPinLaw", name := "at", desc := "(Ljava/lang/String;IIICCCC)Z" } : Jvm.MethodName) method_4_code (8 : Nat) (Option.some Jvm.ClassFile.FieldType.boolean)).before args0 about1 = true := code_word (m := ⟨1, 3⟩) (meth := k1m3) (c := k1c3) (by decide +kernel) rfl rfl rfl (by decide +kernel)
set_option maxRecDepth 65536 in
theorem w_c34 : (Jvm.Cond.code ({ cls := "java/lang/String", name := "charAt", desc := "(I)C" } : Jvm.MethodName) jdk_42_method_56_code (2 : Nat) (Option.some Jvm.ClassFile.FieldType.char)).before args0 about1 = true := code_word (m := ⟨7, 4⟩) (meth := k7m4) (c := k7c4) (by decide +kernel) rfl rfl rfl (by decide +kernel)
set_option maxRecDepth 65536 in
theorem w_c35 : (Jvm.Cond.code ({ cls := "java/lang/String", name := "isLatin1", desc := "()Z" } : Jvm.MethodName) jdk_42_method_154_code (1 : Nat) (Option.some Jvm.ClassFile.FieldType.boolean)).before args0 about1 = true := code_word (m := ⟨7, 9⟩) (meth := k7m9) (c := k7c9) (by decide +kernel) rfl rfl rfl (by decide +kernel)
set_option maxRecDepth 65536 in
theorem w_c36 : (Jvm.Cond.code ({ cls := "java/lang/StringLatin1", name := "charAt", desc := "([BI)C" } : Jvm.MethodName) jdk_43_method_2_code (2 : Nat) (Option.some Jvm.ClassFile.FieldType.char)).before args0 about1 = true := code_word (m := ⟨18, 1⟩) (meth := k18m1) (c := k18c1) (by decide +kernel) rfl rfl rfl (by decide +kernel)
set_option maxRecDepth 65536 in
theorem w_c37 : (Jvm.Cond.code ({ cls := "java/lang/String", name := "checkIndex", desc := "(II)V" } : Jvm.MethodName) jdk_42_method_155_code (2 : Nat) (Option.none : Option Jvm.ClassFile.FieldType)).before args0 about1 = true := code_word (m := ⟨7, 10⟩) (meth := k7m10) (c := k7c10) (by decide +kernel) rfl rfl rfl (by decide +kernel)
set_option maxRecDepth 65536 in
theorem w_c38 : (Jvm.Cond.code ({ cls := "jdk/internal/util/Preconditions", name := "checkIndex", desc := "(IILjava/util/function/BiFunction;)I" } : Jvm.MethodName) jdk_41_method_11_code (3 : Nat) (Option.some Jvm.ClassFile.FieldType.int)).before args0 about1 = true := code_word (m := ⟨19, 1⟩) (meth := k19m1) (c := k19c1) (by decide +kernel) rfl rfl rfl (by decide +kernel)
set_option maxRecDepth 65536 in
theorem w_c39 : (Jvm.Cond.code ({ cls := "com/example/lendloop/lendloop/core/PatronRefToStringPinLaw", name := "exp", desc := "(IICCCC)C" } : Jvm.MethodName) method_5_code (7 : Nat) (Option.some Jvm.ClassFile.FieldType.char)).before args0 about1 = true := code_word (m := ⟨1, 4⟩) (meth := k1m4) (c := k1c4) (by decide +kernel) rfl rfl rfl (by decide +kernel)
def codes1 : List Jvm.Cond := [Jvm.Cond.code x code maxLocals ret, Jvm.Cond.code ({ cls := "com/example/lendloop/lendloop/core/PatronRefToStringPinLaw", name := "mk", desc := "(ICC)Ljava/lang/String;" } : Jvm.MethodName) method_3_code (3 : Nat) (Option.some (Jvm.ClassFile.FieldType.object "java/lang/String")), Jvm.Cond.code ({ cls := "java/lang/String", name := "<init>", desc := "([C)V" } : Jvm.MethodName) jdk_42_method_3_code (2 : Nat) (Option.none : Option Jvm.ClassFile.FieldType), Jvm.Cond.code ({ cls := "java/lang/String", name := "<init>", desc := "([CIILjava/lang/Void;)V" } : Jvm.MethodName) jdk_42_method_149_code (6 : Nat) (Option.none : Option Jvm.ClassFile.FieldType), Jvm.Cond.code ({ cls := "java/lang/Object", name := "<init>", desc := "()V" } : Jvm.MethodName) object_method_1_code (1 : Nat) (Option.none : Option Jvm.ClassFile.FieldType), Jvm.Cond.code ({ cls := "java/lang/StringUTF16", name := "compress", desc := "([CII)[B" } : Jvm.MethodName) jdk_52_method_16_code (6 : Nat) (Option.some (Jvm.ClassFile.FieldType.array Jvm.ClassFile.FieldType.byte)), Jvm.Cond.code ({ cls := "java/lang/StringUTF16", name := "compress", desc := "([CI[BII)I" } : Jvm.MethodName) jdk_52_method_21_code (7 : Nat) (Option.some Jvm.ClassFile.FieldType.int), Jvm.Cond.code ({ cls := "java/lang/StringUTF16", name := "coderFromArrayLen", desc := "([BI)B" } : Jvm.MethodName) jdk_52_method_15_code (2 : Nat) (Option.some Jvm.ClassFile.FieldType.byte), Jvm.Cond.code ({ cls := "com/example/lendloop/lendloop/core/PatronRef", name := "<init>", desc := "(Ljava/lang/String;Ljava/lang/String;)V" } : Jvm.MethodName) prog_24_method_1_code (3 : Nat) (Option.none : Option Jvm.ClassFile.FieldType), Jvm.Cond.code ({ cls := "java/lang/Record", name := "<init>", desc := "()V" } : Jvm.MethodName) jdk_30_method_1_code (1 : Nat) (Option.none : Option Jvm.ClassFile.FieldType), Jvm.Cond.code ({ cls := "java/util/Objects", name := "requireNonNull", desc := "(Ljava/lang/Object;Ljava/lang/String;)Ljava/lang/Object;" } : Jvm.MethodName) jdk_31_method_11_code (2 : Nat) (Option.some (Jvm.ClassFile.FieldType.object "java/lang/Object")), Jvm.Cond.code ({ cls := "com/example/lendloop/lendloop/core/PatronRef", name := "toString", desc := "()Ljava/lang/String;" } : Jvm.MethodName) prog_24_method_2_code (1 : Nat) (Option.some (Jvm.ClassFile.FieldType.object "java/lang/String")), Jvm.Cond.code ({ cls := "java/lang/StringBuilder", name := "<init>", desc := "()V" } : Jvm.MethodName) jdk_67_method_1_code (1 : Nat) (Option.none : Option Jvm.ClassFile.FieldType), Jvm.Cond.code ({ cls := "java/lang/AbstractStringBuilder", name := "<init>", desc := "(I)V" } : Jvm.MethodName) jdk_68_method_2_code (2 : Nat) (Option.none : Option Jvm.ClassFile.FieldType), Jvm.Cond.code ({ cls := "java/lang/StringBuilder", name := "append", desc := "(Ljava/lang/String;)Ljava/lang/StringBuilder;" } : Jvm.MethodName) jdk_67_method_7_code (2 : Nat) (Option.some (Jvm.ClassFile.FieldType.object "java/lang/StringBuilder")), Jvm.Cond.code ({ cls := "java/lang/AbstractStringBuilder", name := "append", desc := "(Ljava/lang/String;)Ljava/lang/AbstractStringBuilder;" } : Jvm.MethodName) jdk_68_method_22_code (3 : Nat) (Option.some (Jvm.ClassFile.FieldType.object "java/lang/AbstractStringBuilder")), Jvm.Cond.code ({ cls := "java/lang/String", name := "length", desc := "()I" } : Jvm.MethodName) jdk_42_method_54_code (1 : Nat) (Option.some Jvm.ClassFile.FieldType.int), Jvm.Cond.code ({ cls := "java/lang/String", name := "coder", desc := "()B" } : Jvm.MethodName) jdk_42_method_152_code (1 : Nat) (Option.some Jvm.ClassFile.FieldType.byte), Jvm.Cond.code ({ cls := "java/lang/AbstractStringBuilder", name := "ensureCapacityInternal", desc := "(I)V" } : Jvm.MethodName) jdk_68_method_9_code (3 : Nat) (Option.none : Option Jvm.ClassFile.FieldType), Jvm.Cond.code ({ cls := "java/lang/AbstractStringBuilder", name := "putStringAt", desc := "(ILjava/lang/String;)V" } : Jvm.MethodName) jdk_68_method_73_code (3 : Nat) (Option.none : Option Jvm.ClassFile.FieldType), Jvm.Cond.code ({ cls := "java/lang/AbstractStringBuilder", name := "inflateIfNeededFor", desc := "(Ljava/lang/String;)V" } : Jvm.MethodName) jdk_68_method_71_code (2 : Nat) (Option.none : Option Jvm.ClassFile.FieldType), Jvm.Cond.code ({ cls := "java/lang/String", name := "getBytes", desc := "([BIB)V" } : Jvm.MethodName) jdk_42_method_147_code (4 : Nat) (Option.none : Option Jvm.ClassFile.FieldType), Jvm.Cond.code ({ cls := "java/lang/StringBuilder", name := "toString", desc := "()Ljava/lang/String;" } : Jvm.MethodName) jdk_67_method_42_code (1 : Nat) (Option.some (Jvm.ClassFile.FieldType.object "java/lang/String")), Jvm.Cond.code ({ cls := "java/lang/String", name := "<init>", desc := "(Ljava/lang/StringBuilder;)V" } : Jvm.MethodName) jdk_42_method_53_code (2 : Nat) (Option.none : Option Jvm.ClassFile.FieldType), Jvm.Cond.code ({ cls := "java/lang/String", name := "<init>", desc := "(Ljava/lang/AbstractStringBuilder;Ljava/lang/Void;)V" } : Jvm.MethodName) jdk_42_method_150_code (5 : Nat) (Option.none : Option Jvm.ClassFile.FieldType), Jvm.Cond.code ({ cls := "java/lang/AbstractStringBuilder", name := "getValue", desc := "()[B" } : Jvm.MethodName) jdk_68_method_64_code (1 : Nat) (Option.some (Jvm.ClassFile.FieldType.array Jvm.ClassFile.FieldType.byte)), Jvm.Cond.code ({ cls := "java/lang/StringBuilder", name := "length", desc := "()I" } : Jvm.MethodName) jdk_67_method_93_code (1 : Nat) (Option.some Jvm.ClassFile.FieldType.int), Jvm.Cond.code ({ cls := "java/lang/AbstractStringBuilder", name := "length", desc := "()I" } : Jvm.MethodName) jdk_68_method_6_code (1 : Nat) (Option.some Jvm.ClassFile.FieldType.int), Jvm.Cond.code ({ cls := "java/lang/AbstractStringBuilder", name := "isLatin1", desc := "()Z" } : Jvm.MethodName) jdk_68_method_68_code (1 : Nat) (Option.some Jvm.ClassFile.FieldType.boolean), Jvm.Cond.code ({ cls := "java/util/Arrays", name := "copyOfRange", desc := "([BII)[B" } : Jvm.MethodName) jdk_65_method_132_code (3 : Nat) (Option.some (Jvm.ClassFile.FieldType.array Jvm.ClassFile.FieldType.byte)), Jvm.Cond.code ({ cls := "java/util/Arrays", name := "copyOfRangeByte", desc := "([BII)[B" } : Jvm.MethodName) jdk_65_method_133_code (5 : Nat) (Option.some (Jvm.ClassFile.FieldType.array Jvm.ClassFile.FieldType.byte)), Jvm.Cond.code ({ cls := "java/util/Arrays", name := "checkLength", desc := "(II)V" } : Jvm.MethodName) jdk_65_method_131_code (2 : Nat) (Option.none : Option Jvm.ClassFile.FieldType), Jvm.Cond.code ({ cls := "java/lang/Math", name := "min", desc := "(II)I" } : Jvm.MethodName) jdk_29_method_69_code (2 : Nat) (Option.some Jvm.ClassFile.FieldType.int), Jvm.Cond.code ({ cls := "com/example/lendloop/lendloop/core/PatronRefToStringPinLaw", name := "at", desc := "(Ljava/lang/String;IIICCCC)Z" } : Jvm.MethodName) method_4_code (8 : Nat) (Option.some Jvm.ClassFile.FieldType.boolean), Jvm.Cond.code ({ cls := "java/lang/String", name := "charAt", desc := "(I)C" } : Jvm.MethodName) jdk_42_method_56_code (2 : Nat) (Option.some Jvm.ClassFile.FieldType.char), Jvm.Cond.code ({ cls := "java/lang/String", name := "isLatin1", desc := "()Z" } : Jvm.MethodName) jdk_42_method_154_code (1 : Nat) (Option.some Jvm.ClassFile.FieldType.boolean), Jvm.Cond.code ({ cls := "java/lang/StringLatin1", name := "charAt", desc := "([BI)C" } : Jvm.MethodName) jdk_43_method_2_code (2 : Nat) (Option.some Jvm.ClassFile.FieldType.char), Jvm.Cond.code ({ cls := "java/lang/String", name := "checkIndex", desc := "(II)V" } : Jvm.MethodName) jdk_42_method_155_code (2 : Nat) (Option.none : Option Jvm.ClassFile.FieldType), Jvm.Cond.code ({ cls := "jdk/internal/util/Preconditions", name := "checkIndex", desc := "(IILjava/util/function/BiFunction;)I" } : Jvm.MethodName) jdk_41_method_11_code (3 : Nat) (Option.some Jvm.ClassFile.FieldType.int), Jvm.Cond.code ({ cls := "com/example/lendloop/lendloop/core/PatronRefToStringPinLaw", name := "exp", desc := "(IICCCC)C" } : Jvm.MethodName) method_5_code (7 : Nat) (Option.some Jvm.ClassFile.FieldType.char)]
set_option maxRecDepth 65536 in
theorem codes_eq : words1.filter isCode = codes1 := rfl
theorem w_codes : ∀ c ∈ words1.filter isCode, c.before args0 about1 = true := by
  rw [codes_eq]
  intro c hc
  simp only [codes1, List.mem_cons, List.not_mem_nil, or_false] at hc
  rcases hc with rfl | rfl | rfl | rfl | rfl | rfl | rfl | rfl | rfl | rfl | rfl | rfl | rfl | rfl | rfl | rfl | rfl | rfl | rfl | rfl | rfl | rfl | rfl | rfl | rfl | rfl | rfl | rfl | rfl | rfl | rfl | rfl | rfl | rfl | rfl | rfl | rfl | rfl | rfl | rfl
  · exact w_c0
  · exact w_c1
  · exact w_c2
  · exact w_c3
  · exact w_c4
  · exact w_c5
  · exact w_c6
  · exact w_c7
  · exact w_c8
  · exact w_c9
  · exact w_c10
  · exact w_c11
  · exact w_c12
  · exact w_c13
  · exact w_c14
  · exact w_c15
  · exact w_c16
  · exact w_c17
  · exact w_c18
  · exact w_c19
  · exact w_c20
  · exact w_c21
  · exact w_c22
  · exact w_c23
  · exact w_c24
  · exact w_c25
  · exact w_c26
  · exact w_c27
  · exact w_c28
  · exact w_c29
  · exact w_c30
  · exact w_c31
  · exact w_c32
  · exact w_c33
  · exact w_c34
  · exact w_c35
  · exact w_c36
  · exact w_c37
  · exact w_c38
  · exact w_c39
set_option maxRecDepth 65536 in
theorem w_t1 : (words1.take 24).all (fun c => isCode c || c.before args0 about1) = true := by decide +kernel
set_option maxRecDepth 65536 in
theorem w_t2 : ((words1.drop 24).take 24).all (fun c => isCode c || c.before args0 about1) = true := by decide +kernel
set_option maxRecDepth 65536 in
theorem w_t3 : (((words1.drop 24).drop 24).take 24).all (fun c => isCode c || c.before args0 about1) = true := by decide +kernel
set_option maxRecDepth 65536 in
theorem w_t4 : ((((words1.drop 24).drop 24).drop 24).take 24).all (fun c => isCode c || c.before args0 about1) = true := by decide +kernel
set_option maxRecDepth 65536 in
theorem w_t5 : (((((words1.drop 24).drop 24).drop 24).drop 24).take 24).all (fun c => isCode c || c.before args0 about1) = true := by decide +kernel
set_option maxRecDepth 65536 in
theorem w_t6 : ((((((words1.drop 24).drop 24).drop 24).drop 24).drop 24).take 24).all (fun c => isCode c || c.before args0 about1) = true := by decide +kernel
set_option maxRecDepth 65536 in
theorem w_t7 : (((((((words1.drop 24).drop 24).drop 24).drop 24).drop 24).drop 24).take 24).all (fun c => isCode c || c.before args0 about1) = true := by decide +kernel
set_option maxRecDepth 65536 in
theorem w_t8 : ((((((((words1.drop 24).drop 24).drop 24).drop 24).drop 24).drop 24).drop 24).take 24).all (fun c => isCode c || c.before args0 about1) = true := by decide +kernel
set_option maxRecDepth 65536 in
theorem w_t9 : ((((((((words1.drop 24).drop 24).drop 24).drop 24).drop 24).drop 24).drop 24).drop 24).all (fun c => isCode c || c.before args0 about1) = true := by decide +kernel
theorem w_tables : (allAtoms (Jvm.Cond.code x code maxLocals ret :: tables_1)).before args0 about1 = true := by
  rw [allAtoms_all]
  show words1.all (fun c => c.before args0 about1) = true
  refine all_split ?_ w_codes
  rw [← List.take_append_drop 24 words1, List.all_append, w_t1, ← List.take_append_drop 24 (words1.drop 24), List.all_append, w_t2, ← List.take_append_drop 24 ((words1.drop 24).drop 24), List.all_append, w_t3, ← List.take_append_drop 24 (((words1.drop 24).drop 24).drop 24), List.all_append, w_t4, ← List.take_append_drop 24 ((((words1.drop 24).drop 24).drop 24).drop 24), List.all_append, w_t5, ← List.take_append_drop 24 (((((words1.drop 24).drop 24).drop 24).drop 24).drop 24), List.all_append, w_t6, ← List.take_append_drop 24 ((((((words1.drop 24).drop 24).drop 24).drop 24).drop 24).drop 24), List.all_append, w_t7, ← List.take_append_drop 24 (((((((words1.drop 24).drop 24).drop 24).drop 24).drop 24).drop 24).drop 24), List.all_append, w_t8, w_t9]
  rfl
set_option maxRecDepth 65536 in
theorem w_rest : rest_1_c.before args0 about1 = true := by decide +kernel
set_option maxRecDepth 65536 in
theorem w_case : (Jvm.Cond.and given_1 narrow_1).before args0 about1 = true := by decide +kernel
set_option maxRecDepth 65536 in
theorem w_consts : constsHeld consts_1 about1 := Jvm.Lit.constsHeldB_iff.mp (by decide +kernel)
theorem w_applies : (headSpec (Jvm.Cond.code x code maxLocals ret :: tables_1) room_1).applies x e0.platform about1 = true :=
  (Spec.applies_iff w_frames).mpr ⟨w_running, w_runnable, w_alone, w_named, w_hears, w_ripe, w_room, w_tables⟩
theorem atStart : AtStart classFile x code maxLocals ret World_1 tables_1 room_1 Calls_1 rest_1 Pre_1 launch0 p0 e0 about1 theMethod args0 below0 :=
  ⟨lists_1, trivial, launch0.admits_env _ _ _, launch0.least_env, fairChoices_fair.cas, fairChoices_fair.clock, w_frames, w_args, w_heap, w_applies, ⟨w_consts, trivial⟩, w_rest, w_case⟩
end start1
theorem witness_1 : WitnessClaimed_1 := ⟨start1.p0, start1.e0, start1.about1, start1.theMethod, start1.args0, start1.below0, start1.atStart⟩
end Jvm.Pilot.@@N@@
