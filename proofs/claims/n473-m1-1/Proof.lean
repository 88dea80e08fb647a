import JvmDerived
import JvmDerived.Pilot.@@N@@Statement
import JvmDerived.Pilot.@@N@@Code
set_option linter.unusedVariables false
set_option linter.unusedSimpArgs false
namespace Jvm.RoadKit
open Sem ClassFile Op Lib Jvm.Stand Jvm.Free Jvm.LawKit
section New
variable {p : Program} {l : Launch} {e : Env} {R : Room} {s : State} {m : MethodId} {args : Array Value} {below : List Frame} {meth : Method} {c : Code} {T : State} {locs : List Loc} {cells slots : Nat}
theorem retI (X : Stand p l e R s m args below meth c T locs cells slots) (hx : p.tables.exec = Jvm.exec) {pc : Nat} {Ls : Array Slot} {z : Int32} {rest : List Value} (hret : meth.sig.returnType = some .int) (hd : decode c.code pc = .ok (.ireturn, 1)) {fs : List Frame}
    (hl : ∀ (f : JFrame) (acts : List Action), f.method = m → f.locked = none → f.entered = [] → (doReturn e (T.setTop f) acts (some (.int z))).1 = T.setFrames fs) : Steps p.tables e below (T.setTop (mkF m pc Ls (.int z :: rest))) (T.setFrames fs) := by
  have hm' : T.vm.method? m = some meth := X.method'
  have hn : narrow .int (.int z) = .int z := rfl
  show Steps p.tables e below (T.setTop { method := m, pc := pc, locals := Ls, stack := _ :: rest, locked := none }) _
  jvm_step X.here [X.here.top, hx, hd, hm', hret, hn]
  first | (intro acts; rw [hl _ acts rfl rfl rfl]) | rw [hl _ _ rfl rfl rfl]
  exact Steps.refl _
end New
end Jvm.RoadKit
namespace Jvm.Pilot.@@N@@
open Jvm Jvm.ClassFile Sem Op Lib Jvm.Free Jvm.Stand Jvm.LawKit Jvm.RoadKit Bundle Jvm.Pilot.@@N@@.Jvm.D


theorem own_putR {p : Program} {l : Launch} {e : Env} {R : Room} {s : State} {m : MethodId} {args : Array Value} {below : List Frame} {meth : Method} {c : Code} {T : State} {locs : List Loc} {cells slots : Nat} {Z : State} {h : Heap} (X : Stand p l e R s m args below meth c T locs cells slots) (hx : p.tables.exec = Jvm.exec) (hZ : Z.Warmed39 s.vm) (eT : T.heap = h) {a : Addr} {k : ClassId} {C : String} {z : Int32} {vs : List Value} (F : Arv Z h a k (.object C) z vs .null) (O : Ovr Z k C) {y : Addr} (I : Ins Z h y C true) {j : Int32} (hj : j.toNatClampNeg = vs.length) (h0 : ¬ j < 0) (hl : vs.length < z.toNatClampNeg) {g : JFrame} (hg : g.method = m) {rest : List Value} (hs : g.stack = .ref y :: .int j :: .ref a :: rest) (hd : decode c.code g.pc = .ok (.aastore, 1)) :
    ∃ T' h', Stand p l e R s m args below meth c T' (locs ++ [⟨a, j.toNatClampNeg⟩]) cells slots ∧ T'.heap = h' ∧ Wr h h' a j.toNatClampNeg (.ref y) ∧ Arv Z h' a k (.object C) z (vs ++ [.ref y]) .null ∧ ∀ target, Steps p.tables e below (T'.setTop { g with pc := g.pc + 1, stack := rest }) target → Steps p.tables e below (T.setTop g) target := by
  have V' : Arv Z h a k (.object C) z (vs ++ [.null]) .null := F.pad (pad_rep vs .null 1)
  obtain ⟨cl, Ar, q, S, M, H, U⟩ := V'
  have hin : ¬ (j < 0 ∨ cl.slots.size ≤ j.toNatClampNeg) := by
    rw [S, hj]; exact fun q => q.elim h0 (fun q => absurd hl (Nat.not_lt.mpr q))
  obtain ⟨T', h', X', e', W, st⟩ := stR X hx hZ eT Ar hin rfl (Sto.ofV Ar q O I) hg hs hd
  have V3 := Arv.set Ar q S M H U (v := .ref y) rfl W vs.length hj (by simp)
  rw [show (vs ++ [Value.null]).set vs.length (.ref y) = vs ++ [.ref y] by simp] at V3
  exact ⟨T', h', X', e', W, V3, st⟩

def own_exp (i : Int32) : Int32 := if i = 12 then 0 else if i = 15 then 0 else if i = 16 then 0 else 1
def own_open (a f r n : Addr) : Int32 := if a = f then 0 else if a = r then 0 else if a = n then 0 else 1

theorem d1_0 : decode method_3_code 0 = .ok (.iload_n 0, 1) := by decide +kernel
theorem d1_1 : decode method_3_code 1 = .ok (.bipush 12, 2) := by decide +kernel
theorem d1_3 : decode method_3_code 3 = .ok (.if_icmp .ne 5, 3) := by decide +kernel
theorem d1_6 : decode method_3_code 6 = .ok (.iconst 0, 1) := by decide +kernel
theorem d1_7 : decode method_3_code 7 = .ok (.ireturn, 1) := by decide +kernel
theorem ef_1 (m : MethodId) (x0 : Int32) : entryFrame m #[(.int x0)] 1 = mkF m 0 #[.val (.int x0)] [] := by first | (simp [entryFrame, mkF, argsToLocals, Value.category]; done) | rfl
theorem pn_1 : plainName "com/example/lendloop/lendloop/core/RequestStatusIsOpenPinLaw" = true := by first | (simp [plainName, overriddenIn]; done) | decide +kernel
def Qd0 (Z : State) (pI : Int32) (h0 : Heap) (n0 : Nat) (v : Option Value) (h : Heap) (L : List Loc) : Prop := v = some (.int (own_exp pI)) ∧ Fr n0 L ∧ h = h0
set_option maxRecDepth 65536 in
set_option maxHeartbeats 40000000 in
theorem rm1a (l : Launch) (Z : State) (a0 : Array Value) (hw : ∀ d ∈ tables_1, d.before a0 Z = true) (ws : List Jvm.Cond) (pI : Int32) (h0 : Heap) (n0 : Nat) (hc3 : pI = (12 : Int32)) :
    MetFree l (⟨"com/example/lendloop/lendloop/core/RequestStatusIsOpenPinLaw", "expectedOpen", "(I)Z"⟩ : MethodName) (head1 (Jvm.Cond.code (⟨"com/example/lendloop/lendloop/core/RequestStatusIsOpenPinLaw", "expectedOpen", "(I)Z"⟩ : MethodName) method_3_code 1 (some .boolean) :: ws) ({ frames := 0, cells := 0, slots := 0, locals := 0 } : Room)) (fun qq U => qq = #[(.int pI)] ∧ Z.Warmed39 U.vm ∧ U.heap = h0) (fun _ _ _ _ _ => True) (fun _ UU oo UU' => ∃ vv LL, oo = .returned vv ∧ Qd0 Z pI h0 n0 vv UU'.heap LL ∧ FrameEnd UU oo UU' LL ({ frames := 0, cells := 0, slots := 0, locals := 0 } : Room).cells ({ frames := 0, cells := 0, slots := 0, locals := 0 } : Room).slots) := by
  refine MetFree.of_bodySF (plainFor_of_name pn_1) hisR ?_
  intro p e s m args below meth c s₁ Bd hml0 hP hK
  obtain ⟨rfl, hZ, hh⟩ := hP
  have hx := Bd.exec
  have hby := Bd.bytes
  have hml : c.maxLocals = 1 := hml0
  have hown : s.vm.findClass "com/example/lendloop/lendloop/core/RequestStatusIsOpenPinLaw" = some m.cls := findClass_of_methodNamed Bd.named
  have hnm := (name_of_methodNamed Bd.named Bd.method).1
  have X0 : Stand p l e ({ frames := 0, cells := 0, slots := 0, locals := 0 } : Room) s m #[(.int pI)] below meth c s₁ [] 0 0 := Stand.of_body Bd
  have e0 : s₁.heap = h0 := by rw [← hh, Bd.state]; rfl
  have N0 := Fr.nil n0
  have pre0 : ∀ t, Steps p.tables e below (s₁.setTop (mkF m 0 #[.val (.int pI)] [])) t → Steps p.tables e below (s₁.setTop (entryFrame m #[(.int pI)] 1)) t := fun t k => castTop (ef_1 m pI) k
  obtain ⟨fs, hr, hrun, hended, hW, hsame⟩ := X0.leave (v := some (.int (0 : Int32))) (fun h => by rw [Bd.returns] at h; cases h)
  refine ⟨_, _, pre0 _ ?_, hrun, hended, _, _, rfl, ?_, ⟨_, rfl⟩, hW, hsame.mono (by decide) (by decide)⟩
  · show Steps p.tables e below (s₁.setTop (mkF m 0 #[.val (.int pI)] [])) _
    refine XS.iloadN X0.here hx rfl (hb hby d1_0) rfl ?_
    show Steps p.tables e below (s₁.setTop (mkF m 1 #[.val (.int pI)] [(.int pI)])) _
    refine XS.bipush X0.here hx rfl (hb hby d1_1) ?_
    show Steps p.tables e below (s₁.setTop (mkF m 3 #[.val (.int pI)] [(.int (12 : Int32)), (.int pI)])) _
    refine XS.icmpNo X0.here hx rfl (hb hby d1_3) rfl (teq hc3).2 ?_
    show Steps p.tables e below (s₁.setTop (mkF m 6 #[.val (.int pI)] [])) _
    refine XS.iconst X0.here hx rfl (hb hby d1_6) ?_
    show Steps p.tables e below (s₁.setTop (mkF m 7 #[.val (.int pI)] [(.int (0 : Int32))])) _
    exact retN X0 hx (t := .boolean) Bd.returns (by simp) (hb hby d1_7) hr
  · show Qd0 Z pI h0 n0 _ s₁.heap _
    rw [e0]
    exact ⟨(by rw [own_exp, if_pos hc3]), N0, rfl⟩
theorem d1_8 : decode method_3_code 8 = .ok (.iload_n 0, 1) := by decide +kernel
theorem d1_9 : decode method_3_code 9 = .ok (.bipush 15, 2) := by decide +kernel
theorem d1_11 : decode method_3_code 11 = .ok (.if_icmp .ne 5, 3) := by decide +kernel
theorem d1_14 : decode method_3_code 14 = .ok (.iconst 0, 1) := by decide +kernel
theorem d1_15 : decode method_3_code 15 = .ok (.ireturn, 1) := by decide +kernel
set_option maxRecDepth 65536 in
set_option maxHeartbeats 40000000 in
theorem rm1b (l : Launch) (Z : State) (a0 : Array Value) (hw : ∀ d ∈ tables_1, d.before a0 Z = true) (ws : List Jvm.Cond) (pI : Int32) (h0 : Heap) (n0 : Nat) (hc3 : ¬ (pI = (12 : Int32))) (hc11 : pI = (15 : Int32)) :
    MetFree l (⟨"com/example/lendloop/lendloop/core/RequestStatusIsOpenPinLaw", "expectedOpen", "(I)Z"⟩ : MethodName) (head1 (Jvm.Cond.code (⟨"com/example/lendloop/lendloop/core/RequestStatusIsOpenPinLaw", "expectedOpen", "(I)Z"⟩ : MethodName) method_3_code 1 (some .boolean) :: ws) ({ frames := 0, cells := 0, slots := 0, locals := 0 } : Room)) (fun qq U => qq = #[(.int pI)] ∧ Z.Warmed39 U.vm ∧ U.heap = h0) (fun _ _ _ _ _ => True) (fun _ UU oo UU' => ∃ vv LL, oo = .returned vv ∧ Qd0 Z pI h0 n0 vv UU'.heap LL ∧ FrameEnd UU oo UU' LL ({ frames := 0, cells := 0, slots := 0, locals := 0 } : Room).cells ({ frames := 0, cells := 0, slots := 0, locals := 0 } : Room).slots) := by
  refine MetFree.of_bodySF (plainFor_of_name pn_1) hisR ?_
  intro p e s m args below meth c s₁ Bd hml0 hP hK
  obtain ⟨rfl, hZ, hh⟩ := hP
  have hx := Bd.exec
  have hby := Bd.bytes
  have hml : c.maxLocals = 1 := hml0
  have hown : s.vm.findClass "com/example/lendloop/lendloop/core/RequestStatusIsOpenPinLaw" = some m.cls := findClass_of_methodNamed Bd.named
  have hnm := (name_of_methodNamed Bd.named Bd.method).1
  have X0 : Stand p l e ({ frames := 0, cells := 0, slots := 0, locals := 0 } : Room) s m #[(.int pI)] below meth c s₁ [] 0 0 := Stand.of_body Bd
  have e0 : s₁.heap = h0 := by rw [← hh, Bd.state]; rfl
  have N0 := Fr.nil n0
  have pre0 : ∀ t, Steps p.tables e below (s₁.setTop (mkF m 0 #[.val (.int pI)] [])) t → Steps p.tables e below (s₁.setTop (entryFrame m #[(.int pI)] 1)) t := fun t k => castTop (ef_1 m pI) k
  obtain ⟨fs, hr, hrun, hended, hW, hsame⟩ := X0.leave (v := some (.int (0 : Int32))) (fun h => by rw [Bd.returns] at h; cases h)
  refine ⟨_, _, pre0 _ ?_, hrun, hended, _, _, rfl, ?_, ⟨_, rfl⟩, hW, hsame.mono (by decide) (by decide)⟩
  · show Steps p.tables e below (s₁.setTop (mkF m 0 #[.val (.int pI)] [])) _
    refine XS.iloadN X0.here hx rfl (hb hby d1_0) rfl ?_
    show Steps p.tables e below (s₁.setTop (mkF m 1 #[.val (.int pI)] [(.int pI)])) _
    refine XS.bipush X0.here hx rfl (hb hby d1_1) ?_
    show Steps p.tables e below (s₁.setTop (mkF m 3 #[.val (.int pI)] [(.int (12 : Int32)), (.int pI)])) _
    refine XS.icmpYes X0.here hx rfl (pc0 := 3) (pc' := 8) rfl (hb hby d1_3) rfl (feq hc3).2 (by decide) (by decide) ?_
    show Steps p.tables e below (s₁.setTop (mkF m 8 #[.val (.int pI)] [])) _
    refine XS.iloadN X0.here hx rfl (hb hby d1_8) rfl ?_
    show Steps p.tables e below (s₁.setTop (mkF m 9 #[.val (.int pI)] [(.int pI)])) _
    refine XS.bipush X0.here hx rfl (hb hby d1_9) ?_
    show Steps p.tables e below (s₁.setTop (mkF m 11 #[.val (.int pI)] [(.int (15 : Int32)), (.int pI)])) _
    refine XS.icmpNo X0.here hx rfl (hb hby d1_11) rfl (teq hc11).2 ?_
    show Steps p.tables e below (s₁.setTop (mkF m 14 #[.val (.int pI)] [])) _
    refine XS.iconst X0.here hx rfl (hb hby d1_14) ?_
    show Steps p.tables e below (s₁.setTop (mkF m 15 #[.val (.int pI)] [(.int (0 : Int32))])) _
    exact retN X0 hx (t := .boolean) Bd.returns (by simp) (hb hby d1_15) hr
  · show Qd0 Z pI h0 n0 _ s₁.heap _
    rw [e0]
    exact ⟨(by rw [own_exp, if_neg hc3, if_pos hc11]), N0, rfl⟩
theorem d1_16 : decode method_3_code 16 = .ok (.iload_n 0, 1) := by decide +kernel
theorem d1_17 : decode method_3_code 17 = .ok (.bipush 16, 2) := by decide +kernel
theorem d1_19 : decode method_3_code 19 = .ok (.if_icmp .ne 5, 3) := by decide +kernel
theorem d1_22 : decode method_3_code 22 = .ok (.iconst 0, 1) := by decide +kernel
theorem d1_23 : decode method_3_code 23 = .ok (.ireturn, 1) := by decide +kernel
set_option maxRecDepth 65536 in
set_option maxHeartbeats 40000000 in
theorem rm1c (l : Launch) (Z : State) (a0 : Array Value) (hw : ∀ d ∈ tables_1, d.before a0 Z = true) (ws : List Jvm.Cond) (pI : Int32) (h0 : Heap) (n0 : Nat) (hc3 : ¬ (pI = (12 : Int32))) (hc11 : ¬ (pI = (15 : Int32))) (hc19 : pI = (16 : Int32)) :
    MetFree l (⟨"com/example/lendloop/lendloop/core/RequestStatusIsOpenPinLaw", "expectedOpen", "(I)Z"⟩ : MethodName) (head1 (Jvm.Cond.code (⟨"com/example/lendloop/lendloop/core/RequestStatusIsOpenPinLaw", "expectedOpen", "(I)Z"⟩ : MethodName) method_3_code 1 (some .boolean) :: ws) ({ frames := 0, cells := 0, slots := 0, locals := 0 } : Room)) (fun qq U => qq = #[(.int pI)] ∧ Z.Warmed39 U.vm ∧ U.heap = h0) (fun _ _ _ _ _ => True) (fun _ UU oo UU' => ∃ vv LL, oo = .returned vv ∧ Qd0 Z pI h0 n0 vv UU'.heap LL ∧ FrameEnd UU oo UU' LL ({ frames := 0, cells := 0, slots := 0, locals := 0 } : Room).cells ({ frames := 0, cells := 0, slots := 0, locals := 0 } : Room).slots) := by
  refine MetFree.of_bodySF (plainFor_of_name pn_1) hisR ?_
  intro p e s m args below meth c s₁ Bd hml0 hP hK
  obtain ⟨rfl, hZ, hh⟩ := hP
  have hx := Bd.exec
  have hby := Bd.bytes
  have hml : c.maxLocals = 1 := hml0
  have hown : s.vm.findClass "com/example/lendloop/lendloop/core/RequestStatusIsOpenPinLaw" = some m.cls := findClass_of_methodNamed Bd.named
  have hnm := (name_of_methodNamed Bd.named Bd.method).1
  have X0 : Stand p l e ({ frames := 0, cells := 0, slots := 0, locals := 0 } : Room) s m #[(.int pI)] below meth c s₁ [] 0 0 := Stand.of_body Bd
  have e0 : s₁.heap = h0 := by rw [← hh, Bd.state]; rfl
  have N0 := Fr.nil n0
  have pre0 : ∀ t, Steps p.tables e below (s₁.setTop (mkF m 0 #[.val (.int pI)] [])) t → Steps p.tables e below (s₁.setTop (entryFrame m #[(.int pI)] 1)) t := fun t k => castTop (ef_1 m pI) k
  obtain ⟨fs, hr, hrun, hended, hW, hsame⟩ := X0.leave (v := some (.int (0 : Int32))) (fun h => by rw [Bd.returns] at h; cases h)
  refine ⟨_, _, pre0 _ ?_, hrun, hended, _, _, rfl, ?_, ⟨_, rfl⟩, hW, hsame.mono (by decide) (by decide)⟩
  · show Steps p.tables e below (s₁.setTop (mkF m 0 #[.val (.int pI)] [])) _
    refine XS.iloadN X0.here hx rfl (hb hby d1_0) rfl ?_
    show Steps p.tables e below (s₁.setTop (mkF m 1 #[.val (.int pI)] [(.int pI)])) _
    refine XS.bipush X0.here hx rfl (hb hby d1_1) ?_
    show Steps p.tables e below (s₁.setTop (mkF m 3 #[.val (.int pI)] [(.int (12 : Int32)), (.int pI)])) _
    refine XS.icmpYes X0.here hx rfl (pc0 := 3) (pc' := 8) rfl (hb hby d1_3) rfl (feq hc3).2 (by decide) (by decide) ?_
    show Steps p.tables e below (s₁.setTop (mkF m 8 #[.val (.int pI)] [])) _
    refine XS.iloadN X0.here hx rfl (hb hby d1_8) rfl ?_
    show Steps p.tables e below (s₁.setTop (mkF m 9 #[.val (.int pI)] [(.int pI)])) _
    refine XS.bipush X0.here hx rfl (hb hby d1_9) ?_
    show Steps p.tables e below (s₁.setTop (mkF m 11 #[.val (.int pI)] [(.int (15 : Int32)), (.int pI)])) _
    refine XS.icmpYes X0.here hx rfl (pc0 := 11) (pc' := 16) rfl (hb hby d1_11) rfl (feq hc11).2 (by decide) (by decide) ?_
    show Steps p.tables e below (s₁.setTop (mkF m 16 #[.val (.int pI)] [])) _
    refine XS.iloadN X0.here hx rfl (hb hby d1_16) rfl ?_
    show Steps p.tables e below (s₁.setTop (mkF m 17 #[.val (.int pI)] [(.int pI)])) _
    refine XS.bipush X0.here hx rfl (hb hby d1_17) ?_
    show Steps p.tables e below (s₁.setTop (mkF m 19 #[.val (.int pI)] [(.int (16 : Int32)), (.int pI)])) _
    refine XS.icmpNo X0.here hx rfl (hb hby d1_19) rfl (teq hc19).2 ?_
    show Steps p.tables e below (s₁.setTop (mkF m 22 #[.val (.int pI)] [])) _
    refine XS.iconst X0.here hx rfl (hb hby d1_22) ?_
    show Steps p.tables e below (s₁.setTop (mkF m 23 #[.val (.int pI)] [(.int (0 : Int32))])) _
    exact retN X0 hx (t := .boolean) Bd.returns (by simp) (hb hby d1_23) hr
  · show Qd0 Z pI h0 n0 _ s₁.heap _
    rw [e0]
    exact ⟨(by rw [own_exp, if_neg hc3, if_neg hc11, if_pos hc19]), N0, rfl⟩
theorem d1_24 : decode method_3_code 24 = .ok (.iconst 1, 1) := by decide +kernel
theorem d1_25 : decode method_3_code 25 = .ok (.ireturn, 1) := by decide +kernel
set_option maxRecDepth 65536 in
set_option maxHeartbeats 40000000 in
theorem rm1d (l : Launch) (Z : State) (a0 : Array Value) (hw : ∀ d ∈ tables_1, d.before a0 Z = true) (ws : List Jvm.Cond) (pI : Int32) (h0 : Heap) (n0 : Nat) (hc3 : ¬ (pI = (12 : Int32))) (hc11 : ¬ (pI = (15 : Int32))) (hc19 : ¬ (pI = (16 : Int32))) :
    MetFree l (⟨"com/example/lendloop/lendloop/core/RequestStatusIsOpenPinLaw", "expectedOpen", "(I)Z"⟩ : MethodName) (head1 (Jvm.Cond.code (⟨"com/example/lendloop/lendloop/core/RequestStatusIsOpenPinLaw", "expectedOpen", "(I)Z"⟩ : MethodName) method_3_code 1 (some .boolean) :: ws) ({ frames := 0, cells := 0, slots := 0, locals := 0 } : Room)) (fun qq U => qq = #[(.int pI)] ∧ Z.Warmed39 U.vm ∧ U.heap = h0) (fun _ _ _ _ _ => True) (fun _ UU oo UU' => ∃ vv LL, oo = .returned vv ∧ Qd0 Z pI h0 n0 vv UU'.heap LL ∧ FrameEnd UU oo UU' LL ({ frames := 0, cells := 0, slots := 0, locals := 0 } : Room).cells ({ frames := 0, cells := 0, slots := 0, locals := 0 } : Room).slots) := by
  refine MetFree.of_bodySF (plainFor_of_name pn_1) hisR ?_
  intro p e s m args below meth c s₁ Bd hml0 hP hK
  obtain ⟨rfl, hZ, hh⟩ := hP
  have hx := Bd.exec
  have hby := Bd.bytes
  have hml : c.maxLocals = 1 := hml0
  have hown : s.vm.findClass "com/example/lendloop/lendloop/core/RequestStatusIsOpenPinLaw" = some m.cls := findClass_of_methodNamed Bd.named
  have hnm := (name_of_methodNamed Bd.named Bd.method).1
  have X0 : Stand p l e ({ frames := 0, cells := 0, slots := 0, locals := 0 } : Room) s m #[(.int pI)] below meth c s₁ [] 0 0 := Stand.of_body Bd
  have e0 : s₁.heap = h0 := by rw [← hh, Bd.state]; rfl
  have N0 := Fr.nil n0
  have pre0 : ∀ t, Steps p.tables e below (s₁.setTop (mkF m 0 #[.val (.int pI)] [])) t → Steps p.tables e below (s₁.setTop (entryFrame m #[(.int pI)] 1)) t := fun t k => castTop (ef_1 m pI) k
  obtain ⟨fs, hr, hrun, hended, hW, hsame⟩ := X0.leave (v := some (.int (1 : Int32))) (fun h => by rw [Bd.returns] at h; cases h)
  refine ⟨_, _, pre0 _ ?_, hrun, hended, _, _, rfl, ?_, ⟨_, rfl⟩, hW, hsame.mono (by decide) (by decide)⟩
  · show Steps p.tables e below (s₁.setTop (mkF m 0 #[.val (.int pI)] [])) _
    refine XS.iloadN X0.here hx rfl (hb hby d1_0) rfl ?_
    show Steps p.tables e below (s₁.setTop (mkF m 1 #[.val (.int pI)] [(.int pI)])) _
    refine XS.bipush X0.here hx rfl (hb hby d1_1) ?_
    show Steps p.tables e below (s₁.setTop (mkF m 3 #[.val (.int pI)] [(.int (12 : Int32)), (.int pI)])) _
    refine XS.icmpYes X0.here hx rfl (pc0 := 3) (pc' := 8) rfl (hb hby d1_3) rfl (feq hc3).2 (by decide) (by decide) ?_
    show Steps p.tables e below (s₁.setTop (mkF m 8 #[.val (.int pI)] [])) _
    refine XS.iloadN X0.here hx rfl (hb hby d1_8) rfl ?_
    show Steps p.tables e below (s₁.setTop (mkF m 9 #[.val (.int pI)] [(.int pI)])) _
    refine XS.bipush X0.here hx rfl (hb hby d1_9) ?_
    show Steps p.tables e below (s₁.setTop (mkF m 11 #[.val (.int pI)] [(.int (15 : Int32)), (.int pI)])) _
    refine XS.icmpYes X0.here hx rfl (pc0 := 11) (pc' := 16) rfl (hb hby d1_11) rfl (feq hc11).2 (by decide) (by decide) ?_
    show Steps p.tables e below (s₁.setTop (mkF m 16 #[.val (.int pI)] [])) _
    refine XS.iloadN X0.here hx rfl (hb hby d1_16) rfl ?_
    show Steps p.tables e below (s₁.setTop (mkF m 17 #[.val (.int pI)] [(.int pI)])) _
    refine XS.bipush X0.here hx rfl (hb hby d1_17) ?_
    show Steps p.tables e below (s₁.setTop (mkF m 19 #[.val (.int pI)] [(.int (16 : Int32)), (.int pI)])) _
    refine XS.icmpYes X0.here hx rfl (pc0 := 19) (pc' := 24) rfl (hb hby d1_19) rfl (feq hc19).2 (by decide) (by decide) ?_
    show Steps p.tables e below (s₁.setTop (mkF m 24 #[.val (.int pI)] [])) _
    refine XS.iconst X0.here hx rfl (hb hby d1_24) ?_
    show Steps p.tables e below (s₁.setTop (mkF m 25 #[.val (.int pI)] [(.int (1 : Int32))])) _
    exact retN X0 hx (t := .boolean) Bd.returns (by simp) (hb hby d1_25) hr
  · show Qd0 Z pI h0 n0 _ s₁.heap _
    rw [e0]
    exact ⟨(by rw [own_exp, if_neg hc3, if_neg hc11, if_neg hc19]), N0, rfl⟩
theorem rm1 (l : Launch) (Z : State) (a0 : Array Value) (hw : ∀ d ∈ tables_1, d.before a0 Z = true) (ws : List Jvm.Cond) (pI : Int32) (h0 : Heap) (n0 : Nat) :
    MetFree l (⟨"com/example/lendloop/lendloop/core/RequestStatusIsOpenPinLaw", "expectedOpen", "(I)Z"⟩ : MethodName) (head1 (Jvm.Cond.code (⟨"com/example/lendloop/lendloop/core/RequestStatusIsOpenPinLaw", "expectedOpen", "(I)Z"⟩ : MethodName) method_3_code 1 (some .boolean) :: ws) ({ frames := 0, cells := 0, slots := 0, locals := 0 } : Room)) (fun qq U => qq = #[(.int pI)] ∧ Z.Warmed39 U.vm ∧ U.heap = h0) (fun _ _ _ _ _ => True) (fun _ UU oo UU' => ∃ vv LL, oo = .returned vv ∧ Qd0 Z pI h0 n0 vv UU'.heap LL ∧ FrameEnd UU oo UU' LL ({ frames := 0, cells := 0, slots := 0, locals := 0 } : Room).cells ({ frames := 0, cells := 0, slots := 0, locals := 0 } : Room).slots) := by
  by_cases h1 : pI = 12
  · exact rm1a l Z a0 hw ws pI h0 n0 h1
  by_cases h2 : pI = 15
  · exact rm1b l Z a0 hw ws pI h0 n0 h1 h2
  by_cases h3 : pI = 16
  · exact rm1c l Z a0 hw ws pI h0 n0 h1 h2 h3
  · exact rm1d l Z a0 hw ws pI h0 n0 h1 h2 h3
theorem d2_0 : decode prog_36_method_4_code 0 = .ok (.aload_n 0, 1) := by decide +kernel
theorem d2_1 : decode prog_36_method_4_code 1 = .ok (.getstatic 49, 3) := by decide +kernel
theorem d2_4 : decode prog_36_method_4_code 4 = .ok (.if_acmp .eq 21, 3) := by decide +kernel
theorem d2_25 : decode prog_36_method_4_code 25 = .ok (.iconst 0, 1) := by decide +kernel
theorem d2_26 : decode prog_36_method_4_code 26 = .ok (.ireturn, 1) := by decide +kernel
theorem ef_2 (m : MethodId) (x0 : Addr) : entryFrame m #[(.ref x0)] 1 = mkF m 0 #[.val (.ref x0)] [] := by first | (simp [entryFrame, mkF, argsToLocals, Value.category]; done) | rfl
theorem pn_2 : plainName "com/example/lendloop/lendloop/core/RequestStatus" = true := by first | (simp [plainName, overriddenIn]; done) | decide +kernel
def Qd1 (Z : State) (a fA rA nA : Addr) (h0 : Heap) (n0 : Nat) (v : Option Value) (h : Heap) (L : List Loc) : Prop := v = some (.int (own_open a fA rA nA)) ∧ Fr n0 L ∧ h = h0
set_option maxRecDepth 65536 in
set_option maxHeartbeats 40000000 in
theorem rm2a (l : Launch) (Z : State) (a0 : Array Value) (hw : ∀ d ∈ tables_1, d.before a0 Z = true) (ws : List Jvm.Cond) (a fA rA nA : Addr) (h0 : Heap) (n0 : Nat) (SF : Sta Z h0 "com/example/lendloop/lendloop/core/RequestStatus" "FINALISED" "Lcom/example/lendloop/lendloop/core/RequestStatus;" (.ref fA)) (SR : Sta Z h0 "com/example/lendloop/lendloop/core/RequestStatus" "ERROR" "Lcom/example/lendloop/lendloop/core/RequestStatus;" (.ref rA)) (SN : Sta Z h0 "com/example/lendloop/lendloop/core/RequestStatus" "NO_ITEMS_SELECTABLE_AT_ANY_AGENCY" "Lcom/example/lendloop/lendloop/core/RequestStatus;" (.ref nA)) (ha4 : a = fA) :
    MetFree l (⟨"com/example/lendloop/lendloop/core/RequestStatus", "isOpen", "()Z"⟩ : MethodName) (head1 (Jvm.Cond.code (⟨"com/example/lendloop/lendloop/core/RequestStatus", "isOpen", "()Z"⟩ : MethodName) prog_36_method_4_code 1 (some .boolean) :: ws) ({ frames := 0, cells := 0, slots := 0, locals := 0 } : Room)) (fun qq U => qq = #[(.ref a)] ∧ Z.Warmed39 U.vm ∧ U.heap = h0) (fun _ _ _ _ _ => True) (fun _ UU oo UU' => ∃ vv LL, oo = .returned vv ∧ Qd1 Z a fA rA nA h0 n0 vv UU'.heap LL ∧ FrameEnd UU oo UU' LL ({ frames := 0, cells := 0, slots := 0, locals := 0 } : Room).cells ({ frames := 0, cells := 0, slots := 0, locals := 0 } : Room).slots) := by
  refine MetFree.of_bodySF (plainFor_of_name pn_2) hisR ?_
  intro p e s m args below meth c s₁ Bd hml0 hP hK
  obtain ⟨rfl, hZ, hh⟩ := hP
  have hx := Bd.exec
  have hby := Bd.bytes
  have hml : c.maxLocals = 1 := hml0
  have hown : s.vm.findClass "com/example/lendloop/lendloop/core/RequestStatus" = some m.cls := findClass_of_methodNamed Bd.named
  have hnm := (name_of_methodNamed Bd.named Bd.method).1
  have X0 : Stand p l e ({ frames := 0, cells := 0, slots := 0, locals := 0 } : Room) s m #[(.ref a)] below meth c s₁ [] 0 0 := Stand.of_body Bd
  have e0 : s₁.heap = h0 := by rw [← hh, Bd.state]; rfl
  have N0 := Fr.nil n0
  have pre0 : ∀ t, Steps p.tables e below (s₁.setTop (mkF m 0 #[.val (.ref a)] [])) t → Steps p.tables e below (s₁.setTop (entryFrame m #[(.ref a)] 1)) t := fun t k => castTop (ef_2 m a) k
  obtain ⟨T1, X1, e1, st1⟩ := getS2 X0 hx hZ hown (host := "") (Or.inl (hw _ (List.mem_of_getElem? (i := 48) rfl))) Via.refl e0 SF (g := (mkF m 1 #[.val (.ref a)] [(.ref a)])) rfl (hb hby d2_1)
  obtain ⟨fs, hr, hrun, hended, hW, hsame⟩ := X1.leave (v := some (.int (0 : Int32))) (fun h => by rw [Bd.returns] at h; cases h)
  refine ⟨_, _, pre0 _ ?_, hrun, hended, _, _, rfl, ?_, ⟨_, rfl⟩, hW, hsame.mono (by decide) (by decide)⟩
  · show Steps p.tables e below (s₁.setTop (mkF m 0 #[.val (.ref a)] [])) _
    refine XS.aloadN X0.here hx rfl (hb hby d2_0) rfl rfl ?_
    show Steps p.tables e below (s₁.setTop (mkF m 1 #[.val (.ref a)] [(.ref a)])) _
    refine st1 _ ?_
    show Steps p.tables e below (T1.setTop (mkF m 4 #[.val (.ref a)] [(.ref fA), (.ref a)])) _
    refine Jvm.RoadKit.acmp (g := (mkF m 4 #[.val (.ref a)] [(.ref fA), (.ref a)])) X1 hx rfl rfl rfl (pc0 := 4) (pc' := 25) (same := true) rfl (hb hby d2_4) rfl (decide_eq_true (congrArg Value.ref ha4)) (by decide) (by decide) ?_
    show Steps p.tables e below (T1.setTop (mkF m 25 #[.val (.ref a)] [])) _
    refine XS.iconst X1.here hx rfl (hb hby d2_25) ?_
    show Steps p.tables e below (T1.setTop (mkF m 26 #[.val (.ref a)] [(.int (0 : Int32))])) _
    exact retN X1 hx (t := .boolean) Bd.returns (by simp) (hb hby d2_26) hr
  · show Qd1 Z a fA rA nA h0 n0 _ T1.heap _
    rw [e1]
    exact ⟨(by rw [own_open, if_pos ha4]), N0, rfl⟩
theorem d2_7 : decode prog_36_method_4_code 7 = .ok (.aload_n 0, 1) := by decide +kernel
theorem d2_8 : decode prog_36_method_4_code 8 = .ok (.getstatic 52, 3) := by decide +kernel
theorem d2_11 : decode prog_36_method_4_code 11 = .ok (.if_acmp .eq 14, 3) := by decide +kernel
set_option maxRecDepth 65536 in
set_option maxHeartbeats 40000000 in
theorem rm2b (l : Launch) (Z : State) (a0 : Array Value) (hw : ∀ d ∈ tables_1, d.before a0 Z = true) (ws : List Jvm.Cond) (a fA rA nA : Addr) (h0 : Heap) (n0 : Nat) (SF : Sta Z h0 "com/example/lendloop/lendloop/core/RequestStatus" "FINALISED" "Lcom/example/lendloop/lendloop/core/RequestStatus;" (.ref fA)) (SR : Sta Z h0 "com/example/lendloop/lendloop/core/RequestStatus" "ERROR" "Lcom/example/lendloop/lendloop/core/RequestStatus;" (.ref rA)) (SN : Sta Z h0 "com/example/lendloop/lendloop/core/RequestStatus" "NO_ITEMS_SELECTABLE_AT_ANY_AGENCY" "Lcom/example/lendloop/lendloop/core/RequestStatus;" (.ref nA)) (ha4 : ¬ (a = fA)) (ha11 : a = rA) :
    MetFree l (⟨"com/example/lendloop/lendloop/core/RequestStatus", "isOpen", "()Z"⟩ : MethodName) (head1 (Jvm.Cond.code (⟨"com/example/lendloop/lendloop/core/RequestStatus", "isOpen", "()Z"⟩ : MethodName) prog_36_method_4_code 1 (some .boolean) :: ws) ({ frames := 0, cells := 0, slots := 0, locals := 0 } : Room)) (fun qq U => qq = #[(.ref a)] ∧ Z.Warmed39 U.vm ∧ U.heap = h0) (fun _ _ _ _ _ => True) (fun _ UU oo UU' => ∃ vv LL, oo = .returned vv ∧ Qd1 Z a fA rA nA h0 n0 vv UU'.heap LL ∧ FrameEnd UU oo UU' LL ({ frames := 0, cells := 0, slots := 0, locals := 0 } : Room).cells ({ frames := 0, cells := 0, slots := 0, locals := 0 } : Room).slots) := by
  refine MetFree.of_bodySF (plainFor_of_name pn_2) hisR ?_
  intro p e s m args below meth c s₁ Bd hml0 hP hK
  obtain ⟨rfl, hZ, hh⟩ := hP
  have hx := Bd.exec
  have hby := Bd.bytes
  have hml : c.maxLocals = 1 := hml0
  have hown : s.vm.findClass "com/example/lendloop/lendloop/core/RequestStatus" = some m.cls := findClass_of_methodNamed Bd.named
  have hnm := (name_of_methodNamed Bd.named Bd.method).1
  have X0 : Stand p l e ({ frames := 0, cells := 0, slots := 0, locals := 0 } : Room) s m #[(.ref a)] below meth c s₁ [] 0 0 := Stand.of_body Bd
  have e0 : s₁.heap = h0 := by rw [← hh, Bd.state]; rfl
  have N0 := Fr.nil n0
  have pre0 : ∀ t, Steps p.tables e below (s₁.setTop (mkF m 0 #[.val (.ref a)] [])) t → Steps p.tables e below (s₁.setTop (entryFrame m #[(.ref a)] 1)) t := fun t k => castTop (ef_2 m a) k
  obtain ⟨T1, X1, e1, st1⟩ := getS2 X0 hx hZ hown (host := "") (Or.inl (hw _ (List.mem_of_getElem? (i := 48) rfl))) Via.refl e0 SF (g := (mkF m 1 #[.val (.ref a)] [(.ref a)])) rfl (hb hby d2_1)
  obtain ⟨T2, X2, e2, st2⟩ := getS2 X1 hx hZ hown (host := "") (Or.inl (hw _ (List.mem_of_getElem? (i := 49) rfl))) Via.refl e1 SR (g := (mkF m 8 #[.val (.ref a)] [(.ref a)])) rfl (hb hby d2_8)
  obtain ⟨fs, hr, hrun, hended, hW, hsame⟩ := X2.leave (v := some (.int (0 : Int32))) (fun h => by rw [Bd.returns] at h; cases h)
  refine ⟨_, _, pre0 _ ?_, hrun, hended, _, _, rfl, ?_, ⟨_, rfl⟩, hW, hsame.mono (by decide) (by decide)⟩
  · show Steps p.tables e below (s₁.setTop (mkF m 0 #[.val (.ref a)] [])) _
    refine XS.aloadN X0.here hx rfl (hb hby d2_0) rfl rfl ?_
    show Steps p.tables e below (s₁.setTop (mkF m 1 #[.val (.ref a)] [(.ref a)])) _
    refine st1 _ ?_
    show Steps p.tables e below (T1.setTop (mkF m 4 #[.val (.ref a)] [(.ref fA), (.ref a)])) _
    refine Jvm.RoadKit.acmp (g := (mkF m 4 #[.val (.ref a)] [(.ref fA), (.ref a)])) X1 hx rfl rfl rfl (pc0 := 4) (pc' := 7) (same := false) rfl (hb hby d2_4) rfl (decide_eq_false fun q => ha4 (Value.ref.inj q)) (by decide) (by decide) ?_
    show Steps p.tables e below (T1.setTop (mkF m 7 #[.val (.ref a)] [])) _
    refine XS.aloadN X1.here hx rfl (hb hby d2_7) rfl rfl ?_
    show Steps p.tables e below (T1.setTop (mkF m 8 #[.val (.ref a)] [(.ref a)])) _
    refine st2 _ ?_
    show Steps p.tables e below (T2.setTop (mkF m 11 #[.val (.ref a)] [(.ref rA), (.ref a)])) _
    refine Jvm.RoadKit.acmp (g := (mkF m 11 #[.val (.ref a)] [(.ref rA), (.ref a)])) X2 hx rfl rfl rfl (pc0 := 11) (pc' := 25) (same := true) rfl (hb hby d2_11) rfl (decide_eq_true (congrArg Value.ref ha11)) (by decide) (by decide) ?_
    show Steps p.tables e below (T2.setTop (mkF m 25 #[.val (.ref a)] [])) _
    refine XS.iconst X2.here hx rfl (hb hby d2_25) ?_
    show Steps p.tables e below (T2.setTop (mkF m 26 #[.val (.ref a)] [(.int (0 : Int32))])) _
    exact retN X2 hx (t := .boolean) Bd.returns (by simp) (hb hby d2_26) hr
  · show Qd1 Z a fA rA nA h0 n0 _ T2.heap _
    rw [e2]
    exact ⟨(by rw [own_open, if_neg ha4, if_pos ha11]), N0, rfl⟩
theorem d2_14 : decode prog_36_method_4_code 14 = .ok (.aload_n 0, 1) := by decide +kernel
theorem d2_15 : decode prog_36_method_4_code 15 = .ok (.getstatic 40, 3) := by decide +kernel
theorem d2_18 : decode prog_36_method_4_code 18 = .ok (.if_acmp .eq 7, 3) := by decide +kernel
set_option maxRecDepth 65536 in
set_option maxHeartbeats 40000000 in
theorem rm2c (l : Launch) (Z : State) (a0 : Array Value) (hw : ∀ d ∈ tables_1, d.before a0 Z = true) (ws : List Jvm.Cond) (a fA rA nA : Addr) (h0 : Heap) (n0 : Nat) (SF : Sta Z h0 "com/example/lendloop/lendloop/core/RequestStatus" "FINALISED" "Lcom/example/lendloop/lendloop/core/RequestStatus;" (.ref fA)) (SR : Sta Z h0 "com/example/lendloop/lendloop/core/RequestStatus" "ERROR" "Lcom/example/lendloop/lendloop/core/RequestStatus;" (.ref rA)) (SN : Sta Z h0 "com/example/lendloop/lendloop/core/RequestStatus" "NO_ITEMS_SELECTABLE_AT_ANY_AGENCY" "Lcom/example/lendloop/lendloop/core/RequestStatus;" (.ref nA)) (ha4 : ¬ (a = fA)) (ha11 : ¬ (a = rA)) (ha18 : a = nA) :
    MetFree l (⟨"com/example/lendloop/lendloop/core/RequestStatus", "isOpen", "()Z"⟩ : MethodName) (head1 (Jvm.Cond.code (⟨"com/example/lendloop/lendloop/core/RequestStatus", "isOpen", "()Z"⟩ : MethodName) prog_36_method_4_code 1 (some .boolean) :: ws) ({ frames := 0, cells := 0, slots := 0, locals := 0 } : Room)) (fun qq U => qq = #[(.ref a)] ∧ Z.Warmed39 U.vm ∧ U.heap = h0) (fun _ _ _ _ _ => True) (fun _ UU oo UU' => ∃ vv LL, oo = .returned vv ∧ Qd1 Z a fA rA nA h0 n0 vv UU'.heap LL ∧ FrameEnd UU oo UU' LL ({ frames := 0, cells := 0, slots := 0, locals := 0 } : Room).cells ({ frames := 0, cells := 0, slots := 0, locals := 0 } : Room).slots) := by
  refine MetFree.of_bodySF (plainFor_of_name pn_2) hisR ?_
  intro p e s m args below meth c s₁ Bd hml0 hP hK
  obtain ⟨rfl, hZ, hh⟩ := hP
  have hx := Bd.exec
  have hby := Bd.bytes
  have hml : c.maxLocals = 1 := hml0
  have hown : s.vm.findClass "com/example/lendloop/lendloop/core/RequestStatus" = some m.cls := findClass_of_methodNamed Bd.named
  have hnm := (name_of_methodNamed Bd.named Bd.method).1
  have X0 : Stand p l e ({ frames := 0, cells := 0, slots := 0, locals := 0 } : Room) s m #[(.ref a)] below meth c s₁ [] 0 0 := Stand.of_body Bd
  have e0 : s₁.heap = h0 := by rw [← hh, Bd.state]; rfl
  have N0 := Fr.nil n0
  have pre0 : ∀ t, Steps p.tables e below (s₁.setTop (mkF m 0 #[.val (.ref a)] [])) t → Steps p.tables e below (s₁.setTop (entryFrame m #[(.ref a)] 1)) t := fun t k => castTop (ef_2 m a) k
  obtain ⟨T1, X1, e1, st1⟩ := getS2 X0 hx hZ hown (host := "") (Or.inl (hw _ (List.mem_of_getElem? (i := 48) rfl))) Via.refl e0 SF (g := (mkF m 1 #[.val (.ref a)] [(.ref a)])) rfl (hb hby d2_1)
  obtain ⟨T2, X2, e2, st2⟩ := getS2 X1 hx hZ hown (host := "") (Or.inl (hw _ (List.mem_of_getElem? (i := 49) rfl))) Via.refl e1 SR (g := (mkF m 8 #[.val (.ref a)] [(.ref a)])) rfl (hb hby d2_8)
  obtain ⟨T3, X3, e3, st3⟩ := getS2 X2 hx hZ hown (host := "") (Or.inl (hw _ (List.mem_of_getElem? (i := 50) rfl))) Via.refl e2 SN (g := (mkF m 15 #[.val (.ref a)] [(.ref a)])) rfl (hb hby d2_15)
  obtain ⟨fs, hr, hrun, hended, hW, hsame⟩ := X3.leave (v := some (.int (0 : Int32))) (fun h => by rw [Bd.returns] at h; cases h)
  refine ⟨_, _, pre0 _ ?_, hrun, hended, _, _, rfl, ?_, ⟨_, rfl⟩, hW, hsame.mono (by decide) (by decide)⟩
  · show Steps p.tables e below (s₁.setTop (mkF m 0 #[.val (.ref a)] [])) _
    refine XS.aloadN X0.here hx rfl (hb hby d2_0) rfl rfl ?_
    show Steps p.tables e below (s₁.setTop (mkF m 1 #[.val (.ref a)] [(.ref a)])) _
    refine st1 _ ?_
    show Steps p.tables e below (T1.setTop (mkF m 4 #[.val (.ref a)] [(.ref fA), (.ref a)])) _
    refine Jvm.RoadKit.acmp (g := (mkF m 4 #[.val (.ref a)] [(.ref fA), (.ref a)])) X1 hx rfl rfl rfl (pc0 := 4) (pc' := 7) (same := false) rfl (hb hby d2_4) rfl (decide_eq_false fun q => ha4 (Value.ref.inj q)) (by decide) (by decide) ?_
    show Steps p.tables e below (T1.setTop (mkF m 7 #[.val (.ref a)] [])) _
    refine XS.aloadN X1.here hx rfl (hb hby d2_7) rfl rfl ?_
    show Steps p.tables e below (T1.setTop (mkF m 8 #[.val (.ref a)] [(.ref a)])) _
    refine st2 _ ?_
    show Steps p.tables e below (T2.setTop (mkF m 11 #[.val (.ref a)] [(.ref rA), (.ref a)])) _
    refine Jvm.RoadKit.acmp (g := (mkF m 11 #[.val (.ref a)] [(.ref rA), (.ref a)])) X2 hx rfl rfl rfl (pc0 := 11) (pc' := 14) (same := false) rfl (hb hby d2_11) rfl (decide_eq_false fun q => ha11 (Value.ref.inj q)) (by decide) (by decide) ?_
    show Steps p.tables e below (T2.setTop (mkF m 14 #[.val (.ref a)] [])) _
    refine XS.aloadN X2.here hx rfl (hb hby d2_14) rfl rfl ?_
    show Steps p.tables e below (T2.setTop (mkF m 15 #[.val (.ref a)] [(.ref a)])) _
    refine st3 _ ?_
    show Steps p.tables e below (T3.setTop (mkF m 18 #[.val (.ref a)] [(.ref nA), (.ref a)])) _
    refine Jvm.RoadKit.acmp (g := (mkF m 18 #[.val (.ref a)] [(.ref nA), (.ref a)])) X3 hx rfl rfl rfl (pc0 := 18) (pc' := 25) (same := true) rfl (hb hby d2_18) rfl (decide_eq_true (congrArg Value.ref ha18)) (by decide) (by decide) ?_
    show Steps p.tables e below (T3.setTop (mkF m 25 #[.val (.ref a)] [])) _
    refine XS.iconst X3.here hx rfl (hb hby d2_25) ?_
    show Steps p.tables e below (T3.setTop (mkF m 26 #[.val (.ref a)] [(.int (0 : Int32))])) _
    exact retN X3 hx (t := .boolean) Bd.returns (by simp) (hb hby d2_26) hr
  · show Qd1 Z a fA rA nA h0 n0 _ T3.heap _
    rw [e3]
    exact ⟨(by rw [own_open, if_neg ha4, if_neg ha11, if_pos ha18]), N0, rfl⟩
theorem d2_21 : decode prog_36_method_4_code 21 = .ok (.iconst 1, 1) := by decide +kernel
theorem d2_22 : decode prog_36_method_4_code 22 = .ok (.goto 4, 3) := by decide +kernel
set_option maxRecDepth 65536 in
set_option maxHeartbeats 40000000 in
theorem rm2d (l : Launch) (Z : State) (a0 : Array Value) (hw : ∀ d ∈ tables_1, d.before a0 Z = true) (ws : List Jvm.Cond) (a fA rA nA : Addr) (h0 : Heap) (n0 : Nat) (SF : Sta Z h0 "com/example/lendloop/lendloop/core/RequestStatus" "FINALISED" "Lcom/example/lendloop/lendloop/core/RequestStatus;" (.ref fA)) (SR : Sta Z h0 "com/example/lendloop/lendloop/core/RequestStatus" "ERROR" "Lcom/example/lendloop/lendloop/core/RequestStatus;" (.ref rA)) (SN : Sta Z h0 "com/example/lendloop/lendloop/core/RequestStatus" "NO_ITEMS_SELECTABLE_AT_ANY_AGENCY" "Lcom/example/lendloop/lendloop/core/RequestStatus;" (.ref nA)) (ha4 : ¬ (a = fA)) (ha11 : ¬ (a = rA)) (ha18 : ¬ (a = nA)) :
    MetFree l (⟨"com/example/lendloop/lendloop/core/RequestStatus", "isOpen", "()Z"⟩ : MethodName) (head1 (Jvm.Cond.code (⟨"com/example/lendloop/lendloop/core/RequestStatus", "isOpen", "()Z"⟩ : MethodName) prog_36_method_4_code 1 (some .boolean) :: ws) ({ frames := 0, cells := 0, slots := 0, locals := 0 } : Room)) (fun qq U => qq = #[(.ref a)] ∧ Z.Warmed39 U.vm ∧ U.heap = h0) (fun _ _ _ _ _ => True) (fun _ UU oo UU' => ∃ vv LL, oo = .returned vv ∧ Qd1 Z a fA rA nA h0 n0 vv UU'.heap LL ∧ FrameEnd UU oo UU' LL ({ frames := 0, cells := 0, slots := 0, locals := 0 } : Room).cells ({ frames := 0, cells := 0, slots := 0, locals := 0 } : Room).slots) := by
  refine MetFree.of_bodySF (plainFor_of_name pn_2) hisR ?_
  intro p e s m args below meth c s₁ Bd hml0 hP hK
  obtain ⟨rfl, hZ, hh⟩ := hP
  have hx := Bd.exec
  have hby := Bd.bytes
  have hml : c.maxLocals = 1 := hml0
  have hown : s.vm.findClass "com/example/lendloop/lendloop/core/RequestStatus" = some m.cls := findClass_of_methodNamed Bd.named
  have hnm := (name_of_methodNamed Bd.named Bd.method).1
  have X0 : Stand p l e ({ frames := 0, cells := 0, slots := 0, locals := 0 } : Room) s m #[(.ref a)] below meth c s₁ [] 0 0 := Stand.of_body Bd
  have e0 : s₁.heap = h0 := by rw [← hh, Bd.state]; rfl
  have N0 := Fr.nil n0
  have pre0 : ∀ t, Steps p.tables e below (s₁.setTop (mkF m 0 #[.val (.ref a)] [])) t → Steps p.tables e below (s₁.setTop (entryFrame m #[(.ref a)] 1)) t := fun t k => castTop (ef_2 m a) k
  obtain ⟨T1, X1, e1, st1⟩ := getS2 X0 hx hZ hown (host := "") (Or.inl (hw _ (List.mem_of_getElem? (i := 48) rfl))) Via.refl e0 SF (g := (mkF m 1 #[.val (.ref a)] [(.ref a)])) rfl (hb hby d2_1)
  obtain ⟨T2, X2, e2, st2⟩ := getS2 X1 hx hZ hown (host := "") (Or.inl (hw _ (List.mem_of_getElem? (i := 49) rfl))) Via.refl e1 SR (g := (mkF m 8 #[.val (.ref a)] [(.ref a)])) rfl (hb hby d2_8)
  obtain ⟨T3, X3, e3, st3⟩ := getS2 X2 hx hZ hown (host := "") (Or.inl (hw _ (List.mem_of_getElem? (i := 50) rfl))) Via.refl e2 SN (g := (mkF m 15 #[.val (.ref a)] [(.ref a)])) rfl (hb hby d2_15)
  obtain ⟨fs, hr, hrun, hended, hW, hsame⟩ := X3.leave (v := some (.int (1 : Int32))) (fun h => by rw [Bd.returns] at h; cases h)
  refine ⟨_, _, pre0 _ ?_, hrun, hended, _, _, rfl, ?_, ⟨_, rfl⟩, hW, hsame.mono (by decide) (by decide)⟩
  · show Steps p.tables e below (s₁.setTop (mkF m 0 #[.val (.ref a)] [])) _
    refine XS.aloadN X0.here hx rfl (hb hby d2_0) rfl rfl ?_
    show Steps p.tables e below (s₁.setTop (mkF m 1 #[.val (.ref a)] [(.ref a)])) _
    refine st1 _ ?_
    show Steps p.tables e below (T1.setTop (mkF m 4 #[.val (.ref a)] [(.ref fA), (.ref a)])) _
    refine Jvm.RoadKit.acmp (g := (mkF m 4 #[.val (.ref a)] [(.ref fA), (.ref a)])) X1 hx rfl rfl rfl (pc0 := 4) (pc' := 7) (same := false) rfl (hb hby d2_4) rfl (decide_eq_false fun q => ha4 (Value.ref.inj q)) (by decide) (by decide) ?_
    show Steps p.tables e below (T1.setTop (mkF m 7 #[.val (.ref a)] [])) _
    refine XS.aloadN X1.here hx rfl (hb hby d2_7) rfl rfl ?_
    show Steps p.tables e below (T1.setTop (mkF m 8 #[.val (.ref a)] [(.ref a)])) _
    refine st2 _ ?_
    show Steps p.tables e below (T2.setTop (mkF m 11 #[.val (.ref a)] [(.ref rA), (.ref a)])) _
    refine Jvm.RoadKit.acmp (g := (mkF m 11 #[.val (.ref a)] [(.ref rA), (.ref a)])) X2 hx rfl rfl rfl (pc0 := 11) (pc' := 14) (same := false) rfl (hb hby d2_11) rfl (decide_eq_false fun q => ha11 (Value.ref.inj q)) (by decide) (by decide) ?_
    show Steps p.tables e below (T2.setTop (mkF m 14 #[.val (.ref a)] [])) _
    refine XS.aloadN X2.here hx rfl (hb hby d2_14) rfl rfl ?_
    show Steps p.tables e below (T2.setTop (mkF m 15 #[.val (.ref a)] [(.ref a)])) _
    refine st3 _ ?_
    show Steps p.tables e below (T3.setTop (mkF m 18 #[.val (.ref a)] [(.ref nA), (.ref a)])) _
    refine Jvm.RoadKit.acmp (g := (mkF m 18 #[.val (.ref a)] [(.ref nA), (.ref a)])) X3 hx rfl rfl rfl (pc0 := 18) (pc' := 21) (same := false) rfl (hb hby d2_18) rfl (decide_eq_false fun q => ha18 (Value.ref.inj q)) (by decide) (by decide) ?_
    show Steps p.tables e below (T3.setTop (mkF m 21 #[.val (.ref a)] [])) _
    refine XS.iconst X3.here hx rfl (hb hby d2_21) ?_
    show Steps p.tables e below (T3.setTop (mkF m 22 #[.val (.ref a)] [(.int (1 : Int32))])) _
    refine XS.goto X3.here hx rfl (pc0 := 22) (pc' := 26) rfl (hb hby d2_22) (by decide) (by decide) ?_
    show Steps p.tables e below (T3.setTop (mkF m 26 #[.val (.ref a)] [(.int (1 : Int32))])) _
    exact retN X3 hx (t := .boolean) Bd.returns (by simp) (hb hby d2_26) hr
  · show Qd1 Z a fA rA nA h0 n0 _ T3.heap _
    rw [e3]
    exact ⟨(by rw [own_open, if_neg ha4, if_neg ha11, if_neg ha18]), N0, rfl⟩
theorem rm2 (l : Launch) (Z : State) (a0 : Array Value) (hw : ∀ d ∈ tables_1, d.before a0 Z = true) (ws : List Jvm.Cond) (a fA rA nA : Addr) (h0 : Heap) (n0 : Nat) (SF : Sta Z h0 "com/example/lendloop/lendloop/core/RequestStatus" "FINALISED" "Lcom/example/lendloop/lendloop/core/RequestStatus;" (.ref fA)) (SR : Sta Z h0 "com/example/lendloop/lendloop/core/RequestStatus" "ERROR" "Lcom/example/lendloop/lendloop/core/RequestStatus;" (.ref rA)) (SN : Sta Z h0 "com/example/lendloop/lendloop/core/RequestStatus" "NO_ITEMS_SELECTABLE_AT_ANY_AGENCY" "Lcom/example/lendloop/lendloop/core/RequestStatus;" (.ref nA)) :
    MetFree l (⟨"com/example/lendloop/lendloop/core/RequestStatus", "isOpen", "()Z"⟩ : MethodName) (head1 (Jvm.Cond.code (⟨"com/example/lendloop/lendloop/core/RequestStatus", "isOpen", "()Z"⟩ : MethodName) prog_36_method_4_code 1 (some .boolean) :: ws) ({ frames := 0, cells := 0, slots := 0, locals := 0 } : Room)) (fun qq U => qq = #[(.ref a)] ∧ Z.Warmed39 U.vm ∧ U.heap = h0) (fun _ _ _ _ _ => True) (fun _ UU oo UU' => ∃ vv LL, oo = .returned vv ∧ Qd1 Z a fA rA nA h0 n0 vv UU'.heap LL ∧ FrameEnd UU oo UU' LL ({ frames := 0, cells := 0, slots := 0, locals := 0 } : Room).cells ({ frames := 0, cells := 0, slots := 0, locals := 0 } : Room).slots) := by
  by_cases h1 : a = fA
  · exact rm2a l Z a0 hw ws a fA rA nA h0 n0 SF SR SN h1
  by_cases h2 : a = rA
  · exact rm2b l Z a0 hw ws a fA rA nA h0 n0 SF SR SN h1 h2
  by_cases h3 : a = nA
  · exact rm2c l Z a0 hw ws a fA rA nA h0 n0 SF SR SN h1 h2 h3
  · exact rm2d l Z a0 hw ws a fA rA nA h0 n0 SF SR SN h1 h2 h3
theorem own_pd0 : parseMethodDescriptor "(I)Z" = some ⟨[.int], some .boolean⟩ := by decide +kernel
theorem own_pd1 : parseMethodDescriptor "()Z" = some ⟨[], some .boolean⟩ := by decide +kernel

theorem own_nn {n : Nat} (hn : n ≤ 255) : ¬ Int32.ofNat n < 0 := by
  rw [Int32.lt_iff_toInt_lt, Int32.toInt_ofNat_of_lt (by omega), show (0 : Int32).toInt = 0 from rfl]
  omega
theorem own_n32 {n : Nat} (hn : n ≤ 255) : (Int32.ofNat n).toNatClampNeg = n := by
  rw [Int32.toNatClampNeg, Int32.toInt_ofNat_of_lt (by omega)]; rfl
theorem own_idx (p : Int32) : ∃ k : Nat, k < 17 ∧ ((p &&& (2147483647 : Int32)) % (17 : Int32)) = Int32.ofNat k := by
  have h1 := c_mask p 2147483647 31 (by decide) (by decide)
  have h2 := (c_irem (p &&& 2147483647) 17 17 (by decide)).1 (by omega)
  refine ⟨((p &&& 2147483647) % 17).toInt.toNat, by omega, ?_⟩
  rw [← Int32.toInt_inj, Int32.toInt_ofNat_of_lt (by omega)]
  omega
theorem own_get (L : List Addr) {k : Nat} (h : k < 17) (hl : L.length = 17 := by rfl) : (L.map Value.ref).getD k .null = .ref (L.getD k 0) := by
  simp [List.getD_eq_getElem?_getD, List.getElem?_eq_getElem (show k < L.length by omega)]
theorem own_exa {Z : State} {C : String} (L : List Addr) {k : Nat} (h : k < 17) (hall : ∀ x ∈ L, Exa Z Z.heap x C) (hl : L.length = 17 := by rfl) : Exa Z Z.heap (L.getD k 0) C := by
  rw [List.getD_eq_getElem?_getD, List.getElem?_eq_getElem (show k < L.length by omega)]
  exact hall _ (List.getElem_mem _)

theorem ef_0 (m : MethodId) (x0 : Int32) : entryFrame m #[(.int x0)] maxLocals = mkF m 0 #[.val (.int x0), .unset, .unset, .unset] [] := by first | (simp [entryFrame, mkF, argsToLocals, Value.category, maxLocals]; done) | rfl
theorem pn_0 : plainName "com/example/lendloop/lendloop/core/RequestStatusIsOpenPinLaw" = true := by first | (simp [plainName, overriddenIn]; done) | decide +kernel
def Qd2 (Z : State) (pI : Int32) (w0 w1 w2 w3 w4 w5 w6 w7 w8 w9 w10 w11 w12 w13 w14 w15 w16 : Addr) (h0 : Heap) (n0 : Nat) (v : Option Value) (h : Heap) (L : List Loc) : Prop := v = some (.int 1) ∧ Fr n0 L
set_option maxRecDepth 65536 in
set_option maxHeartbeats 40000000 in
theorem rm0 (l : Launch) (Z : State) (a0 : Array Value) (hw : ∀ d ∈ tables_1, d.before a0 Z = true) (ws : List Jvm.Cond) (pI : Int32) (w0 w1 w2 w3 w4 w5 w6 w7 w8 w9 w10 w11 w12 w13 w14 w15 w16 : Addr) (h0 : Heap) (n0 : Nat) (O0 : Old Z n0 h0) (S0 : Sta Z Z.heap "com/example/lendloop/lendloop/core/RequestStatus" "SUBMITTED" "Lcom/example/lendloop/lendloop/core/RequestStatus;" (.ref w0)) (E_0 : Exa Z Z.heap w0 "com/example/lendloop/lendloop/core/RequestStatus") (S1 : Sta Z Z.heap "com/example/lendloop/lendloop/core/RequestStatus" "PATRON_VERIFIED" "Lcom/example/lendloop/lendloop/core/RequestStatus;" (.ref w1)) (E_1 : Exa Z Z.heap w1 "com/example/lendloop/lendloop/core/RequestStatus") (S2 : Sta Z Z.heap "com/example/lendloop/lendloop/core/RequestStatus" "RESOLVED" "Lcom/example/lendloop/lendloop/core/RequestStatus;" (.ref w2)) (E_2 : Exa Z Z.heap w2 "com/example/lendloop/lendloop/core/RequestStatus") (S3 : Sta Z Z.heap "com/example/lendloop/lendloop/core/RequestStatus" "REQUEST_PLACED_AT_SUPPLYING_AGENCY" "Lcom/example/lendloop/lendloop/core/RequestStatus;" (.ref w3)) (E_3 : Exa Z Z.heap w3 "com/example/lendloop/lendloop/core/RequestStatus") (S4 : Sta Z Z.heap "com/example/lendloop/lendloop/core/RequestStatus" "CONFIRMED" "Lcom/example/lendloop/lendloop/core/RequestStatus;" (.ref w4)) (E_4 : Exa Z Z.heap w4 "com/example/lendloop/lendloop/core/RequestStatus") (S5 : Sta Z Z.heap "com/example/lendloop/lendloop/core/RequestStatus" "REQUEST_PLACED_AT_BORROWING_AGENCY" "Lcom/example/lendloop/lendloop/core/RequestStatus;" (.ref w5)) (E_5 : Exa Z Z.heap w5 "com/example/lendloop/lendloop/core/RequestStatus") (S6 : Sta Z Z.heap "com/example/lendloop/lendloop/core/RequestStatus" "PICKUP_TRANSIT" "Lcom/example/lendloop/lendloop/core/RequestStatus;" (.ref w6)) (E_6 : Exa Z Z.heap w6 "com/example/lendloop/lendloop/core/RequestStatus") (S7 : Sta Z Z.heap "com/example/lendloop/lendloop/core/RequestStatus" "RECEIVED_AT_PICKUP" "Lcom/example/lendloop/lendloop/core/RequestStatus;" (.ref w7)) (E_7 : Exa Z Z.heap w7 "com/example/lendloop/lendloop/core/RequestStatus") (S8 : Sta Z Z.heap "com/example/lendloop/lendloop/core/RequestStatus" "READY_FOR_PICKUP" "Lcom/example/lendloop/lendloop/core/RequestStatus;" (.ref w8)) (E_8 : Exa Z Z.heap w8 "com/example/lendloop/lendloop/core/RequestStatus") (S9 : Sta Z Z.heap "com/example/lendloop/lendloop/core/RequestStatus" "LOANED" "Lcom/example/lendloop/lendloop/core/RequestStatus;" (.ref w9)) (E_9 : Exa Z Z.heap w9 "com/example/lendloop/lendloop/core/RequestStatus") (S10 : Sta Z Z.heap "com/example/lendloop/lendloop/core/RequestStatus" "RETURN_TRANSIT" "Lcom/example/lendloop/lendloop/core/RequestStatus;" (.ref w10)) (E_10 : Exa Z Z.heap w10 "com/example/lendloop/lendloop/core/RequestStatus") (S11 : Sta Z Z.heap "com/example/lendloop/lendloop/core/RequestStatus" "NOT_SUPPLIED_CURRENT_SUPPLIER" "Lcom/example/lendloop/lendloop/core/RequestStatus;" (.ref w11)) (E_11 : Exa Z Z.heap w11 "com/example/lendloop/lendloop/core/RequestStatus") (S12 : Sta Z Z.heap "com/example/lendloop/lendloop/core/RequestStatus" "NO_ITEMS_SELECTABLE_AT_ANY_AGENCY" "Lcom/example/lendloop/lendloop/core/RequestStatus;" (.ref w12)) (E_12 : Exa Z Z.heap w12 "com/example/lendloop/lendloop/core/RequestStatus") (S13 : Sta Z Z.heap "com/example/lendloop/lendloop/core/RequestStatus" "CANCELLED" "Lcom/example/lendloop/lendloop/core/RequestStatus;" (.ref w13)) (E_13 : Exa Z Z.heap w13 "com/example/lendloop/lendloop/core/RequestStatus") (S14 : Sta Z Z.heap "com/example/lendloop/lendloop/core/RequestStatus" "COMPLETED" "Lcom/example/lendloop/lendloop/core/RequestStatus;" (.ref w14)) (E_14 : Exa Z Z.heap w14 "com/example/lendloop/lendloop/core/RequestStatus") (S15 : Sta Z Z.heap "com/example/lendloop/lendloop/core/RequestStatus" "FINALISED" "Lcom/example/lendloop/lendloop/core/RequestStatus;" (.ref w15)) (E_15 : Exa Z Z.heap w15 "com/example/lendloop/lendloop/core/RequestStatus") (S16 : Sta Z Z.heap "com/example/lendloop/lendloop/core/RequestStatus" "ERROR" "Lcom/example/lendloop/lendloop/core/RequestStatus;" (.ref w16)) (E_16 : Exa Z Z.heap w16 "com/example/lendloop/lendloop/core/RequestStatus") (hall : ∀ x ∈ [w0, w1, w2, w3, w4, w5, w6, w7, w8, w9, w10, w11, w12, w13, w14, w15, w16], Exa Z Z.heap x "com/example/lendloop/lendloop/core/RequestStatus") (hopen : ∀ k, k < 17 → own_open ([w0, w1, w2, w3, w4, w5, w6, w7, w8, w9, w10, w11, w12, w13, w14, w15, w16].getD k 0) w15 w16 w12 = own_exp (Int32.ofNat k)) :
    MetFree l x (head1 (Jvm.Cond.code x code maxLocals ret :: ws) room_1) (fun qq U => qq = #[(.int pI)] ∧ Z.Warmed39 U.vm ∧ U.heap = h0) (fun _ _ _ _ _ => True) (fun _ UU oo UU' => ∃ vv LL, oo = .returned vv ∧ Qd2 Z pI w0 w1 w2 w3 w4 w5 w6 w7 w8 w9 w10 w11 w12 w13 w14 w15 w16 h0 n0 vv UU'.heap LL ∧ FrameEnd UU oo UU' LL room_1.cells room_1.slots) := by
  refine MetFree.of_bodySF (plainFor_of_name pn_0) hisR ?_
  intro p e s m args below meth c s₁ Bd hml0 hP hK
  obtain ⟨rfl, hZ, hh⟩ := hP
  have hx := Bd.exec
  have hby := Bd.bytes
  have hml : c.maxLocals = 4 := hml0
  have hown : s.vm.findClass "com/example/lendloop/lendloop/core/RequestStatusIsOpenPinLaw" = some m.cls := findClass_of_methodNamed Bd.named
  have hnm := (name_of_methodNamed Bd.named Bd.method).1
  have X0 : Stand p l e room_1 s m #[(.int pI)] below meth c s₁ [] 0 0 := Stand.of_body Bd
  have e0 : s₁.heap = h0 := by rw [← hh, Bd.state]; rfl
  have N0 := Fr.nil n0
  have pre0 : ∀ t, Steps p.tables e below (s₁.setTop (mkF m 0 #[.val (.int pI), .unset, .unset, .unset] [])) t → Steps p.tables e below (s₁.setTop (entryFrame m #[(.int pI)] maxLocals)) t := fun t k => castTop (ef_0 m pI) k
  obtain ⟨T1, h1, k1, X1, e1, E1, A1, O_1, st1⟩ := newR X0 hx hZ hown (hw _ (List.mem_of_getElem? (i := 0) rfl)) (hw _ (List.mem_of_getElem? (i := 1) rfl)) e0 (g := (mkF m 2 #[.val (.int pI), .unset, .unset, .unset] [(.int (17 : Int32))])) rfl (hb hby at_2) rfl (by decide) (cap := 17) (by decide) (by decide) (by decide) (by decide)
  obtain ⟨b1, q1⟩ : ∃ z, z = h0.size := ⟨_, rfl⟩
  rw [← q1] at A1 st1
  have g_b1 : n0 ≤ b1 := by rw [q1]; exact (O0).1 ▸ (O0).2.1
  have O1 := Old.ext O0 E1
  have V1 : Arv Z h1 b1 k1 (.object "com/example/lendloop/lendloop/core/RequestStatus") (17 : Int32) [] .null := Arv.new A1 (by decide)
  obtain ⟨T2, X2, e2, st2⟩ := getS2 X1 hx hZ hown (host := "") (Or.inl (hw _ (List.mem_of_getElem? (i := 2) rfl))) Via.refl e1 (S0.ext O1.2) (g := (mkF m 7 #[.val (.int pI), .unset, .unset, .unset] [(.int (0 : Int32)), (.ref b1), (.ref b1)])) rfl (hb hby at_7)
  obtain ⟨T3, h3, X3, e3, W3, V3, st3⟩ := own_putR X2 hx hZ e2 V1 O_1 (Ins.self (E_0.ext O1.2)) (j := (0 : Int32)) rfl (by decide) (Nat.le_of_ble_eq_true rfl) (g := (mkF m 10 #[.val (.int pI), .unset, .unset, .unset] [(.ref w0), (.int (0 : Int32)), (.ref b1), (.ref b1)])) rfl rfl (hb hby at_10)
  have N3 := Fr.snoc X3 N0 g_b1
  have O3 := Old.wr O1 W3 g_b1
  obtain ⟨T4, X4, e4, st4⟩ := getS2 X3 hx hZ hown (host := "") (Or.inl (hw _ (List.mem_of_getElem? (i := 6) rfl))) Via.refl e3 (S1.ext O3.2) (g := (mkF m 13 #[.val (.int pI), .unset, .unset, .unset] [(.int (1 : Int32)), (.ref b1), (.ref b1)])) rfl (hb hby at_13)
  obtain ⟨T5, h5, X5, e5, W5, V5, st5⟩ := own_putR X4 hx hZ e4 V3 O_1 (Ins.self (E_1.ext O3.2)) (j := (1 : Int32)) rfl (by decide) (Nat.le_of_ble_eq_true rfl) (g := (mkF m 16 #[.val (.int pI), .unset, .unset, .unset] [(.ref w1), (.int (1 : Int32)), (.ref b1), (.ref b1)])) rfl rfl (hb hby at_16)
  have N5 := Fr.snoc X5 N3 g_b1
  have O5 := Old.wr O3 W5 g_b1
  obtain ⟨T6, X6, e6, st6⟩ := getS2 X5 hx hZ hown (host := "") (Or.inl (hw _ (List.mem_of_getElem? (i := 8) rfl))) Via.refl e5 (S2.ext O5.2) (g := (mkF m 19 #[.val (.int pI), .unset, .unset, .unset] [(.int (2 : Int32)), (.ref b1), (.ref b1)])) rfl (hb hby at_19)
  obtain ⟨T7, h7, X7, e7, W7, V7, st7⟩ := own_putR X6 hx hZ e6 V5 O_1 (Ins.self (E_2.ext O5.2)) (j := (2 : Int32)) rfl (by decide) (Nat.le_of_ble_eq_true rfl) (g := (mkF m 22 #[.val (.int pI), .unset, .unset, .unset] [(.ref w2), (.int (2 : Int32)), (.ref b1), (.ref b1)])) rfl rfl (hb hby at_22)
  have N7 := Fr.snoc X7 N5 g_b1
  have O7 := Old.wr O5 W7 g_b1
  obtain ⟨T8, X8, e8, st8⟩ := getS2 X7 hx hZ hown (host := "") (Or.inl (hw _ (List.mem_of_getElem? (i := 10) rfl))) Via.refl e7 (S3.ext O7.2) (g := (mkF m 25 #[.val (.int pI), .unset, .unset, .unset] [(.int (3 : Int32)), (.ref b1), (.ref b1)])) rfl (hb hby at_25)
  obtain ⟨T9, h9, X9, e9, W9, V9, st9⟩ := own_putR X8 hx hZ e8 V7 O_1 (Ins.self (E_3.ext O7.2)) (j := (3 : Int32)) rfl (by decide) (Nat.le_of_ble_eq_true rfl) (g := (mkF m 28 #[.val (.int pI), .unset, .unset, .unset] [(.ref w3), (.int (3 : Int32)), (.ref b1), (.ref b1)])) rfl rfl (hb hby at_28)
  have N9 := Fr.snoc X9 N7 g_b1
  have O9 := Old.wr O7 W9 g_b1
  obtain ⟨T10, X10, e10, st10⟩ := getS2 X9 hx hZ hown (host := "") (Or.inl (hw _ (List.mem_of_getElem? (i := 12) rfl))) Via.refl e9 (S4.ext O9.2) (g := (mkF m 31 #[.val (.int pI), .unset, .unset, .unset] [(.int (4 : Int32)), (.ref b1), (.ref b1)])) rfl (hb hby at_31)
  obtain ⟨T11, h11, X11, e11, W11, V11, st11⟩ := own_putR X10 hx hZ e10 V9 O_1 (Ins.self (E_4.ext O9.2)) (j := (4 : Int32)) rfl (by decide) (Nat.le_of_ble_eq_true rfl) (g := (mkF m 34 #[.val (.int pI), .unset, .unset, .unset] [(.ref w4), (.int (4 : Int32)), (.ref b1), (.ref b1)])) rfl rfl (hb hby at_34)
  have N11 := Fr.snoc X11 N9 g_b1
  have O11 := Old.wr O9 W11 g_b1
  obtain ⟨T12, X12, e12, st12⟩ := getS2 X11 hx hZ hown (host := "") (Or.inl (hw _ (List.mem_of_getElem? (i := 14) rfl))) Via.refl e11 (S5.ext O11.2) (g := (mkF m 37 #[.val (.int pI), .unset, .unset, .unset] [(.int (5 : Int32)), (.ref b1), (.ref b1)])) rfl (hb hby at_37)
  obtain ⟨T13, h13, X13, e13, W13, V13, st13⟩ := own_putR X12 hx hZ e12 V11 O_1 (Ins.self (E_5.ext O11.2)) (j := (5 : Int32)) rfl (by decide) (Nat.le_of_ble_eq_true rfl) (g := (mkF m 40 #[.val (.int pI), .unset, .unset, .unset] [(.ref w5), (.int (5 : Int32)), (.ref b1), (.ref b1)])) rfl rfl (hb hby at_40)
  have N13 := Fr.snoc X13 N11 g_b1
  have O13 := Old.wr O11 W13 g_b1
  obtain ⟨T14, X14, e14, st14⟩ := getS2 X13 hx hZ hown (host := "") (Or.inl (hw _ (List.mem_of_getElem? (i := 16) rfl))) Via.refl e13 (S6.ext O13.2) (g := (mkF m 44 #[.val (.int pI), .unset, .unset, .unset] [(.int (6 : Int32)), (.ref b1), (.ref b1)])) rfl (hb hby at_44)
  obtain ⟨T15, h15, X15, e15, W15, V15, st15⟩ := own_putR X14 hx hZ e14 V13 O_1 (Ins.self (E_6.ext O13.2)) (j := (6 : Int32)) rfl (by decide) (Nat.le_of_ble_eq_true rfl) (g := (mkF m 47 #[.val (.int pI), .unset, .unset, .unset] [(.ref w6), (.int (6 : Int32)), (.ref b1), (.ref b1)])) rfl rfl (hb hby at_47)
  have N15 := Fr.snoc X15 N13 g_b1
  have O15 := Old.wr O13 W15 g_b1
  obtain ⟨T16, X16, e16, st16⟩ := getS2 X15 hx hZ hown (host := "") (Or.inl (hw _ (List.mem_of_getElem? (i := 18) rfl))) Via.refl e15 (S7.ext O15.2) (g := (mkF m 51 #[.val (.int pI), .unset, .unset, .unset] [(.int (7 : Int32)), (.ref b1), (.ref b1)])) rfl (hb hby at_51)
  obtain ⟨T17, h17, X17, e17, W17, V17, st17⟩ := own_putR X16 hx hZ e16 V15 O_1 (Ins.self (E_7.ext O15.2)) (j := (7 : Int32)) rfl (by decide) (Nat.le_of_ble_eq_true rfl) (g := (mkF m 54 #[.val (.int pI), .unset, .unset, .unset] [(.ref w7), (.int (7 : Int32)), (.ref b1), (.ref b1)])) rfl rfl (hb hby at_54)
  have N17 := Fr.snoc X17 N15 g_b1
  have O17 := Old.wr O15 W17 g_b1
  obtain ⟨T18, X18, e18, st18⟩ := getS2 X17 hx hZ hown (host := "") (Or.inl (hw _ (List.mem_of_getElem? (i := 20) rfl))) Via.refl e17 (S8.ext O17.2) (g := (mkF m 58 #[.val (.int pI), .unset, .unset, .unset] [(.int (8 : Int32)), (.ref b1), (.ref b1)])) rfl (hb hby at_58)
  obtain ⟨T19, h19, X19, e19, W19, V19, st19⟩ := own_putR X18 hx hZ e18 V17 O_1 (Ins.self (E_8.ext O17.2)) (j := (8 : Int32)) rfl (by decide) (Nat.le_of_ble_eq_true rfl) (g := (mkF m 61 #[.val (.int pI), .unset, .unset, .unset] [(.ref w8), (.int (8 : Int32)), (.ref b1), (.ref b1)])) rfl rfl (hb hby at_61)
  have N19 := Fr.snoc X19 N17 g_b1
  have O19 := Old.wr O17 W19 g_b1
  obtain ⟨T20, X20, e20, st20⟩ := getS2 X19 hx hZ hown (host := "") (Or.inl (hw _ (List.mem_of_getElem? (i := 22) rfl))) Via.refl e19 (S9.ext O19.2) (g := (mkF m 65 #[.val (.int pI), .unset, .unset, .unset] [(.int (9 : Int32)), (.ref b1), (.ref b1)])) rfl (hb hby at_65)
  obtain ⟨T21, h21, X21, e21, W21, V21, st21⟩ := own_putR X20 hx hZ e20 V19 O_1 (Ins.self (E_9.ext O19.2)) (j := (9 : Int32)) rfl (by decide) (Nat.le_of_ble_eq_true rfl) (g := (mkF m 68 #[.val (.int pI), .unset, .unset, .unset] [(.ref w9), (.int (9 : Int32)), (.ref b1), (.ref b1)])) rfl rfl (hb hby at_68)
  have N21 := Fr.snoc X21 N19 g_b1
  have O21 := Old.wr O19 W21 g_b1
  obtain ⟨T22, X22, e22, st22⟩ := getS2 X21 hx hZ hown (host := "") (Or.inl (hw _ (List.mem_of_getElem? (i := 24) rfl))) Via.refl e21 (S10.ext O21.2) (g := (mkF m 72 #[.val (.int pI), .unset, .unset, .unset] [(.int (10 : Int32)), (.ref b1), (.ref b1)])) rfl (hb hby at_72)
  obtain ⟨T23, h23, X23, e23, W23, V23, st23⟩ := own_putR X22 hx hZ e22 V21 O_1 (Ins.self (E_10.ext O21.2)) (j := (10 : Int32)) rfl (by decide) (Nat.le_of_ble_eq_true rfl) (g := (mkF m 75 #[.val (.int pI), .unset, .unset, .unset] [(.ref w10), (.int (10 : Int32)), (.ref b1), (.ref b1)])) rfl rfl (hb hby at_75)
  have N23 := Fr.snoc X23 N21 g_b1
  have O23 := Old.wr O21 W23 g_b1
  obtain ⟨T24, X24, e24, st24⟩ := getS2 X23 hx hZ hown (host := "") (Or.inl (hw _ (List.mem_of_getElem? (i := 26) rfl))) Via.refl e23 (S11.ext O23.2) (g := (mkF m 79 #[.val (.int pI), .unset, .unset, .unset] [(.int (11 : Int32)), (.ref b1), (.ref b1)])) rfl (hb hby at_79)
  obtain ⟨T25, h25, X25, e25, W25, V25, st25⟩ := own_putR X24 hx hZ e24 V23 O_1 (Ins.self (E_11.ext O23.2)) (j := (11 : Int32)) rfl (by decide) (Nat.le_of_ble_eq_true rfl) (g := (mkF m 82 #[.val (.int pI), .unset, .unset, .unset] [(.ref w11), (.int (11 : Int32)), (.ref b1), (.ref b1)])) rfl rfl (hb hby at_82)
  have N25 := Fr.snoc X25 N23 g_b1
  have O25 := Old.wr O23 W25 g_b1
  obtain ⟨T26, X26, e26, st26⟩ := getS2 X25 hx hZ hown (host := "") (Or.inl (hw _ (List.mem_of_getElem? (i := 28) rfl))) Via.refl e25 (S12.ext O25.2) (g := (mkF m 86 #[.val (.int pI), .unset, .unset, .unset] [(.int (12 : Int32)), (.ref b1), (.ref b1)])) rfl (hb hby at_86)
  obtain ⟨T27, h27, X27, e27, W27, V27, st27⟩ := own_putR X26 hx hZ e26 V25 O_1 (Ins.self (E_12.ext O25.2)) (j := (12 : Int32)) rfl (by decide) (Nat.le_of_ble_eq_true rfl) (g := (mkF m 89 #[.val (.int pI), .unset, .unset, .unset] [(.ref w12), (.int (12 : Int32)), (.ref b1), (.ref b1)])) rfl rfl (hb hby at_89)
  have N27 := Fr.snoc X27 N25 g_b1
  have O27 := Old.wr O25 W27 g_b1
  obtain ⟨T28, X28, e28, st28⟩ := getS2 X27 hx hZ hown (host := "") (Or.inl (hw _ (List.mem_of_getElem? (i := 30) rfl))) Via.refl e27 (S13.ext O27.2) (g := (mkF m 93 #[.val (.int pI), .unset, .unset, .unset] [(.int (13 : Int32)), (.ref b1), (.ref b1)])) rfl (hb hby at_93)
  obtain ⟨T29, h29, X29, e29, W29, V29, st29⟩ := own_putR X28 hx hZ e28 V27 O_1 (Ins.self (E_13.ext O27.2)) (j := (13 : Int32)) rfl (by decide) (Nat.le_of_ble_eq_true rfl) (g := (mkF m 96 #[.val (.int pI), .unset, .unset, .unset] [(.ref w13), (.int (13 : Int32)), (.ref b1), (.ref b1)])) rfl rfl (hb hby at_96)
  have N29 := Fr.snoc X29 N27 g_b1
  have O29 := Old.wr O27 W29 g_b1
  obtain ⟨T30, X30, e30, st30⟩ := getS2 X29 hx hZ hown (host := "") (Or.inl (hw _ (List.mem_of_getElem? (i := 32) rfl))) Via.refl e29 (S14.ext O29.2) (g := (mkF m 100 #[.val (.int pI), .unset, .unset, .unset] [(.int (14 : Int32)), (.ref b1), (.ref b1)])) rfl (hb hby at_100)
  obtain ⟨T31, h31, X31, e31, W31, V31, st31⟩ := own_putR X30 hx hZ e30 V29 O_1 (Ins.self (E_14.ext O29.2)) (j := (14 : Int32)) rfl (by decide) (Nat.le_of_ble_eq_true rfl) (g := (mkF m 103 #[.val (.int pI), .unset, .unset, .unset] [(.ref w14), (.int (14 : Int32)), (.ref b1), (.ref b1)])) rfl rfl (hb hby at_103)
  have N31 := Fr.snoc X31 N29 g_b1
  have O31 := Old.wr O29 W31 g_b1
  obtain ⟨T32, X32, e32, st32⟩ := getS2 X31 hx hZ hown (host := "") (Or.inl (hw _ (List.mem_of_getElem? (i := 34) rfl))) Via.refl e31 (S15.ext O31.2) (g := (mkF m 107 #[.val (.int pI), .unset, .unset, .unset] [(.int (15 : Int32)), (.ref b1), (.ref b1)])) rfl (hb hby at_107)
  obtain ⟨T33, h33, X33, e33, W33, V33, st33⟩ := own_putR X32 hx hZ e32 V31 O_1 (Ins.self (E_15.ext O31.2)) (j := (15 : Int32)) rfl (by decide) (Nat.le_of_ble_eq_true rfl) (g := (mkF m 110 #[.val (.int pI), .unset, .unset, .unset] [(.ref w15), (.int (15 : Int32)), (.ref b1), (.ref b1)])) rfl rfl (hb hby at_110)
  have N33 := Fr.snoc X33 N31 g_b1
  have O33 := Old.wr O31 W33 g_b1
  obtain ⟨T34, X34, e34, st34⟩ := getS2 X33 hx hZ hown (host := "") (Or.inl (hw _ (List.mem_of_getElem? (i := 36) rfl))) Via.refl e33 (S16.ext O33.2) (g := (mkF m 114 #[.val (.int pI), .unset, .unset, .unset] [(.int (16 : Int32)), (.ref b1), (.ref b1)])) rfl (hb hby at_114)
  obtain ⟨T35, h35, X35, e35, W35, V35, st35⟩ := own_putR X34 hx hZ e34 V33 O_1 (Ins.self (E_16.ext O33.2)) (j := (16 : Int32)) rfl (by decide) (Nat.le_of_ble_eq_true rfl) (g := (mkF m 117 #[.val (.int pI), .unset, .unset, .unset] [(.ref w16), (.int (16 : Int32)), (.ref b1), (.ref b1)])) rfl rfl (hb hby at_117)
  have N35 := Fr.snoc X35 N33 g_b1
  have O35 := Old.wr O33 W35 g_b1
  obtain ⟨_, _, ⟨T36, L36, k36, n36⟩, -, X36, ⟨Lc36, hQ36, l36, y36, z36⟩, st36⟩ := Jvm.LawKit.callS X35 hx (y := (⟨"com/example/lendloop/lendloop/core/RequestStatusIsOpenPinLaw", "expectedOpen", "(I)Z"⟩ : MethodName)) hown (mvT hZ (hw _ (List.mem_of_getElem? (i := 39) rfl))) (mvT hZ (hw _ (List.mem_of_getElem? (i := 40) rfl))) (mvT hZ (hw _ (List.mem_of_getElem? (i := 41) rfl))) (mvT hZ (hw _ (List.mem_of_getElem? (i := 42) rfl))) (by decide) (backOf (W := 0) (rm1 l Z a0 hw [] ((pI &&& (2147483647 : Int32)) % (17 : Int32)) h35 n0) hZ (hw _ (List.mem_of_getElem? (i := 42) rfl)) (hw _ (List.mem_of_getElem? (i := 41) rfl)) (by decide) (by decide)) (g := (mkF m 128 #[.val (.int pI), .val (.ref b1), .val (.int ((pI &&& (2147483647 : Int32)) % (17 : Int32))), .unset] [(.int ((pI &&& (2147483647 : Int32)) % (17 : Int32)))])) rfl (by rw [hml]; rfl) (argsL := [(.int ((pI &&& (2147483647 : Int32)) % (17 : Int32)))]) (rest := []) (lenOf own_pd0 rfl) rfl (by show 2 * 0 + _ ≤ _; exact Nat.le_of_eq rfl) (hb hby at_128) (fun _ _ => ⟨rfl, e35, (by decide : 1 + 0 ≤ _), (by decide : 17 + 0 ≤ _)⟩)
  dsimp only [Pt.U, Pt.locs, Pt.cells, Pt.slots] at X36 l36 y36 z36 st36 hQ36
  subst l36 y36 z36
  obtain ⟨rfl, N36q, e36⟩ := hQ36
  have N36 := Fr.app N35 N36q
  obtain ⟨cl, Ar, qk, Sz, Mz, Hz, Uz⟩ := V35
  obtain ⟨k, hk, hki⟩ := own_idx pI
  have hin : ¬ (((pI &&& (2147483647 : Int32)) % (17 : Int32)) < 0 ∨ cl.slots.size ≤ (((pI &&& (2147483647 : Int32)) % (17 : Int32))).toNatClampNeg) := by rw [Sz, hki, own_n32 (by omega)]; exact fun q => q.elim (own_nn (by omega)) (fun q => absurd hk (Nat.not_lt.mpr q))
  have hat : cl.slots[(((pI &&& (2147483647 : Int32)) % (17 : Int32))).toNatClampNeg]? = some (.ref ([w0, w1, w2, w3, w4, w5, w6, w7, w8, w9, w10, w11, w12, w13, w14, w15, w16].getD k 0)) := by
    rw [hki, own_n32 (by omega), Hz k (by rw [Sz]; exact hk)]
    exact congrArg some (own_get [w0, w1, w2, w3, w4, w5, w6, w7, w8, w9, w10, w11, w12, w13, w14, w15, w16] hk)
  have hop := hopen k hk
  have EE : Exa Z Z.heap ([w0, w1, w2, w3, w4, w5, w6, w7, w8, w9, w10, w11, w12, w13, w14, w15, w16].getD k 0) "com/example/lendloop/lendloop/core/RequestStatus" := own_exa [w0, w1, w2, w3, w4, w5, w6, w7, w8, w9, w10, w11, w12, w13, w14, w15, w16] hk hall
  generalize [w0, w1, w2, w3, w4, w5, w6, w7, w8, w9, w10, w11, w12, w13, w14, w15, w16].getD k 0 = u at *
  obtain ⟨cq37, kq37, q37a, q37b, q37c⟩ := isOf hZ e36 (EE.ext O35.2)
  obtain ⟨_, _, ⟨T37, L37, k37, n37⟩, -, X37, ⟨Lc37, hQ37, l37, y37, z37⟩, st37⟩ := X36.virtualBack hx (y := (⟨"com/example/lendloop/lendloop/core/RequestStatus", "isOpen", "()Z"⟩ : MethodName)) (z := (⟨"com/example/lendloop/lendloop/core/RequestStatus", "isOpen", "()Z"⟩ : MethodName)) hown (mvT hZ (hw _ (List.mem_of_getElem? (i := 43) rfl))) (mvT hZ (hw _ (List.mem_of_getElem? (i := 44) rfl))) (notFace_of_selects (args := #[]) (mvT hZ (hw _ (List.mem_of_getElem? (i := 46) rfl)))) (mvT hZ (hw _ (List.mem_of_getElem? (i := 46) rfl))) (mvT hZ (hw _ (List.mem_of_getElem? (i := 45) rfl))) (by decide) (backOf (W := 0) (rm2 l Z a0 hw [] u w15 w16 w12 h35 n0 (S15.ext O35.2) (S16.ext O35.2) (S12.ext O35.2)) hZ (hw _ (List.mem_of_getElem? (i := 47) rfl)) (hw _ (List.mem_of_getElem? (i := 3) rfl)) (by decide) (by decide)) q37a q37c (g := (mkF m 135 #[.val (.int pI), .val (.ref b1), .val (.int ((pI &&& (2147483647 : Int32)) % (17 : Int32))), .val (.int (own_exp ((pI &&& (2147483647 : Int32)) % (17 : Int32))))] [(.ref u)])) rfl (by rw [hml]; rfl) (Steps.refl _) (argsL := []) (rest := []) (lenOf own_pd1 rfl) rfl (by show 2 * 0 + _ ≤ _; exact Nat.le_of_eq rfl) (hb hby at_135) (fun _ _ => ⟨rfl, e36, (by decide : 1 + 0 ≤ _), (by decide : 17 + 0 ≤ _)⟩)
  dsimp only [Pt.U, Pt.locs, Pt.cells, Pt.slots] at X37 l37 y37 z37 st37 hQ37
  subst l37 y37 z37
  obtain ⟨rfl, N37q, e37⟩ := hQ37
  have N37 := Fr.app N36 N37q
  obtain ⟨fs, hr, hrun, hended, hW, hsame⟩ := X37.leave (v := some (.int (1 : Int32))) (fun h => by rw [Bd.returns] at h; cases h)
  refine ⟨_, _, pre0 _ ?_, hrun, hended, _, _, rfl, ?_, ⟨_, rfl⟩, hW, hsame.mono (by decide) (by decide)⟩
  · show Steps p.tables e below (s₁.setTop (mkF m 0 #[.val (.int pI), .unset, .unset, .unset] [])) _
    refine XS.bipush X0.here hx rfl (hb hby at_0) ?_
    show Steps p.tables e below (s₁.setTop (mkF m 2 #[.val (.int pI), .unset, .unset, .unset] [(.int (17 : Int32))])) _
    refine st1 _ ?_
    show Steps p.tables e below (T1.setTop (mkF m 5 #[.val (.int pI), .unset, .unset, .unset] [(.ref b1)])) _
    refine XS.dup X1.here hx rfl (hb hby at_5) rfl rfl ?_
    show Steps p.tables e below (T1.setTop (mkF m 6 #[.val (.int pI), .unset, .unset, .unset] [(.ref b1), (.ref b1)])) _
    refine XS.iconst X1.here hx rfl (hb hby at_6) ?_
    show Steps p.tables e below (T1.setTop (mkF m 7 #[.val (.int pI), .unset, .unset, .unset] [(.int (0 : Int32)), (.ref b1), (.ref b1)])) _
    refine st2 _ ?_
    show Steps p.tables e below (T2.setTop (mkF m 10 #[.val (.int pI), .unset, .unset, .unset] [(.ref w0), (.int (0 : Int32)), (.ref b1), (.ref b1)])) _
    refine st3 _ ?_
    show Steps p.tables e below (T3.setTop (mkF m 11 #[.val (.int pI), .unset, .unset, .unset] [(.ref b1)])) _
    refine XS.dup X3.here hx rfl (hb hby at_11) rfl rfl ?_
    show Steps p.tables e below (T3.setTop (mkF m 12 #[.val (.int pI), .unset, .unset, .unset] [(.ref b1), (.ref b1)])) _
    refine XS.iconst X3.here hx rfl (hb hby at_12) ?_
    show Steps p.tables e below (T3.setTop (mkF m 13 #[.val (.int pI), .unset, .unset, .unset] [(.int (1 : Int32)), (.ref b1), (.ref b1)])) _
    refine st4 _ ?_
    show Steps p.tables e below (T4.setTop (mkF m 16 #[.val (.int pI), .unset, .unset, .unset] [(.ref w1), (.int (1 : Int32)), (.ref b1), (.ref b1)])) _
    refine st5 _ ?_
    show Steps p.tables e below (T5.setTop (mkF m 17 #[.val (.int pI), .unset, .unset, .unset] [(.ref b1)])) _
    refine XS.dup X5.here hx rfl (hb hby at_17) rfl rfl ?_
    show Steps p.tables e below (T5.setTop (mkF m 18 #[.val (.int pI), .unset, .unset, .unset] [(.ref b1), (.ref b1)])) _
    refine XS.iconst X5.here hx rfl (hb hby at_18) ?_
    show Steps p.tables e below (T5.setTop (mkF m 19 #[.val (.int pI), .unset, .unset, .unset] [(.int (2 : Int32)), (.ref b1), (.ref b1)])) _
    refine st6 _ ?_
    show Steps p.tables e below (T6.setTop (mkF m 22 #[.val (.int pI), .unset, .unset, .unset] [(.ref w2), (.int (2 : Int32)), (.ref b1), (.ref b1)])) _
    refine st7 _ ?_
    show Steps p.tables e below (T7.setTop (mkF m 23 #[.val (.int pI), .unset, .unset, .unset] [(.ref b1)])) _
    refine XS.dup X7.here hx rfl (hb hby at_23) rfl rfl ?_
    show Steps p.tables e below (T7.setTop (mkF m 24 #[.val (.int pI), .unset, .unset, .unset] [(.ref b1), (.ref b1)])) _
    refine XS.iconst X7.here hx rfl (hb hby at_24) ?_
    show Steps p.tables e below (T7.setTop (mkF m 25 #[.val (.int pI), .unset, .unset, .unset] [(.int (3 : Int32)), (.ref b1), (.ref b1)])) _
    refine st8 _ ?_
    show Steps p.tables e below (T8.setTop (mkF m 28 #[.val (.int pI), .unset, .unset, .unset] [(.ref w3), (.int (3 : Int32)), (.ref b1), (.ref b1)])) _
    refine st9 _ ?_
    show Steps p.tables e below (T9.setTop (mkF m 29 #[.val (.int pI), .unset, .unset, .unset] [(.ref b1)])) _
    refine XS.dup X9.here hx rfl (hb hby at_29) rfl rfl ?_
    show Steps p.tables e below (T9.setTop (mkF m 30 #[.val (.int pI), .unset, .unset, .unset] [(.ref b1), (.ref b1)])) _
    refine XS.iconst X9.here hx rfl (hb hby at_30) ?_
    show Steps p.tables e below (T9.setTop (mkF m 31 #[.val (.int pI), .unset, .unset, .unset] [(.int (4 : Int32)), (.ref b1), (.ref b1)])) _
    refine st10 _ ?_
    show Steps p.tables e below (T10.setTop (mkF m 34 #[.val (.int pI), .unset, .unset, .unset] [(.ref w4), (.int (4 : Int32)), (.ref b1), (.ref b1)])) _
    refine st11 _ ?_
    show Steps p.tables e below (T11.setTop (mkF m 35 #[.val (.int pI), .unset, .unset, .unset] [(.ref b1)])) _
    refine XS.dup X11.here hx rfl (hb hby at_35) rfl rfl ?_
    show Steps p.tables e below (T11.setTop (mkF m 36 #[.val (.int pI), .unset, .unset, .unset] [(.ref b1), (.ref b1)])) _
    refine XS.iconst X11.here hx rfl (hb hby at_36) ?_
    show Steps p.tables e below (T11.setTop (mkF m 37 #[.val (.int pI), .unset, .unset, .unset] [(.int (5 : Int32)), (.ref b1), (.ref b1)])) _
    refine st12 _ ?_
    show Steps p.tables e below (T12.setTop (mkF m 40 #[.val (.int pI), .unset, .unset, .unset] [(.ref w5), (.int (5 : Int32)), (.ref b1), (.ref b1)])) _
    refine st13 _ ?_
    show Steps p.tables e below (T13.setTop (mkF m 41 #[.val (.int pI), .unset, .unset, .unset] [(.ref b1)])) _
    refine XS.dup X13.here hx rfl (hb hby at_41) rfl rfl ?_
    show Steps p.tables e below (T13.setTop (mkF m 42 #[.val (.int pI), .unset, .unset, .unset] [(.ref b1), (.ref b1)])) _
    refine XS.bipush X13.here hx rfl (hb hby at_42) ?_
    show Steps p.tables e below (T13.setTop (mkF m 44 #[.val (.int pI), .unset, .unset, .unset] [(.int (6 : Int32)), (.ref b1), (.ref b1)])) _
    refine st14 _ ?_
    show Steps p.tables e below (T14.setTop (mkF m 47 #[.val (.int pI), .unset, .unset, .unset] [(.ref w6), (.int (6 : Int32)), (.ref b1), (.ref b1)])) _
    refine st15 _ ?_
    show Steps p.tables e below (T15.setTop (mkF m 48 #[.val (.int pI), .unset, .unset, .unset] [(.ref b1)])) _
    refine XS.dup X15.here hx rfl (hb hby at_48) rfl rfl ?_
    show Steps p.tables e below (T15.setTop (mkF m 49 #[.val (.int pI), .unset, .unset, .unset] [(.ref b1), (.ref b1)])) _
    refine XS.bipush X15.here hx rfl (hb hby at_49) ?_
    show Steps p.tables e below (T15.setTop (mkF m 51 #[.val (.int pI), .unset, .unset, .unset] [(.int (7 : Int32)), (.ref b1), (.ref b1)])) _
    refine st16 _ ?_
    show Steps p.tables e below (T16.setTop (mkF m 54 #[.val (.int pI), .unset, .unset, .unset] [(.ref w7), (.int (7 : Int32)), (.ref b1), (.ref b1)])) _
    refine st17 _ ?_
    show Steps p.tables e below (T17.setTop (mkF m 55 #[.val (.int pI), .unset, .unset, .unset] [(.ref b1)])) _
    refine XS.dup X17.here hx rfl (hb hby at_55) rfl rfl ?_
    show Steps p.tables e below (T17.setTop (mkF m 56 #[.val (.int pI), .unset, .unset, .unset] [(.ref b1), (.ref b1)])) _
    refine XS.bipush X17.here hx rfl (hb hby at_56) ?_
    show Steps p.tables e below (T17.setTop (mkF m 58 #[.val (.int pI), .unset, .unset, .unset] [(.int (8 : Int32)), (.ref b1), (.ref b1)])) _
    refine st18 _ ?_
    show Steps p.tables e below (T18.setTop (mkF m 61 #[.val (.int pI), .unset, .unset, .unset] [(.ref w8), (.int (8 : Int32)), (.ref b1), (.ref b1)])) _
    refine st19 _ ?_
    show Steps p.tables e below (T19.setTop (mkF m 62 #[.val (.int pI), .unset, .unset, .unset] [(.ref b1)])) _
    refine XS.dup X19.here hx rfl (hb hby at_62) rfl rfl ?_
    show Steps p.tables e below (T19.setTop (mkF m 63 #[.val (.int pI), .unset, .unset, .unset] [(.ref b1), (.ref b1)])) _
    refine XS.bipush X19.here hx rfl (hb hby at_63) ?_
    show Steps p.tables e below (T19.setTop (mkF m 65 #[.val (.int pI), .unset, .unset, .unset] [(.int (9 : Int32)), (.ref b1), (.ref b1)])) _
    refine st20 _ ?_
    show Steps p.tables e below (T20.setTop (mkF m 68 #[.val (.int pI), .unset, .unset, .unset] [(.ref w9), (.int (9 : Int32)), (.ref b1), (.ref b1)])) _
    refine st21 _ ?_
    show Steps p.tables e below (T21.setTop (mkF m 69 #[.val (.int pI), .unset, .unset, .unset] [(.ref b1)])) _
    refine XS.dup X21.here hx rfl (hb hby at_69) rfl rfl ?_
    show Steps p.tables e below (T21.setTop (mkF m 70 #[.val (.int pI), .unset, .unset, .unset] [(.ref b1), (.ref b1)])) _
    refine XS.bipush X21.here hx rfl (hb hby at_70) ?_
    show Steps p.tables e below (T21.setTop (mkF m 72 #[.val (.int pI), .unset, .unset, .unset] [(.int (10 : Int32)), (.ref b1), (.ref b1)])) _
    refine st22 _ ?_
    show Steps p.tables e below (T22.setTop (mkF m 75 #[.val (.int pI), .unset, .unset, .unset] [(.ref w10), (.int (10 : Int32)), (.ref b1), (.ref b1)])) _
    refine st23 _ ?_
    show Steps p.tables e below (T23.setTop (mkF m 76 #[.val (.int pI), .unset, .unset, .unset] [(.ref b1)])) _
    refine XS.dup X23.here hx rfl (hb hby at_76) rfl rfl ?_
    show Steps p.tables e below (T23.setTop (mkF m 77 #[.val (.int pI), .unset, .unset, .unset] [(.ref b1), (.ref b1)])) _
    refine XS.bipush X23.here hx rfl (hb hby at_77) ?_
    show Steps p.tables e below (T23.setTop (mkF m 79 #[.val (.int pI), .unset, .unset, .unset] [(.int (11 : Int32)), (.ref b1), (.ref b1)])) _
    refine st24 _ ?_
    show Steps p.tables e below (T24.setTop (mkF m 82 #[.val (.int pI), .unset, .unset, .unset] [(.ref w11), (.int (11 : Int32)), (.ref b1), (.ref b1)])) _
    refine st25 _ ?_
    show Steps p.tables e below (T25.setTop (mkF m 83 #[.val (.int pI), .unset, .unset, .unset] [(.ref b1)])) _
    refine XS.dup X25.here hx rfl (hb hby at_83) rfl rfl ?_
    show Steps p.tables e below (T25.setTop (mkF m 84 #[.val (.int pI), .unset, .unset, .unset] [(.ref b1), (.ref b1)])) _
    refine XS.bipush X25.here hx rfl (hb hby at_84) ?_
    show Steps p.tables e below (T25.setTop (mkF m 86 #[.val (.int pI), .unset, .unset, .unset] [(.int (12 : Int32)), (.ref b1), (.ref b1)])) _
    refine st26 _ ?_
    show Steps p.tables e below (T26.setTop (mkF m 89 #[.val (.int pI), .unset, .unset, .unset] [(.ref w12), (.int (12 : Int32)), (.ref b1), (.ref b1)])) _
    refine st27 _ ?_
    show Steps p.tables e below (T27.setTop (mkF m 90 #[.val (.int pI), .unset, .unset, .unset] [(.ref b1)])) _
    refine XS.dup X27.here hx rfl (hb hby at_90) rfl rfl ?_
    show Steps p.tables e below (T27.setTop (mkF m 91 #[.val (.int pI), .unset, .unset, .unset] [(.ref b1), (.ref b1)])) _
    refine XS.bipush X27.here hx rfl (hb hby at_91) ?_
    show Steps p.tables e below (T27.setTop (mkF m 93 #[.val (.int pI), .unset, .unset, .unset] [(.int (13 : Int32)), (.ref b1), (.ref b1)])) _
    refine st28 _ ?_
    show Steps p.tables e below (T28.setTop (mkF m 96 #[.val (.int pI), .unset, .unset, .unset] [(.ref w13), (.int (13 : Int32)), (.ref b1), (.ref b1)])) _
    refine st29 _ ?_
    show Steps p.tables e below (T29.setTop (mkF m 97 #[.val (.int pI), .unset, .unset, .unset] [(.ref b1)])) _
    refine XS.dup X29.here hx rfl (hb hby at_97) rfl rfl ?_
    show Steps p.tables e below (T29.setTop (mkF m 98 #[.val (.int pI), .unset, .unset, .unset] [(.ref b1), (.ref b1)])) _
    refine XS.bipush X29.here hx rfl (hb hby at_98) ?_
    show Steps p.tables e below (T29.setTop (mkF m 100 #[.val (.int pI), .unset, .unset, .unset] [(.int (14 : Int32)), (.ref b1), (.ref b1)])) _
    refine st30 _ ?_
    show Steps p.tables e below (T30.setTop (mkF m 103 #[.val (.int pI), .unset, .unset, .unset] [(.ref w14), (.int (14 : Int32)), (.ref b1), (.ref b1)])) _
    refine st31 _ ?_
    show Steps p.tables e below (T31.setTop (mkF m 104 #[.val (.int pI), .unset, .unset, .unset] [(.ref b1)])) _
    refine XS.dup X31.here hx rfl (hb hby at_104) rfl rfl ?_
    show Steps p.tables e below (T31.setTop (mkF m 105 #[.val (.int pI), .unset, .unset, .unset] [(.ref b1), (.ref b1)])) _
    refine XS.bipush X31.here hx rfl (hb hby at_105) ?_
    show Steps p.tables e below (T31.setTop (mkF m 107 #[.val (.int pI), .unset, .unset, .unset] [(.int (15 : Int32)), (.ref b1), (.ref b1)])) _
    refine st32 _ ?_
    show Steps p.tables e below (T32.setTop (mkF m 110 #[.val (.int pI), .unset, .unset, .unset] [(.ref w15), (.int (15 : Int32)), (.ref b1), (.ref b1)])) _
    refine st33 _ ?_
    show Steps p.tables e below (T33.setTop (mkF m 111 #[.val (.int pI), .unset, .unset, .unset] [(.ref b1)])) _
    refine XS.dup X33.here hx rfl (hb hby at_111) rfl rfl ?_
    show Steps p.tables e below (T33.setTop (mkF m 112 #[.val (.int pI), .unset, .unset, .unset] [(.ref b1), (.ref b1)])) _
    refine XS.bipush X33.here hx rfl (hb hby at_112) ?_
    show Steps p.tables e below (T33.setTop (mkF m 114 #[.val (.int pI), .unset, .unset, .unset] [(.int (16 : Int32)), (.ref b1), (.ref b1)])) _
    refine st34 _ ?_
    show Steps p.tables e below (T34.setTop (mkF m 117 #[.val (.int pI), .unset, .unset, .unset] [(.ref w16), (.int (16 : Int32)), (.ref b1), (.ref b1)])) _
    refine st35 _ ?_
    show Steps p.tables e below (T35.setTop (mkF m 118 #[.val (.int pI), .unset, .unset, .unset] [(.ref b1)])) _
    refine XS.astoreN X35.here hx rfl (hb hby at_118) rfl rfl (l' := #[.val (.int pI), .val (.ref b1), .unset, .unset]) rfl ?_
    show Steps p.tables e below (T35.setTop (mkF m 119 #[.val (.int pI), .val (.ref b1), .unset, .unset] [])) _
    refine XS.iloadN X35.here hx rfl (hb hby at_119) rfl ?_
    show Steps p.tables e below (T35.setTop (mkF m 120 #[.val (.int pI), .val (.ref b1), .unset, .unset] [(.int pI)])) _
    refine X35.ldcInt hx hown (mvT hZ (hw _ (List.mem_of_getElem? (i := 38) rfl))) (g := (mkF m 120 #[.val (.int pI), .val (.ref b1), .unset, .unset] [(.int pI)])) rfl (hb hby at_120) _ ?_
    show Steps p.tables e below (T35.setTop (mkF m 122 #[.val (.int pI), .val (.ref b1), .unset, .unset] [(.int (2147483647 : Int32)), (.int pI)])) _
    refine XS.iand X35.here hx rfl (hb hby at_122) rfl ?_
    show Steps p.tables e below (T35.setTop (mkF m 123 #[.val (.int pI), .val (.ref b1), .unset, .unset] [(.int (pI &&& (2147483647 : Int32)))])) _
    refine XS.bipush X35.here hx rfl (hb hby at_123) ?_
    show Steps p.tables e below (T35.setTop (mkF m 125 #[.val (.int pI), .val (.ref b1), .unset, .unset] [(.int (17 : Int32)), (.int (pI &&& (2147483647 : Int32)))])) _
    refine Jvm.RoadKit.iremM (g := (mkF m 125 #[.val (.int pI), .val (.ref b1), .unset, .unset] [(.int (17 : Int32)), (.int (pI &&& (2147483647 : Int32)))])) X35 hx rfl (hb hby at_125) rfl (by decide) ?_
    show Steps p.tables e below (T35.setTop (mkF m 126 #[.val (.int pI), .val (.ref b1), .unset, .unset] [(.int ((pI &&& (2147483647 : Int32)) % (17 : Int32)))])) _
    refine XS.istoreN X35.here hx rfl (hb hby at_126) rfl (l' := #[.val (.int pI), .val (.ref b1), .val (.int ((pI &&& (2147483647 : Int32)) % (17 : Int32))), .unset]) rfl ?_
    show Steps p.tables e below (T35.setTop (mkF m 127 #[.val (.int pI), .val (.ref b1), .val (.int ((pI &&& (2147483647 : Int32)) % (17 : Int32))), .unset] [])) _
    refine XS.iloadN X35.here hx rfl (hb hby at_127) rfl ?_
    show Steps p.tables e below (T35.setTop (mkF m 128 #[.val (.int pI), .val (.ref b1), .val (.int ((pI &&& (2147483647 : Int32)) % (17 : Int32))), .unset] [(.int ((pI &&& (2147483647 : Int32)) % (17 : Int32)))])) _
    refine st36 _ ?_
    show Steps p.tables e below (T36.setTop (mkF m 131 #[.val (.int pI), .val (.ref b1), .val (.int ((pI &&& (2147483647 : Int32)) % (17 : Int32))), .unset] [(.int (own_exp ((pI &&& (2147483647 : Int32)) % (17 : Int32))))])) _
    refine XS.istoreN X36.here hx rfl (hb hby at_131) rfl (l' := #[.val (.int pI), .val (.ref b1), .val (.int ((pI &&& (2147483647 : Int32)) % (17 : Int32))), .val (.int (own_exp ((pI &&& (2147483647 : Int32)) % (17 : Int32))))]) rfl ?_
    show Steps p.tables e below (T36.setTop (mkF m 132 #[.val (.int pI), .val (.ref b1), .val (.int ((pI &&& (2147483647 : Int32)) % (17 : Int32))), .val (.int (own_exp ((pI &&& (2147483647 : Int32)) % (17 : Int32))))] [])) _
    refine XS.aloadN X36.here hx rfl (hb hby at_132) rfl rfl ?_
    show Steps p.tables e below (T36.setTop (mkF m 133 #[.val (.int pI), .val (.ref b1), .val (.int ((pI &&& (2147483647 : Int32)) % (17 : Int32))), .val (.int (own_exp ((pI &&& (2147483647 : Int32)) % (17 : Int32))))] [(.ref b1)])) _
    refine XS.iloadN X36.here hx rfl (hb hby at_133) rfl ?_
    show Steps p.tables e below (T36.setTop (mkF m 134 #[.val (.int pI), .val (.ref b1), .val (.int ((pI &&& (2147483647 : Int32)) % (17 : Int32))), .val (.int (own_exp ((pI &&& (2147483647 : Int32)) % (17 : Int32))))] [(.int ((pI &&& (2147483647 : Int32)) % (17 : Int32))), (.ref b1)])) _
    refine X36.aaload hx (j := ((pI &&& (2147483647 : Int32)) % (17 : Int32))) (v := (.ref u)) (by rw [e36]; exact Ar.1) (State.isArrayOf_alike hZ.alike Ar.2.1) rfl Ar.2.2 hin hat (g := (mkF m 134 #[.val (.int pI), .val (.ref b1), .val (.int ((pI &&& (2147483647 : Int32)) % (17 : Int32))), .val (.int (own_exp ((pI &&& (2147483647 : Int32)) % (17 : Int32))))] [(.int ((pI &&& (2147483647 : Int32)) % (17 : Int32))), (.ref b1)])) rfl rfl (hb hby at_134) _ ?_
    show Steps p.tables e below (T36.setTop (mkF m 135 #[.val (.int pI), .val (.ref b1), .val (.int ((pI &&& (2147483647 : Int32)) % (17 : Int32))), .val (.int (own_exp ((pI &&& (2147483647 : Int32)) % (17 : Int32))))] [(.ref u)])) _
    refine st37.trans ?_
    show Steps p.tables e below (T37.setTop (mkF m 138 #[.val (.int pI), .val (.ref b1), .val (.int ((pI &&& (2147483647 : Int32)) % (17 : Int32))), .val (.int (own_exp ((pI &&& (2147483647 : Int32)) % (17 : Int32))))] [(.int (own_open u w15 w16 w12))])) _
    refine XS.iloadN X37.here hx rfl (hb hby at_138) rfl ?_
    show Steps p.tables e below (T37.setTop (mkF m 139 #[.val (.int pI), .val (.ref b1), .val (.int ((pI &&& (2147483647 : Int32)) % (17 : Int32))), .val (.int (own_exp ((pI &&& (2147483647 : Int32)) % (17 : Int32))))] [(.int (own_exp ((pI &&& (2147483647 : Int32)) % (17 : Int32)))), (.int (own_open u w15 w16 w12))])) _
    refine XS.icmpNo X37.here hx rfl (hb hby at_139) rfl (teq (by rw [hki]; exact hop : (own_open u w15 w16 w12) = (own_exp ((pI &&& (2147483647 : Int32)) % (17 : Int32))))).2 ?_
    show Steps p.tables e below (T37.setTop (mkF m 142 #[.val (.int pI), .val (.ref b1), .val (.int ((pI &&& (2147483647 : Int32)) % (17 : Int32))), .val (.int (own_exp ((pI &&& (2147483647 : Int32)) % (17 : Int32))))] [])) _
    refine XS.iconst X37.here hx rfl (hb hby at_142) ?_
    show Steps p.tables e below (T37.setTop (mkF m 143 #[.val (.int pI), .val (.ref b1), .val (.int ((pI &&& (2147483647 : Int32)) % (17 : Int32))), .val (.int (own_exp ((pI &&& (2147483647 : Int32)) % (17 : Int32))))] [(.int (1 : Int32))])) _
    refine XS.goto X37.here hx rfl (pc0 := 143) (pc' := 147) rfl (hb hby at_143) (by decide) (by decide) ?_
    show Steps p.tables e below (T37.setTop (mkF m 147 #[.val (.int pI), .val (.ref b1), .val (.int ((pI &&& (2147483647 : Int32)) % (17 : Int32))), .val (.int (own_exp ((pI &&& (2147483647 : Int32)) % (17 : Int32))))] [(.int (1 : Int32))])) _
    exact retN X37 hx (t := .boolean) Bd.returns (by simp) (hb hby at_147) hr
  · show Qd2 Z pI w0 w1 w2 w3 w4 w5 w6 w7 w8 w9 w10 w11 w12 w13 w14 w15 w16 h0 n0 _ T37.heap _
    rw [e37]
    exact ⟨rfl, N37⟩
theorem own_fe {t : Term} {C n d : String} {k : Int32} {args : Array Value} {s : State} {x : Addr} (h : (Jvm.Cond.eq (.field t C n d) (.int k)).value args s none s [] = some true) (ht : t.eval args s none [] s = some (.ref x)) : s.fieldOf? x C n d = some (.int k) := by
  obtain ⟨u, v, h1, h2, h3, h4⟩ := cmp_v (Or.inl h)
  rw [fld_at ht] at h1
  obtain rfl : v = .int k := (Option.some.inj ((Term.int_eval k).symm.trans h2)).symm
  obtain ⟨z, rfl⟩ := h4
  rw [h1]
  have h5 : (Jvm.Cond.eq (.field t C n d) (.int k)).value args s none s [] = some (decide (z = k)) := Cond.eq_ints ((fld_at ht).trans h1) (Term.int_eval k)
  rw [gotT h5 h]
theorem own_ne {s : State} {x y : Addr} {C n d : String} {i j : Int32} (h1 : s.fieldOf? x C n d = some (.int i)) (h2 : s.fieldOf? y C n d = some (.int j)) (h : i ≠ j) : ¬ (x = y) := fun e => by
  subst e
  exact h (Value.int.inj (Option.some.inj (h1.symm.trans h2)))

-- 5. FROM THE CASE'S WORDS TO rm0, AND THE OWED THEOREMS
set_option maxRecDepth 65536 in
set_option maxHeartbeats 40000000 in
theorem comes_1 {Post : Tables → Env → Array Value → State → Outcome → State → Prop} (hpost : ∀ tb e args s v u, (limb_1_1.after args s (.returned v) u = true ∧ limb_1_2.after args s (.returned v) u = true ∧ True) → FrameEnd s (.returned v) u (Jvm.fieldLocs frame_1_writes args s ++ Jvm.arrayLocs frame_1_arrays args s ++ Jvm.staticLocs frame_1_statics s) 16 128 → Post tb e args s (.returned v) u) :
    ArmFor flags0 classFile x code maxLocals ret World_1 tables_1 room_1 Calls_1 rest_1 Pre_1 Post := by
  intro l hfl _ _ p e ha hc hk s m args below hf hA hF happ hP
  obtain ⟨hcalls, hrest, hpre⟩ := hP
  obtain ⟨-, -, -, hnamed, -, -, -, hat⟩ := (Spec.applies_iff hf).mp happ
  obtain ⟨hg, hn⟩ := and_e (Cond.before_iff.mp (show (Jvm.Cond.and given_1 narrow_1).before args s = true from hpre))
  obtain ⟨g5, g6⟩ := and_e hg
  obtain ⟨w0, rfl⟩ : ∃ w0 : Value, args = #[w0] := by
    have hs : args.size = 1 := by simpa [Cond.value, given_1] using g5
    obtain ⟨L⟩ := args
    match L, hs with
    | [w0], _ => exact ⟨w0, rfl⟩
  have hw := fun d (hd : d ∈ tables_1) => atoms_spec (ws := Jvm.Cond.code x code maxLocals ret :: tables_1) hat d (List.mem_cons_of_mem _ hd)
  have hfit : Fit s := fun {y c} hc i hi => by
    obtain ⟨ha, rfl⟩ := Array.getElem?_eq_some_iff.mp hc
    have q := List.all_eq_true.mp ((Array.all_eq_true_iff_forall_mem.mp hF) _ (Array.getElem_mem ha)) i (List.mem_range.mpr hi)
    simpa [Array.getElem?_eq_getElem hi] using q
  obtain ⟨i0, ei0⟩ := is_v g6
  obtain rfl : w0 = (.int i0) := Option.some.inj ei0
  obtain ⟨x0, hn⟩ := and_e hn
  obtain ⟨x1, hn⟩ := and_e hn
  obtain ⟨x2, hn⟩ := and_e hn
  obtain ⟨x3, hn⟩ := and_e hn
  obtain ⟨x4, hn⟩ := and_e hn
  obtain ⟨x5, hn⟩ := and_e hn
  obtain ⟨x6, hn⟩ := and_e hn
  obtain ⟨x7, hn⟩ := and_e hn
  obtain ⟨x8, hn⟩ := and_e hn
  obtain ⟨x9, hn⟩ := and_e hn
  obtain ⟨x10, hn⟩ := and_e hn
  obtain ⟨x11, hn⟩ := and_e hn
  obtain ⟨x12, hn⟩ := and_e hn
  obtain ⟨x13, hn⟩ := and_e hn
  obtain ⟨x14, hn⟩ := and_e hn
  obtain ⟨x15, hn⟩ := and_e hn
  obtain ⟨x16, hn⟩ := and_e hn
  obtain ⟨o0, hn⟩ := and_e hn
  obtain ⟨o1, hn⟩ := and_e hn
  obtain ⟨o2, hn⟩ := and_e hn
  obtain ⟨o3, hn⟩ := and_e hn
  obtain ⟨o4, hn⟩ := and_e hn
  obtain ⟨o5, hn⟩ := and_e hn
  obtain ⟨o6, hn⟩ := and_e hn
  obtain ⟨o7, hn⟩ := and_e hn
  obtain ⟨o8, hn⟩ := and_e hn
  obtain ⟨o9, hn⟩ := and_e hn
  obtain ⟨o10, hn⟩ := and_e hn
  obtain ⟨o11, hn⟩ := and_e hn
  obtain ⟨o12, hn⟩ := and_e hn
  obtain ⟨o13, hn⟩ := and_e hn
  obtain ⟨o14, hn⟩ := and_e hn
  obtain ⟨o15, hn⟩ := and_e hn
  have o16 := hn
  obtain ⟨w0, v0⟩ := exa_v x0
  obtain ⟨w1, v1⟩ := exa_v x1
  obtain ⟨w2, v2⟩ := exa_v x2
  obtain ⟨w3, v3⟩ := exa_v x3
  obtain ⟨w4, v4⟩ := exa_v x4
  obtain ⟨w5, v5⟩ := exa_v x5
  obtain ⟨w6, v6⟩ := exa_v x6
  obtain ⟨w7, v7⟩ := exa_v x7
  obtain ⟨w8, v8⟩ := exa_v x8
  obtain ⟨w9, v9⟩ := exa_v x9
  obtain ⟨w10, v10⟩ := exa_v x10
  obtain ⟨w11, v11⟩ := exa_v x11
  obtain ⟨w12, v12⟩ := exa_v x12
  obtain ⟨w13, v13⟩ := exa_v x13
  obtain ⟨w14, v14⟩ := exa_v x14
  obtain ⟨w15, v15⟩ := exa_v x15
  obtain ⟨w16, v16⟩ := exa_v x16
  have r0 := own_fe o0 v0
  have r15 := own_fe o1 v15
  have r16 := own_fe o2 v16
  have r12 := own_fe o3 v12
  have r3 := own_fe o4 v3
  have r8 := own_fe o5 v8
  have r9 := own_fe o6 v9
  have r6 := own_fe o7 v6
  have r7 := own_fe o8 v7
  have r2 := own_fe o9 v2
  have r11 := own_fe o10 v11
  have r1 := own_fe o11 v1
  have r13 := own_fe o12 v13
  have r4 := own_fe o13 v4
  have r10 := own_fe o14 v10
  have r5 := own_fe o15 v5
  have r14 := own_fe o16 v14
  have iM := (hw _ (List.mem_of_getElem? (i := 3) rfl))
  have S0 := Sta.start v0 (Or.inr ⟨iM, (hw _ (List.mem_of_getElem? (i := 4) rfl))⟩)
  have E0 := Exa.start v0 x0
  have S1 := Sta.start v1 (Or.inr ⟨iM, (hw _ (List.mem_of_getElem? (i := 7) rfl))⟩)
  have E1 := Exa.start v1 x1
  have S2 := Sta.start v2 (Or.inr ⟨iM, (hw _ (List.mem_of_getElem? (i := 9) rfl))⟩)
  have E2 := Exa.start v2 x2
  have S3 := Sta.start v3 (Or.inr ⟨iM, (hw _ (List.mem_of_getElem? (i := 11) rfl))⟩)
  have E3 := Exa.start v3 x3
  have S4 := Sta.start v4 (Or.inr ⟨iM, (hw _ (List.mem_of_getElem? (i := 13) rfl))⟩)
  have E4 := Exa.start v4 x4
  have S5 := Sta.start v5 (Or.inr ⟨iM, (hw _ (List.mem_of_getElem? (i := 15) rfl))⟩)
  have E5 := Exa.start v5 x5
  have S6 := Sta.start v6 (Or.inr ⟨iM, (hw _ (List.mem_of_getElem? (i := 17) rfl))⟩)
  have E6 := Exa.start v6 x6
  have S7 := Sta.start v7 (Or.inr ⟨iM, (hw _ (List.mem_of_getElem? (i := 19) rfl))⟩)
  have E7 := Exa.start v7 x7
  have S8 := Sta.start v8 (Or.inr ⟨iM, (hw _ (List.mem_of_getElem? (i := 21) rfl))⟩)
  have E8 := Exa.start v8 x8
  have S9 := Sta.start v9 (Or.inr ⟨iM, (hw _ (List.mem_of_getElem? (i := 23) rfl))⟩)
  have E9 := Exa.start v9 x9
  have S10 := Sta.start v10 (Or.inr ⟨iM, (hw _ (List.mem_of_getElem? (i := 25) rfl))⟩)
  have E10 := Exa.start v10 x10
  have S11 := Sta.start v11 (Or.inr ⟨iM, (hw _ (List.mem_of_getElem? (i := 27) rfl))⟩)
  have E11 := Exa.start v11 x11
  have S12 := Sta.start v12 (Or.inr ⟨iM, (hw _ (List.mem_of_getElem? (i := 29) rfl))⟩)
  have E12 := Exa.start v12 x12
  have S13 := Sta.start v13 (Or.inr ⟨iM, (hw _ (List.mem_of_getElem? (i := 31) rfl))⟩)
  have E13 := Exa.start v13 x13
  have S14 := Sta.start v14 (Or.inr ⟨iM, (hw _ (List.mem_of_getElem? (i := 33) rfl))⟩)
  have E14 := Exa.start v14 x14
  have S15 := Sta.start v15 (Or.inr ⟨iM, (hw _ (List.mem_of_getElem? (i := 35) rfl))⟩)
  have E15 := Exa.start v15 x15
  have S16 := Sta.start v16 (Or.inr ⟨iM, (hw _ (List.mem_of_getElem? (i := 37) rfl))⟩)
  have E16 := Exa.start v16 x16
  have hall : ∀ x ∈ [w0, w1, w2, w3, w4, w5, w6, w7, w8, w9, w10, w11, w12, w13, w14, w15, w16], Exa s s.heap x "com/example/lendloop/lendloop/core/RequestStatus" := by
    intro x hx
    simp only [List.mem_cons, List.not_mem_nil, or_false] at hx
    rcases hx with rfl | rfl | rfl | rfl | rfl | rfl | rfl | rfl | rfl | rfl | rfl | rfl | rfl | rfl | rfl | rfl | rfl
    · exact E0
    · exact E1
    · exact E2
    · exact E3
    · exact E4
    · exact E5
    · exact E6
    · exact E7
    · exact E8
    · exact E9
    · exact E10
    · exact E11
    · exact E12
    · exact E13
    · exact E14
    · exact E15
    · exact E16
  have hopen : ∀ k, k < 17 → own_open ([w0, w1, w2, w3, w4, w5, w6, w7, w8, w9, w10, w11, w12, w13, w14, w15, w16].getD k 0) w15 w16 w12 = own_exp (Int32.ofNat k) := by
    intro k hk
    match k, hk with
    | 0, _ => show own_open w0 w15 w16 w12 = _; rw [own_open, if_neg (own_ne r0 r15 (by decide)), if_neg (own_ne r0 r16 (by decide)), if_neg (own_ne r0 r12 (by decide))]; rfl
    | 1, _ => show own_open w1 w15 w16 w12 = _; rw [own_open, if_neg (own_ne r1 r15 (by decide)), if_neg (own_ne r1 r16 (by decide)), if_neg (own_ne r1 r12 (by decide))]; rfl
    | 2, _ => show own_open w2 w15 w16 w12 = _; rw [own_open, if_neg (own_ne r2 r15 (by decide)), if_neg (own_ne r2 r16 (by decide)), if_neg (own_ne r2 r12 (by decide))]; rfl
    | 3, _ => show own_open w3 w15 w16 w12 = _; rw [own_open, if_neg (own_ne r3 r15 (by decide)), if_neg (own_ne r3 r16 (by decide)), if_neg (own_ne r3 r12 (by decide))]; rfl
    | 4, _ => show own_open w4 w15 w16 w12 = _; rw [own_open, if_neg (own_ne r4 r15 (by decide)), if_neg (own_ne r4 r16 (by decide)), if_neg (own_ne r4 r12 (by decide))]; rfl
    | 5, _ => show own_open w5 w15 w16 w12 = _; rw [own_open, if_neg (own_ne r5 r15 (by decide)), if_neg (own_ne r5 r16 (by decide)), if_neg (own_ne r5 r12 (by decide))]; rfl
    | 6, _ => show own_open w6 w15 w16 w12 = _; rw [own_open, if_neg (own_ne r6 r15 (by decide)), if_neg (own_ne r6 r16 (by decide)), if_neg (own_ne r6 r12 (by decide))]; rfl
    | 7, _ => show own_open w7 w15 w16 w12 = _; rw [own_open, if_neg (own_ne r7 r15 (by decide)), if_neg (own_ne r7 r16 (by decide)), if_neg (own_ne r7 r12 (by decide))]; rfl
    | 8, _ => show own_open w8 w15 w16 w12 = _; rw [own_open, if_neg (own_ne r8 r15 (by decide)), if_neg (own_ne r8 r16 (by decide)), if_neg (own_ne r8 r12 (by decide))]; rfl
    | 9, _ => show own_open w9 w15 w16 w12 = _; rw [own_open, if_neg (own_ne r9 r15 (by decide)), if_neg (own_ne r9 r16 (by decide)), if_neg (own_ne r9 r12 (by decide))]; rfl
    | 10, _ => show own_open w10 w15 w16 w12 = _; rw [own_open, if_neg (own_ne r10 r15 (by decide)), if_neg (own_ne r10 r16 (by decide)), if_neg (own_ne r10 r12 (by decide))]; rfl
    | 11, _ => show own_open w11 w15 w16 w12 = _; rw [own_open, if_neg (own_ne r11 r15 (by decide)), if_neg (own_ne r11 r16 (by decide)), if_neg (own_ne r11 r12 (by decide))]; rfl
    | 12, _ => show own_open w12 w15 w16 w12 = _; rw [own_open, if_neg (own_ne r12 r15 (by decide)), if_neg (own_ne r12 r16 (by decide)), if_pos rfl]; rfl
    | 13, _ => show own_open w13 w15 w16 w12 = _; rw [own_open, if_neg (own_ne r13 r15 (by decide)), if_neg (own_ne r13 r16 (by decide)), if_neg (own_ne r13 r12 (by decide))]; rfl
    | 14, _ => show own_open w14 w15 w16 w12 = _; rw [own_open, if_neg (own_ne r14 r15 (by decide)), if_neg (own_ne r14 r16 (by decide)), if_neg (own_ne r14 r12 (by decide))]; rfl
    | 15, _ => show own_open w15 w15 w16 w12 = _; rw [own_open, if_pos rfl]; rfl
    | 16, _ => show own_open w16 w15 w16 w12 = _; rw [own_open, if_neg (own_ne r16 r15 (by decide)), if_pos rfl]; rfl
    | k + 17, h => exact absurd h (by omega)
  obtain ⟨n, o, h1, h2, h3, _, L, rfl, ⟨rfl, N⟩, hq⟩ := rm0 l s _ hw tables_1 i0 w0 w1 w2 w3 w4 w5 w6 w7 w8 w9 w10 w11 w12 w13 w14 w15 w16 s.heap s.heap.size (Old.start s) S0 E0 S1 E1 S2 E2 S3 E3 S4 E4 S5 E5 S6 E6 S7 E7 S8 E8 S9 E9 S10 E10 S11 E11 S12 E12 S13 E13 S14 E14 S15 E15 S16 E16 hall hopen p e ha hc hk s m _ below hf ((Spec.applies_iff_loose hf).mp happ).1 ⟨rfl, State.Warmed39.refl s, rfl⟩ trivial
  refine ⟨n, _, h1, h2, h3, hpost _ _ _ _ _ _ ⟨Cond.after_iff.mpr rfl, Cond.after_iff.mpr (eq_i res_at (Term.int_eval (1)) rfl), trivial⟩ ⟨hq.1, hq.2.1, (hq.2.2.sift fun y hy => Or.inr (N y hy)).mono (by decide) (by decide)⟩⟩
theorem main_1_1 : Claimed_1_1 := comes_1 fun _ _ _ _ _ _ h hF => ⟨h.1, hF⟩
theorem main_1_2 : Claimed_1_2 := comes_1 fun _ _ _ _ _ _ h hF => ⟨h.2.1, hF⟩

end Jvm.Pilot.@@N@@
namespace Jvm.Pilot.@@N@@
open Jvm Jvm.ClassFile Sem Op Lib Jvm.Free Jvm.Stand Jvm.Pilot.@@N@@.Jvm.D
/-! MADE BY PROGRAM (witnessworld.py) out of the Statement's table words and the real class files: 13 classes; the members and pool entries that the words name. The judged class is class 1, her method 1. -/
namespace start1
open Jvm.ClassFile
def u (s : String) : CpInfo := .utf8 (stringToUtf16 s)
/-- a pool by its gaps: so many unusable entries, then the entry; so many at the end -/
def gap : Nat → List CpInfo → List CpInfo
  | 0, r => r
  | n + 1, r => .unusable :: gap n r
def poolList (es : List (Nat × CpInfo)) (last : Nat) : List CpInfo := es.foldr (fun e r => gap e.1 (e.2 :: r)) (gap last [])
def pool (es : List (Nat × CpInfo)) (last : Nat) : Array CpInfo := ⟨poolList es last⟩
def fileOf (pool : Array CpInfo) (this : Nat) (attrs : Array Attribute := #[]) (ms : Array MethodInfo := #[]) (fl : Nat := 33) (sup : Nat := 0) (ifs : Array Nat := #[]) (fds : Array FieldInfo := #[]) : ClassFile where
  minorVersion := 0
  majorVersion := 65
  constantPool := pool
  accessFlags := fl
  thisClass := this
  superClass := sup
  interfaces := ifs
  fields := fds
  methods := ms
  attributes := attrs
def plain (name : String) (sup : Option ClassId) : Class where
  name := name
  kind := .ordinary
  loader := none
  accessFlags := 33
  super := sup
  interfaces := #[]
  cf := none
  fields := #[]
  methods := #[]
  instanceTypes := #[]
  staticTypes := #[]
  resolved := #[]
  callSites := []
  init := .initialized
  statics := none
  mirror := none

def pool0 : Array CpInfo := pool [(5, u "<init>"), (0, u "()V"), (1, .class_ 10), (1, u "java/lang/Object")] 113

def k0m0 : Method := { name := "<init>", desc := "()V", sig := { parameters := [], returnType := none }, accessFlags := 1, code := none }
/-- java/lang/Object -/
def k0 : Class := { plain "java/lang/Object" none with
  accessFlags := 33
  interfaces := #[]
  cf := some (fileOf pool0 8 #[] #[{ accessFlags := 1, nameIndex := 5, descriptorIndex := 6, attributes := #[] }] 33 0 #[] #[])
  fields := #[]
  methods := #[k0m0]
  instanceTypes := #[]
  staticTypes := #[]
  resolved := Array.replicate 124 none
  statics := none }

def pool1 : Array CpInfo := pool [(2, .class_ 4), (1, u "java/lang/Object"), (0, u "<init>"), (0, u "()V"), (0, .class_ 8), (0, u "com/example/lendloop/lendloop/core/RequestStatus"), (0, .fieldref 7 10), (0, .nameAndType 11 12), (0, u "SUBMITTED"), (0, u "Lcom/example/lendloop/lendloop/core/RequestStatus;"), (0, .fieldref 7 14), (0, .nameAndType 15 12), (0, u "PATRON_VERIFIED"), (0, .fieldref 7 17), (0, .nameAndType 18 12), (0, u "RESOLVED"), (0, .fieldref 7 20), (0, .nameAndType 21 12), (0, u "REQUEST_PLACED_AT_SUPPLYING_AGENCY"), (0, .fieldref 7 23), (0, .nameAndType 24 12), (0, u "CONFIRMED"), (0, .fieldref 7 26), (0, .nameAndType 27 12), (0, u "REQUEST_PLACED_AT_BORROWING_AGENCY"), (0, .fieldref 7 29), (0, .nameAndType 30 12), (0, u "PICKUP_TRANSIT"), (0, .fieldref 7 32), (0, .nameAndType 33 12), (0, u "RECEIVED_AT_PICKUP"), (0, .fieldref 7 35), (0, .nameAndType 36 12), (0, u "READY_FOR_PICKUP"), (0, .fieldref 7 38), (0, .nameAndType 39 12), (0, u "LOANED"), (0, .fieldref 7 41), (0, .nameAndType 42 12), (0, u "RETURN_TRANSIT"), (0, .fieldref 7 44), (0, .nameAndType 45 12), (0, u "NOT_SUPPLIED_CURRENT_SUPPLIER"), (0, .fieldref 7 47), (0, .nameAndType 48 12), (0, u "NO_ITEMS_SELECTABLE_AT_ANY_AGENCY"), (0, .fieldref 7 50), (0, .nameAndType 51 12), (0, u "CANCELLED"), (0, .fieldref 7 53), (0, .nameAndType 54 12), (0, u "COMPLETED"), (0, .fieldref 7 56), (0, .nameAndType 57 12), (0, u "FINALISED"), (0, .fieldref 7 59), (0, .nameAndType 60 12), (0, u "ERROR"), (0, .integer 2147483647), (0, .methodref 63 64), (0, .class_ 65), (0, .nameAndType 66 67), (0, u "com/example/lendloop/lendloop/core/RequestStatusIsOpenPinLaw"), (0, u "expectedOpen"), (0, u "(I)Z"), (0, .methodref 7 69), (0, .nameAndType 70 71), (0, u "isOpen"), (0, u "()Z"), (2, u "law")] 5

def k1m0 : Method := { name := "<init>", desc := "()V", sig := { parameters := [], returnType := none }, accessFlags := 2, code := none }
def k1c1 : Code := { maxStack := 4, maxLocals := 4, code := code, exceptionTable := #[], attributes := #[] }
def k1m1 : Method := { name := "law", desc := "(I)Z", sig := { parameters := [.int], returnType := some .boolean }, accessFlags := 9, code := some k1c1 }
def k1c2 : Code := { maxStack := 2, maxLocals := 1, code := method_3_code, exceptionTable := #[], attributes := #[] }
def k1m2 : Method := { name := "expectedOpen", desc := "(I)Z", sig := { parameters := [.int], returnType := some .boolean }, accessFlags := 10, code := some k1c2 }
/-- com/example/lendloop/lendloop/core/RequestStatusIsOpenPinLaw -/
def k1 : Class := { plain "com/example/lendloop/lendloop/core/RequestStatusIsOpenPinLaw" (some 0) with
  accessFlags := 49
  interfaces := #[]
  cf := some (fileOf pool1 63 #[] #[{ accessFlags := 2, nameIndex := 5, descriptorIndex := 6, attributes := #[] }, { accessFlags := 9, nameIndex := 74, descriptorIndex := 67, attributes := #[] }, { accessFlags := 10, nameIndex := 66, descriptorIndex := 67, attributes := #[] }] 49 2 #[] #[])
  fields := #[]
  methods := #[k1m0, k1m1, k1m2]
  instanceTypes := #[]
  staticTypes := #[]
  resolved := Array.replicate 80 none
  statics := none }

def pool2 : Array CpInfo := pool [(1, .class_ 2), (0, u "java/lang/constant/Constable"), (0, .class_ 4), (0, u "java/lang/Object")] 6

/-- java/lang/constant/Constable -/
def k2 : Class := { plain "java/lang/constant/Constable" (some 0) with
  accessFlags := 1537
  interfaces := #[]
  cf := some (fileOf pool2 1 #[] #[] 1537 3 #[] #[])
  fields := #[]
  methods := #[]
  instanceTypes := #[]
  staticTypes := #[]
  resolved := Array.replicate 11 none
  statics := none }

def pool3 : Array CpInfo := pool [(1, .class_ 2), (0, u "java/lang/Comparable"), (0, .class_ 4), (0, u "java/lang/Object")] 7

/-- java/lang/Comparable -/
def k3 : Class := { plain "java/lang/Comparable" (some 0) with
  accessFlags := 1537
  interfaces := #[]
  cf := some (fileOf pool3 1 #[] #[] 1537 3 #[] #[])
  fields := #[]
  methods := #[]
  instanceTypes := #[]
  staticTypes := #[]
  resolved := Array.replicate 12 none
  statics := none }

def pool4 : Array CpInfo := pool [(1, .class_ 2), (0, u "java/io/Serializable"), (0, .class_ 4), (0, u "java/lang/Object")] 2

/-- java/io/Serializable -/
def k4 : Class := { plain "java/io/Serializable" (some 0) with
  accessFlags := 1537
  interfaces := #[]
  cf := some (fileOf pool4 1 #[] #[] 1537 3 #[] #[])
  fields := #[]
  methods := #[]
  instanceTypes := #[]
  staticTypes := #[]
  resolved := Array.replicate 7 none
  statics := none }

def pool5 : Array CpInfo := pool [(2, .class_ 4), (1, u "java/lang/Enum"), (0, u "name"), (0, u "Ljava/lang/String;"), (2, u "ordinal"), (0, u "I"), (1, .class_ 14), (1, u "java/lang/Object"), (4, u "hash"), (86, .class_ 108), (1, u "java/lang/Enum$EnumDesc"), (2, .class_ 112), (0, u "java/lang/constant/Constable"), (0, .class_ 114), (0, u "java/lang/Comparable"), (0, .class_ 116), (0, u "java/io/Serializable")] 87

/-- java/lang/Enum -/
def k5 : Class := { plain "java/lang/Enum" (some 0) with
  accessFlags := 1057
  interfaces := #[2, 3, 4]
  cf := some (fileOf pool5 2 #[.nestMembers #[106]] #[] 1057 12 #[111, 113, 115] #[{ accessFlags := 18, nameIndex := 5, descriptorIndex := 6, attributes := #[] }, { accessFlags := 18, nameIndex := 9, descriptorIndex := 10, attributes := #[] }, { accessFlags := 2, nameIndex := 19, descriptorIndex := 10, attributes := #[] }])
  fields := #[{ name := "name", type := (.object "java/lang/String"), accessFlags := 18, slot := 0, constantValue := 0 }, { name := "ordinal", type := .int, accessFlags := 18, slot := 1, constantValue := 0 }, { name := "hash", type := .int, accessFlags := 2, slot := 2, constantValue := 0 }]
  methods := #[]
  instanceTypes := #[(.object "java/lang/String"), .int, .int]
  staticTypes := #[]
  resolved := Array.replicate 204 none
  statics := none }

def pool6 : Array CpInfo := pool [(1, .class_ 2), (0, u "com/example/lendloop/lendloop/core/RequestStatus"), (2, u "SUBMITTED"), (0, u "Lcom/example/lendloop/lendloop/core/RequestStatus;"), (2, u "PATRON_VERIFIED"), (2, u "RESOLVED"), (2, u "REQUEST_PLACED_AT_SUPPLYING_AGENCY"), (2, u "CONFIRMED"), (2, u "REQUEST_PLACED_AT_BORROWING_AGENCY"), (2, u "PICKUP_TRANSIT"), (2, u "RECEIVED_AT_PICKUP"), (2, u "READY_FOR_PICKUP"), (2, u "LOANED"), (2, u "RETURN_TRANSIT"), (2, u "NOT_SUPPLIED_CURRENT_SUPPLIER"), (0, .fieldref 1 41), (0, .nameAndType 42 6), (0, u "NO_ITEMS_SELECTABLE_AT_ANY_AGENCY"), (2, u "CANCELLED"), (2, u "COMPLETED"), (0, .fieldref 1 50), (0, .nameAndType 51 6), (0, u "FINALISED"), (0, .fieldref 1 53), (0, .nameAndType 54 6), (0, u "ERROR"), (2, u "$VALUES"), (0, u "[Lcom/example/lendloop/lendloop/core/RequestStatus;"), (6, .class_ 67), (1, u "java/lang/Enum"), (35, u "isOpen"), (0, u "()Z")] 5

def k6c0 : Code := { maxStack := 2, maxLocals := 1, code := prog_36_method_4_code, exceptionTable := #[], attributes := #[] }
def k6m0 : Method := { name := "isOpen", desc := "()Z", sig := { parameters := [], returnType := some .boolean }, accessFlags := 1, code := some k6c0 }
/-- com/example/lendloop/lendloop/core/RequestStatus -/
def k6 : Class := { plain "com/example/lendloop/lendloop/core/RequestStatus" (some 5) with
  accessFlags := 16433
  interfaces := #[]
  cf := some (fileOf pool6 1 #[] #[{ accessFlags := 1, nameIndex := 103, descriptorIndex := 104, attributes := #[] }] 16433 65 #[] #[{ accessFlags := 16409, nameIndex := 5, descriptorIndex := 6, attributes := #[] }, { accessFlags := 16409, nameIndex := 9, descriptorIndex := 6, attributes := #[] }, { accessFlags := 16409, nameIndex := 12, descriptorIndex := 6, attributes := #[] }, { accessFlags := 16409, nameIndex := 15, descriptorIndex := 6, attributes := #[] }, { accessFlags := 16409, nameIndex := 18, descriptorIndex := 6, attributes := #[] }, { accessFlags := 16409, nameIndex := 21, descriptorIndex := 6, attributes := #[] }, { accessFlags := 16409, nameIndex := 24, descriptorIndex := 6, attributes := #[] }, { accessFlags := 16409, nameIndex := 27, descriptorIndex := 6, attributes := #[] }, { accessFlags := 16409, nameIndex := 30, descriptorIndex := 6, attributes := #[] }, { accessFlags := 16409, nameIndex := 33, descriptorIndex := 6, attributes := #[] }, { accessFlags := 16409, nameIndex := 36, descriptorIndex := 6, attributes := #[] }, { accessFlags := 16409, nameIndex := 39, descriptorIndex := 6, attributes := #[] }, { accessFlags := 16409, nameIndex := 42, descriptorIndex := 6, attributes := #[] }, { accessFlags := 16409, nameIndex := 45, descriptorIndex := 6, attributes := #[] }, { accessFlags := 16409, nameIndex := 48, descriptorIndex := 6, attributes := #[] }, { accessFlags := 16409, nameIndex := 51, descriptorIndex := 6, attributes := #[] }, { accessFlags := 16409, nameIndex := 54, descriptorIndex := 6, attributes := #[] }, { accessFlags := 4122, nameIndex := 57, descriptorIndex := 58, attributes := #[] }])
  fields := #[{ name := "SUBMITTED", type := (.object "com/example/lendloop/lendloop/core/RequestStatus"), accessFlags := 16409, slot := 0, constantValue := 0 }, { name := "PATRON_VERIFIED", type := (.object "com/example/lendloop/lendloop/core/RequestStatus"), accessFlags := 16409, slot := 1, constantValue := 0 }, { name := "RESOLVED", type := (.object "com/example/lendloop/lendloop/core/RequestStatus"), accessFlags := 16409, slot := 2, constantValue := 0 }, { name := "REQUEST_PLACED_AT_SUPPLYING_AGENCY", type := (.object "com/example/lendloop/lendloop/core/RequestStatus"), accessFlags := 16409, slot := 3, constantValue := 0 }, { name := "CONFIRMED", type := (.object "com/example/lendloop/lendloop/core/RequestStatus"), accessFlags := 16409, slot := 4, constantValue := 0 }, { name := "REQUEST_PLACED_AT_BORROWING_AGENCY", type := (.object "com/example/lendloop/lendloop/core/RequestStatus"), accessFlags := 16409, slot := 5, constantValue := 0 }, { name := "PICKUP_TRANSIT", type := (.object "com/example/lendloop/lendloop/core/RequestStatus"), accessFlags := 16409, slot := 6, constantValue := 0 }, { name := "RECEIVED_AT_PICKUP", type := (.object "com/example/lendloop/lendloop/core/RequestStatus"), accessFlags := 16409, slot := 7, constantValue := 0 }, { name := "READY_FOR_PICKUP", type := (.object "com/example/lendloop/lendloop/core/RequestStatus"), accessFlags := 16409, slot := 8, constantValue := 0 }, { name := "LOANED", type := (.object "com/example/lendloop/lendloop/core/RequestStatus"), accessFlags := 16409, slot := 9, constantValue := 0 }, { name := "RETURN_TRANSIT", type := (.object "com/example/lendloop/lendloop/core/RequestStatus"), accessFlags := 16409, slot := 10, constantValue := 0 }, { name := "NOT_SUPPLIED_CURRENT_SUPPLIER", type := (.object "com/example/lendloop/lendloop/core/RequestStatus"), accessFlags := 16409, slot := 11, constantValue := 0 }, { name := "NO_ITEMS_SELECTABLE_AT_ANY_AGENCY", type := (.object "com/example/lendloop/lendloop/core/RequestStatus"), accessFlags := 16409, slot := 12, constantValue := 0 }, { name := "CANCELLED", type := (.object "com/example/lendloop/lendloop/core/RequestStatus"), accessFlags := 16409, slot := 13, constantValue := 0 }, { name := "COMPLETED", type := (.object "com/example/lendloop/lendloop/core/RequestStatus"), accessFlags := 16409, slot := 14, constantValue := 0 }, { name := "FINALISED", type := (.object "com/example/lendloop/lendloop/core/RequestStatus"), accessFlags := 16409, slot := 15, constantValue := 0 }, { name := "ERROR", type := (.object "com/example/lendloop/lendloop/core/RequestStatus"), accessFlags := 16409, slot := 16, constantValue := 0 }, { name := "$VALUES", type := (.array (.object "com/example/lendloop/lendloop/core/RequestStatus")), accessFlags := 4122, slot := 17, constantValue := 0 }]
  methods := #[k6m0]
  instanceTypes := #[(.object "java/lang/String"), .int, .int]
  staticTypes := #[(.object "com/example/lendloop/lendloop/core/RequestStatus"), (.object "com/example/lendloop/lendloop/core/RequestStatus"), (.object "com/example/lendloop/lendloop/core/RequestStatus"), (.object "com/example/lendloop/lendloop/core/RequestStatus"), (.object "com/example/lendloop/lendloop/core/RequestStatus"), (.object "com/example/lendloop/lendloop/core/RequestStatus"), (.object "com/example/lendloop/lendloop/core/RequestStatus"), (.object "com/example/lendloop/lendloop/core/RequestStatus"), (.object "com/example/lendloop/lendloop/core/RequestStatus"), (.object "com/example/lendloop/lendloop/core/RequestStatus"), (.object "com/example/lendloop/lendloop/core/RequestStatus"), (.object "com/example/lendloop/lendloop/core/RequestStatus"), (.object "com/example/lendloop/lendloop/core/RequestStatus"), (.object "com/example/lendloop/lendloop/core/RequestStatus"), (.object "com/example/lendloop/lendloop/core/RequestStatus"), (.object "com/example/lendloop/lendloop/core/RequestStatus"), (.object "com/example/lendloop/lendloop/core/RequestStatus"), (.array (.object "com/example/lendloop/lendloop/core/RequestStatus"))]
  resolved := Array.replicate 110 none
  statics := some 0 }

def pool7 : Array CpInfo := pool [(1, u "java/lang/Cloneable"), (0, .class_ 1), (0, u "java/lang/Object"), (0, .class_ 3)] 3

/-- java/lang/Cloneable -/
def k7 : Class := { plain "java/lang/Cloneable" (some 0) with
  accessFlags := 1537
  interfaces := #[]
  cf := some (fileOf pool7 2 #[] #[] 1537 4 #[] #[])
  fields := #[]
  methods := #[]
  instanceTypes := #[]
  staticTypes := #[]
  resolved := Array.replicate 8 none
  statics := none }

/-- the primitive byte -/
def k8 : Class := { plain "byte" none with kind := .primitive 'B', accessFlags := 0x411 }
/-- [B -/
def k9 : Class := { plain "[B" (some 0) with kind := .array 8 .byte, interfaces := #[7, 4], accessFlags := 1041 }

/-- the primitive int -/
def k10 : Class := { plain "int" none with kind := .primitive 'I', accessFlags := 0x411 }
/-- [I -/
def k11 : Class := { plain "[I" (some 0) with kind := .array 10 .int, interfaces := #[7, 4], accessFlags := 1041 }

/-- [Lcom/example/lendloop/lendloop/core/RequestStatus; -/
def k12 : Class := { plain "[Lcom/example/lendloop/lendloop/core/RequestStatus;" (some 0) with kind := .array 6 (.object "com/example/lendloop/lendloop/core/RequestStatus"), interfaces := #[7, 4], accessFlags := 1041 }

def heap : Heap := #[{ cls := 6, slots := #[.ref 1, .ref 2, .ref 3, .ref 4, .ref 5, .ref 6, .ref 7, .ref 8, .ref 9, .ref 10, .ref 11, .ref 12, .ref 13, .ref 14, .ref 15, .ref 16, .ref 17, .null], vm := .statics 6 },
  { cls := 6, slots := #[.null, .int 0, .int 0], vm := .none },
  { cls := 6, slots := #[.null, .int 1, .int 0], vm := .none },
  { cls := 6, slots := #[.null, .int 2, .int 0], vm := .none },
  { cls := 6, slots := #[.null, .int 3, .int 0], vm := .none },
  { cls := 6, slots := #[.null, .int 4, .int 0], vm := .none },
  { cls := 6, slots := #[.null, .int 5, .int 0], vm := .none },
  { cls := 6, slots := #[.null, .int 6, .int 0], vm := .none },
  { cls := 6, slots := #[.null, .int 7, .int 0], vm := .none },
  { cls := 6, slots := #[.null, .int 8, .int 0], vm := .none },
  { cls := 6, slots := #[.null, .int 9, .int 0], vm := .none },
  { cls := 6, slots := #[.null, .int 10, .int 0], vm := .none },
  { cls := 6, slots := #[.null, .int 11, .int 0], vm := .none },
  { cls := 6, slots := #[.null, .int 12, .int 0], vm := .none },
  { cls := 6, slots := #[.null, .int 13, .int 0], vm := .none },
  { cls := 6, slots := #[.null, .int 14, .int 0], vm := .none },
  { cls := 6, slots := #[.null, .int 15, .int 0], vm := .none },
  { cls := 6, slots := #[.null, .int 16, .int 0], vm := .none }]
def classes : Array Class := #[k0, k1, k2, k3, k4, k5, k6, k7, k8, k9, k10, k11, k12]
def interned : List (Array UInt16 × Addr) := []
def slotsUsed : Nat := 69
def theMethod : MethodId := ⟨1, 1⟩
def args0 : Array Value := #[.int 5]
def aboutOver (below : List Frame) : State where
  vm := { classes := classes, interned := interned.toArray }
  heap := heap
  slotsUsed := slotsUsed
  threads := #[{ frames := .invoking theMethod args0 :: below }]
def below0 : List Frame := [.native { method := ⟨0, 0⟩, args := #[] }]
def about1 : State := aboutOver below0
def p0 : Program := .bare "" "" ""
def e0 : Env := launch0.env 0 0 0
theorem w_frames : about1.frames = Frame.invoking theMethod args0 :: below0 := rfl
set_option maxRecDepth 65536 in
theorem w_args : argsFit about1.vm theMethod args0 = true := by decide +kernel
set_option maxRecDepth 65536 in
theorem w_heap : heapFits about1 = true := by decide +kernel
set_option maxRecDepth 65536 in
theorem w_runnable : about1.curStatus? = some .runnable := by decide +kernel
set_option maxRecDepth 65536 in
theorem w_alone : about1.alone = true := by decide +kernel
set_option maxRecDepth 65536 in
theorem w_named : about1.methodNamed? x = some theMethod := by decide +kernel
set_option maxRecDepth 65536 in
theorem w_hears : about1.hears theMethod below0 = true := by decide +kernel
set_option maxRecDepth 65536 in
theorem w_ripe : about1.ripe theMethod args0 below0 = true := by decide +kernel
theorem w_running : about1.status = .running := rfl
set_option maxRecDepth 65536 in
theorem w_room : about1.hasRoom e0.platform room_1 = true :=
  launch0.hasRoom_least _ room_1 (by decide +kernel) (by decide +kernel) (by decide +kernel) (by decide +kernel) (by decide +kernel) (by decide +kernel)
theorem allAtoms_all (ts : List Jvm.Cond) (a : Array Jvm.Value) (st : Jvm.State) : (allAtoms ts).before a st = ts.all (fun c => c.before a st) := by
  induction ts with
  | nil => rfl
  | cons c t ih =>
    show (Jvm.Cond.and c (allAtoms t)).before a st = _
    rw [Jvm.Cond.before_and, ih, List.all_cons]
def words1 : List Jvm.Cond := Jvm.Cond.code x code maxLocals ret :: tables_1
/-- a 'code' word, met by the world's own term for the bytes: nothing is compared byte by byte -/
theorem code_word {y : MethodName} {bytes : ByteArray} {mx : Nat} {rt : Option FieldType} {a : Array Value} {s : State} {m : MethodId} {meth : Method} {c : Code} (h1 : s.methodNamed? y = some m) (h2 : s.vm.method? m = some meth) (h3 : meth.code = some c) (h4 : c.code = bytes)
    (h5 : (c.maxLocals == mx && c.exceptionTable.isEmpty && decide (c.maxStack ≤ mostOperands) && decide (meth.sig.returnType = rt) && !meth.locks && decide (parseMethodDescriptor y.desc = some meth.sig)) = true) : (Jvm.Cond.code y bytes mx rt).before a s = true := by
  simp only [Bool.and_eq_true, beq_iff_eq, Bool.not_eq_true', decide_eq_true_eq] at h5
  obtain ⟨⟨⟨⟨⟨g1, g2⟩, g3⟩, g4⟩, g5⟩, g6⟩ := h5
  simp [Cond.before, Cond.holds, Cond.value, h1, h2, h3, h4, g1, g2, g3, g4, g5, g6]
def isCode : Jvm.Cond → Bool
  | .code _ _ _ _ => true
  | _ => false
theorem all_split {L : List Jvm.Cond} {P : Jvm.Cond → Bool} (h1 : L.all (fun c => isCode c || P c) = true) (h2 : ∀ c ∈ L.filter isCode, P c = true) : L.all P = true := by
  refine List.all_eq_true.mpr fun c hc => ?_
  have h := List.all_eq_true.mp h1 c hc
  rcases Bool.eq_false_or_eq_true (isCode c) with hi | hi
  · exact h2 c (List.mem_filter.mpr ⟨hc, hi⟩)
  · simpa [hi] using h
set_option maxRecDepth 65536 in
theorem w_c0 : (Jvm.Cond.code x code maxLocals ret).before args0 about1 = true := code_word (m := ⟨1, 1⟩) (meth := k1m1) (c := k1c1) (by decide +kernel) rfl rfl rfl (by decide +kernel)
set_option maxRecDepth 65536 in
theorem w_c1 : (Jvm.Cond.code ({ cls := "com/example/lendloop/lendloop/core/RequestStatusIsOpenPinLaw", name := "expectedOpen", desc := "(I)Z" } : Jvm.MethodName) method_3_code (1 : Nat) (Option.some Jvm.ClassFile.FieldType.boolean)).before args0 about1 = true := code_word (m := ⟨1, 2⟩) (meth := k1m2) (c := k1c2) (by decide +kernel) rfl rfl rfl (by decide +kernel)
set_option maxRecDepth 65536 in
theorem w_c2 : (Jvm.Cond.code ({ cls := "com/example/lendloop/lendloop/core/RequestStatus", name := "isOpen", desc := "()Z" } : Jvm.MethodName) prog_36_method_4_code (1 : Nat) (Option.some Jvm.ClassFile.FieldType.boolean)).before args0 about1 = true := code_word (m := ⟨6, 0⟩) (meth := k6m0) (c := k6c0) (by decide +kernel) rfl rfl rfl (by decide +kernel)
def codes1 : List Jvm.Cond := [Jvm.Cond.code x code maxLocals ret, Jvm.Cond.code ({ cls := "com/example/lendloop/lendloop/core/RequestStatusIsOpenPinLaw", name := "expectedOpen", desc := "(I)Z" } : Jvm.MethodName) method_3_code (1 : Nat) (Option.some Jvm.ClassFile.FieldType.boolean), Jvm.Cond.code ({ cls := "com/example/lendloop/lendloop/core/RequestStatus", name := "isOpen", desc := "()Z" } : Jvm.MethodName) prog_36_method_4_code (1 : Nat) (Option.some Jvm.ClassFile.FieldType.boolean)]
set_option maxRecDepth 65536 in
theorem codes_eq : words1.filter isCode = codes1 := rfl
theorem w_codes : ∀ c ∈ words1.filter isCode, c.before args0 about1 = true := by
  rw [codes_eq]
  intro c hc
  simp only [codes1, List.mem_cons, List.not_mem_nil, or_false] at hc
  rcases hc with rfl | rfl | rfl
  · exact w_c0
  · exact w_c1
  · exact w_c2
set_option maxRecDepth 65536 in
theorem w_t1 : (words1.take 24).all (fun c => isCode c || c.before args0 about1) = true := by decide +kernel
set_option maxRecDepth 65536 in
theorem w_t2 : ((words1.drop 24).take 24).all (fun c => isCode c || c.before args0 about1) = true := by decide +kernel
set_option maxRecDepth 65536 in
theorem w_t3 : ((words1.drop 24).drop 24).all (fun c => isCode c || c.before args0 about1) = true := by decide +kernel
theorem w_tables : (allAtoms (Jvm.Cond.code x code maxLocals ret :: tables_1)).before args0 about1 = true := by
  rw [allAtoms_all]
  show words1.all (fun c => c.before args0 about1) = true
  refine all_split ?_ w_codes
  rw [← List.take_append_drop 24 words1, List.all_append, w_t1, ← List.take_append_drop 24 (words1.drop 24), List.all_append, w_t2, w_t3]
  rfl
set_option maxRecDepth 65536 in
theorem w_case : (Jvm.Cond.and given_1 narrow_1).before args0 about1 = true := by decide +kernel
theorem w_applies : (headSpec (Jvm.Cond.code x code maxLocals ret :: tables_1) room_1).applies x e0.platform about1 = true :=
  (Spec.applies_iff w_frames).mpr ⟨w_running, w_runnable, w_alone, w_named, w_hears, w_ripe, w_room, w_tables⟩
theorem atStart : AtStart classFile x code maxLocals ret World_1 tables_1 room_1 Calls_1 rest_1 Pre_1 launch0 p0 e0 about1 theMethod args0 below0 :=
  ⟨lists_1, trivial, launch0.admits_env _ _ _, launch0.least_env, fairChoices_fair.cas, fairChoices_fair.clock, w_frames, w_args, w_heap, w_applies, trivial, trivial, w_case⟩
end start1
theorem witness_1 : WitnessClaimed_1 := ⟨start1.p0, start1.e0, start1.about1, start1.theMethod, start1.args0, start1.below0, start1.atStart⟩
end Jvm.Pilot.@@N@@
