import JvmDerived
import JvmDerived.Pilot.@@N@@Statement
import JvmDerived.Pilot.@@N@@Code
set_option linter.unusedVariables false
set_option linter.unusedSimpArgs false
namespace Jvm.RoadKit
open Sem ClassFile Op Lib Jvm.Stand Jvm.Free Jvm.LawKit
section New
variable {p : Program} {l : Launch} {e : Env} {R : Room} {s : State} {m : MethodId} {args : Array Value} {below : List Frame} {meth : Method} {c : Code} {T : State} {locs : List Loc} {cells slots : Nat}
theorem retI (X : Stand p l e R s m args below meth c T locs cells slots) (hx : p.tables.exec = Jvm.exec) {pc : Nat} {Ls : Array Slot} {z : Int32} {rest : List Value} (hret : meth.sig.returnType = some .int) (hd : decode c.code pc = .ok (.ireturn, 1)) {fs : List Frame}
    (hl : ∀ (f : JFrame) (acts : List Action), f.method = m → f.locked = none → f.entered = [] → (doReturn e (T.setTop f) acts (some (.int z))).1 = T.setFrames fs) : Steps p.tables e below (T.setTop (mkF m pc Ls (.int z :: rest))) (T.setFrames fs) := by
  have hm' : T.vm.method? m = some meth := X.method'
  have hn : narrow .int (.int z) = .int z := rfl
  show Steps p.tables e below (T.setTop { method := m, pc := pc, locals := Ls, stack := _ :: rest, locked := none }) _
  jvm_step X.here [X.here.top, hx, hd, hm', hret, hn]
  first | (intro acts; rw [hl _ acts rfl rfl rfl]) | rw [hl _ _ rfl rfl rfl]
  exact Steps.refl _
end New
end Jvm.RoadKit
namespace Jvm.Pilot.@@N@@
open Jvm Jvm.ClassFile Sem Op Lib Jvm.Free Jvm.Stand Jvm.LawKit Jvm.RoadKit Bundle Jvm.Pilot.@@N@@.Jvm.D

theorem d2_0 : decode prog_4_method_1_code 0 = .ok (.getstatic 10, 3) := by decide +kernel
theorem d2_3 : decode prog_4_method_1_code 3 = .ok (.invokevirtual 14, 3) := by decide +kernel
theorem d2_6 : decode prog_4_method_1_code 6 = .ok (.checkcast 15, 3) := by decide +kernel
theorem d2_9 : decode prog_4_method_1_code 9 = .ok (.areturn, 1) := by decide +kernel
theorem ef_2 (m : MethodId)  : entryFrame m #[] 0 = mkF m 0 #[] [] := by first | (simp [entryFrame, mkF, argsToLocals, Value.category]; done) | rfl
theorem pn_2 : plainName "com/example/vestwright/vestwright/annuity/Payments" = true := by first | (simp [plainName, overriddenIn]; done) | decide +kernel
def Qd0 (Z : State) (vA yA mA : Addr) (kA : ClassId) (h0 : Heap) (n0 : Nat) (v : Option Value) (h : Heap) (L : List Loc) : Prop := ∃ b, v = some (.ref b) ∧ Fr n0 L ∧ Keep h0 h [] ∧ n0 ≤ b ∧ Arv Z h b kA (.object "com/example/vestwright/vestwright/annuity/Payments") (2 : Int32) [.ref yA, .ref mA] .null
set_option maxRecDepth 65536 in
set_option maxHeartbeats 40000000 in
theorem rmV (l : Launch) (Z : State) (a0 : Array Value) (hw : ∀ d ∈ tables_1, d.before a0 Z = true) (ws : List Jvm.Cond) (vA yA mA : Addr) (kA : ClassId) (h0 : Heap) (n0 : Nat) (O0 : Old Z n0 h0) (SV : Sta Z Z.heap "com/example/vestwright/vestwright/annuity/Payments" "$VALUES" "[Lcom/example/vestwright/vestwright/annuity/Payments;" (.ref vA)) (VV : Arv Z Z.heap vA kA (.object "com/example/vestwright/vestwright/annuity/Payments") (2 : Int32) [.ref yA, .ref mA] .null) (EV : Exa Z Z.heap vA "[Lcom/example/vestwright/vestwright/annuity/Payments;") :
    MetFree l (⟨"com/example/vestwright/vestwright/annuity/Payments", "values", "()[Lcom/example/vestwright/vestwright/annuity/Payments;"⟩ : MethodName) (head1 (Jvm.Cond.code (⟨"com/example/vestwright/vestwright/annuity/Payments", "values", "()[Lcom/example/vestwright/vestwright/annuity/Payments;"⟩ : MethodName) prog_4_method_1_code 0 (some (.array (.object "com/example/vestwright/vestwright/annuity/Payments"))) :: ws) ({ frames := 1, cells := 1, slots := 2, locals := 14 } : Room)) (fun qq U => qq = #[] ∧ Z.Warmed39 U.vm ∧ U.heap = h0) (fun _ _ _ _ _ => True) (fun _ UU oo UU' => ∃ vv LL, oo = .returned vv ∧ Qd0 Z vA yA mA kA h0 n0 vv UU'.heap LL ∧ FrameEnd UU oo UU' LL ({ frames := 1, cells := 1, slots := 2, locals := 14 } : Room).cells ({ frames := 1, cells := 1, slots := 2, locals := 14 } : Room).slots) := by
  refine MetFree.of_bodySF (plainFor_of_name pn_2) hisR ?_
  intro p e s m args below meth c s₁ Bd hml0 hP hK
  obtain ⟨rfl, hZ, hh⟩ := hP
  have hx := Bd.exec
  have hby := Bd.bytes
  have hml : c.maxLocals = 0 := hml0
  have hown : s.vm.findClass "com/example/vestwright/vestwright/annuity/Payments" = some m.cls := findClass_of_methodNamed Bd.named
  have hnm := (name_of_methodNamed Bd.named Bd.method).1
  have X0 : Stand p l e ({ frames := 1, cells := 1, slots := 2, locals := 14 } : Room) s m #[] below meth c s₁ [] 0 0 := Stand.of_body Bd
  have e0 : s₁.heap = h0 := by rw [← hh, Bd.state]; rfl
  have N0 := Fr.nil n0
  have pre0 : ∀ t, Steps p.tables e below (s₁.setTop (mkF m 0 #[] [])) t → Steps p.tables e below (s₁.setTop (entryFrame m #[] 0)) t := fun t k => castTop (ef_2 m ) k
  obtain ⟨T1, X1, e1, st1⟩ := getS2 X0 hx hZ hown (host := "") (Or.inl (hw _ (List.mem_of_getElem? (i := 9) rfl))) Via.refl e0 (SV.ext O0.2) (g := (mkF m 0 #[] [])) rfl (hb hby d2_0)
  obtain ⟨T2, h2, X2, e2, E2, V2, A2, st2⟩ := cloneH X1 hx hZ hown (hw _ (List.mem_of_getElem? (i := 11) rfl)) (hw _ (List.mem_of_getElem? (i := 12) rfl)) (hw _ (List.mem_of_getElem? (i := 16) rfl)) (hw _ (List.mem_of_getElem? (i := 14) rfl)) (hw _ (List.mem_of_getElem? (i := 15) rfl)) (hw _ (List.mem_of_getElem? (i := 17) rfl)) e1 (Arv.arh (VV.ext O0.2)) (EV.ext O0.2) (g := (mkF m 3 #[] [(.ref vA)])) rfl (by rw [hml]; rfl) rfl (hb hby d2_3) (by decide) (W := 0) (by show 2 * 0 + _ ≤ _; exact Nat.le_of_eq rfl) (by decide) (cap := 2) (by decide) (by decide) (by decide)
  obtain ⟨b2, q2⟩ : ∃ z, z = h0.size := ⟨_, rfl⟩
  rw [← q2] at V2 A2 st2
  have g_b2 : n0 ≤ b2 := by rw [q2]; exact (O0).1 ▸ (O0).2.1
  have sz_b2 : h0.size ≤ b2 := by rw [q2]; exact ((Keep.refl h0 [])).1
  have O2 := Old.ext O0 E2
  have K2 := Keep.ext (Keep.refl h0 []) E2
  obtain ⟨T3, X3, e3, st3⟩ := castY X2 hx hZ hown (hw _ (List.mem_of_getElem? (i := 20) rfl)) e2 (Ins.self A2) (g := (mkF m 6 #[] [(.ref b2)])) rfl rfl (hb hby d2_6)
  obtain ⟨fs, hr, hrun, hended, hW, hsame⟩ := X3.leave (v := some (.ref b2)) (fun h => by rw [Bd.returns] at h; cases h)
  refine ⟨_, _, pre0 _ ?_, hrun, hended, _, _, rfl, ?_, ⟨_, rfl⟩, hW, hsame.mono (by decide) (by decide)⟩
  · show Steps p.tables e below (s₁.setTop (mkF m 0 #[] [])) _
    refine st1 _ ?_
    show Steps p.tables e below (T1.setTop (mkF m 3 #[] [(.ref vA)])) _
    refine st2 _ ?_
    show Steps p.tables e below (T2.setTop (mkF m 6 #[] [(.ref b2)])) _
    refine st3 _ ?_
    show Steps p.tables e below (T3.setTop (mkF m 9 #[] [(.ref b2)])) _
    exact retOut X3 hx Bd.returns rfl (Or.inr (Or.inr (Or.inr (Or.inr ⟨rfl, rfl, rfl⟩)))) (hb hby d2_9) hr
  · show Qd0 Z vA yA mA kA h0 n0 _ T3.heap _
    rw [e3]
    exact ⟨b2, rfl, N0, K2, g_b2, V2⟩
theorem d1_0 : decode prog_4_method_5_code 0 = .ok (.invokestatic 33, 3) := by decide +kernel
theorem own_pd0 : parseMethodDescriptor "()[Lcom/example/vestwright/vestwright/annuity/Payments;" = some ⟨[], some (.array (.object "com/example/vestwright/vestwright/annuity/Payments"))⟩ := by decide +kernel
theorem d1_3 : decode prog_4_method_5_code 3 = .ok (.astore_n 1, 1) := by decide +kernel
theorem d1_4 : decode prog_4_method_5_code 4 = .ok (.aload_n 1, 1) := by decide +kernel
theorem d1_5 : decode prog_4_method_5_code 5 = .ok (.arraylength, 1) := by decide +kernel
theorem d1_6 : decode prog_4_method_5_code 6 = .ok (.istore_n 2, 1) := by decide +kernel
theorem d1_7 : decode prog_4_method_5_code 7 = .ok (.iconst 0, 1) := by decide +kernel
theorem d1_8 : decode prog_4_method_5_code 8 = .ok (.istore_n 3, 1) := by decide +kernel
theorem d1_9 : decode prog_4_method_5_code 9 = .ok (.iload_n 3, 1) := by decide +kernel
theorem d1_10 : decode prog_4_method_5_code 10 = .ok (.iload_n 2, 1) := by decide +kernel
theorem d1_11 : decode prog_4_method_5_code 11 = .ok (.if_icmp .ge 26, 3) := by decide +kernel
theorem d1_14 : decode prog_4_method_5_code 14 = .ok (.aload_n 1, 1) := by decide +kernel
theorem d1_15 : decode prog_4_method_5_code 15 = .ok (.iload_n 3, 1) := by decide +kernel
theorem d1_16 : decode prog_4_method_5_code 16 = .ok (.aaload, 1) := by decide +kernel
theorem d1_17 : decode prog_4_method_5_code 17 = .ok (.astore 4, 2) := by decide +kernel
theorem d1_19 : decode prog_4_method_5_code 19 = .ok (.aload 4, 2) := by decide +kernel
theorem d1_21 : decode prog_4_method_5_code 21 = .ok (.getfield 29, 3) := by decide +kernel
theorem d1_24 : decode prog_4_method_5_code 24 = .ok (.iload_n 0, 1) := by decide +kernel
theorem d1_25 : decode prog_4_method_5_code 25 = .ok (.if_icmp .ne 6, 3) := by decide +kernel
theorem d1_28 : decode prog_4_method_5_code 28 = .ok (.aload 4, 2) := by decide +kernel
theorem d1_30 : decode prog_4_method_5_code 30 = .ok (.areturn, 1) := by decide +kernel
theorem ef_1 (m : MethodId) (x0 : Int32) : entryFrame m #[(.int x0)] 5 = mkF m 0 #[.val (.int x0), .unset, .unset, .unset, .unset] [] := by first | (simp [entryFrame, mkF, argsToLocals, Value.category]; done) | rfl
theorem pn_1 : plainName "com/example/vestwright/vestwright/annuity/Payments" = true := by first | (simp [plainName, overriddenIn]; done) | decide +kernel
def Qd1 (Z : State) (vA yA mA : Addr) (kA : ClassId) (h0 : Heap) (n0 : Nat) (v : Option Value) (h : Heap) (L : List Loc) : Prop := v = some (.ref yA) ∧ Fr n0 L ∧ Keep h0 h []
set_option maxRecDepth 65536 in
set_option maxHeartbeats 40000000 in
theorem rmOY (l : Launch) (Z : State) (a0 : Array Value) (hw : ∀ d ∈ tables_1, d.before a0 Z = true) (ws : List Jvm.Cond) (vA yA mA : Addr) (kA : ClassId) (h0 : Heap) (n0 : Nat) (O0 : Old Z n0 h0) (SV : Sta Z Z.heap "com/example/vestwright/vestwright/annuity/Payments" "$VALUES" "[Lcom/example/vestwright/vestwright/annuity/Payments;" (.ref vA)) (VV : Arv Z Z.heap vA kA (.object "com/example/vestwright/vestwright/annuity/Payments") (2 : Int32) [.ref yA, .ref mA] .null) (EV : Exa Z Z.heap vA "[Lcom/example/vestwright/vestwright/annuity/Payments;") (FY : Fld Z Z.heap yA "com/example/vestwright/vestwright/annuity/Payments" "perYear" "I" (.int (1 : Int32))) (FM : Fld Z Z.heap mA "com/example/vestwright/vestwright/annuity/Payments" "perYear" "I" (.int (12 : Int32))) :
    MetFree l (⟨"com/example/vestwright/vestwright/annuity/Payments", "of", "(I)Lcom/example/vestwright/vestwright/annuity/Payments;"⟩ : MethodName) (head1 (Jvm.Cond.code (⟨"com/example/vestwright/vestwright/annuity/Payments", "of", "(I)Lcom/example/vestwright/vestwright/annuity/Payments;"⟩ : MethodName) prog_4_method_5_code 5 (some (.object "com/example/vestwright/vestwright/annuity/Payments")) :: ws) ({ frames := 2, cells := 1, slots := 2, locals := 25 } : Room)) (fun qq U => qq = #[(.int (1 : Int32))] ∧ Z.Warmed39 U.vm ∧ U.heap = h0) (fun _ _ _ _ _ => True) (fun _ UU oo UU' => ∃ vv LL, oo = .returned vv ∧ Qd1 Z vA yA mA kA h0 n0 vv UU'.heap LL ∧ FrameEnd UU oo UU' LL ({ frames := 2, cells := 1, slots := 2, locals := 25 } : Room).cells ({ frames := 2, cells := 1, slots := 2, locals := 25 } : Room).slots) := by
  refine MetFree.of_bodySF (plainFor_of_name pn_1) hisR ?_
  intro p e s m args below meth c s₁ Bd hml0 hP hK
  obtain ⟨rfl, hZ, hh⟩ := hP
  have hx := Bd.exec
  have hby := Bd.bytes
  have hml : c.maxLocals = 5 := hml0
  have hown : s.vm.findClass "com/example/vestwright/vestwright/annuity/Payments" = some m.cls := findClass_of_methodNamed Bd.named
  have hnm := (name_of_methodNamed Bd.named Bd.method).1
  have X0 : Stand p l e ({ frames := 2, cells := 1, slots := 2, locals := 25 } : Room) s m #[(.int (1 : Int32))] below meth c s₁ [] 0 0 := Stand.of_body Bd
  have e0 : s₁.heap = h0 := by rw [← hh, Bd.state]; rfl
  have N0 := Fr.nil n0
  have pre0 : ∀ t, Steps p.tables e below (s₁.setTop (mkF m 0 #[.val (.int (1 : Int32)), .unset, .unset, .unset, .unset] [])) t → Steps p.tables e below (s₁.setTop (entryFrame m #[(.int (1 : Int32))] 5)) t := fun t k => castTop (ef_1 m (1 : Int32)) k
  obtain ⟨_, _, ⟨T1, L1, k1, n1⟩, -, X1, ⟨Lc1, hQ1, l1, y1, z1⟩, st1⟩ := Jvm.LawKit.callS X0 hx (y := (⟨"com/example/vestwright/vestwright/annuity/Payments", "values", "()[Lcom/example/vestwright/vestwright/annuity/Payments;"⟩ : MethodName)) hown (mvT hZ (hw _ (List.mem_of_getElem? (i := 6) rfl))) (mvT hZ (hw _ (List.mem_of_getElem? (i := 7) rfl))) (mvT hZ (hw _ (List.mem_of_getElem? (i := 1) rfl))) (mvT hZ (hw _ (List.mem_of_getElem? (i := 8) rfl))) (by decide) (backOf (W := 0) (rmV l Z a0 hw [] vA yA mA kA h0 n0 O0 SV VV EV) hZ (hw _ (List.mem_of_getElem? (i := 8) rfl)) (hw _ (List.mem_of_getElem? (i := 1) rfl)) (by decide) (by decide)) (g := (mkF m 0 #[.val (.int (1 : Int32)), .unset, .unset, .unset, .unset] [])) rfl (by rw [hml]; rfl) (argsL := []) (rest := []) (lenOf own_pd0 rfl) rfl (by show 2 * 0 + _ ≤ _; exact Nat.le_of_eq rfl) (hb hby d1_0) (fun _ _ => ⟨rfl, e0, (by decide : 0 + 1 ≤ _), (by decide : 0 + 2 ≤ _)⟩)
  dsimp only [Pt.U, Pt.locs, Pt.cells, Pt.slots] at X1 l1 y1 z1 st1 hQ1
  subst l1 y1 z1
  obtain ⟨b, rfl, N1q, KK1, g_b, VB⟩ := hQ1
  have N1 := Fr.app N0 N1q
  have O1 := Old.keep O0 KK1 all0
  have K1 := Keep.trans (Keep.refl h0 []) KK1 all0
  obtain ⟨cl, Ar, qk, Sz, Mz, Hz, Uz⟩ := VB
  have hin0 : ¬ ((0 : Int32) < 0 ∨ cl.slots.size ≤ ((0 : Int32)).toNatClampNeg) := by rw [Sz]; decide
  have hat0 : cl.slots[((0 : Int32)).toNatClampNeg]? = some (.ref yA) := Hz 0 (by rw [Sz]; decide)
  obtain ⟨T2, X2, e2, st2⟩ := getF X1 hx hZ hown (host := "") (Or.inl (hw _ (List.mem_of_getElem? (i := 22) rfl))) Via.refl rfl (FY.ext O1.2) (g := (mkF m 21 #[.val (.int (1 : Int32)), .val (.ref b), .val (.int (2 : Int32)), .val (.int (0 : Int32)), .val (.ref yA)] [(.ref yA)])) rfl rfl (hb hby d1_21)
  obtain ⟨fs, hr, hrun, hended, hW, hsame⟩ := X2.leave (v := some (.ref yA)) (fun h => by rw [Bd.returns] at h; cases h)
  refine ⟨_, _, pre0 _ ?_, hrun, hended, _, _, rfl, ?_, ⟨_, rfl⟩, hW, hsame.mono (by decide) (by decide)⟩
  · show Steps p.tables e below (s₁.setTop (mkF m 0 #[.val (.int (1 : Int32)), .unset, .unset, .unset, .unset] [])) _
    refine st1 _ ?_
    show Steps p.tables e below (T1.setTop (mkF m 3 #[.val (.int (1 : Int32)), .unset, .unset, .unset, .unset] [(.ref b)])) _
    refine XS.astoreN X1.here hx rfl (hb hby d1_3) rfl rfl (l' := #[.val (.int (1 : Int32)), .val (.ref b), .unset, .unset, .unset]) rfl ?_
    show Steps p.tables e below (T1.setTop (mkF m 4 #[.val (.int (1 : Int32)), .val (.ref b), .unset, .unset, .unset] [])) _
    refine XS.aloadN X1.here hx rfl (hb hby d1_4) rfl rfl ?_
    show Steps p.tables e below (T1.setTop (mkF m 5 #[.val (.int (1 : Int32)), .val (.ref b), .unset, .unset, .unset] [(.ref b)])) _
    refine X1.arraylength hx Ar.1 (State.isArrayOf_alike hZ.alike Ar.2.1) (g := (mkF m 5 #[.val (.int (1 : Int32)), .val (.ref b), .unset, .unset, .unset] [(.ref b)])) rfl rfl (hb hby d1_5) _ ?_
    rw [len_of Sz Mz]
    show Steps p.tables e below (T1.setTop (mkF m 6 #[.val (.int (1 : Int32)), .val (.ref b), .unset, .unset, .unset] [(.int (2 : Int32))])) _
    refine XS.istoreN X1.here hx rfl (hb hby d1_6) rfl (l' := #[.val (.int (1 : Int32)), .val (.ref b), .val (.int (2 : Int32)), .unset, .unset]) rfl ?_
    show Steps p.tables e below (T1.setTop (mkF m 7 #[.val (.int (1 : Int32)), .val (.ref b), .val (.int (2 : Int32)), .unset, .unset] [])) _
    refine XS.iconst X1.here hx rfl (hb hby d1_7) ?_
    show Steps p.tables e below (T1.setTop (mkF m 8 #[.val (.int (1 : Int32)), .val (.ref b), .val (.int (2 : Int32)), .unset, .unset] [(.int (0 : Int32))])) _
    refine XS.istoreN X1.here hx rfl (hb hby d1_8) rfl (l' := #[.val (.int (1 : Int32)), .val (.ref b), .val (.int (2 : Int32)), .val (.int (0 : Int32)), .unset]) rfl ?_
    show Steps p.tables e below (T1.setTop (mkF m 9 #[.val (.int (1 : Int32)), .val (.ref b), .val (.int (2 : Int32)), .val (.int (0 : Int32)), .unset] [])) _
    refine XS.iloadN X1.here hx rfl (hb hby d1_9) rfl ?_
    show Steps p.tables e below (T1.setTop (mkF m 10 #[.val (.int (1 : Int32)), .val (.ref b), .val (.int (2 : Int32)), .val (.int (0 : Int32)), .unset] [(.int (0 : Int32))])) _
    refine XS.iloadN X1.here hx rfl (hb hby d1_10) rfl ?_
    show Steps p.tables e below (T1.setTop (mkF m 11 #[.val (.int (1 : Int32)), .val (.ref b), .val (.int (2 : Int32)), .val (.int (0 : Int32)), .unset] [(.int (2 : Int32)), (.int (0 : Int32))])) _
    refine XS.icmpNo X1.here hx rfl (hb hby d1_11) rfl (tlt (by decide : (0 : Int32) < (2 : Int32))).2.1 ?_
    show Steps p.tables e below (T1.setTop (mkF m 14 #[.val (.int (1 : Int32)), .val (.ref b), .val (.int (2 : Int32)), .val (.int (0 : Int32)), .unset] [])) _
    refine XS.aloadN X1.here hx rfl (hb hby d1_14) rfl rfl ?_
    show Steps p.tables e below (T1.setTop (mkF m 15 #[.val (.int (1 : Int32)), .val (.ref b), .val (.int (2 : Int32)), .val (.int (0 : Int32)), .unset] [(.ref b)])) _
    refine XS.iloadN X1.here hx rfl (hb hby d1_15) rfl ?_
    show Steps p.tables e below (T1.setTop (mkF m 16 #[.val (.int (1 : Int32)), .val (.ref b), .val (.int (2 : Int32)), .val (.int (0 : Int32)), .unset] [(.int (0 : Int32)), (.ref b)])) _
    refine X1.aaload hx (j := (0 : Int32)) (v := (.ref yA)) Ar.1 (State.isArrayOf_alike hZ.alike Ar.2.1) rfl Ar.2.2 hin0 hat0 (g := (mkF m 16 #[.val (.int (1 : Int32)), .val (.ref b), .val (.int (2 : Int32)), .val (.int (0 : Int32)), .unset] [(.int (0 : Int32)), (.ref b)])) rfl rfl (hb hby d1_16) _ ?_
    show Steps p.tables e below (T1.setTop (mkF m 17 #[.val (.int (1 : Int32)), .val (.ref b), .val (.int (2 : Int32)), .val (.int (0 : Int32)), .unset] [(.ref yA)])) _
    refine XS.astore X1.here hx rfl (hb hby d1_17) rfl rfl (l' := #[.val (.int (1 : Int32)), .val (.ref b), .val (.int (2 : Int32)), .val (.int (0 : Int32)), .val (.ref yA)]) rfl ?_
    show Steps p.tables e below (T1.setTop (mkF m 19 #[.val (.int (1 : Int32)), .val (.ref b), .val (.int (2 : Int32)), .val (.int (0 : Int32)), .val (.ref yA)] [])) _
    refine XS.aload X1.here hx rfl (hb hby d1_19) rfl rfl ?_
    show Steps p.tables e below (T1.setTop (mkF m 21 #[.val (.int (1 : Int32)), .val (.ref b), .val (.int (2 : Int32)), .val (.int (0 : Int32)), .val (.ref yA)] [(.ref yA)])) _
    refine st2 _ ?_
    show Steps p.tables e below (T2.setTop (mkF m 24 #[.val (.int (1 : Int32)), .val (.ref b), .val (.int (2 : Int32)), .val (.int (0 : Int32)), .val (.ref yA)] [(.int (1 : Int32))])) _
    refine XS.iloadN X2.here hx rfl (hb hby d1_24) rfl ?_
    show Steps p.tables e below (T2.setTop (mkF m 25 #[.val (.int (1 : Int32)), .val (.ref b), .val (.int (2 : Int32)), .val (.int (0 : Int32)), .val (.ref yA)] [(.int (1 : Int32)), (.int (1 : Int32))])) _
    refine XS.icmpNo X2.here hx rfl (hb hby d1_25) rfl (teq (rfl : (1 : Int32) = (1 : Int32))).2 ?_
    show Steps p.tables e below (T2.setTop (mkF m 28 #[.val (.int (1 : Int32)), .val (.ref b), .val (.int (2 : Int32)), .val (.int (0 : Int32)), .val (.ref yA)] [])) _
    refine XS.aload X2.here hx rfl (hb hby d1_28) rfl rfl ?_
    show Steps p.tables e below (T2.setTop (mkF m 30 #[.val (.int (1 : Int32)), .val (.ref b), .val (.int (2 : Int32)), .val (.int (0 : Int32)), .val (.ref yA)] [(.ref yA)])) _
    exact retOut X2 hx Bd.returns rfl (Or.inr (Or.inr (Or.inr (Or.inr ⟨rfl, rfl, rfl⟩)))) (hb hby d1_30) hr
  · show Qd1 Z vA yA mA kA h0 n0 _ T2.heap _
    rw [e2]
    exact ⟨rfl, N1, K1⟩
theorem d1_31 : decode prog_4_method_5_code 31 = .ok (.iinc 3 1, 3) := by decide +kernel
theorem d1_34 : decode prog_4_method_5_code 34 = .ok (.goto (-25), 3) := by decide +kernel
def Qd2 (Z : State) (vA yA mA : Addr) (kA : ClassId) (h0 : Heap) (n0 : Nat) (v : Option Value) (h : Heap) (L : List Loc) : Prop := v = some (.ref mA) ∧ Fr n0 L ∧ Keep h0 h []
set_option maxRecDepth 65536 in
set_option maxHeartbeats 40000000 in
theorem rmOM (l : Launch) (Z : State) (a0 : Array Value) (hw : ∀ d ∈ tables_1, d.before a0 Z = true) (ws : List Jvm.Cond) (vA yA mA : Addr) (kA : ClassId) (h0 : Heap) (n0 : Nat) (O0 : Old Z n0 h0) (SV : Sta Z Z.heap "com/example/vestwright/vestwright/annuity/Payments" "$VALUES" "[Lcom/example/vestwright/vestwright/annuity/Payments;" (.ref vA)) (VV : Arv Z Z.heap vA kA (.object "com/example/vestwright/vestwright/annuity/Payments") (2 : Int32) [.ref yA, .ref mA] .null) (EV : Exa Z Z.heap vA "[Lcom/example/vestwright/vestwright/annuity/Payments;") (FY : Fld Z Z.heap yA "com/example/vestwright/vestwright/annuity/Payments" "perYear" "I" (.int (1 : Int32))) (FM : Fld Z Z.heap mA "com/example/vestwright/vestwright/annuity/Payments" "perYear" "I" (.int (12 : Int32))) :
    MetFree l (⟨"com/example/vestwright/vestwright/annuity/Payments", "of", "(I)Lcom/example/vestwright/vestwright/annuity/Payments;"⟩ : MethodName) (head1 (Jvm.Cond.code (⟨"com/example/vestwright/vestwright/annuity/Payments", "of", "(I)Lcom/example/vestwright/vestwright/annuity/Payments;"⟩ : MethodName) prog_4_method_5_code 5 (some (.object "com/example/vestwright/vestwright/annuity/Payments")) :: ws) ({ frames := 2, cells := 1, slots := 2, locals := 25 } : Room)) (fun qq U => qq = #[(.int (12 : Int32))] ∧ Z.Warmed39 U.vm ∧ U.heap = h0) (fun _ _ _ _ _ => True) (fun _ UU oo UU' => ∃ vv LL, oo = .returned vv ∧ Qd2 Z vA yA mA kA h0 n0 vv UU'.heap LL ∧ FrameEnd UU oo UU' LL ({ frames := 2, cells := 1, slots := 2, locals := 25 } : Room).cells ({ frames := 2, cells := 1, slots := 2, locals := 25 } : Room).slots) := by
  refine MetFree.of_bodySF (plainFor_of_name pn_1) hisR ?_
  intro p e s m args below meth c s₁ Bd hml0 hP hK
  obtain ⟨rfl, hZ, hh⟩ := hP
  have hx := Bd.exec
  have hby := Bd.bytes
  have hml : c.maxLocals = 5 := hml0
  have hown : s.vm.findClass "com/example/vestwright/vestwright/annuity/Payments" = some m.cls := findClass_of_methodNamed Bd.named
  have hnm := (name_of_methodNamed Bd.named Bd.method).1
  have X0 : Stand p l e ({ frames := 2, cells := 1, slots := 2, locals := 25 } : Room) s m #[(.int (12 : Int32))] below meth c s₁ [] 0 0 := Stand.of_body Bd
  have e0 : s₁.heap = h0 := by rw [← hh, Bd.state]; rfl
  have N0 := Fr.nil n0
  have pre0 : ∀ t, Steps p.tables e below (s₁.setTop (mkF m 0 #[.val (.int (12 : Int32)), .unset, .unset, .unset, .unset] [])) t → Steps p.tables e below (s₁.setTop (entryFrame m #[(.int (12 : Int32))] 5)) t := fun t k => castTop (ef_1 m (12 : Int32)) k
  obtain ⟨_, _, ⟨T1, L1, k1, n1⟩, -, X1, ⟨Lc1, hQ1, l1, y1, z1⟩, st1⟩ := Jvm.LawKit.callS X0 hx (y := (⟨"com/example/vestwright/vestwright/annuity/Payments", "values", "()[Lcom/example/vestwright/vestwright/annuity/Payments;"⟩ : MethodName)) hown (mvT hZ (hw _ (List.mem_of_getElem? (i := 6) rfl))) (mvT hZ (hw _ (List.mem_of_getElem? (i := 7) rfl))) (mvT hZ (hw _ (List.mem_of_getElem? (i := 1) rfl))) (mvT hZ (hw _ (List.mem_of_getElem? (i := 8) rfl))) (by decide) (backOf (W := 0) (rmV l Z a0 hw [] vA yA mA kA h0 n0 O0 SV VV EV) hZ (hw _ (List.mem_of_getElem? (i := 8) rfl)) (hw _ (List.mem_of_getElem? (i := 1) rfl)) (by decide) (by decide)) (g := (mkF m 0 #[.val (.int (12 : Int32)), .unset, .unset, .unset, .unset] [])) rfl (by rw [hml]; rfl) (argsL := []) (rest := []) (lenOf own_pd0 rfl) rfl (by show 2 * 0 + _ ≤ _; exact Nat.le_of_eq rfl) (hb hby d1_0) (fun _ _ => ⟨rfl, e0, (by decide : 0 + 1 ≤ _), (by decide : 0 + 2 ≤ _)⟩)
  dsimp only [Pt.U, Pt.locs, Pt.cells, Pt.slots] at X1 l1 y1 z1 st1 hQ1
  subst l1 y1 z1
  obtain ⟨b, rfl, N1q, KK1, g_b, VB⟩ := hQ1
  have N1 := Fr.app N0 N1q
  have O1 := Old.keep O0 KK1 all0
  have K1 := Keep.trans (Keep.refl h0 []) KK1 all0
  obtain ⟨cl, Ar, qk, Sz, Mz, Hz, Uz⟩ := VB
  have hin0 : ¬ ((0 : Int32) < 0 ∨ cl.slots.size ≤ ((0 : Int32)).toNatClampNeg) := by rw [Sz]; decide
  have hat0 : cl.slots[((0 : Int32)).toNatClampNeg]? = some (.ref yA) := Hz 0 (by rw [Sz]; decide)
  obtain ⟨T2, X2, e2, st2⟩ := getF X1 hx hZ hown (host := "") (Or.inl (hw _ (List.mem_of_getElem? (i := 22) rfl))) Via.refl rfl (FY.ext O1.2) (g := (mkF m 21 #[.val (.int (12 : Int32)), .val (.ref b), .val (.int (2 : Int32)), .val (.int (0 : Int32)), .val (.ref yA)] [(.ref yA)])) rfl rfl (hb hby d1_21)
  have hin1 : ¬ (((0 : Int32) + (1 : Int32)) < 0 ∨ cl.slots.size ≤ (((0 : Int32) + (1 : Int32))).toNatClampNeg) := by rw [Sz]; decide
  have hat1 : cl.slots[(((0 : Int32) + (1 : Int32))).toNatClampNeg]? = some (.ref mA) := Hz 1 (by rw [Sz]; decide)
  obtain ⟨T3, X3, e3, st3⟩ := getF X2 hx hZ hown (host := "") (Or.inl (hw _ (List.mem_of_getElem? (i := 22) rfl))) Via.refl e2 (FM.ext O1.2) (g := (mkF m 21 #[.val (.int (12 : Int32)), .val (.ref b), .val (.int (2 : Int32)), .val (.int ((0 : Int32) + (1 : Int32))), .val (.ref mA)] [(.ref mA)])) rfl rfl (hb hby d1_21)
  obtain ⟨fs, hr, hrun, hended, hW, hsame⟩ := X3.leave (v := some (.ref mA)) (fun h => by rw [Bd.returns] at h; cases h)
  refine ⟨_, _, pre0 _ ?_, hrun, hended, _, _, rfl, ?_, ⟨_, rfl⟩, hW, hsame.mono (by decide) (by decide)⟩
  · show Steps p.tables e below (s₁.setTop (mkF m 0 #[.val (.int (12 : Int32)), .unset, .unset, .unset, .unset] [])) _
    refine st1 _ ?_
    show Steps p.tables e below (T1.setTop (mkF m 3 #[.val (.int (12 : Int32)), .unset, .unset, .unset, .unset] [(.ref b)])) _
    refine XS.astoreN X1.here hx rfl (hb hby d1_3) rfl rfl (l' := #[.val (.int (12 : Int32)), .val (.ref b), .unset, .unset, .unset]) rfl ?_
    show Steps p.tables e below (T1.setTop (mkF m 4 #[.val (.int (12 : Int32)), .val (.ref b), .unset, .unset, .unset] [])) _
    refine XS.aloadN X1.here hx rfl (hb hby d1_4) rfl rfl ?_
    show Steps p.tables e below (T1.setTop (mkF m 5 #[.val (.int (12 : Int32)), .val (.ref b), .unset, .unset, .unset] [(.ref b)])) _
    refine X1.arraylength hx Ar.1 (State.isArrayOf_alike hZ.alike Ar.2.1) (g := (mkF m 5 #[.val (.int (12 : Int32)), .val (.ref b), .unset, .unset, .unset] [(.ref b)])) rfl rfl (hb hby d1_5) _ ?_
    rw [len_of Sz Mz]
    show Steps p.tables e below (T1.setTop (mkF m 6 #[.val (.int (12 : Int32)), .val (.ref b), .unset, .unset, .unset] [(.int (2 : Int32))])) _
    refine XS.istoreN X1.here hx rfl (hb hby d1_6) rfl (l' := #[.val (.int (12 : Int32)), .val (.ref b), .val (.int (2 : Int32)), .unset, .unset]) rfl ?_
    show Steps p.tables e below (T1.setTop (mkF m 7 #[.val (.int (12 : Int32)), .val (.ref b), .val (.int (2 : Int32)), .unset, .unset] [])) _
    refine XS.iconst X1.here hx rfl (hb hby d1_7) ?_
    show Steps p.tables e below (T1.setTop (mkF m 8 #[.val (.int (12 : Int32)), .val (.ref b), .val (.int (2 : Int32)), .unset, .unset] [(.int (0 : Int32))])) _
    refine XS.istoreN X1.here hx rfl (hb hby d1_8) rfl (l' := #[.val (.int (12 : Int32)), .val (.ref b), .val (.int (2 : Int32)), .val (.int (0 : Int32)), .unset]) rfl ?_
    show Steps p.tables e below (T1.setTop (mkF m 9 #[.val (.int (12 : Int32)), .val (.ref b), .val (.int (2 : Int32)), .val (.int (0 : Int32)), .unset] [])) _
    refine XS.iloadN X1.here hx rfl (hb hby d1_9) rfl ?_
    show Steps p.tables e below (T1.setTop (mkF m 10 #[.val (.int (12 : Int32)), .val (.ref b), .val (.int (2 : Int32)), .val (.int (0 : Int32)), .unset] [(.int (0 : Int32))])) _
    refine XS.iloadN X1.here hx rfl (hb hby d1_10) rfl ?_
    show Steps p.tables e below (T1.setTop (mkF m 11 #[.val (.int (12 : Int32)), .val (.ref b), .val (.int (2 : Int32)), .val (.int (0 : Int32)), .unset] [(.int (2 : Int32)), (.int (0 : Int32))])) _
    refine XS.icmpNo X1.here hx rfl (hb hby d1_11) rfl (tlt (by decide : (0 : Int32) < (2 : Int32))).2.1 ?_
    show Steps p.tables e below (T1.setTop (mkF m 14 #[.val (.int (12 : Int32)), .val (.ref b), .val (.int (2 : Int32)), .val (.int (0 : Int32)), .unset] [])) _
    refine XS.aloadN X1.here hx rfl (hb hby d1_14) rfl rfl ?_
    show Steps p.tables e below (T1.setTop (mkF m 15 #[.val (.int (12 : Int32)), .val (.ref b), .val (.int (2 : Int32)), .val (.int (0 : Int32)), .unset] [(.ref b)])) _
    refine XS.iloadN X1.here hx rfl (hb hby d1_15) rfl ?_
    show Steps p.tables e below (T1.setTop (mkF m 16 #[.val (.int (12 : Int32)), .val (.ref b), .val (.int (2 : Int32)), .val (.int (0 : Int32)), .unset] [(.int (0 : Int32)), (.ref b)])) _
    refine X1.aaload hx (j := (0 : Int32)) (v := (.ref yA)) Ar.1 (State.isArrayOf_alike hZ.alike Ar.2.1) rfl Ar.2.2 hin0 hat0 (g := (mkF m 16 #[.val (.int (12 : Int32)), .val (.ref b), .val (.int (2 : Int32)), .val (.int (0 : Int32)), .unset] [(.int (0 : Int32)), (.ref b)])) rfl rfl (hb hby d1_16) _ ?_
    show Steps p.tables e below (T1.setTop (mkF m 17 #[.val (.int (12 : Int32)), .val (.ref b), .val (.int (2 : Int32)), .val (.int (0 : Int32)), .unset] [(.ref yA)])) _
    refine XS.astore X1.here hx rfl (hb hby d1_17) rfl rfl (l' := #[.val (.int (12 : Int32)), .val (.ref b), .val (.int (2 : Int32)), .val (.int (0 : Int32)), .val (.ref yA)]) rfl ?_
    show Steps p.tables e below (T1.setTop (mkF m 19 #[.val (.int (12 : Int32)), .val (.ref b), .val (.int (2 : Int32)), .val (.int (0 : Int32)), .val (.ref yA)] [])) _
    refine XS.aload X1.here hx rfl (hb hby d1_19) rfl rfl ?_
    show Steps p.tables e below (T1.setTop (mkF m 21 #[.val (.int (12 : Int32)), .val (.ref b), .val (.int (2 : Int32)), .val (.int (0 : Int32)), .val (.ref yA)] [(.ref yA)])) _
    refine st2 _ ?_
    show Steps p.tables e below (T2.setTop (mkF m 24 #[.val (.int (12 : Int32)), .val (.ref b), .val (.int (2 : Int32)), .val (.int (0 : Int32)), .val (.ref yA)] [(.int (1 : Int32))])) _
    refine XS.iloadN X2.here hx rfl (hb hby d1_24) rfl ?_
    show Steps p.tables e below (T2.setTop (mkF m 25 #[.val (.int (12 : Int32)), .val (.ref b), .val (.int (2 : Int32)), .val (.int (0 : Int32)), .val (.ref yA)] [(.int (12 : Int32)), (.int (1 : Int32))])) _
    refine XS.icmpYes X2.here hx rfl (pc0 := 25) (pc' := 31) rfl (hb hby d1_25) rfl (feq (by decide : ¬ ((1 : Int32) = (12 : Int32)))).2 (by decide) (by decide) ?_
    show Steps p.tables e below (T2.setTop (mkF m 31 #[.val (.int (12 : Int32)), .val (.ref b), .val (.int (2 : Int32)), .val (.int (0 : Int32)), .val (.ref yA)] [])) _
    refine XS.iinc X2.here hx rfl (hb hby d1_31) rfl (l' := #[.val (.int (12 : Int32)), .val (.ref b), .val (.int (2 : Int32)), .val (.int ((0 : Int32) + (1 : Int32))), .val (.ref yA)]) rfl ?_
    show Steps p.tables e below (T2.setTop (mkF m 34 #[.val (.int (12 : Int32)), .val (.ref b), .val (.int (2 : Int32)), .val (.int ((0 : Int32) + (1 : Int32))), .val (.ref yA)] [])) _
    refine XS.goto X2.here hx rfl (pc0 := 34) (pc' := 9) rfl (hb hby d1_34) (by decide) (by decide) ?_
    show Steps p.tables e below (T2.setTop (mkF m 9 #[.val (.int (12 : Int32)), .val (.ref b), .val (.int (2 : Int32)), .val (.int ((0 : Int32) + (1 : Int32))), .val (.ref yA)] [])) _
    refine XS.iloadN X2.here hx rfl (hb hby d1_9) rfl ?_
    show Steps p.tables e below (T2.setTop (mkF m 10 #[.val (.int (12 : Int32)), .val (.ref b), .val (.int (2 : Int32)), .val (.int ((0 : Int32) + (1 : Int32))), .val (.ref yA)] [(.int ((0 : Int32) + (1 : Int32)))])) _
    refine XS.iloadN X2.here hx rfl (hb hby d1_10) rfl ?_
    show Steps p.tables e below (T2.setTop (mkF m 11 #[.val (.int (12 : Int32)), .val (.ref b), .val (.int (2 : Int32)), .val (.int ((0 : Int32) + (1 : Int32))), .val (.ref yA)] [(.int (2 : Int32)), (.int ((0 : Int32) + (1 : Int32)))])) _
    refine XS.icmpNo X2.here hx rfl (hb hby d1_11) rfl (tlt (by decide : ((0 : Int32) + (1 : Int32)) < (2 : Int32))).2.1 ?_
    show Steps p.tables e below (T2.setTop (mkF m 14 #[.val (.int (12 : Int32)), .val (.ref b), .val (.int (2 : Int32)), .val (.int ((0 : Int32) + (1 : Int32))), .val (.ref yA)] [])) _
    refine XS.aloadN X2.here hx rfl (hb hby d1_14) rfl rfl ?_
    show Steps p.tables e below (T2.setTop (mkF m 15 #[.val (.int (12 : Int32)), .val (.ref b), .val (.int (2 : Int32)), .val (.int ((0 : Int32) + (1 : Int32))), .val (.ref yA)] [(.ref b)])) _
    refine XS.iloadN X2.here hx rfl (hb hby d1_15) rfl ?_
    show Steps p.tables e below (T2.setTop (mkF m 16 #[.val (.int (12 : Int32)), .val (.ref b), .val (.int (2 : Int32)), .val (.int ((0 : Int32) + (1 : Int32))), .val (.ref yA)] [(.int ((0 : Int32) + (1 : Int32))), (.ref b)])) _
    refine X2.aaload hx (j := ((0 : Int32) + (1 : Int32))) (v := (.ref mA)) (by rw [e2]; exact Ar.1) (State.isArrayOf_alike hZ.alike Ar.2.1) rfl Ar.2.2 hin1 hat1 (g := (mkF m 16 #[.val (.int (12 : Int32)), .val (.ref b), .val (.int (2 : Int32)), .val (.int ((0 : Int32) + (1 : Int32))), .val (.ref yA)] [(.int ((0 : Int32) + (1 : Int32))), (.ref b)])) rfl rfl (hb hby d1_16) _ ?_
    show Steps p.tables e below (T2.setTop (mkF m 17 #[.val (.int (12 : Int32)), .val (.ref b), .val (.int (2 : Int32)), .val (.int ((0 : Int32) + (1 : Int32))), .val (.ref yA)] [(.ref mA)])) _
    refine XS.astore X2.here hx rfl (hb hby d1_17) rfl rfl (l' := #[.val (.int (12 : Int32)), .val (.ref b), .val (.int (2 : Int32)), .val (.int ((0 : Int32) + (1 : Int32))), .val (.ref mA)]) rfl ?_
    show Steps p.tables e below (T2.setTop (mkF m 19 #[.val (.int (12 : Int32)), .val (.ref b), .val (.int (2 : Int32)), .val (.int ((0 : Int32) + (1 : Int32))), .val (.ref mA)] [])) _
    refine XS.aload X2.here hx rfl (hb hby d1_19) rfl rfl ?_
    show Steps p.tables e below (T2.setTop (mkF m 21 #[.val (.int (12 : Int32)), .val (.ref b), .val (.int (2 : Int32)), .val (.int ((0 : Int32) + (1 : Int32))), .val (.ref mA)] [(.ref mA)])) _
    refine st3 _ ?_
    show Steps p.tables e below (T3.setTop (mkF m 24 #[.val (.int (12 : Int32)), .val (.ref b), .val (.int (2 : Int32)), .val (.int ((0 : Int32) + (1 : Int32))), .val (.ref mA)] [(.int (12 : Int32))])) _
    refine XS.iloadN X3.here hx rfl (hb hby d1_24) rfl ?_
    show Steps p.tables e below (T3.setTop (mkF m 25 #[.val (.int (12 : Int32)), .val (.ref b), .val (.int (2 : Int32)), .val (.int ((0 : Int32) + (1 : Int32))), .val (.ref mA)] [(.int (12 : Int32)), (.int (12 : Int32))])) _
    refine XS.icmpNo X3.here hx rfl (hb hby d1_25) rfl (teq (rfl : (12 : Int32) = (12 : Int32))).2 ?_
    show Steps p.tables e below (T3.setTop (mkF m 28 #[.val (.int (12 : Int32)), .val (.ref b), .val (.int (2 : Int32)), .val (.int ((0 : Int32) + (1 : Int32))), .val (.ref mA)] [])) _
    refine XS.aload X3.here hx rfl (hb hby d1_28) rfl rfl ?_
    show Steps p.tables e below (T3.setTop (mkF m 30 #[.val (.int (12 : Int32)), .val (.ref b), .val (.int (2 : Int32)), .val (.int ((0 : Int32) + (1 : Int32))), .val (.ref mA)] [(.ref mA)])) _
    exact retOut X3 hx Bd.returns rfl (Or.inr (Or.inr (Or.inr (Or.inr ⟨rfl, rfl, rfl⟩)))) (hb hby d1_30) hr
  · show Qd2 Z vA yA mA kA h0 n0 _ T3.heap _
    rw [e3]
    exact ⟨rfl, N1, K1⟩
theorem d3_0 : decode prog_4_method_4_code 0 = .ok (.aload_n 0, 1) := by decide +kernel
theorem d3_1 : decode prog_4_method_4_code 1 = .ok (.getfield 29, 3) := by decide +kernel
theorem d3_4 : decode prog_4_method_4_code 4 = .ok (.ireturn, 1) := by decide +kernel
theorem ef_3 (m : MethodId) (x0 : Addr) : entryFrame m #[(.ref x0)] 1 = mkF m 0 #[.val (.ref x0)] [] := by first | (simp [entryFrame, mkF, argsToLocals, Value.category]; done) | rfl
theorem pn_3 : plainName "com/example/vestwright/vestwright/annuity/Payments" = true := by first | (simp [plainName, overriddenIn]; done) | decide +kernel
def Qd3 (Z : State) (a : Addr) (q : Int32) (h0 : Heap) (n0 : Nat) (v : Option Value) (h : Heap) (L : List Loc) : Prop := v = some (.int q) ∧ Fr n0 L ∧ h = h0
set_option maxRecDepth 65536 in
set_option maxHeartbeats 40000000 in
theorem rmP (l : Launch) (Z : State) (a0 : Array Value) (hw : ∀ d ∈ tables_1, d.before a0 Z = true) (ws : List Jvm.Cond) (a : Addr) (q : Int32) (h0 : Heap) (n0 : Nat) (F : Fld Z h0 a "com/example/vestwright/vestwright/annuity/Payments" "perYear" "I" (.int q)) :
    MetFree l (⟨"com/example/vestwright/vestwright/annuity/Payments", "perYear", "()I"⟩ : MethodName) (head1 (Jvm.Cond.code (⟨"com/example/vestwright/vestwright/annuity/Payments", "perYear", "()I"⟩ : MethodName) prog_4_method_4_code 1 (some .int) :: ws) ({ frames := 0, cells := 0, slots := 0, locals := 0 } : Room)) (fun qq U => qq = #[(.ref a)] ∧ Z.Warmed39 U.vm ∧ U.heap = h0) (fun _ _ _ _ _ => True) (fun _ UU oo UU' => ∃ vv LL, oo = .returned vv ∧ Qd3 Z a q h0 n0 vv UU'.heap LL ∧ FrameEnd UU oo UU' LL ({ frames := 0, cells := 0, slots := 0, locals := 0 } : Room).cells ({ frames := 0, cells := 0, slots := 0, locals := 0 } : Room).slots) := by
  refine MetFree.of_bodySF (plainFor_of_name pn_3) hisR ?_
  intro p e s m args below meth c s₁ Bd hml0 hP hK
  obtain ⟨rfl, hZ, hh⟩ := hP
  have hx := Bd.exec
  have hby := Bd.bytes
  have hml : c.maxLocals = 1 := hml0
  have hown : s.vm.findClass "com/example/vestwright/vestwright/annuity/Payments" = some m.cls := findClass_of_methodNamed Bd.named
  have hnm := (name_of_methodNamed Bd.named Bd.method).1
  have X0 : Stand p l e ({ frames := 0, cells := 0, slots := 0, locals := 0 } : Room) s m #[(.ref a)] below meth c s₁ [] 0 0 := Stand.of_body Bd
  have e0 : s₁.heap = h0 := by rw [← hh, Bd.state]; rfl
  have N0 := Fr.nil n0
  have pre0 : ∀ t, Steps p.tables e below (s₁.setTop (mkF m 0 #[.val (.ref a)] [])) t → Steps p.tables e below (s₁.setTop (entryFrame m #[(.ref a)] 1)) t := fun t k => castTop (ef_3 m a) k
  obtain ⟨T1, X1, e1, st1⟩ := getF X0 hx hZ hown (host := "") (Or.inl (hw _ (List.mem_of_getElem? (i := 22) rfl))) Via.refl e0 F (g := (mkF m 1 #[.val (.ref a)] [(.ref a)])) rfl rfl (hb hby d3_1)
  obtain ⟨fs, hr, hrun, hended, hW, hsame⟩ := X1.leave (v := some (.int q)) (fun h => by rw [Bd.returns] at h; cases h)
  refine ⟨_, _, pre0 _ ?_, hrun, hended, _, _, rfl, ?_, ⟨_, rfl⟩, hW, hsame.mono (by decide) (by decide)⟩
  · show Steps p.tables e below (s₁.setTop (mkF m 0 #[.val (.ref a)] [])) _
    refine XS.aloadN X0.here hx rfl (hb hby d3_0) rfl rfl ?_
    show Steps p.tables e below (s₁.setTop (mkF m 1 #[.val (.ref a)] [(.ref a)])) _
    refine st1 _ ?_
    show Steps p.tables e below (T1.setTop (mkF m 4 #[.val (.ref a)] [(.int q)])) _
    exact retI X1 hx Bd.returns (hb hby d3_4) hr
  · show Qd3 Z a q h0 n0 _ T1.heap _
    rw [e1]
    exact ⟨rfl, N0, rfl⟩
theorem own_pd1 : parseMethodDescriptor "(I)Lcom/example/vestwright/vestwright/annuity/Payments;" = some ⟨[.int], some (.object "com/example/vestwright/vestwright/annuity/Payments")⟩ := by decide +kernel
theorem own_pd2 : parseMethodDescriptor "()I" = some ⟨[], some .int⟩ := by decide +kernel
theorem ef_0 (m : MethodId) (x0 : Int32) : entryFrame m #[(.int x0)] maxLocals = mkF m 0 #[.val (.int x0), .unset, .unset, .unset, .unset] [] := by first | (simp [entryFrame, mkF, argsToLocals, Value.category, maxLocals]; done) | rfl
theorem pn_0 : plainName "com/example/vestwright/vestwright/annuity/PaymentsOfPinLaw" = true := by first | (simp [plainName, overriddenIn]; done) | decide +kernel
def Qd4 (Z : State) (pI : Int32) (vA yA mA : Addr) (kA : ClassId) (h0 : Heap) (n0 : Nat) (v : Option Value) (h : Heap) (L : List Loc) : Prop := v = some (.int 1) ∧ Fr n0 L
set_option maxRecDepth 65536 in
set_option maxHeartbeats 40000000 in
theorem rm0M (l : Launch) (Z : State) (a0 : Array Value) (hw : ∀ d ∈ tables_1, d.before a0 Z = true) (ws : List Jvm.Cond) (pI : Int32) (vA yA mA : Addr) (kA : ClassId) (h0 : Heap) (n0 : Nat) (O0 : Old Z n0 h0) (SV : Sta Z Z.heap "com/example/vestwright/vestwright/annuity/Payments" "$VALUES" "[Lcom/example/vestwright/vestwright/annuity/Payments;" (.ref vA)) (VV : Arv Z Z.heap vA kA (.object "com/example/vestwright/vestwright/annuity/Payments") (2 : Int32) [.ref yA, .ref mA] .null) (EV : Exa Z Z.heap vA "[Lcom/example/vestwright/vestwright/annuity/Payments;") (FY : Fld Z Z.heap yA "com/example/vestwright/vestwright/annuity/Payments" "perYear" "I" (.int (1 : Int32))) (FM : Fld Z Z.heap mA "com/example/vestwright/vestwright/annuity/Payments" "perYear" "I" (.int (12 : Int32))) (SM : Sta Z Z.heap "com/example/vestwright/vestwright/annuity/Payments" "MONTHLY" "Lcom/example/vestwright/vestwright/annuity/Payments;" (.ref mA)) (SY : Sta Z Z.heap "com/example/vestwright/vestwright/annuity/Payments" "YEARLY" "Lcom/example/vestwright/vestwright/annuity/Payments;" (.ref yA)) (EY : Exa Z Z.heap yA "com/example/vestwright/vestwright/annuity/Payments") (EM : Exa Z Z.heap mA "com/example/vestwright/vestwright/annuity/Payments") (hc3 : ¬ ((pI &&& (1 : Int32)) = (0 : Int32))) :
    MetFree l x (head1 (Jvm.Cond.code x code maxLocals ret :: ws) room_1) (fun qq U => qq = #[(.int pI)] ∧ Z.Warmed39 U.vm ∧ U.heap = h0) (fun _ _ _ _ _ => True) (fun _ UU oo UU' => ∃ vv LL, oo = .returned vv ∧ Qd4 Z pI vA yA mA kA h0 n0 vv UU'.heap LL ∧ FrameEnd UU oo UU' LL room_1.cells room_1.slots) := by
  refine MetFree.of_bodySF (plainFor_of_name pn_0) hisR ?_
  intro p e s m args below meth c s₁ Bd hml0 hP hK
  obtain ⟨rfl, hZ, hh⟩ := hP
  have hx := Bd.exec
  have hby := Bd.bytes
  have hml : c.maxLocals = 5 := hml0
  have hown : s.vm.findClass "com/example/vestwright/vestwright/annuity/PaymentsOfPinLaw" = some m.cls := findClass_of_methodNamed Bd.named
  have hnm := (name_of_methodNamed Bd.named Bd.method).1
  have X0 : Stand p l e room_1 s m #[(.int pI)] below meth c s₁ [] 0 0 := Stand.of_body Bd
  have e0 : s₁.heap = h0 := by rw [← hh, Bd.state]; rfl
  have N0 := Fr.nil n0
  have pre0 : ∀ t, Steps p.tables e below (s₁.setTop (mkF m 0 #[.val (.int pI), .unset, .unset, .unset, .unset] [])) t → Steps p.tables e below (s₁.setTop (entryFrame m #[(.int pI)] maxLocals)) t := fun t k => castTop (ef_0 m pI) k
  obtain ⟨T1, X1, e1, st1⟩ := getS2 X0 hx hZ hown (host := "") (Or.inl (hw _ (List.mem_of_getElem? (i := 29) rfl))) Via.refl e0 (SM.ext O0.2) (g := (mkF m 27 #[.val (.int pI), .val (.int (1 : Int32)), .val (.int (12 : Int32)), .unset, .unset] [])) rfl (hb hby at_27)
  obtain ⟨_, _, ⟨T2, L2, k2, n2⟩, -, X2, ⟨Lc2, hQ2, l2, y2, z2⟩, st2⟩ := Jvm.LawKit.callS X1 hx (y := (⟨"com/example/vestwright/vestwright/annuity/Payments", "of", "(I)Lcom/example/vestwright/vestwright/annuity/Payments;"⟩ : MethodName)) hown (mvT hZ (hw _ (List.mem_of_getElem? (i := 3) rfl))) (mvT hZ (hw _ (List.mem_of_getElem? (i := 4) rfl))) (mvT hZ (hw _ (List.mem_of_getElem? (i := 1) rfl))) (mvT hZ (hw _ (List.mem_of_getElem? (i := 5) rfl))) (by decide) (backOf (W := 0) (rmOM l Z a0 hw [] vA yA mA kA h0 n0 O0 SV VV EV FY FM) hZ (hw _ (List.mem_of_getElem? (i := 5) rfl)) (hw _ (List.mem_of_getElem? (i := 1) rfl)) (by decide) (by decide)) (g := (mkF m 38 #[.val (.int pI), .val (.int (1 : Int32)), .val (.int (12 : Int32)), .val (.ref mA), .unset] [(.int (12 : Int32))])) rfl (by rw [hml]; rfl) (argsL := [(.int (12 : Int32))]) (rest := []) (lenOf own_pd1 rfl) rfl (by show 2 * 0 + _ ≤ _; exact Nat.le_of_eq rfl) (hb hby at_38) (fun _ _ => ⟨rfl, e1, (by decide : 0 + 1 ≤ _), (by decide : 0 + 2 ≤ _)⟩)
  dsimp only [Pt.U, Pt.locs, Pt.cells, Pt.slots] at X2 l2 y2 z2 st2 hQ2
  subst l2 y2 z2
  obtain ⟨rfl, N2q, KK2⟩ := hQ2
  have N2 := Fr.app N0 N2q
  have O2 := Old.keep O0 KK2 all0
  obtain ⟨cq3, kq3, q3a, q3b, q3c⟩ := isOf hZ rfl (EM.ext O2.2)
  obtain ⟨_, _, ⟨T3, L3, k3, n3⟩, -, X3, ⟨Lc3, hQ3, l3, y3, z3⟩, st3⟩ := X2.virtualBack hx (y := (⟨"com/example/vestwright/vestwright/annuity/Payments", "perYear", "()I"⟩ : MethodName)) (z := (⟨"com/example/vestwright/vestwright/annuity/Payments", "perYear", "()I"⟩ : MethodName)) hown (mvT hZ (hw _ (List.mem_of_getElem? (i := 24) rfl))) (mvT hZ (hw _ (List.mem_of_getElem? (i := 25) rfl))) (notFace_of_selects (args := #[]) (mvT hZ (hw _ (List.mem_of_getElem? (i := 27) rfl)))) (mvT hZ (hw _ (List.mem_of_getElem? (i := 27) rfl))) (mvT hZ (hw _ (List.mem_of_getElem? (i := 26) rfl))) (by decide) (backOf (W := 0) (rmP l Z a0 hw [] mA (12 : Int32) T2.heap n0 (FM.ext O2.2)) hZ (hw _ (List.mem_of_getElem? (i := 28) rfl)) (hw _ (List.mem_of_getElem? (i := 1) rfl)) (by decide) (by decide)) q3a q3c (g := (mkF m 51 #[.val (.int pI), .val (.int (1 : Int32)), .val (.int (12 : Int32)), .val (.ref mA), .val (.ref mA)] [(.ref mA)])) rfl (by rw [hml]; rfl) (Steps.refl _) (argsL := []) (rest := []) (lenOf own_pd2 rfl) rfl (by show 2 * 0 + _ ≤ _; exact Nat.le_of_eq rfl) (hb hby at_51) (fun _ _ => ⟨rfl, rfl, (by decide : 1 + 0 ≤ _), (by decide : 2 + 0 ≤ _)⟩)
  dsimp only [Pt.U, Pt.locs, Pt.cells, Pt.slots] at X3 l3 y3 z3 st3 hQ3
  subst l3 y3 z3
  obtain ⟨rfl, N3q, e3⟩ := hQ3
  have N3 := Fr.app N2 N3q
  obtain ⟨fs, hr, hrun, hended, hW, hsame⟩ := X3.leave (v := some (.int (1 : Int32))) (fun h => by rw [Bd.returns] at h; cases h)
  refine ⟨_, _, pre0 _ ?_, hrun, hended, _, _, rfl, ?_, ⟨_, rfl⟩, hW, hsame.mono (by decide) (by decide)⟩
  · show Steps p.tables e below (s₁.setTop (mkF m 0 #[.val (.int pI), .unset, .unset, .unset, .unset] [])) _
    refine XS.iloadN X0.here hx rfl (hb hby at_0) rfl ?_
    show Steps p.tables e below (s₁.setTop (mkF m 1 #[.val (.int pI), .unset, .unset, .unset, .unset] [(.int pI)])) _
    refine XS.iconst X0.here hx rfl (hb hby at_1) ?_
    show Steps p.tables e below (s₁.setTop (mkF m 2 #[.val (.int pI), .unset, .unset, .unset, .unset] [(.int (1 : Int32)), (.int pI)])) _
    refine XS.iand X0.here hx rfl (hb hby at_2) rfl ?_
    show Steps p.tables e below (s₁.setTop (mkF m 3 #[.val (.int pI), .unset, .unset, .unset, .unset] [(.int (pI &&& (1 : Int32)))])) _
    refine XS.ifNo X0.here hx rfl (hb hby at_3) rfl ((if0 _ _).trans (feq hc3).1) ?_
    show Steps p.tables e below (s₁.setTop (mkF m 6 #[.val (.int pI), .unset, .unset, .unset, .unset] [])) _
    refine XS.iconst X0.here hx rfl (hb hby at_6) ?_
    show Steps p.tables e below (s₁.setTop (mkF m 7 #[.val (.int pI), .unset, .unset, .unset, .unset] [(.int (1 : Int32))])) _
    refine XS.goto X0.here hx rfl (pc0 := 7) (pc' := 11) rfl (hb hby at_7) (by decide) (by decide) ?_
    show Steps p.tables e below (s₁.setTop (mkF m 11 #[.val (.int pI), .unset, .unset, .unset, .unset] [(.int (1 : Int32))])) _
    refine XS.istoreN X0.here hx rfl (hb hby at_11) rfl (l' := #[.val (.int pI), .val (.int (1 : Int32)), .unset, .unset, .unset]) rfl ?_
    show Steps p.tables e below (s₁.setTop (mkF m 12 #[.val (.int pI), .val (.int (1 : Int32)), .unset, .unset, .unset] [])) _
    refine XS.iloadN X0.here hx rfl (hb hby at_12) rfl ?_
    show Steps p.tables e below (s₁.setTop (mkF m 13 #[.val (.int pI), .val (.int (1 : Int32)), .unset, .unset, .unset] [(.int (1 : Int32))])) _
    refine XS.ifNo X0.here hx rfl (hb hby at_13) rfl ((if0 _ _).trans (feq (by decide : ¬ ((1 : Int32) = (0 : Int32)))).1) ?_
    show Steps p.tables e below (s₁.setTop (mkF m 16 #[.val (.int pI), .val (.int (1 : Int32)), .unset, .unset, .unset] [])) _
    refine XS.bipush X0.here hx rfl (hb hby at_16) ?_
    show Steps p.tables e below (s₁.setTop (mkF m 18 #[.val (.int pI), .val (.int (1 : Int32)), .unset, .unset, .unset] [(.int (12 : Int32))])) _
    refine XS.goto X0.here hx rfl (pc0 := 18) (pc' := 22) rfl (hb hby at_18) (by decide) (by decide) ?_
    show Steps p.tables e below (s₁.setTop (mkF m 22 #[.val (.int pI), .val (.int (1 : Int32)), .unset, .unset, .unset] [(.int (12 : Int32))])) _
    refine XS.istoreN X0.here hx rfl (hb hby at_22) rfl (l' := #[.val (.int pI), .val (.int (1 : Int32)), .val (.int (12 : Int32)), .unset, .unset]) rfl ?_
    show Steps p.tables e below (s₁.setTop (mkF m 23 #[.val (.int pI), .val (.int (1 : Int32)), .val (.int (12 : Int32)), .unset, .unset] [])) _
    refine XS.iloadN X0.here hx rfl (hb hby at_23) rfl ?_
    show Steps p.tables e below (s₁.setTop (mkF m 24 #[.val (.int pI), .val (.int (1 : Int32)), .val (.int (12 : Int32)), .unset, .unset] [(.int (1 : Int32))])) _
    refine XS.ifNo X0.here hx rfl (hb hby at_24) rfl ((if0 _ _).trans (feq (by decide : ¬ ((1 : Int32) = (0 : Int32)))).1) ?_
    show Steps p.tables e below (s₁.setTop (mkF m 27 #[.val (.int pI), .val (.int (1 : Int32)), .val (.int (12 : Int32)), .unset, .unset] [])) _
    refine st1 _ ?_
    show Steps p.tables e below (T1.setTop (mkF m 30 #[.val (.int pI), .val (.int (1 : Int32)), .val (.int (12 : Int32)), .unset, .unset] [(.ref mA)])) _
    refine XS.goto X1.here hx rfl (pc0 := 30) (pc' := 36) rfl (hb hby at_30) (by decide) (by decide) ?_
    show Steps p.tables e below (T1.setTop (mkF m 36 #[.val (.int pI), .val (.int (1 : Int32)), .val (.int (12 : Int32)), .unset, .unset] [(.ref mA)])) _
    refine XS.astoreN X1.here hx rfl (hb hby at_36) rfl rfl (l' := #[.val (.int pI), .val (.int (1 : Int32)), .val (.int (12 : Int32)), .val (.ref mA), .unset]) rfl ?_
    show Steps p.tables e below (T1.setTop (mkF m 37 #[.val (.int pI), .val (.int (1 : Int32)), .val (.int (12 : Int32)), .val (.ref mA), .unset] [])) _
    refine XS.iloadN X1.here hx rfl (hb hby at_37) rfl ?_
    show Steps p.tables e below (T1.setTop (mkF m 38 #[.val (.int pI), .val (.int (1 : Int32)), .val (.int (12 : Int32)), .val (.ref mA), .unset] [(.int (12 : Int32))])) _
    refine st2 _ ?_
    show Steps p.tables e below (T2.setTop (mkF m 41 #[.val (.int pI), .val (.int (1 : Int32)), .val (.int (12 : Int32)), .val (.ref mA), .unset] [(.ref mA)])) _
    refine XS.astore X2.here hx rfl (hb hby at_41) rfl rfl (l' := #[.val (.int pI), .val (.int (1 : Int32)), .val (.int (12 : Int32)), .val (.ref mA), .val (.ref mA)]) rfl ?_
    show Steps p.tables e below (T2.setTop (mkF m 43 #[.val (.int pI), .val (.int (1 : Int32)), .val (.int (12 : Int32)), .val (.ref mA), .val (.ref mA)] [])) _
    refine XS.aload X2.here hx rfl (hb hby at_43) rfl rfl ?_
    show Steps p.tables e below (T2.setTop (mkF m 45 #[.val (.int pI), .val (.int (1 : Int32)), .val (.int (12 : Int32)), .val (.ref mA), .val (.ref mA)] [(.ref mA)])) _
    refine XS.aloadN X2.here hx rfl (hb hby at_45) rfl rfl ?_
    show Steps p.tables e below (T2.setTop (mkF m 46 #[.val (.int pI), .val (.int (1 : Int32)), .val (.int (12 : Int32)), .val (.ref mA), .val (.ref mA)] [(.ref mA), (.ref mA)])) _
    refine Jvm.RoadKit.acmp (g := (mkF m 46 #[.val (.int pI), .val (.int (1 : Int32)), .val (.int (12 : Int32)), .val (.ref mA), .val (.ref mA)] [(.ref mA), (.ref mA)])) X2 hx rfl rfl rfl (pc0 := 46) (pc' := 49) (same := true) rfl (hb hby at_46) rfl (decide_eq_true rfl) (by decide) (by decide) ?_
    show Steps p.tables e below (T2.setTop (mkF m 49 #[.val (.int pI), .val (.int (1 : Int32)), .val (.int (12 : Int32)), .val (.ref mA), .val (.ref mA)] [])) _
    refine XS.aload X2.here hx rfl (hb hby at_49) rfl rfl ?_
    show Steps p.tables e below (T2.setTop (mkF m 51 #[.val (.int pI), .val (.int (1 : Int32)), .val (.int (12 : Int32)), .val (.ref mA), .val (.ref mA)] [(.ref mA)])) _
    refine st3.trans ?_
    show Steps p.tables e below (T3.setTop (mkF m 54 #[.val (.int pI), .val (.int (1 : Int32)), .val (.int (12 : Int32)), .val (.ref mA), .val (.ref mA)] [(.int (12 : Int32))])) _
    refine XS.iloadN X3.here hx rfl (hb hby at_54) rfl ?_
    show Steps p.tables e below (T3.setTop (mkF m 55 #[.val (.int pI), .val (.int (1 : Int32)), .val (.int (12 : Int32)), .val (.ref mA), .val (.ref mA)] [(.int (12 : Int32)), (.int (12 : Int32))])) _
    refine XS.icmpNo X3.here hx rfl (hb hby at_55) rfl (teq (rfl : (12 : Int32) = (12 : Int32))).2 ?_
    show Steps p.tables e below (T3.setTop (mkF m 58 #[.val (.int pI), .val (.int (1 : Int32)), .val (.int (12 : Int32)), .val (.ref mA), .val (.ref mA)] [])) _
    refine XS.iconst X3.here hx rfl (hb hby at_58) ?_
    show Steps p.tables e below (T3.setTop (mkF m 59 #[.val (.int pI), .val (.int (1 : Int32)), .val (.int (12 : Int32)), .val (.ref mA), .val (.ref mA)] [(.int (1 : Int32))])) _
    refine XS.goto X3.here hx rfl (pc0 := 59) (pc' := 63) rfl (hb hby at_59) (by decide) (by decide) ?_
    show Steps p.tables e below (T3.setTop (mkF m 63 #[.val (.int pI), .val (.int (1 : Int32)), .val (.int (12 : Int32)), .val (.ref mA), .val (.ref mA)] [(.int (1 : Int32))])) _
    exact retN X3 hx (t := .boolean) Bd.returns (by simp) (hb hby at_63) hr
  · show Qd4 Z pI vA yA mA kA h0 n0 _ T3.heap _
    rw [e3]
    exact ⟨rfl, N3⟩
set_option maxRecDepth 65536 in
set_option maxHeartbeats 40000000 in
theorem rm0Y (l : Launch) (Z : State) (a0 : Array Value) (hw : ∀ d ∈ tables_1, d.before a0 Z = true) (ws : List Jvm.Cond) (pI : Int32) (vA yA mA : Addr) (kA : ClassId) (h0 : Heap) (n0 : Nat) (O0 : Old Z n0 h0) (SV : Sta Z Z.heap "com/example/vestwright/vestwright/annuity/Payments" "$VALUES" "[Lcom/example/vestwright/vestwright/annuity/Payments;" (.ref vA)) (VV : Arv Z Z.heap vA kA (.object "com/example/vestwright/vestwright/annuity/Payments") (2 : Int32) [.ref yA, .ref mA] .null) (EV : Exa Z Z.heap vA "[Lcom/example/vestwright/vestwright/annuity/Payments;") (FY : Fld Z Z.heap yA "com/example/vestwright/vestwright/annuity/Payments" "perYear" "I" (.int (1 : Int32))) (FM : Fld Z Z.heap mA "com/example/vestwright/vestwright/annuity/Payments" "perYear" "I" (.int (12 : Int32))) (SM : Sta Z Z.heap "com/example/vestwright/vestwright/annuity/Payments" "MONTHLY" "Lcom/example/vestwright/vestwright/annuity/Payments;" (.ref mA)) (SY : Sta Z Z.heap "com/example/vestwright/vestwright/annuity/Payments" "YEARLY" "Lcom/example/vestwright/vestwright/annuity/Payments;" (.ref yA)) (EY : Exa Z Z.heap yA "com/example/vestwright/vestwright/annuity/Payments") (EM : Exa Z Z.heap mA "com/example/vestwright/vestwright/annuity/Payments") (hc3 : (pI &&& (1 : Int32)) = (0 : Int32)) :
    MetFree l x (head1 (Jvm.Cond.code x code maxLocals ret :: ws) room_1) (fun qq U => qq = #[(.int pI)] ∧ Z.Warmed39 U.vm ∧ U.heap = h0) (fun _ _ _ _ _ => True) (fun _ UU oo UU' => ∃ vv LL, oo = .returned vv ∧ Qd4 Z pI vA yA mA kA h0 n0 vv UU'.heap LL ∧ FrameEnd UU oo UU' LL room_1.cells room_1.slots) := by
  refine MetFree.of_bodySF (plainFor_of_name pn_0) hisR ?_
  intro p e s m args below meth c s₁ Bd hml0 hP hK
  obtain ⟨rfl, hZ, hh⟩ := hP
  have hx := Bd.exec
  have hby := Bd.bytes
  have hml : c.maxLocals = 5 := hml0
  have hown : s.vm.findClass "com/example/vestwright/vestwright/annuity/PaymentsOfPinLaw" = some m.cls := findClass_of_methodNamed Bd.named
  have hnm := (name_of_methodNamed Bd.named Bd.method).1
  have X0 : Stand p l e room_1 s m #[(.int pI)] below meth c s₁ [] 0 0 := Stand.of_body Bd
  have e0 : s₁.heap = h0 := by rw [← hh, Bd.state]; rfl
  have N0 := Fr.nil n0
  have pre0 : ∀ t, Steps p.tables e below (s₁.setTop (mkF m 0 #[.val (.int pI), .unset, .unset, .unset, .unset] [])) t → Steps p.tables e below (s₁.setTop (entryFrame m #[(.int pI)] maxLocals)) t := fun t k => castTop (ef_0 m pI) k
  obtain ⟨T1, X1, e1, st1⟩ := getS2 X0 hx hZ hown (host := "") (Or.inl (hw _ (List.mem_of_getElem? (i := 0) rfl))) Via.refl e0 (SY.ext O0.2) (g := (mkF m 33 #[.val (.int pI), .val (.int (0 : Int32)), .val (.int (1 : Int32)), .unset, .unset] [])) rfl (hb hby at_33)
  obtain ⟨_, _, ⟨T2, L2, k2, n2⟩, -, X2, ⟨Lc2, hQ2, l2, y2, z2⟩, st2⟩ := Jvm.LawKit.callS X1 hx (y := (⟨"com/example/vestwright/vestwright/annuity/Payments", "of", "(I)Lcom/example/vestwright/vestwright/annuity/Payments;"⟩ : MethodName)) hown (mvT hZ (hw _ (List.mem_of_getElem? (i := 3) rfl))) (mvT hZ (hw _ (List.mem_of_getElem? (i := 4) rfl))) (mvT hZ (hw _ (List.mem_of_getElem? (i := 1) rfl))) (mvT hZ (hw _ (List.mem_of_getElem? (i := 5) rfl))) (by decide) (backOf (W := 0) (rmOY l Z a0 hw [] vA yA mA kA h0 n0 O0 SV VV EV FY FM) hZ (hw _ (List.mem_of_getElem? (i := 5) rfl)) (hw _ (List.mem_of_getElem? (i := 1) rfl)) (by decide) (by decide)) (g := (mkF m 38 #[.val (.int pI), .val (.int (0 : Int32)), .val (.int (1 : Int32)), .val (.ref yA), .unset] [(.int (1 : Int32))])) rfl (by rw [hml]; rfl) (argsL := [(.int (1 : Int32))]) (rest := []) (lenOf own_pd1 rfl) rfl (by show 2 * 0 + _ ≤ _; exact Nat.le_of_eq rfl) (hb hby at_38) (fun _ _ => ⟨rfl, e1, (by decide : 0 + 1 ≤ _), (by decide : 0 + 2 ≤ _)⟩)
  dsimp only [Pt.U, Pt.locs, Pt.cells, Pt.slots] at X2 l2 y2 z2 st2 hQ2
  subst l2 y2 z2
  obtain ⟨rfl, N2q, KK2⟩ := hQ2
  have N2 := Fr.app N0 N2q
  have O2 := Old.keep O0 KK2 all0
  obtain ⟨cq3, kq3, q3a, q3b, q3c⟩ := isOf hZ rfl (EY.ext O2.2)
  obtain ⟨_, _, ⟨T3, L3, k3, n3⟩, -, X3, ⟨Lc3, hQ3, l3, y3, z3⟩, st3⟩ := X2.virtualBack hx (y := (⟨"com/example/vestwright/vestwright/annuity/Payments", "perYear", "()I"⟩ : MethodName)) (z := (⟨"com/example/vestwright/vestwright/annuity/Payments", "perYear", "()I"⟩ : MethodName)) hown (mvT hZ (hw _ (List.mem_of_getElem? (i := 24) rfl))) (mvT hZ (hw _ (List.mem_of_getElem? (i := 25) rfl))) (notFace_of_selects (args := #[]) (mvT hZ (hw _ (List.mem_of_getElem? (i := 27) rfl)))) (mvT hZ (hw _ (List.mem_of_getElem? (i := 27) rfl))) (mvT hZ (hw _ (List.mem_of_getElem? (i := 26) rfl))) (by decide) (backOf (W := 0) (rmP l Z a0 hw [] yA (1 : Int32) T2.heap n0 (FY.ext O2.2)) hZ (hw _ (List.mem_of_getElem? (i := 28) rfl)) (hw _ (List.mem_of_getElem? (i := 1) rfl)) (by decide) (by decide)) q3a q3c (g := (mkF m 51 #[.val (.int pI), .val (.int (0 : Int32)), .val (.int (1 : Int32)), .val (.ref yA), .val (.ref yA)] [(.ref yA)])) rfl (by rw [hml]; rfl) (Steps.refl _) (argsL := []) (rest := []) (lenOf own_pd2 rfl) rfl (by show 2 * 0 + _ ≤ _; exact Nat.le_of_eq rfl) (hb hby at_51) (fun _ _ => ⟨rfl, rfl, (by decide : 1 + 0 ≤ _), (by decide : 2 + 0 ≤ _)⟩)
  dsimp only [Pt.U, Pt.locs, Pt.cells, Pt.slots] at X3 l3 y3 z3 st3 hQ3
  subst l3 y3 z3
  obtain ⟨rfl, N3q, e3⟩ := hQ3
  have N3 := Fr.app N2 N3q
  obtain ⟨fs, hr, hrun, hended, hW, hsame⟩ := X3.leave (v := some (.int (1 : Int32))) (fun h => by rw [Bd.returns] at h; cases h)
  refine ⟨_, _, pre0 _ ?_, hrun, hended, _, _, rfl, ?_, ⟨_, rfl⟩, hW, hsame.mono (by decide) (by decide)⟩
  · show Steps p.tables e below (s₁.setTop (mkF m 0 #[.val (.int pI), .unset, .unset, .unset, .unset] [])) _
    refine XS.iloadN X0.here hx rfl (hb hby at_0) rfl ?_
    show Steps p.tables e below (s₁.setTop (mkF m 1 #[.val (.int pI), .unset, .unset, .unset, .unset] [(.int pI)])) _
    refine XS.iconst X0.here hx rfl (hb hby at_1) ?_
    show Steps p.tables e below (s₁.setTop (mkF m 2 #[.val (.int pI), .unset, .unset, .unset, .unset] [(.int (1 : Int32)), (.int pI)])) _
    refine XS.iand X0.here hx rfl (hb hby at_2) rfl ?_
    show Steps p.tables e below (s₁.setTop (mkF m 3 #[.val (.int pI), .unset, .unset, .unset, .unset] [(.int (pI &&& (1 : Int32)))])) _
    refine XS.ifYes X0.here hx rfl (pc0 := 3) (pc' := 10) rfl (hb hby at_3) rfl ((if0 _ _).trans (teq hc3).1) (by decide) (by decide) ?_
    show Steps p.tables e below (s₁.setTop (mkF m 10 #[.val (.int pI), .unset, .unset, .unset, .unset] [])) _
    refine XS.iconst X0.here hx rfl (hb hby at_10) ?_
    show Steps p.tables e below (s₁.setTop (mkF m 11 #[.val (.int pI), .unset, .unset, .unset, .unset] [(.int (0 : Int32))])) _
    refine XS.istoreN X0.here hx rfl (hb hby at_11) rfl (l' := #[.val (.int pI), .val (.int (0 : Int32)), .unset, .unset, .unset]) rfl ?_
    show Steps p.tables e below (s₁.setTop (mkF m 12 #[.val (.int pI), .val (.int (0 : Int32)), .unset, .unset, .unset] [])) _
    refine XS.iloadN X0.here hx rfl (hb hby at_12) rfl ?_
    show Steps p.tables e below (s₁.setTop (mkF m 13 #[.val (.int pI), .val (.int (0 : Int32)), .unset, .unset, .unset] [(.int (0 : Int32))])) _
    refine XS.ifYes X0.here hx rfl (pc0 := 13) (pc' := 21) rfl (hb hby at_13) rfl ((if0 _ _).trans (teq (rfl : (0 : Int32) = (0 : Int32))).1) (by decide) (by decide) ?_
    show Steps p.tables e below (s₁.setTop (mkF m 21 #[.val (.int pI), .val (.int (0 : Int32)), .unset, .unset, .unset] [])) _
    refine XS.iconst X0.here hx rfl (hb hby at_21) ?_
    show Steps p.tables e below (s₁.setTop (mkF m 22 #[.val (.int pI), .val (.int (0 : Int32)), .unset, .unset, .unset] [(.int (1 : Int32))])) _
    refine XS.istoreN X0.here hx rfl (hb hby at_22) rfl (l' := #[.val (.int pI), .val (.int (0 : Int32)), .val (.int (1 : Int32)), .unset, .unset]) rfl ?_
    show Steps p.tables e below (s₁.setTop (mkF m 23 #[.val (.int pI), .val (.int (0 : Int32)), .val (.int (1 : Int32)), .unset, .unset] [])) _
    refine XS.iloadN X0.here hx rfl (hb hby at_23) rfl ?_
    show Steps p.tables e below (s₁.setTop (mkF m 24 #[.val (.int pI), .val (.int (0 : Int32)), .val (.int (1 : Int32)), .unset, .unset] [(.int (0 : Int32))])) _
    refine XS.ifYes X0.here hx rfl (pc0 := 24) (pc' := 33) rfl (hb hby at_24) rfl ((if0 _ _).trans (teq (rfl : (0 : Int32) = (0 : Int32))).1) (by decide) (by decide) ?_
    show Steps p.tables e below (s₁.setTop (mkF m 33 #[.val (.int pI), .val (.int (0 : Int32)), .val (.int (1 : Int32)), .unset, .unset] [])) _
    refine st1 _ ?_
    show Steps p.tables e below (T1.setTop (mkF m 36 #[.val (.int pI), .val (.int (0 : Int32)), .val (.int (1 : Int32)), .unset, .unset] [(.ref yA)])) _
    refine XS.astoreN X1.here hx rfl (hb hby at_36) rfl rfl (l' := #[.val (.int pI), .val (.int (0 : Int32)), .val (.int (1 : Int32)), .val (.ref yA), .unset]) rfl ?_
    show Steps p.tables e below (T1.setTop (mkF m 37 #[.val (.int pI), .val (.int (0 : Int32)), .val (.int (1 : Int32)), .val (.ref yA), .unset] [])) _
    refine XS.iloadN X1.here hx rfl (hb hby at_37) rfl ?_
    show Steps p.tables e below (T1.setTop (mkF m 38 #[.val (.int pI), .val (.int (0 : Int32)), .val (.int (1 : Int32)), .val (.ref yA), .unset] [(.int (1 : Int32))])) _
    refine st2 _ ?_
    show Steps p.tables e below (T2.setTop (mkF m 41 #[.val (.int pI), .val (.int (0 : Int32)), .val (.int (1 : Int32)), .val (.ref yA), .unset] [(.ref yA)])) _
    refine XS.astore X2.here hx rfl (hb hby at_41) rfl rfl (l' := #[.val (.int pI), .val (.int (0 : Int32)), .val (.int (1 : Int32)), .val (.ref yA), .val (.ref yA)]) rfl ?_
    show Steps p.tables e below (T2.setTop (mkF m 43 #[.val (.int pI), .val (.int (0 : Int32)), .val (.int (1 : Int32)), .val (.ref yA), .val (.ref yA)] [])) _
    refine XS.aload X2.here hx rfl (hb hby at_43) rfl rfl ?_
    show Steps p.tables e below (T2.setTop (mkF m 45 #[.val (.int pI), .val (.int (0 : Int32)), .val (.int (1 : Int32)), .val (.ref yA), .val (.ref yA)] [(.ref yA)])) _
    refine XS.aloadN X2.here hx rfl (hb hby at_45) rfl rfl ?_
    show Steps p.tables e below (T2.setTop (mkF m 46 #[.val (.int pI), .val (.int (0 : Int32)), .val (.int (1 : Int32)), .val (.ref yA), .val (.ref yA)] [(.ref yA), (.ref yA)])) _
    refine Jvm.RoadKit.acmp (g := (mkF m 46 #[.val (.int pI), .val (.int (0 : Int32)), .val (.int (1 : Int32)), .val (.ref yA), .val (.ref yA)] [(.ref yA), (.ref yA)])) X2 hx rfl rfl rfl (pc0 := 46) (pc' := 49) (same := true) rfl (hb hby at_46) rfl (decide_eq_true rfl) (by decide) (by decide) ?_
    show Steps p.tables e below (T2.setTop (mkF m 49 #[.val (.int pI), .val (.int (0 : Int32)), .val (.int (1 : Int32)), .val (.ref yA), .val (.ref yA)] [])) _
    refine XS.aload X2.here hx rfl (hb hby at_49) rfl rfl ?_
    show Steps p.tables e below (T2.setTop (mkF m 51 #[.val (.int pI), .val (.int (0 : Int32)), .val (.int (1 : Int32)), .val (.ref yA), .val (.ref yA)] [(.ref yA)])) _
    refine st3.trans ?_
    show Steps p.tables e below (T3.setTop (mkF m 54 #[.val (.int pI), .val (.int (0 : Int32)), .val (.int (1 : Int32)), .val (.ref yA), .val (.ref yA)] [(.int (1 : Int32))])) _
    refine XS.iloadN X3.here hx rfl (hb hby at_54) rfl ?_
    show Steps p.tables e below (T3.setTop (mkF m 55 #[.val (.int pI), .val (.int (0 : Int32)), .val (.int (1 : Int32)), .val (.ref yA), .val (.ref yA)] [(.int (1 : Int32)), (.int (1 : Int32))])) _
    refine XS.icmpNo X3.here hx rfl (hb hby at_55) rfl (teq (rfl : (1 : Int32) = (1 : Int32))).2 ?_
    show Steps p.tables e below (T3.setTop (mkF m 58 #[.val (.int pI), .val (.int (0 : Int32)), .val (.int (1 : Int32)), .val (.ref yA), .val (.ref yA)] [])) _
    refine XS.iconst X3.here hx rfl (hb hby at_58) ?_
    show Steps p.tables e below (T3.setTop (mkF m 59 #[.val (.int pI), .val (.int (0 : Int32)), .val (.int (1 : Int32)), .val (.ref yA), .val (.ref yA)] [(.int (1 : Int32))])) _
    refine XS.goto X3.here hx rfl (pc0 := 59) (pc' := 63) rfl (hb hby at_59) (by decide) (by decide) ?_
    show Steps p.tables e below (T3.setTop (mkF m 63 #[.val (.int pI), .val (.int (0 : Int32)), .val (.int (1 : Int32)), .val (.ref yA), .val (.ref yA)] [(.int (1 : Int32))])) _
    exact retN X3 hx (t := .boolean) Bd.returns (by simp) (hb hby at_63) hr
  · show Qd4 Z pI vA yA mA kA h0 n0 _ T3.heap _
    rw [e3]
    exact ⟨rfl, N3⟩
theorem own_fe {t : Term} {C n d : String} {k : Int32} {args : Array Value} {s : State} {x : Addr} (h : (Jvm.Cond.eq (.field t C n d) (.int k)).value args s none s [] = some true) (ht : t.eval args s none [] s = some (.ref x)) : s.fieldOf? x C n d = some (.int k) := by
  obtain ⟨u, v, h1, h2, h3, h4⟩ := cmp_v (Or.inl h)
  rw [fld_at ht] at h1
  obtain rfl : v = .int k := (Option.some.inj ((Term.int_eval k).symm.trans h2)).symm
  obtain ⟨z, rfl⟩ := h4
  rw [h1]
  have h5 : (Jvm.Cond.eq (.field t C n d) (.int k)).value args s none s [] = some (decide (z = k)) := Cond.eq_ints ((fld_at ht).trans h1) (Term.int_eval k)
  rw [gotT h5 h]
theorem own_lenS {args : Array Value} {first s : State} {o : Option Outcome} {idx : List Nat} {t : Term} {v : Value} (h : (Term.length t).eval args first o idx s = some v) :
    ∃ b cell, t.eval args first o idx s = some (.ref b) ∧ s.arrayAt? b = some cell ∧ cell.slots.size < 2 ^ 31 ∧ v = .int cell.slots.size.toInt32 := by
  simp only [Term.eval, Option.bind_eq_bind] at h
  cases ht : t.eval args first o idx s with
  | none => simp [ht] at h
  | some x =>
    cases x with
    | ref b =>
      simp only [ht, Option.bind_some] at h
      cases hc : s.arrayAt? b with
      | none => simp [hc] at h
      | some cell =>
        simp only [hc, Option.bind_some] at h
        split at h
        · rename_i q
          exact ⟨b, cell, rfl, hc, by simpa using q, (Option.some.inj h).symm⟩
        · cases h
    | _ => simp [ht] at h
theorem own_len {t : Term} {k : Int32} {args : Array Value} {s : State} {x : Addr} {cl : Cell} (h : (Jvm.Cond.eq (.length t) (.int k)).value args s none s [] = some true) (ht : t.eval args s none [] s = some (.ref x)) (hc : s.heap[x]? = some cl) : cl.slots.size < 2 ^ 31 ∧ cl.slots.size.toInt32 = k := by
  obtain ⟨u, v, h1, h2, h3, h4⟩ := cmp_v (Or.inl h)
  obtain rfl : v = .int k := (Option.some.inj ((Term.int_eval k).symm.trans h2)).symm
  obtain ⟨y, c', e1, e2, e3, e4⟩ := own_lenS h1
  cases ht.symm.trans e1
  cases hc.symm.trans (State.arrayAt?_spec e2).1
  have h5 := gotT (Cond.eq_ints (h1.trans (congrArg some e4)) (Term.int_eval k)) h
  exact ⟨e3, h5⟩
theorem own_elem {t u : Term} {k : Int32} {args : Array Value} {s : State} {x y : Addr} {cl : Cell} (h : (Jvm.Cond.eq (.elem t (.int k)) u).value args s none s [] = some true) (ht : t.eval args s none [] s = some (.ref x)) (hu : u.eval args s none [] s = some (.ref y)) (hc : s.heap[x]? = some cl) : cl.slots[k.toNatClampNeg]? = some (.ref y) := by
  obtain ⟨a, b, h1, h2, h3, h4⟩ := cmp_v (Or.inl h)
  obtain rfl : b = .ref y := Option.some.inj (h2.symm.trans hu)
  obtain ⟨-, h5⟩ := elem_in h1 ht (Term.int_eval k) hc
  have ha : a.isRef = true := h4.2
  have h6 := gotT (eq_R h1 hu ha rfl) h
  rw [h5, h6]

-- 5. FROM THE CASE'S WORDS TO rm0, AND THE OWED THEOREMS
set_option maxRecDepth 65536 in
set_option maxHeartbeats 40000000 in
theorem comes_1 {Post : Tables → Env → Array Value → State → Outcome → State → Prop} (hpost : ∀ tb e args s v u, (limb_1_1.after args s (.returned v) u = true ∧ limb_1_2.after args s (.returned v) u = true ∧ True) → FrameEnd s (.returned v) u (Jvm.fieldLocs frame_1_writes args s ++ Jvm.arrayLocs frame_1_arrays args s ++ Jvm.staticLocs frame_1_statics s) 16 128 → Post tb e args s (.returned v) u) :
    ArmFor flags0 classFile x code maxLocals ret World_1 tables_1 room_1 Calls_1 rest_1 Pre_1 Post := by
  intro l hfl _ _ p e ha hc hk s m args below hf hA hF happ hP
  obtain ⟨hcalls, hrest, hpre⟩ := hP
  obtain ⟨-, -, -, hnamed, -, -, -, hat⟩ := (Spec.applies_iff hf).mp happ
  obtain ⟨hg, hn⟩ := and_e (Cond.before_iff.mp (show (Jvm.Cond.and given_1 narrow_1).before args s = true from hpre))
  obtain ⟨g5, g6⟩ := and_e hg
  obtain ⟨w0, rfl⟩ : ∃ w0 : Value, args = #[w0] := by
    have hs : args.size = 1 := by simpa [Cond.value, given_1] using g5
    obtain ⟨L⟩ := args
    match L, hs with
    | [w0], _ => exact ⟨w0, rfl⟩
  have hw := fun d (hd : d ∈ tables_1) => atoms_spec (ws := Jvm.Cond.code x code maxLocals ret :: tables_1) hat d (List.mem_cons_of_mem _ hd)
  have hfit : Fit s := fun {y c} hc i hi => by
    obtain ⟨ha, rfl⟩ := Array.getElem?_eq_some_iff.mp hc
    have q := List.all_eq_true.mp ((Array.all_eq_true_iff_forall_mem.mp hF) _ (Array.getElem_mem ha)) i (List.mem_range.mpr hi)
    simpa [Array.getElem?_eq_getElem hi] using q
  obtain ⟨i0, ei0⟩ := is_v g6
  obtain rfl : w0 = (.int i0) := Option.some.inj ei0
  obtain ⟨k1, hn⟩ := and_e hn
  obtain ⟨k2, hn⟩ := and_e hn
  obtain ⟨k3, hn⟩ := and_e hn
  obtain ⟨k4, hn⟩ := and_e hn
  obtain ⟨k5, hn⟩ := and_e hn
  obtain ⟨k6, hn⟩ := and_e hn
  obtain ⟨k7, hn⟩ := and_e hn
  obtain ⟨k8, k9⟩ := and_e hn
  obtain ⟨yA, vY⟩ := exa_v k1
  obtain ⟨mA, vM⟩ := exa_v k6
  obtain ⟨vA, vV⟩ := exa_v k3
  have iM := (hw _ (List.mem_of_getElem? (i := 1) rfl))
  have SY := Sta.start vY (Or.inr ⟨iM, (hw _ (List.mem_of_getElem? (i := 2) rfl))⟩)
  have SM := Sta.start vM (Or.inr ⟨iM, (hw _ (List.mem_of_getElem? (i := 18) rfl))⟩)
  have SV := Sta.start vV (Or.inr ⟨iM, (hw _ (List.mem_of_getElem? (i := 10) rfl))⟩)
  obtain ⟨cl, AV⟩ := Arr.start vV k2
  have hl := own_len k4 vV AV.1
  have hz0 := own_elem k5 vV vY AV.1
  have hz1 := own_elem k7 vV vM AV.1
  have VV : Arv s s.heap vA cl.cls (.object "com/example/vestwright/vestwright/annuity/Payments") (2 : Int32) [.ref yA, .ref mA] .null := Arv.start hfit AV hl.1 hl.2 (by decide) rfl ⟨hz0, hz1, trivial⟩
  have go : ∀ {Q : Option Value → Heap → List Loc → Prop}, (∀ v h L, Q v h L → v = some (.int 1) ∧ Fr s.heap.size L) → MetFree l x (head1 (Jvm.Cond.code x code maxLocals ret :: tables_1) room_1) (fun a U => a = #[(.int i0)] ∧ s.Warmed39 U.vm ∧ U.heap = s.heap) (fun _ _ _ _ _ => True) (fun _ U o U' => ∃ v L, o = .returned v ∧ Q v U'.heap L ∧ FrameEnd U o U' L room_1.cells room_1.slots) → ∃ n o, (∀ (k : Nat), k < n → Within (stepsAlone p.tables e k s) below) ∧ (stepsAlone p.tables e n s).status = Status.running ∧ Ended (stepsAlone p.tables e n s) below o ∧ Post p.tables e #[Value.int i0] s o (stepsAlone p.tables e n s) := fun {Q} hQ rm => by
    obtain ⟨n, o, h1, h2, h3, v, L, rfl, hv, hq⟩ := rm p e ha hc hk s m _ below hf ((Spec.applies_iff_loose hf).mp happ).1 ⟨rfl, State.Warmed39.refl s, rfl⟩ trivial
    obtain ⟨rfl, N⟩ := hQ _ _ _ hv
    exact ⟨n, _, h1, h2, h3, hpost _ _ _ _ _ _ ⟨Cond.after_iff.mpr rfl, Cond.after_iff.mpr (eq_i res_at (Term.int_eval (1)) rfl), trivial⟩ ⟨hq.1, hq.2.1, (hq.2.2.sift fun y hy => Or.inr (N y hy)).mono (by decide) (by decide)⟩⟩
  by_cases c0 : (i0 &&& (1 : Int32)) = 0
  · exact go (fun v h L q => q) (rm0Y l s _ hw tables_1 i0 vA yA mA cl.cls s.heap s.heap.size (Old.start s) SV VV (Exa.start vV k3) (Fld.start (own_fe k8 vY)) (Fld.start (own_fe k9 vM)) SM SY (Exa.start vY k1) (Exa.start vM k6) c0)
  · exact go (fun v h L q => q) (rm0M l s _ hw tables_1 i0 vA yA mA cl.cls s.heap s.heap.size (Old.start s) SV VV (Exa.start vV k3) (Fld.start (own_fe k8 vY)) (Fld.start (own_fe k9 vM)) SM SY (Exa.start vY k1) (Exa.start vM k6) c0)
theorem main_1_1 : Claimed_1_1 := comes_1 fun _ _ _ _ _ _ h hF => ⟨h.1, hF⟩
theorem main_1_2 : Claimed_1_2 := comes_1 fun _ _ _ _ _ _ h hF => ⟨h.2.1, hF⟩

end Jvm.Pilot.@@N@@
namespace Jvm.Pilot.@@N@@
open Jvm Jvm.ClassFile Sem Op Lib Jvm.Free Jvm.Stand Jvm.Pilot.@@N@@.Jvm.D
/-! MADE BY PROGRAM (witnessworld.py) out of the Statement's table words and the real class files: 13 classes; the members and pool entries that the words name. The judged class is class 1, her method 1. -/
namespace start1
open Jvm.ClassFile
def u (s : String) : CpInfo := .utf8 (stringToUtf16 s)
/-- a pool by its gaps: so many unusable entries, then the entry; so many at the end -/
def gap : Nat → List CpInfo → List CpInfo
  | 0, r => r
  | n + 1, r => .unusable :: gap n r
def poolList (es : List (Nat × CpInfo)) (last : Nat) : List CpInfo := es.foldr (fun e r => gap e.1 (e.2 :: r)) (gap last [])
def pool (es : List (Nat × CpInfo)) (last : Nat) : Array CpInfo := ⟨poolList es last⟩
def fileOf (pool : Array CpInfo) (this : Nat) (attrs : Array Attribute := #[]) (ms : Array MethodInfo := #[]) (fl : Nat := 33) (sup : Nat := 0) (ifs : Array Nat := #[]) (fds : Array FieldInfo := #[]) : ClassFile where
  minorVersion := 0
  majorVersion := 65
  constantPool := pool
  accessFlags := fl
  thisClass := this
  superClass := sup
  interfaces := ifs
  fields := fds
  methods := ms
  attributes := attrs
def plain (name : String) (sup : Option ClassId) : Class where
  name := name
  kind := .ordinary
  loader := none
  accessFlags := 33
  super := sup
  interfaces := #[]
  cf := none
  fields := #[]
  methods := #[]
  instanceTypes := #[]
  staticTypes := #[]
  resolved := #[]
  callSites := []
  init := .initialized
  statics := none
  mirror := none

def pool0 : Array CpInfo := pool [(5, u "<init>"), (0, u "()V"), (1, .class_ 10), (1, u "java/lang/Object"), (85, u "clone"), (0, u "()Ljava/lang/Object;")] 26

def k0m0 : Method := { name := "<init>", desc := "()V", sig := { parameters := [], returnType := none }, accessFlags := 1, code := none }
def k0m1 : Method := { name := "clone", desc := "()Ljava/lang/Object;", sig := { parameters := [], returnType := some (.object "java/lang/Object") }, accessFlags := 260, code := none }
/-- java/lang/Object -/
def k0 : Class := { plain "java/lang/Object" none with
  accessFlags := 33
  interfaces := #[]
  cf := some (fileOf pool0 8 #[] #[{ accessFlags := 1, nameIndex := 5, descriptorIndex := 6, attributes := #[] }, { accessFlags := 260, nameIndex := 96, descriptorIndex := 97, attributes := #[] }] 33 0 #[] #[])
  fields := #[]
  methods := #[k0m0, k0m1]
  instanceTypes := #[]
  staticTypes := #[]
  resolved := Array.replicate 124 none
  statics := none }

def pool1 : Array CpInfo := pool [(2, .class_ 4), (1, u "java/lang/Object"), (0, u "<init>"), (0, u "()V"), (0, .fieldref 8 9), (0, .class_ 10), (0, .nameAndType 11 12), (0, u "com/example/vestwright/vestwright/annuity/Payments"), (0, u "MONTHLY"), (0, u "Lcom/example/vestwright/vestwright/annuity/Payments;"), (0, .fieldref 8 14), (0, .nameAndType 15 12), (0, u "YEARLY"), (0, .methodref 8 17), (0, .nameAndType 18 19), (0, u "of"), (0, u "(I)Lcom/example/vestwright/vestwright/annuity/Payments;"), (0, .methodref 8 21), (0, .nameAndType 22 23), (0, u "perYear"), (0, u "()I"), (0, .class_ 25), (0, u "com/example/vestwright/vestwright/annuity/PaymentsOfPinLaw"), (2, u "law"), (0, u "(I)Z")] 3

def k1m0 : Method := { name := "<init>", desc := "()V", sig := { parameters := [], returnType := none }, accessFlags := 2, code := none }
def k1c1 : Code := { maxStack := 2, maxLocals := 5, code := code, exceptionTable := #[], attributes := #[] }
def k1m1 : Method := { name := "law", desc := "(I)Z", sig := { parameters := [.int], returnType := some .boolean }, accessFlags := 9, code := some k1c1 }
/-- com/example/vestwright/vestwright/annuity/PaymentsOfPinLaw -/
def k1 : Class := { plain "com/example/vestwright/vestwright/annuity/PaymentsOfPinLaw" (some 0) with
  accessFlags := 49
  interfaces := #[]
  cf := some (fileOf pool1 24 #[] #[{ accessFlags := 2, nameIndex := 5, descriptorIndex := 6, attributes := #[] }, { accessFlags := 9, nameIndex := 28, descriptorIndex := 29, attributes := #[] }] 49 2 #[] #[])
  fields := #[]
  methods := #[k1m0, k1m1]
  instanceTypes := #[]
  staticTypes := #[]
  resolved := Array.replicate 33 none
  statics := none }

def pool2 : Array CpInfo := pool [(1, .class_ 2), (0, u "java/lang/constant/Constable"), (0, .class_ 4), (0, u "java/lang/Object")] 6

/-- java/lang/constant/Constable -/
def k2 : Class := { plain "java/lang/constant/Constable" (some 0) with
  accessFlags := 1537
  interfaces := #[]
  cf := some (fileOf pool2 1 #[] #[] 1537 3 #[] #[])
  fields := #[]
  methods := #[]
  instanceTypes := #[]
  staticTypes := #[]
  resolved := Array.replicate 11 none
  statics := none }

def pool3 : Array CpInfo := pool [(1, .class_ 2), (0, u "java/lang/Comparable"), (0, .class_ 4), (0, u "java/lang/Object")] 7

/-- java/lang/Comparable -/
def k3 : Class := { plain "java/lang/Comparable" (some 0) with
  accessFlags := 1537
  interfaces := #[]
  cf := some (fileOf pool3 1 #[] #[] 1537 3 #[] #[])
  fields := #[]
  methods := #[]
  instanceTypes := #[]
  staticTypes := #[]
  resolved := Array.replicate 12 none
  statics := none }

def pool4 : Array CpInfo := pool [(1, .class_ 2), (0, u "java/io/Serializable"), (0, .class_ 4), (0, u "java/lang/Object")] 2

/-- java/io/Serializable -/
def k4 : Class := { plain "java/io/Serializable" (some 0) with
  accessFlags := 1537
  interfaces := #[]
  cf := some (fileOf pool4 1 #[] #[] 1537 3 #[] #[])
  fields := #[]
  methods := #[]
  instanceTypes := #[]
  staticTypes := #[]
  resolved := Array.replicate 7 none
  statics := none }

def pool5 : Array CpInfo := pool [(2, .class_ 4), (1, u "java/lang/Enum"), (0, u "name"), (0, u "Ljava/lang/String;"), (2, u "ordinal"), (0, u "I"), (1, .class_ 14), (1, u "java/lang/Object"), (4, u "hash"), (86, .class_ 108), (1, u "java/lang/Enum$EnumDesc"), (2, .class_ 112), (0, u "java/lang/constant/Constable"), (0, .class_ 114), (0, u "java/lang/Comparable"), (0, .class_ 116), (0, u "java/io/Serializable")] 87

/-- java/lang/Enum -/
def k5 : Class := { plain "java/lang/Enum" (some 0) with
  accessFlags := 1057
  interfaces := #[2, 3, 4]
  cf := some (fileOf pool5 2 #[.nestMembers #[106]] #[] 1057 12 #[111, 113, 115] #[{ accessFlags := 18, nameIndex := 5, descriptorIndex := 6, attributes := #[] }, { accessFlags := 18, nameIndex := 9, descriptorIndex := 10, attributes := #[] }, { accessFlags := 2, nameIndex := 19, descriptorIndex := 10, attributes := #[] }])
  fields := #[{ name := "name", type := (.object "java/lang/String"), accessFlags := 18, slot := 0, constantValue := 0 }, { name := "ordinal", type := .int, accessFlags := 18, slot := 1, constantValue := 0 }, { name := "hash", type := .int, accessFlags := 2, slot := 2, constantValue := 0 }]
  methods := #[]
  instanceTypes := #[(.object "java/lang/String"), .int, .int]
  staticTypes := #[]
  resolved := Array.replicate 204 none
  statics := none }

def pool6 : Array CpInfo := pool [(1, .class_ 2), (0, u "com/example/vestwright/vestwright/annuity/Payments"), (2, u "YEARLY"), (0, u "Lcom/example/vestwright/vestwright/annuity/Payments;"), (2, u "MONTHLY"), (0, .fieldref 1 11), (0, .nameAndType 12 13), (0, u "$VALUES"), (0, u "[Lcom/example/vestwright/vestwright/annuity/Payments;"), (0, .methodref 15 16), (0, .class_ 13), (0, .nameAndType 17 18), (0, u "clone"), (0, u "()Ljava/lang/Object;"), (1, .class_ 22), (1, u "java/lang/Enum"), (6, .fieldref 1 30), (0, .nameAndType 31 32), (0, u "perYear"), (0, u "I"), (0, .methodref 1 34), (0, .nameAndType 35 36), (0, u "values"), (0, u "()[Lcom/example/vestwright/vestwright/annuity/Payments;"), (25, u "()I"), (0, u "of"), (0, u "(I)Lcom/example/vestwright/vestwright/annuity/Payments;")] 21

def k6c0 : Code := { maxStack := 1, maxLocals := 0, code := prog_4_method_1_code, exceptionTable := #[], attributes := #[] }
def k6m0 : Method := { name := "values", desc := "()[Lcom/example/vestwright/vestwright/annuity/Payments;", sig := { parameters := [], returnType := some (.array (.object "com/example/vestwright/vestwright/annuity/Payments")) }, accessFlags := 9, code := some k6c0 }
def k6c1 : Code := { maxStack := 1, maxLocals := 1, code := prog_4_method_4_code, exceptionTable := #[], attributes := #[] }
def k6m1 : Method := { name := "perYear", desc := "()I", sig := { parameters := [], returnType := some .int }, accessFlags := 1, code := some k6c1 }
def k6c2 : Code := { maxStack := 3, maxLocals := 5, code := prog_4_method_5_code, exceptionTable := #[], attributes := #[] }
def k6m2 : Method := { name := "of", desc := "(I)Lcom/example/vestwright/vestwright/annuity/Payments;", sig := { parameters := [.int], returnType := some (.object "com/example/vestwright/vestwright/annuity/Payments") }, accessFlags := 9, code := some k6c2 }
/-- com/example/vestwright/vestwright/annuity/Payments -/
def k6 : Class := { plain "com/example/vestwright/vestwright/annuity/Payments" (some 5) with
  accessFlags := 16433
  interfaces := #[]
  cf := some (fileOf pool6 1 #[] #[{ accessFlags := 9, nameIndex := 35, descriptorIndex := 36, attributes := #[] }, { accessFlags := 1, nameIndex := 31, descriptorIndex := 62, attributes := #[] }, { accessFlags := 9, nameIndex := 63, descriptorIndex := 64, attributes := #[] }] 16433 20 #[] #[{ accessFlags := 16409, nameIndex := 5, descriptorIndex := 6, attributes := #[] }, { accessFlags := 16409, nameIndex := 9, descriptorIndex := 6, attributes := #[] }, { accessFlags := 18, nameIndex := 31, descriptorIndex := 32, attributes := #[] }, { accessFlags := 4122, nameIndex := 12, descriptorIndex := 13, attributes := #[] }])
  fields := #[{ name := "YEARLY", type := (.object "com/example/vestwright/vestwright/annuity/Payments"), accessFlags := 16409, slot := 0, constantValue := 0 }, { name := "MONTHLY", type := (.object "com/example/vestwright/vestwright/annuity/Payments"), accessFlags := 16409, slot := 1, constantValue := 0 }, { name := "perYear", type := .int, accessFlags := 18, slot := 3, constantValue := 0 }, { name := "$VALUES", type := (.array (.object "com/example/vestwright/vestwright/annuity/Payments")), accessFlags := 4122, slot := 2, constantValue := 0 }]
  methods := #[k6m0, k6m1, k6m2]
  instanceTypes := #[(.object "java/lang/String"), .int, .int, .int]
  staticTypes := #[(.object "com/example/vestwright/vestwright/annuity/Payments"), (.object "com/example/vestwright/vestwright/annuity/Payments"), (.array (.object "com/example/vestwright/vestwright/annuity/Payments"))]
  resolved := Array.replicate 86 none
  statics := some 0 }

def pool7 : Array CpInfo := pool [(1, .class_ 2), (0, u "java/lang/Cloneable"), (0, .class_ 4), (0, u "java/lang/Object")] 2

/-- java/lang/Cloneable -/
def k7 : Class := { plain "java/lang/Cloneable" (some 0) with
  accessFlags := 1537
  interfaces := #[]
  cf := some (fileOf pool7 1 #[] #[] 1537 3 #[] #[])
  fields := #[]
  methods := #[]
  instanceTypes := #[]
  staticTypes := #[]
  resolved := Array.replicate 7 none
  statics := none }

/-- the primitive byte -/
def k8 : Class := { plain "byte" none with kind := .primitive 'B', accessFlags := 0x411 }
/-- [B -/
def k9 : Class := { plain "[B" (some 0) with kind := .array 8 .byte, interfaces := #[7, 4], accessFlags := 1041 }

/-- the primitive int -/
def k10 : Class := { plain "int" none with kind := .primitive 'I', accessFlags := 0x411 }
/-- [I -/
def k11 : Class := { plain "[I" (some 0) with kind := .array 10 .int, interfaces := #[7, 4], accessFlags := 1041 }

/-- [Lcom/example/vestwright/vestwright/annuity/Payments; -/
def k12 : Class := { plain "[Lcom/example/vestwright/vestwright/annuity/Payments;" (some 0) with kind := .array 6 (.object "com/example/vestwright/vestwright/annuity/Payments"), interfaces := #[7, 4], accessFlags := 1041 }

def heap : Heap := #[{ cls := 6, slots := #[.ref 2, .ref 3, .ref 1], vm := .statics 6 },
  { cls := 12, slots := #[.ref 2, .ref 3], vm := .none },
  { cls := 6, slots := #[.null, .int 0, .int 0, .int 1], vm := .none },
  { cls := 6, slots := #[.null, .int 1, .int 0, .int 12], vm := .none }]
def classes : Array Class := #[k0, k1, k2, k3, k4, k5, k6, k7, k8, k9, k10, k11, k12]
def interned : List (Array UInt16 × Addr) := []
def slotsUsed : Nat := 13
def theMethod : MethodId := ⟨1, 1⟩
def args0 : Array Value := #[.int 5]
def aboutOver (below : List Frame) : State where
  vm := { classes := classes, interned := interned.toArray }
  heap := heap
  slotsUsed := slotsUsed
  threads := #[{ frames := .invoking theMethod args0 :: below }]
def below0 : List Frame := [.native { method := ⟨0, 0⟩, args := #[] }]
def about1 : State := aboutOver below0
def p0 : Program := .bare "" "" ""
def e0 : Env := launch0.env 0 0 0
theorem w_frames : about1.frames = Frame.invoking theMethod args0 :: below0 := rfl
set_option maxRecDepth 65536 in
theorem w_args : argsFit about1.vm theMethod args0 = true := by decide +kernel
set_option maxRecDepth 65536 in
theorem w_heap : heapFits about1 = true := by decide +kernel
set_option maxRecDepth 65536 in
theorem w_runnable : about1.curStatus? = some .runnable := by decide +kernel
set_option maxRecDepth 65536 in
theorem w_alone : about1.alone = true := by decide +kernel
set_option maxRecDepth 65536 in
theorem w_named : about1.methodNamed? x = some theMethod := by decide +kernel
set_option maxRecDepth 65536 in
theorem w_hears : about1.hears theMethod below0 = true := by decide +kernel
set_option maxRecDepth 65536 in
theorem w_ripe : about1.ripe theMethod args0 below0 = true := by decide +kernel
theorem w_running : about1.status = .running := rfl
set_option maxRecDepth 65536 in
theorem w_room : about1.hasRoom e0.platform room_1 = true :=
  launch0.hasRoom_least _ room_1 (by decide +kernel) (by decide +kernel) (by decide +kernel) (by decide +kernel) (by decide +kernel) (by decide +kernel)
theorem allAtoms_all (ts : List Jvm.Cond) (a : Array Jvm.Value) (st : Jvm.State) : (allAtoms ts).before a st = ts.all (fun c => c.before a st) := by
  induction ts with
  | nil => rfl
  | cons c t ih =>
    show (Jvm.Cond.and c (allAtoms t)).before a st = _
    rw [Jvm.Cond.before_and, ih, List.all_cons]
def words1 : List Jvm.Cond := Jvm.Cond.code x code maxLocals ret :: tables_1
/-- a 'code' word, met by the world's own term for the bytes: nothing is compared byte by byte -/
theorem code_word {y : MethodName} {bytes : ByteArray} {mx : Nat} {rt : Option FieldType} {a : Array Value} {s : State} {m : MethodId} {meth : Method} {c : Code} (h1 : s.methodNamed? y = some m) (h2 : s.vm.method? m = some meth) (h3 : meth.code = some c) (h4 : c.code = bytes)
    (h5 : (c.maxLocals == mx && c.exceptionTable.isEmpty && decide (c.maxStack ≤ mostOperands) && decide (meth.sig.returnType = rt) && !meth.locks && decide (parseMethodDescriptor y.desc = some meth.sig)) = true) : (Jvm.Cond.code y bytes mx rt).before a s = true := by
  simp only [Bool.and_eq_true, beq_iff_eq, Bool.not_eq_true', decide_eq_true_eq] at h5
  obtain ⟨⟨⟨⟨⟨g1, g2⟩, g3⟩, g4⟩, g5⟩, g6⟩ := h5
  simp [Cond.before, Cond.holds, Cond.value, h1, h2, h3, h4, g1, g2, g3, g4, g5, g6]
def isCode : Jvm.Cond → Bool
  | .code _ _ _ _ => true
  | _ => false
theorem all_split {L : List Jvm.Cond} {P : Jvm.Cond → Bool} (h1 : L.all (fun c => isCode c || P c) = true) (h2 : ∀ c ∈ L.filter isCode, P c = true) : L.all P = true := by
  refine List.all_eq_true.mpr fun c hc => ?_
  have h := List.all_eq_true.mp h1 c hc
  rcases Bool.eq_false_or_eq_true (isCode c) with hi | hi
  · exact h2 c (List.mem_filter.mpr ⟨hc, hi⟩)
  · simpa [hi] using h
set_option maxRecDepth 65536 in
theorem w_c0 : (Jvm.Cond.code x code maxLocals ret).before args0 about1 = true := code_word (m := ⟨1, 1⟩) (meth := k1m1) (c := k1c1) (by decide +kernel) rfl rfl rfl (by decide +kernel)
set_option maxRecDepth 65536 in
theorem w_c1 : (Jvm.Cond.code ({ cls := "com/example/vestwright/vestwright/annuity/Payments", name := "of", desc := "(I)Lcom/example/vestwright/vestwright/annuity/Payments;" } : Jvm.MethodName) prog_4_method_5_code (5 : Nat) (Option.some (Jvm.ClassFile.FieldType.object "com/example/vestwright/vestwright/annuity/Payments"))).before args0 about1 = true := code_word (m := ⟨6, 2⟩) (meth := k6m2) (c := k6c2) (by decide +kernel) rfl rfl rfl (by decide +kernel)
set_option maxRecDepth 65536 in
theorem w_c2 : (Jvm.Cond.code ({ cls := "com/example/vestwright/vestwright/annuity/Payments", name := "values", desc := "()[Lcom/example/vestwright/vestwright/annuity/Payments;" } : Jvm.MethodName) prog_4_method_1_code (0 : Nat) (Option.some (Jvm.ClassFile.FieldType.array (Jvm.ClassFile.FieldType.object "com/example/vestwright/vestwright/annuity/Payments")))).before args0 about1 = true := code_word (m := ⟨6, 0⟩) (meth := k6m0) (c := k6c0) (by decide +kernel) rfl rfl rfl (by decide +kernel)
set_option maxRecDepth 65536 in
theorem w_c3 : (Jvm.Cond.code ({ cls := "com/example/vestwright/vestwright/annuity/Payments", name := "perYear", desc := "()I" } : Jvm.MethodName) prog_4_method_4_code (1 : Nat) (Option.some Jvm.ClassFile.FieldType.int)).before args0 about1 = true := code_word (m := ⟨6, 1⟩) (meth := k6m1) (c := k6c1) (by decide +kernel) rfl rfl rfl (by decide +kernel)
def codes1 : List Jvm.Cond := [Jvm.Cond.code x code maxLocals ret, Jvm.Cond.code ({ cls := "com/example/vestwright/vestwright/annuity/Payments", name := "of", desc := "(I)Lcom/example/vestwright/vestwright/annuity/Payments;" } : Jvm.MethodName) prog_4_method_5_code (5 : Nat) (Option.some (Jvm.ClassFile.FieldType.object "com/example/vestwright/vestwright/annuity/Payments")), Jvm.Cond.code ({ cls := "com/example/vestwright/vestwright/annuity/Payments", name := "values", desc := "()[Lcom/example/vestwright/vestwright/annuity/Payments;" } : Jvm.MethodName) prog_4_method_1_code (0 : Nat) (Option.some (Jvm.ClassFile.FieldType.array (Jvm.ClassFile.FieldType.object "com/example/vestwright/vestwright/annuity/Payments"))), Jvm.Cond.code ({ cls := "com/example/vestwright/vestwright/annuity/Payments", name := "perYear", desc := "()I" } : Jvm.MethodName) prog_4_method_4_code (1 : Nat) (Option.some Jvm.ClassFile.FieldType.int)]
set_option maxRecDepth 65536 in
theorem codes_eq : words1.filter isCode = codes1 := rfl
theorem w_codes : ∀ c ∈ words1.filter isCode, c.before args0 about1 = true := by
  rw [codes_eq]
  intro c hc
  simp only [codes1, List.mem_cons, List.not_mem_nil, or_false] at hc
  rcases hc with rfl | rfl | rfl | rfl
  · exact w_c0
  · exact w_c1
  · exact w_c2
  · exact w_c3
set_option maxRecDepth 65536 in
theorem w_t1 : (words1.take 24).all (fun c => isCode c || c.before args0 about1) = true := by decide +kernel
set_option maxRecDepth 65536 in
theorem w_t2 : (words1.drop 24).all (fun c => isCode c || c.before args0 about1) = true := by decide +kernel
theorem w_tables : (allAtoms (Jvm.Cond.code x code maxLocals ret :: tables_1)).before args0 about1 = true := by
  rw [allAtoms_all]
  show words1.all (fun c => c.before args0 about1) = true
  refine all_split ?_ w_codes
  rw [← List.take_append_drop 24 words1, List.all_append, w_t1, w_t2]
  rfl
set_option maxRecDepth 65536 in
theorem w_case : (Jvm.Cond.and given_1 narrow_1).before args0 about1 = true := by decide +kernel
theorem w_applies : (headSpec (Jvm.Cond.code x code maxLocals ret :: tables_1) room_1).applies x e0.platform about1 = true :=
  (Spec.applies_iff w_frames).mpr ⟨w_running, w_runnable, w_alone, w_named, w_hears, w_ripe, w_room, w_tables⟩
theorem atStart : AtStart classFile x code maxLocals ret World_1 tables_1 room_1 Calls_1 rest_1 Pre_1 launch0 p0 e0 about1 theMethod args0 below0 :=
  ⟨lists_1, trivial, launch0.admits_env _ _ _, launch0.least_env, fairChoices_fair.cas, fairChoices_fair.clock, w_frames, w_args, w_heap, w_applies, trivial, trivial, w_case⟩
end start1
theorem witness_1 : WitnessClaimed_1 := ⟨start1.p0, start1.e0, start1.about1, start1.theMethod, start1.args0, start1.below0, start1.atStart⟩
end Jvm.Pilot.@@N@@
