import JvmDerived
import JvmDerived.Pilot.@@N@@Statement
import JvmDerived.Pilot.@@N@@Code
set_option linter.unusedVariables false
set_option linter.unusedSimpArgs false
namespace Jvm.RoadKit
open Sem ClassFile Op Lib Jvm.Stand Jvm.Free Jvm.LawKit
section New
variable {p : Program} {l : Launch} {e : Env} {R : Room} {s : State} {m : MethodId} {args : Array Value} {below : List Frame} {meth : Method} {c : Code} {T : State} {locs : List Loc} {cells slots : Nat}
theorem retI (X : Stand p l e R s m args below meth c T locs cells slots) (hx : p.tables.exec = Jvm.exec) {pc : Nat} {Ls : Array Slot} {z : Int32} {rest : List Value} (hret : meth.sig.returnType = some .int) (hd : decode c.code pc = .ok (.ireturn, 1)) {fs : List Frame}
    (hl : ∀ (f : JFrame) (acts : List Action), f.method = m → f.locked = none → f.entered = [] → (doReturn e (T.setTop f) acts (some (.int z))).1 = T.setFrames fs) : Steps p.tables e below (T.setTop (mkF m pc Ls (.int z :: rest))) (T.setFrames fs) := by
  have hm' : T.vm.method? m = some meth := X.method'
  have hn : narrow .int (.int z) = .int z := rfl
  show Steps p.tables e below (T.setTop { method := m, pc := pc, locals := Ls, stack := _ :: rest, locked := none }) _
  jvm_step X.here [X.here.top, hx, hd, hm', hret, hn]
  first | (intro acts; rw [hl _ acts rfl rfl rfl]) | rw [hl _ _ rfl rfl rfl]
  exact Steps.refl _
end New
end Jvm.RoadKit
namespace Jvm.Pilot.@@N@@
open Jvm Jvm.ClassFile Sem Op Lib Jvm.Free Jvm.Stand Jvm.LawKit Jvm.RoadKit Bundle Jvm.Pilot.@@N@@.Jvm.D


theorem own_dloadN {tb : Tables} [Ours tb] {e : Env} {below : List Frame} {T target : State} {m : MethodId} {c : Code} {g : JFrame} (h : At T m c below) (hx : tb.exec = Jvm.exec) (hg : g.method = m) {k : Fin 4} {v : UInt64} (hd : decode c.code g.pc = .ok (.dload_n k, 1)) (hl : g.locals[k.val]? = some (.val (.double v)))
    (hr : Steps tb e below (T.setTop { g with pc := g.pc + 1, stack := .double v :: g.stack }) target) : Steps tb e below (T.setTop g) target := by
  subst hg
  jvm_step h [h.top, hx, hd, hl]
  exact hr
theorem own_dload {tb : Tables} [Ours tb] {e : Env} {below : List Frame} {T target : State} {m : MethodId} {c : Code} {g : JFrame} (h : At T m c below) (hx : tb.exec = Jvm.exec) (hg : g.method = m) {k : Nat} {v : UInt64} (hd : decode c.code g.pc = .ok (.dload k, 2)) (hl : g.locals[k]? = some (.val (.double v)))
    (hr : Steps tb e below (T.setTop { g with pc := g.pc + 2, stack := .double v :: g.stack }) target) : Steps tb e below (T.setTop g) target := by
  subst hg
  jvm_step h [h.top, hx, hd, hl]
  exact hr
theorem own_dstoreN {tb : Tables} [Ours tb] {e : Env} {below : List Frame} {T target : State} {m : MethodId} {c : Code} {g : JFrame} (h : At T m c below) (hx : tb.exec = Jvm.exec) (hg : g.method = m) {k : Fin 4} {v : UInt64} {rest : List Value} {l' : Array Slot} (hd : decode c.code g.pc = .ok (.dstore_n k, 1)) (hs : g.stack = .double v :: rest) (hl : storeLocals g.locals k.val (.double v) = some l')
    (hr : Steps tb e below (T.setTop { g with pc := g.pc + 1, stack := rest, locals := l' }) target) : Steps tb e below (T.setTop g) target := by
  subst hg
  jvm_step h [h.top, hx, hd, hs, hl]
  exact hr
theorem own_dstore {tb : Tables} [Ours tb] {e : Env} {below : List Frame} {T target : State} {m : MethodId} {c : Code} {g : JFrame} (h : At T m c below) (hx : tb.exec = Jvm.exec) (hg : g.method = m) {k : Nat} {v : UInt64} {rest : List Value} {l' : Array Slot} (hd : decode c.code g.pc = .ok (.dstore k, 2)) (hs : g.stack = .double v :: rest) (hl : storeLocals g.locals k (.double v) = some l')
    (hr : Steps tb e below (T.setTop { g with pc := g.pc + 2, stack := rest, locals := l' }) target) : Steps tb e below (T.setTop g) target := by
  subst hg
  jvm_step h [h.top, hx, hd, hs, hl]
  exact hr
theorem own_dcmp {tb : Tables} [Ours tb] {e : Env} {below : List Frame} {T target : State} {m : MethodId} {c : Code} {g : JFrame} (h : At T m c below) (hx : tb.exec = Jvm.exec) (hg : g.method = m) {x y : UInt64} {rest : List Value} {op : CmpOp} (hd : decode c.code g.pc = .ok (.dcmp op, 1)) (hs : g.stack = .double y :: .double x :: rest)
    (hr : Steps tb e below (T.setTop { g with pc := g.pc + 1, stack := .int (cmpValue (FP.dcmp x y) op) :: rest }) target) : Steps tb e below (T.setTop g) target := by
  subst hg
  jvm_step h [h.top, hx, hd, hs]
  exact hr
theorem own_floadN {tb : Tables} [Ours tb] {e : Env} {below : List Frame} {T target : State} {m : MethodId} {c : Code} {g : JFrame} (h : At T m c below) (hx : tb.exec = Jvm.exec) (hg : g.method = m) {k : Fin 4} {v : UInt32} (hd : decode c.code g.pc = .ok (.fload_n k, 1)) (hl : g.locals[k.val]? = some (.val (.float v)))
    (hr : Steps tb e below (T.setTop { g with pc := g.pc + 1, stack := .float v :: g.stack }) target) : Steps tb e below (T.setTop g) target := by
  subst hg
  jvm_step h [h.top, hx, hd, hl]
  exact hr
theorem own_fload {tb : Tables} [Ours tb] {e : Env} {below : List Frame} {T target : State} {m : MethodId} {c : Code} {g : JFrame} (h : At T m c below) (hx : tb.exec = Jvm.exec) (hg : g.method = m) {k : Nat} {v : UInt32} (hd : decode c.code g.pc = .ok (.fload k, 2)) (hl : g.locals[k]? = some (.val (.float v)))
    (hr : Steps tb e below (T.setTop { g with pc := g.pc + 2, stack := .float v :: g.stack }) target) : Steps tb e below (T.setTop g) target := by
  subst hg
  jvm_step h [h.top, hx, hd, hl]
  exact hr
theorem own_fstoreN {tb : Tables} [Ours tb] {e : Env} {below : List Frame} {T target : State} {m : MethodId} {c : Code} {g : JFrame} (h : At T m c below) (hx : tb.exec = Jvm.exec) (hg : g.method = m) {k : Fin 4} {v : UInt32} {rest : List Value} {l' : Array Slot} (hd : decode c.code g.pc = .ok (.fstore_n k, 1)) (hs : g.stack = .float v :: rest) (hl : storeLocals g.locals k.val (.float v) = some l')
    (hr : Steps tb e below (T.setTop { g with pc := g.pc + 1, stack := rest, locals := l' }) target) : Steps tb e below (T.setTop g) target := by
  subst hg
  jvm_step h [h.top, hx, hd, hs, hl]
  exact hr
theorem own_fstore {tb : Tables} [Ours tb] {e : Env} {below : List Frame} {T target : State} {m : MethodId} {c : Code} {g : JFrame} (h : At T m c below) (hx : tb.exec = Jvm.exec) (hg : g.method = m) {k : Nat} {v : UInt32} {rest : List Value} {l' : Array Slot} (hd : decode c.code g.pc = .ok (.fstore k, 2)) (hs : g.stack = .float v :: rest) (hl : storeLocals g.locals k (.float v) = some l')
    (hr : Steps tb e below (T.setTop { g with pc := g.pc + 2, stack := rest, locals := l' }) target) : Steps tb e below (T.setTop g) target := by
  subst hg
  jvm_step h [h.top, hx, hd, hs, hl]
  exact hr
theorem own_fcmp {tb : Tables} [Ours tb] {e : Env} {below : List Frame} {T target : State} {m : MethodId} {c : Code} {g : JFrame} (h : At T m c below) (hx : tb.exec = Jvm.exec) (hg : g.method = m) {x y : UInt32} {rest : List Value} {op : CmpOp} (hd : decode c.code g.pc = .ok (.fcmp op, 1)) (hs : g.stack = .float y :: .float x :: rest)
    (hr : Steps tb e below (T.setTop { g with pc := g.pc + 1, stack := .int (cmpValue (FP.fcmp x y) op) :: rest }) target) : Steps tb e below (T.setTop g) target := by
  subst hg
  jvm_step h [h.top, hx, hd, hs]
  exact hr
theorem own_i2d {tb : Tables} [Ours tb] {e : Env} {below : List Frame} {T target : State} {m : MethodId} {c : Code} {g : JFrame} (h : At T m c below) (hx : tb.exec = Jvm.exec) (hg : g.method = m) {x : Int32} {rest : List Value} (hd : decode c.code g.pc = .ok (.i2d, 1)) (hs : g.stack = .int x :: rest)
    (hr : Steps tb e below (T.setTop { g with pc := g.pc + 1, stack := .double (FP.i2d x) :: rest }) target) : Steps tb e below (T.setTop g) target := by
  subst hg
  jvm_step h [h.top, hx, hd, hs]
  exact hr
theorem own_l2d {tb : Tables} [Ours tb] {e : Env} {below : List Frame} {T target : State} {m : MethodId} {c : Code} {g : JFrame} (h : At T m c below) (hx : tb.exec = Jvm.exec) (hg : g.method = m) {x : Int64} {rest : List Value} (hd : decode c.code g.pc = .ok (.l2d, 1)) (hs : g.stack = .long x :: rest)
    (hr : Steps tb e below (T.setTop { g with pc := g.pc + 1, stack := .double (FP.l2d x) :: rest }) target) : Steps tb e below (T.setTop g) target := by
  subst hg
  jvm_step h [h.top, hx, hd, hs]
  exact hr
theorem own_fconst {tb : Tables} [Ours tb] {e : Env} {below : List Frame} {T target : State} {m : MethodId} {c : Code} {g : JFrame} (h : At T m c below) (hx : tb.exec = Jvm.exec) (hg : g.method = m) (hd : decode c.code g.pc = .ok (.fconst 0, 1))
    (hr : Steps tb e below (T.setTop { g with pc := g.pc + 1, stack := .float 0 :: g.stack }) target) : Steps tb e below (T.setTop g) target := by
  subst hg
  jvm_step h [h.top, hx, hd]
  exact hr

abbrev own_c (x y : UInt64) : Int32 := cmpValue (FP.dcmp x y) .l
theorem own_eq {i j : Int} {x y : UInt64} (hx : FP.Core.DInt i x) (hy : FP.Core.DInt j y) : own_c x y = 0 ↔ i = j := by
  rw [own_c, FP.dcmp_core, FP.Core.dcmp_int hx hy]
  rcases Int.lt_trichotomy i j with h | h | h
  · rw [show compare i j = .lt from Int.compare_eq_lt.mpr h]
    exact ⟨fun q => absurd q (by decide), fun q => absurd q (by omega)⟩
  · rw [show compare i j = .eq from Int.compare_eq_eq.mpr h]
    exact ⟨fun _ => h, fun _ => by decide⟩
  · rw [show compare i j = .gt from Int.compare_eq_gt.mpr h]
    exact ⟨fun q => absurd q (by decide), fun q => absurd q (by omega)⟩
theorem own_mz : FP.Core.DInt (0 : Int32).toInt (9223372036854775808 : UInt64) := by
  have h := FP.Core.dneg_int (FP.Core.i2d_int 0)
  rw [show FP.Core.dneg (FP.Core.i2d 0) = 9223372036854775808 by decide +kernel] at h
  exact h
def own_and (p q r s : Prop) [Decidable p] [Decidable q] [Decidable r] [Decidable s] : Int32 := if p ∧ q ∧ r ∧ s then 1 else 0
def own_or (a b : Int32) : Int32 := if a = 0 then (if b = 0 then 0 else 1) else 1

theorem d1_0 : decode method_3_code 0 = .ok (.iload_n 1, 1) := by decide +kernel
theorem d1_1 : decode method_3_code 1 = .ok (.iconst 5, 1) := by decide +kernel
theorem d1_2 : decode method_3_code 2 = .ok (.if_icmp .eq 9, 3) := by decide +kernel
theorem d1_11 : decode method_3_code 11 = .ok (.iload_n 2, 1) := by decide +kernel
theorem d1_12 : decode method_3_code 12 = .ok (.ireturn, 1) := by decide +kernel
theorem ef_1 (m : MethodId) (x0 : Int32) (x1 : Int32) (x2 : Int32) (x3 : Int32) : entryFrame m #[(.int x0), (.int x1), (.int x2), (.int x3)] 4 = mkF m 0 #[.val (.int x0), .val (.int x1), .val (.int x2), .val (.int x3)] [] := by first | (simp [entryFrame, mkF, argsToLocals, Value.category]; done) | rfl
theorem pn_1 : plainName "com/example/quadrille/quadrille/geometry/SegmentJoinsPinLaw" = true := by first | (simp [plainName, overriddenIn]; done) | decide +kernel
def Qd0 (Z : State) (a b cI d : Int32) (h0 : Heap) (n0 : Nat) (v : Option Value) (h : Heap) (L : List Loc) : Prop := ∃ r : Int32, v = some (.int r) ∧ Fr n0 L ∧ h = h0
set_option maxRecDepth 65536 in
set_option maxHeartbeats 40000000 in
theorem rmPa (l : Launch) (Z : State) (a0 : Array Value) (hw : ∀ d ∈ tables_1, d.before a0 Z = true) (ws : List Jvm.Cond) (a b cI d : Int32) (h0 : Heap) (n0 : Nat) (hc2 : b = (5 : Int32)) :
    MetFree l (⟨"com/example/quadrille/quadrille/geometry/SegmentJoinsPinLaw", "pick", "(IIII)I"⟩ : MethodName) (head1 (Jvm.Cond.code (⟨"com/example/quadrille/quadrille/geometry/SegmentJoinsPinLaw", "pick", "(IIII)I"⟩ : MethodName) method_3_code 4 (some .int) :: ws) ({ frames := 0, cells := 0, slots := 0, locals := 0 } : Room)) (fun qq U => qq = #[(.int a), (.int b), (.int cI), (.int d)] ∧ Z.Warmed39 U.vm ∧ U.heap = h0) (fun _ _ _ _ _ => True) (fun _ UU oo UU' => ∃ vv LL, oo = .returned vv ∧ Qd0 Z a b cI d h0 n0 vv UU'.heap LL ∧ FrameEnd UU oo UU' LL ({ frames := 0, cells := 0, slots := 0, locals := 0 } : Room).cells ({ frames := 0, cells := 0, slots := 0, locals := 0 } : Room).slots) := by
  refine MetFree.of_bodySF (plainFor_of_name pn_1) hisR ?_
  intro p e s m args below meth c s₁ Bd hml0 hP hK
  obtain ⟨rfl, hZ, hh⟩ := hP
  have hx := Bd.exec
  have hby := Bd.bytes
  have hml : c.maxLocals = 4 := hml0
  have hown : s.vm.findClass "com/example/quadrille/quadrille/geometry/SegmentJoinsPinLaw" = some m.cls := findClass_of_methodNamed Bd.named
  have hnm := (name_of_methodNamed Bd.named Bd.method).1
  have X0 : Stand p l e ({ frames := 0, cells := 0, slots := 0, locals := 0 } : Room) s m #[(.int a), (.int b), (.int cI), (.int d)] below meth c s₁ [] 0 0 := Stand.of_body Bd
  have e0 : s₁.heap = h0 := by rw [← hh, Bd.state]; rfl
  have N0 := Fr.nil n0
  have pre0 : ∀ t, Steps p.tables e below (s₁.setTop (mkF m 0 #[.val (.int a), .val (.int b), .val (.int cI), .val (.int d)] [])) t → Steps p.tables e below (s₁.setTop (entryFrame m #[(.int a), (.int b), (.int cI), (.int d)] 4)) t := fun tt kk => castTop (ef_1 m a b cI d) kk
  obtain ⟨fs, hr, hrun, hended, hW, hsame⟩ := X0.leave (v := some (.int cI)) (fun h => by rw [Bd.returns] at h; cases h)
  refine ⟨_, _, pre0 _ ?_, hrun, hended, _, _, rfl, ?_, ⟨_, rfl⟩, hW, hsame.mono (by decide) (by decide)⟩
  · show Steps p.tables e below (s₁.setTop (mkF m 0 #[.val (.int a), .val (.int b), .val (.int cI), .val (.int d)] [])) _
    refine XS.iloadN X0.here hx rfl (hb hby d1_0) rfl ?_
    show Steps p.tables e below (s₁.setTop (mkF m 1 #[.val (.int a), .val (.int b), .val (.int cI), .val (.int d)] [(.int b)])) _
    refine XS.iconst X0.here hx rfl (hb hby d1_1) ?_
    show Steps p.tables e below (s₁.setTop (mkF m 2 #[.val (.int a), .val (.int b), .val (.int cI), .val (.int d)] [(.int (5 : Int32)), (.int b)])) _
    refine XS.icmpYes X0.here hx rfl (pc0 := 2) (pc' := 11) rfl (hb hby d1_2) rfl (teq hc2).1 (by decide) (by decide) ?_
    show Steps p.tables e below (s₁.setTop (mkF m 11 #[.val (.int a), .val (.int b), .val (.int cI), .val (.int d)] [])) _
    refine XS.iloadN X0.here hx rfl (hb hby d1_11) rfl ?_
    show Steps p.tables e below (s₁.setTop (mkF m 12 #[.val (.int a), .val (.int b), .val (.int cI), .val (.int d)] [(.int cI)])) _
    exact retI X0 hx Bd.returns (hb hby d1_12) hr
  · show Qd0 Z a b cI d h0 n0 _ s₁.heap _
    rw [e0]
    exact ⟨_, rfl, N0, rfl⟩
theorem d1_5 : decode method_3_code 5 = .ok (.iload_n 1, 1) := by decide +kernel
theorem d1_6 : decode method_3_code 6 = .ok (.bipush 6, 2) := by decide +kernel
theorem d1_8 : decode method_3_code 8 = .ok (.if_icmp .ne 5, 3) := by decide +kernel
set_option maxRecDepth 65536 in
set_option maxHeartbeats 40000000 in
theorem rmPb (l : Launch) (Z : State) (a0 : Array Value) (hw : ∀ d ∈ tables_1, d.before a0 Z = true) (ws : List Jvm.Cond) (a b cI d : Int32) (h0 : Heap) (n0 : Nat) (hc2 : ¬ (b = (5 : Int32))) (hc8 : b = (6 : Int32)) :
    MetFree l (⟨"com/example/quadrille/quadrille/geometry/SegmentJoinsPinLaw", "pick", "(IIII)I"⟩ : MethodName) (head1 (Jvm.Cond.code (⟨"com/example/quadrille/quadrille/geometry/SegmentJoinsPinLaw", "pick", "(IIII)I"⟩ : MethodName) method_3_code 4 (some .int) :: ws) ({ frames := 0, cells := 0, slots := 0, locals := 0 } : Room)) (fun qq U => qq = #[(.int a), (.int b), (.int cI), (.int d)] ∧ Z.Warmed39 U.vm ∧ U.heap = h0) (fun _ _ _ _ _ => True) (fun _ UU oo UU' => ∃ vv LL, oo = .returned vv ∧ Qd0 Z a b cI d h0 n0 vv UU'.heap LL ∧ FrameEnd UU oo UU' LL ({ frames := 0, cells := 0, slots := 0, locals := 0 } : Room).cells ({ frames := 0, cells := 0, slots := 0, locals := 0 } : Room).slots) := by
  refine MetFree.of_bodySF (plainFor_of_name pn_1) hisR ?_
  intro p e s m args below meth c s₁ Bd hml0 hP hK
  obtain ⟨rfl, hZ, hh⟩ := hP
  have hx := Bd.exec
  have hby := Bd.bytes
  have hml : c.maxLocals = 4 := hml0
  have hown : s.vm.findClass "com/example/quadrille/quadrille/geometry/SegmentJoinsPinLaw" = some m.cls := findClass_of_methodNamed Bd.named
  have hnm := (name_of_methodNamed Bd.named Bd.method).1
  have X0 : Stand p l e ({ frames := 0, cells := 0, slots := 0, locals := 0 } : Room) s m #[(.int a), (.int b), (.int cI), (.int d)] below meth c s₁ [] 0 0 := Stand.of_body Bd
  have e0 : s₁.heap = h0 := by rw [← hh, Bd.state]; rfl
  have N0 := Fr.nil n0
  have pre0 : ∀ t, Steps p.tables e below (s₁.setTop (mkF m 0 #[.val (.int a), .val (.int b), .val (.int cI), .val (.int d)] [])) t → Steps p.tables e below (s₁.setTop (entryFrame m #[(.int a), (.int b), (.int cI), (.int d)] 4)) t := fun tt kk => castTop (ef_1 m a b cI d) kk
  obtain ⟨fs, hr, hrun, hended, hW, hsame⟩ := X0.leave (v := some (.int cI)) (fun h => by rw [Bd.returns] at h; cases h)
  refine ⟨_, _, pre0 _ ?_, hrun, hended, _, _, rfl, ?_, ⟨_, rfl⟩, hW, hsame.mono (by decide) (by decide)⟩
  · show Steps p.tables e below (s₁.setTop (mkF m 0 #[.val (.int a), .val (.int b), .val (.int cI), .val (.int d)] [])) _
    refine XS.iloadN X0.here hx rfl (hb hby d1_0) rfl ?_
    show Steps p.tables e below (s₁.setTop (mkF m 1 #[.val (.int a), .val (.int b), .val (.int cI), .val (.int d)] [(.int b)])) _
    refine XS.iconst X0.here hx rfl (hb hby d1_1) ?_
    show Steps p.tables e below (s₁.setTop (mkF m 2 #[.val (.int a), .val (.int b), .val (.int cI), .val (.int d)] [(.int (5 : Int32)), (.int b)])) _
    refine XS.icmpNo X0.here hx rfl (hb hby d1_2) rfl (feq hc2).1 ?_
    show Steps p.tables e below (s₁.setTop (mkF m 5 #[.val (.int a), .val (.int b), .val (.int cI), .val (.int d)] [])) _
    refine XS.iloadN X0.here hx rfl (hb hby d1_5) rfl ?_
    show Steps p.tables e below (s₁.setTop (mkF m 6 #[.val (.int a), .val (.int b), .val (.int cI), .val (.int d)] [(.int b)])) _
    refine XS.bipush X0.here hx rfl (hb hby d1_6) ?_
    show Steps p.tables e below (s₁.setTop (mkF m 8 #[.val (.int a), .val (.int b), .val (.int cI), .val (.int d)] [(.int (6 : Int32)), (.int b)])) _
    refine XS.icmpNo X0.here hx rfl (hb hby d1_8) rfl (teq hc8).2 ?_
    show Steps p.tables e below (s₁.setTop (mkF m 11 #[.val (.int a), .val (.int b), .val (.int cI), .val (.int d)] [])) _
    refine XS.iloadN X0.here hx rfl (hb hby d1_11) rfl ?_
    show Steps p.tables e below (s₁.setTop (mkF m 12 #[.val (.int a), .val (.int b), .val (.int cI), .val (.int d)] [(.int cI)])) _
    exact retI X0 hx Bd.returns (hb hby d1_12) hr
  · show Qd0 Z a b cI d h0 n0 _ s₁.heap _
    rw [e0]
    exact ⟨_, rfl, N0, rfl⟩
theorem d1_13 : decode method_3_code 13 = .ok (.iload_n 1, 1) := by decide +kernel
theorem d1_14 : decode method_3_code 14 = .ok (.bipush 7, 2) := by decide +kernel
theorem d1_16 : decode method_3_code 16 = .ok (.if_icmp .ne 5, 3) := by decide +kernel
theorem d1_19 : decode method_3_code 19 = .ok (.iload_n 3, 1) := by decide +kernel
theorem d1_20 : decode method_3_code 20 = .ok (.ireturn, 1) := by decide +kernel
set_option maxRecDepth 65536 in
set_option maxHeartbeats 40000000 in
theorem rmPc (l : Launch) (Z : State) (a0 : Array Value) (hw : ∀ d ∈ tables_1, d.before a0 Z = true) (ws : List Jvm.Cond) (a b cI d : Int32) (h0 : Heap) (n0 : Nat) (hc2 : ¬ (b = (5 : Int32))) (hc8 : ¬ (b = (6 : Int32))) (hc16 : b = (7 : Int32)) :
    MetFree l (⟨"com/example/quadrille/quadrille/geometry/SegmentJoinsPinLaw", "pick", "(IIII)I"⟩ : MethodName) (head1 (Jvm.Cond.code (⟨"com/example/quadrille/quadrille/geometry/SegmentJoinsPinLaw", "pick", "(IIII)I"⟩ : MethodName) method_3_code 4 (some .int) :: ws) ({ frames := 0, cells := 0, slots := 0, locals := 0 } : Room)) (fun qq U => qq = #[(.int a), (.int b), (.int cI), (.int d)] ∧ Z.Warmed39 U.vm ∧ U.heap = h0) (fun _ _ _ _ _ => True) (fun _ UU oo UU' => ∃ vv LL, oo = .returned vv ∧ Qd0 Z a b cI d h0 n0 vv UU'.heap LL ∧ FrameEnd UU oo UU' LL ({ frames := 0, cells := 0, slots := 0, locals := 0 } : Room).cells ({ frames := 0, cells := 0, slots := 0, locals := 0 } : Room).slots) := by
  refine MetFree.of_bodySF (plainFor_of_name pn_1) hisR ?_
  intro p e s m args below meth c s₁ Bd hml0 hP hK
  obtain ⟨rfl, hZ, hh⟩ := hP
  have hx := Bd.exec
  have hby := Bd.bytes
  have hml : c.maxLocals = 4 := hml0
  have hown : s.vm.findClass "com/example/quadrille/quadrille/geometry/SegmentJoinsPinLaw" = some m.cls := findClass_of_methodNamed Bd.named
  have hnm := (name_of_methodNamed Bd.named Bd.method).1
  have X0 : Stand p l e ({ frames := 0, cells := 0, slots := 0, locals := 0 } : Room) s m #[(.int a), (.int b), (.int cI), (.int d)] below meth c s₁ [] 0 0 := Stand.of_body Bd
  have e0 : s₁.heap = h0 := by rw [← hh, Bd.state]; rfl
  have N0 := Fr.nil n0
  have pre0 : ∀ t, Steps p.tables e below (s₁.setTop (mkF m 0 #[.val (.int a), .val (.int b), .val (.int cI), .val (.int d)] [])) t → Steps p.tables e below (s₁.setTop (entryFrame m #[(.int a), (.int b), (.int cI), (.int d)] 4)) t := fun tt kk => castTop (ef_1 m a b cI d) kk
  obtain ⟨fs, hr, hrun, hended, hW, hsame⟩ := X0.leave (v := some (.int d)) (fun h => by rw [Bd.returns] at h; cases h)
  refine ⟨_, _, pre0 _ ?_, hrun, hended, _, _, rfl, ?_, ⟨_, rfl⟩, hW, hsame.mono (by decide) (by decide)⟩
  · show Steps p.tables e below (s₁.setTop (mkF m 0 #[.val (.int a), .val (.int b), .val (.int cI), .val (.int d)] [])) _
    refine XS.iloadN X0.here hx rfl (hb hby d1_0) rfl ?_
    show Steps p.tables e below (s₁.setTop (mkF m 1 #[.val (.int a), .val (.int b), .val (.int cI), .val (.int d)] [(.int b)])) _
    refine XS.iconst X0.here hx rfl (hb hby d1_1) ?_
    show Steps p.tables e below (s₁.setTop (mkF m 2 #[.val (.int a), .val (.int b), .val (.int cI), .val (.int d)] [(.int (5 : Int32)), (.int b)])) _
    refine XS.icmpNo X0.here hx rfl (hb hby d1_2) rfl (feq hc2).1 ?_
    show Steps p.tables e below (s₁.setTop (mkF m 5 #[.val (.int a), .val (.int b), .val (.int cI), .val (.int d)] [])) _
    refine XS.iloadN X0.here hx rfl (hb hby d1_5) rfl ?_
    show Steps p.tables e below (s₁.setTop (mkF m 6 #[.val (.int a), .val (.int b), .val (.int cI), .val (.int d)] [(.int b)])) _
    refine XS.bipush X0.here hx rfl (hb hby d1_6) ?_
    show Steps p.tables e below (s₁.setTop (mkF m 8 #[.val (.int a), .val (.int b), .val (.int cI), .val (.int d)] [(.int (6 : Int32)), (.int b)])) _
    refine XS.icmpYes X0.here hx rfl (pc0 := 8) (pc' := 13) rfl (hb hby d1_8) rfl (feq hc8).2 (by decide) (by decide) ?_
    show Steps p.tables e below (s₁.setTop (mkF m 13 #[.val (.int a), .val (.int b), .val (.int cI), .val (.int d)] [])) _
    refine XS.iloadN X0.here hx rfl (hb hby d1_13) rfl ?_
    show Steps p.tables e below (s₁.setTop (mkF m 14 #[.val (.int a), .val (.int b), .val (.int cI), .val (.int d)] [(.int b)])) _
    refine XS.bipush X0.here hx rfl (hb hby d1_14) ?_
    show Steps p.tables e below (s₁.setTop (mkF m 16 #[.val (.int a), .val (.int b), .val (.int cI), .val (.int d)] [(.int (7 : Int32)), (.int b)])) _
    refine XS.icmpNo X0.here hx rfl (hb hby d1_16) rfl (teq hc16).2 ?_
    show Steps p.tables e below (s₁.setTop (mkF m 19 #[.val (.int a), .val (.int b), .val (.int cI), .val (.int d)] [])) _
    refine XS.iloadN X0.here hx rfl (hb hby d1_19) rfl ?_
    show Steps p.tables e below (s₁.setTop (mkF m 20 #[.val (.int a), .val (.int b), .val (.int cI), .val (.int d)] [(.int d)])) _
    exact retI X0 hx Bd.returns (hb hby d1_20) hr
  · show Qd0 Z a b cI d h0 n0 _ s₁.heap _
    rw [e0]
    exact ⟨_, rfl, N0, rfl⟩
theorem d1_21 : decode method_3_code 21 = .ok (.iload_n 0, 1) := by decide +kernel
theorem d1_22 : decode method_3_code 22 = .ok (.ireturn, 1) := by decide +kernel
set_option maxRecDepth 65536 in
set_option maxHeartbeats 40000000 in
theorem rmPd (l : Launch) (Z : State) (a0 : Array Value) (hw : ∀ d ∈ tables_1, d.before a0 Z = true) (ws : List Jvm.Cond) (a b cI d : Int32) (h0 : Heap) (n0 : Nat) (hc2 : ¬ (b = (5 : Int32))) (hc8 : ¬ (b = (6 : Int32))) (hc16 : ¬ (b = (7 : Int32))) :
    MetFree l (⟨"com/example/quadrille/quadrille/geometry/SegmentJoinsPinLaw", "pick", "(IIII)I"⟩ : MethodName) (head1 (Jvm.Cond.code (⟨"com/example/quadrille/quadrille/geometry/SegmentJoinsPinLaw", "pick", "(IIII)I"⟩ : MethodName) method_3_code 4 (some .int) :: ws) ({ frames := 0, cells := 0, slots := 0, locals := 0 } : Room)) (fun qq U => qq = #[(.int a), (.int b), (.int cI), (.int d)] ∧ Z.Warmed39 U.vm ∧ U.heap = h0) (fun _ _ _ _ _ => True) (fun _ UU oo UU' => ∃ vv LL, oo = .returned vv ∧ Qd0 Z a b cI d h0 n0 vv UU'.heap LL ∧ FrameEnd UU oo UU' LL ({ frames := 0, cells := 0, slots := 0, locals := 0 } : Room).cells ({ frames := 0, cells := 0, slots := 0, locals := 0 } : Room).slots) := by
  refine MetFree.of_bodySF (plainFor_of_name pn_1) hisR ?_
  intro p e s m args below meth c s₁ Bd hml0 hP hK
  obtain ⟨rfl, hZ, hh⟩ := hP
  have hx := Bd.exec
  have hby := Bd.bytes
  have hml : c.maxLocals = 4 := hml0
  have hown : s.vm.findClass "com/example/quadrille/quadrille/geometry/SegmentJoinsPinLaw" = some m.cls := findClass_of_methodNamed Bd.named
  have hnm := (name_of_methodNamed Bd.named Bd.method).1
  have X0 : Stand p l e ({ frames := 0, cells := 0, slots := 0, locals := 0 } : Room) s m #[(.int a), (.int b), (.int cI), (.int d)] below meth c s₁ [] 0 0 := Stand.of_body Bd
  have e0 : s₁.heap = h0 := by rw [← hh, Bd.state]; rfl
  have N0 := Fr.nil n0
  have pre0 : ∀ t, Steps p.tables e below (s₁.setTop (mkF m 0 #[.val (.int a), .val (.int b), .val (.int cI), .val (.int d)] [])) t → Steps p.tables e below (s₁.setTop (entryFrame m #[(.int a), (.int b), (.int cI), (.int d)] 4)) t := fun tt kk => castTop (ef_1 m a b cI d) kk
  obtain ⟨fs, hr, hrun, hended, hW, hsame⟩ := X0.leave (v := some (.int a)) (fun h => by rw [Bd.returns] at h; cases h)
  refine ⟨_, _, pre0 _ ?_, hrun, hended, _, _, rfl, ?_, ⟨_, rfl⟩, hW, hsame.mono (by decide) (by decide)⟩
  · show Steps p.tables e below (s₁.setTop (mkF m 0 #[.val (.int a), .val (.int b), .val (.int cI), .val (.int d)] [])) _
    refine XS.iloadN X0.here hx rfl (hb hby d1_0) rfl ?_
    show Steps p.tables e below (s₁.setTop (mkF m 1 #[.val (.int a), .val (.int b), .val (.int cI), .val (.int d)] [(.int b)])) _
    refine XS.iconst X0.here hx rfl (hb hby d1_1) ?_
    show Steps p.tables e below (s₁.setTop (mkF m 2 #[.val (.int a), .val (.int b), .val (.int cI), .val (.int d)] [(.int (5 : Int32)), (.int b)])) _
    refine XS.icmpNo X0.here hx rfl (hb hby d1_2) rfl (feq hc2).1 ?_
    show Steps p.tables e below (s₁.setTop (mkF m 5 #[.val (.int a), .val (.int b), .val (.int cI), .val (.int d)] [])) _
    refine XS.iloadN X0.here hx rfl (hb hby d1_5) rfl ?_
    show Steps p.tables e below (s₁.setTop (mkF m 6 #[.val (.int a), .val (.int b), .val (.int cI), .val (.int d)] [(.int b)])) _
    refine XS.bipush X0.here hx rfl (hb hby d1_6) ?_
    show Steps p.tables e below (s₁.setTop (mkF m 8 #[.val (.int a), .val (.int b), .val (.int cI), .val (.int d)] [(.int (6 : Int32)), (.int b)])) _
    refine XS.icmpYes X0.here hx rfl (pc0 := 8) (pc' := 13) rfl (hb hby d1_8) rfl (feq hc8).2 (by decide) (by decide) ?_
    show Steps p.tables e below (s₁.setTop (mkF m 13 #[.val (.int a), .val (.int b), .val (.int cI), .val (.int d)] [])) _
    refine XS.iloadN X0.here hx rfl (hb hby d1_13) rfl ?_
    show Steps p.tables e below (s₁.setTop (mkF m 14 #[.val (.int a), .val (.int b), .val (.int cI), .val (.int d)] [(.int b)])) _
    refine XS.bipush X0.here hx rfl (hb hby d1_14) ?_
    show Steps p.tables e below (s₁.setTop (mkF m 16 #[.val (.int a), .val (.int b), .val (.int cI), .val (.int d)] [(.int (7 : Int32)), (.int b)])) _
    refine XS.icmpYes X0.here hx rfl (pc0 := 16) (pc' := 21) rfl (hb hby d1_16) rfl (feq hc16).2 (by decide) (by decide) ?_
    show Steps p.tables e below (s₁.setTop (mkF m 21 #[.val (.int a), .val (.int b), .val (.int cI), .val (.int d)] [])) _
    refine XS.iloadN X0.here hx rfl (hb hby d1_21) rfl ?_
    show Steps p.tables e below (s₁.setTop (mkF m 22 #[.val (.int a), .val (.int b), .val (.int cI), .val (.int d)] [(.int a)])) _
    exact retI X0 hx Bd.returns (hb hby d1_22) hr
  · show Qd0 Z a b cI d h0 n0 _ s₁.heap _
    rw [e0]
    exact ⟨_, rfl, N0, rfl⟩
theorem rmP (l : Launch) (Z : State) (a0 : Array Value) (hw : ∀ d ∈ tables_1, d.before a0 Z = true) (ws : List Jvm.Cond) (a b cI d : Int32) (h0 : Heap) (n0 : Nat) :
    MetFree l (⟨"com/example/quadrille/quadrille/geometry/SegmentJoinsPinLaw", "pick", "(IIII)I"⟩ : MethodName) (head1 (Jvm.Cond.code (⟨"com/example/quadrille/quadrille/geometry/SegmentJoinsPinLaw", "pick", "(IIII)I"⟩ : MethodName) method_3_code 4 (some .int) :: ws) ({ frames := 0, cells := 0, slots := 0, locals := 0 } : Room)) (fun qq U => qq = #[(.int a), (.int b), (.int cI), (.int d)] ∧ Z.Warmed39 U.vm ∧ U.heap = h0) (fun _ _ _ _ _ => True) (fun _ UU oo UU' => ∃ vv LL, oo = .returned vv ∧ Qd0 Z a b cI d h0 n0 vv UU'.heap LL ∧ FrameEnd UU oo UU' LL ({ frames := 0, cells := 0, slots := 0, locals := 0 } : Room).cells ({ frames := 0, cells := 0, slots := 0, locals := 0 } : Room).slots) := by
  by_cases h1 : b = 5
  · exact rmPa l Z a0 hw ws a b cI d h0 n0 h1
  by_cases h2 : b = 6
  · exact rmPb l Z a0 hw ws a b cI d h0 n0 h1 h2
  by_cases h3 : b = 7
  · exact rmPc l Z a0 hw ws a b cI d h0 n0 h1 h2 h3
  · exact rmPd l Z a0 hw ws a b cI d h0 n0 h1 h2 h3
theorem d2_0 : decode method_2_code 0 = .ok (.iload_n 0, 1) := by decide +kernel
theorem d2_1 : decode method_2_code 1 = .ok (.ifCond .ne 15, 3) := by decide +kernel
theorem d2_16 : decode method_2_code 16 = .ok (.iload_n 0, 1) := by decide +kernel
theorem d2_17 : decode method_2_code 17 = .ok (.i2d, 1) := by decide +kernel
theorem d2_18 : decode method_2_code 18 = .ok (.dreturn, 1) := by decide +kernel
theorem ef_2 (m : MethodId) (x0 : Int32) (x1 : Int32) (x2 : Int32) : entryFrame m #[(.int x0), (.int x1), (.int x2)] 3 = mkF m 0 #[.val (.int x0), .val (.int x1), .val (.int x2)] [] := by first | (simp [entryFrame, mkF, argsToLocals, Value.category]; done) | rfl
theorem pn_2 : plainName "com/example/quadrille/quadrille/geometry/SegmentJoinsPinLaw" = true := by first | (simp [plainName, overriddenIn]; done) | decide +kernel
def Qd1 (Z : State) (a b cI : Int32) (h0 : Heap) (n0 : Nat) (v : Option Value) (h : Heap) (L : List Loc) : Prop := ∃ r : UInt64, v = some (.double r) ∧ Fr n0 L ∧ h = h0 ∧ FP.Core.DInt a.toInt r
set_option maxRecDepth 65536 in
set_option maxHeartbeats 40000000 in
theorem rmDa (l : Launch) (Z : State) (a0 : Array Value) (hw : ∀ d ∈ tables_1, d.before a0 Z = true) (ws : List Jvm.Cond) (a b cI : Int32) (h0 : Heap) (n0 : Nat) (hc1 : ¬ (a = (0 : Int32))) :
    MetFree l (⟨"com/example/quadrille/quadrille/geometry/SegmentJoinsPinLaw", "toD", "(III)D"⟩ : MethodName) (head1 (Jvm.Cond.code (⟨"com/example/quadrille/quadrille/geometry/SegmentJoinsPinLaw", "toD", "(III)D"⟩ : MethodName) method_2_code 3 (some .double) :: ws) ({ frames := 0, cells := 0, slots := 0, locals := 0 } : Room)) (fun qq U => qq = #[(.int a), (.int b), (.int cI)] ∧ Z.Warmed39 U.vm ∧ U.heap = h0) (fun _ _ _ _ _ => True) (fun _ UU oo UU' => ∃ vv LL, oo = .returned vv ∧ Qd1 Z a b cI h0 n0 vv UU'.heap LL ∧ FrameEnd UU oo UU' LL ({ frames := 0, cells := 0, slots := 0, locals := 0 } : Room).cells ({ frames := 0, cells := 0, slots := 0, locals := 0 } : Room).slots) := by
  refine MetFree.of_bodySF (plainFor_of_name pn_2) hisR ?_
  intro p e s m args below meth c s₁ Bd hml0 hP hK
  obtain ⟨rfl, hZ, hh⟩ := hP
  have hx := Bd.exec
  have hby := Bd.bytes
  have hml : c.maxLocals = 3 := hml0
  have hown : s.vm.findClass "com/example/quadrille/quadrille/geometry/SegmentJoinsPinLaw" = some m.cls := findClass_of_methodNamed Bd.named
  have hnm := (name_of_methodNamed Bd.named Bd.method).1
  have X0 : Stand p l e ({ frames := 0, cells := 0, slots := 0, locals := 0 } : Room) s m #[(.int a), (.int b), (.int cI)] below meth c s₁ [] 0 0 := Stand.of_body Bd
  have e0 : s₁.heap = h0 := by rw [← hh, Bd.state]; rfl
  have N0 := Fr.nil n0
  have pre0 : ∀ t, Steps p.tables e below (s₁.setTop (mkF m 0 #[.val (.int a), .val (.int b), .val (.int cI)] [])) t → Steps p.tables e below (s₁.setTop (entryFrame m #[(.int a), (.int b), (.int cI)] 3)) t := fun tt kk => castTop (ef_2 m a b cI) kk
  obtain ⟨fs, hr, hrun, hended, hW, hsame⟩ := X0.leave (v := some (.double (FP.i2d a))) (fun h => by rw [Bd.returns] at h; cases h)
  refine ⟨_, _, pre0 _ ?_, hrun, hended, _, _, rfl, ?_, ⟨_, rfl⟩, hW, hsame.mono (by decide) (by decide)⟩
  · show Steps p.tables e below (s₁.setTop (mkF m 0 #[.val (.int a), .val (.int b), .val (.int cI)] [])) _
    refine XS.iloadN X0.here hx rfl (hb hby d2_0) rfl ?_
    show Steps p.tables e below (s₁.setTop (mkF m 1 #[.val (.int a), .val (.int b), .val (.int cI)] [(.int a)])) _
    refine XS.ifYes X0.here hx rfl (pc0 := 1) (pc' := 16) rfl (hb hby d2_1) rfl ((if0 _ _).trans (feq hc1).2) (by decide) (by decide) ?_
    show Steps p.tables e below (s₁.setTop (mkF m 16 #[.val (.int a), .val (.int b), .val (.int cI)] [])) _
    refine XS.iloadN X0.here hx rfl (hb hby d2_16) rfl ?_
    show Steps p.tables e below (s₁.setTop (mkF m 17 #[.val (.int a), .val (.int b), .val (.int cI)] [(.int a)])) _
    refine own_i2d X0.here hx rfl (hb hby d2_17) rfl ?_
    show Steps p.tables e below (s₁.setTop (mkF m 18 #[.val (.int a), .val (.int b), .val (.int cI)] [(.double (FP.i2d a))])) _
    exact retOut X0 hx Bd.returns rfl (Or.inr (Or.inr (Or.inl ⟨rfl, rfl, _, rfl⟩))) (hb hby d2_18) hr
  · show Qd1 Z a b cI h0 n0 _ s₁.heap _
    rw [e0]
    exact ⟨_, rfl, N0, rfl, FP.Core.i2d_int a⟩
theorem d2_4 : decode method_2_code 4 = .ok (.iload_n 1, 1) := by decide +kernel
theorem d2_5 : decode method_2_code 5 = .ok (.iload_n 2, 1) := by decide +kernel
theorem d2_6 : decode method_2_code 6 = .ok (.iushr, 1) := by decide +kernel
theorem d2_7 : decode method_2_code 7 = .ok (.iconst 1, 1) := by decide +kernel
theorem d2_8 : decode method_2_code 8 = .ok (.iand, 1) := by decide +kernel
theorem d2_9 : decode method_2_code 9 = .ok (.ifCond .eq 7, 3) := by decide +kernel
set_option maxRecDepth 65536 in
set_option maxHeartbeats 40000000 in
theorem rmDb (l : Launch) (Z : State) (a0 : Array Value) (hw : ∀ d ∈ tables_1, d.before a0 Z = true) (ws : List Jvm.Cond) (a b cI : Int32) (h0 : Heap) (n0 : Nat) (hc1 : a = (0 : Int32)) (hc9 : (((b.toUInt32 >>> (cI &&& 31).toUInt32).toInt32) &&& (1 : Int32)) = (0 : Int32)) :
    MetFree l (⟨"com/example/quadrille/quadrille/geometry/SegmentJoinsPinLaw", "toD", "(III)D"⟩ : MethodName) (head1 (Jvm.Cond.code (⟨"com/example/quadrille/quadrille/geometry/SegmentJoinsPinLaw", "toD", "(III)D"⟩ : MethodName) method_2_code 3 (some .double) :: ws) ({ frames := 0, cells := 0, slots := 0, locals := 0 } : Room)) (fun qq U => qq = #[(.int a), (.int b), (.int cI)] ∧ Z.Warmed39 U.vm ∧ U.heap = h0) (fun _ _ _ _ _ => True) (fun _ UU oo UU' => ∃ vv LL, oo = .returned vv ∧ Qd1 Z a b cI h0 n0 vv UU'.heap LL ∧ FrameEnd UU oo UU' LL ({ frames := 0, cells := 0, slots := 0, locals := 0 } : Room).cells ({ frames := 0, cells := 0, slots := 0, locals := 0 } : Room).slots) := by
  refine MetFree.of_bodySF (plainFor_of_name pn_2) hisR ?_
  intro p e s m args below meth c s₁ Bd hml0 hP hK
  obtain ⟨rfl, hZ, hh⟩ := hP
  have hx := Bd.exec
  have hby := Bd.bytes
  have hml : c.maxLocals = 3 := hml0
  have hown : s.vm.findClass "com/example/quadrille/quadrille/geometry/SegmentJoinsPinLaw" = some m.cls := findClass_of_methodNamed Bd.named
  have hnm := (name_of_methodNamed Bd.named Bd.method).1
  have X0 : Stand p l e ({ frames := 0, cells := 0, slots := 0, locals := 0 } : Room) s m #[(.int a), (.int b), (.int cI)] below meth c s₁ [] 0 0 := Stand.of_body Bd
  have e0 : s₁.heap = h0 := by rw [← hh, Bd.state]; rfl
  have N0 := Fr.nil n0
  have pre0 : ∀ t, Steps p.tables e below (s₁.setTop (mkF m 0 #[.val (.int a), .val (.int b), .val (.int cI)] [])) t → Steps p.tables e below (s₁.setTop (entryFrame m #[(.int a), (.int b), (.int cI)] 3)) t := fun tt kk => castTop (ef_2 m a b cI) kk
  obtain ⟨fs, hr, hrun, hended, hW, hsame⟩ := X0.leave (v := some (.double (FP.i2d a))) (fun h => by rw [Bd.returns] at h; cases h)
  refine ⟨_, _, pre0 _ ?_, hrun, hended, _, _, rfl, ?_, ⟨_, rfl⟩, hW, hsame.mono (by decide) (by decide)⟩
  · show Steps p.tables e below (s₁.setTop (mkF m 0 #[.val (.int a), .val (.int b), .val (.int cI)] [])) _
    refine XS.iloadN X0.here hx rfl (hb hby d2_0) rfl ?_
    show Steps p.tables e below (s₁.setTop (mkF m 1 #[.val (.int a), .val (.int b), .val (.int cI)] [(.int a)])) _
    refine XS.ifNo X0.here hx rfl (hb hby d2_1) rfl ((if0 _ _).trans (teq hc1).2) ?_
    show Steps p.tables e below (s₁.setTop (mkF m 4 #[.val (.int a), .val (.int b), .val (.int cI)] [])) _
    refine XS.iloadN X0.here hx rfl (hb hby d2_4) rfl ?_
    show Steps p.tables e below (s₁.setTop (mkF m 5 #[.val (.int a), .val (.int b), .val (.int cI)] [(.int b)])) _
    refine XS.iloadN X0.here hx rfl (hb hby d2_5) rfl ?_
    show Steps p.tables e below (s₁.setTop (mkF m 6 #[.val (.int a), .val (.int b), .val (.int cI)] [(.int cI), (.int b)])) _
    refine XS.iushr X0.here hx rfl (hb hby d2_6) rfl ?_
    show Steps p.tables e below (s₁.setTop (mkF m 7 #[.val (.int a), .val (.int b), .val (.int cI)] [(.int ((b.toUInt32 >>> (cI &&& 31).toUInt32).toInt32))])) _
    refine XS.iconst X0.here hx rfl (hb hby d2_7) ?_
    show Steps p.tables e below (s₁.setTop (mkF m 8 #[.val (.int a), .val (.int b), .val (.int cI)] [(.int (1 : Int32)), (.int ((b.toUInt32 >>> (cI &&& 31).toUInt32).toInt32))])) _
    refine XS.iand X0.here hx rfl (hb hby d2_8) rfl ?_
    show Steps p.tables e below (s₁.setTop (mkF m 9 #[.val (.int a), .val (.int b), .val (.int cI)] [(.int (((b.toUInt32 >>> (cI &&& 31).toUInt32).toInt32) &&& (1 : Int32)))])) _
    refine XS.ifYes X0.here hx rfl (pc0 := 9) (pc' := 16) rfl (hb hby d2_9) rfl ((if0 _ _).trans (teq hc9).1) (by decide) (by decide) ?_
    show Steps p.tables e below (s₁.setTop (mkF m 16 #[.val (.int a), .val (.int b), .val (.int cI)] [])) _
    refine XS.iloadN X0.here hx rfl (hb hby d2_16) rfl ?_
    show Steps p.tables e below (s₁.setTop (mkF m 17 #[.val (.int a), .val (.int b), .val (.int cI)] [(.int a)])) _
    refine own_i2d X0.here hx rfl (hb hby d2_17) rfl ?_
    show Steps p.tables e below (s₁.setTop (mkF m 18 #[.val (.int a), .val (.int b), .val (.int cI)] [(.double (FP.i2d a))])) _
    exact retOut X0 hx Bd.returns rfl (Or.inr (Or.inr (Or.inl ⟨rfl, rfl, _, rfl⟩))) (hb hby d2_18) hr
  · show Qd1 Z a b cI h0 n0 _ s₁.heap _
    rw [e0]
    exact ⟨_, rfl, N0, rfl, FP.Core.i2d_int a⟩
theorem d2_12 : decode method_2_code 12 = .ok (.ldc2_w 7, 3) := by decide +kernel
theorem d2_15 : decode method_2_code 15 = .ok (.dreturn, 1) := by decide +kernel
set_option maxRecDepth 65536 in
set_option maxHeartbeats 40000000 in
theorem rmDc (l : Launch) (Z : State) (a0 : Array Value) (hw : ∀ d ∈ tables_1, d.before a0 Z = true) (ws : List Jvm.Cond) (a b cI : Int32) (h0 : Heap) (n0 : Nat) (hc1 : a = (0 : Int32)) (hc9 : ¬ ((((b.toUInt32 >>> (cI &&& 31).toUInt32).toInt32) &&& (1 : Int32)) = (0 : Int32))) :
    MetFree l (⟨"com/example/quadrille/quadrille/geometry/SegmentJoinsPinLaw", "toD", "(III)D"⟩ : MethodName) (head1 (Jvm.Cond.code (⟨"com/example/quadrille/quadrille/geometry/SegmentJoinsPinLaw", "toD", "(III)D"⟩ : MethodName) method_2_code 3 (some .double) :: ws) ({ frames := 0, cells := 0, slots := 0, locals := 0 } : Room)) (fun qq U => qq = #[(.int a), (.int b), (.int cI)] ∧ Z.Warmed39 U.vm ∧ U.heap = h0) (fun _ _ _ _ _ => True) (fun _ UU oo UU' => ∃ vv LL, oo = .returned vv ∧ Qd1 Z a b cI h0 n0 vv UU'.heap LL ∧ FrameEnd UU oo UU' LL ({ frames := 0, cells := 0, slots := 0, locals := 0 } : Room).cells ({ frames := 0, cells := 0, slots := 0, locals := 0 } : Room).slots) := by
  refine MetFree.of_bodySF (plainFor_of_name pn_2) hisR ?_
  intro p e s m args below meth c s₁ Bd hml0 hP hK
  obtain ⟨rfl, hZ, hh⟩ := hP
  have hx := Bd.exec
  have hby := Bd.bytes
  have hml : c.maxLocals = 3 := hml0
  have hown : s.vm.findClass "com/example/quadrille/quadrille/geometry/SegmentJoinsPinLaw" = some m.cls := findClass_of_methodNamed Bd.named
  have hnm := (name_of_methodNamed Bd.named Bd.method).1
  have X0 : Stand p l e ({ frames := 0, cells := 0, slots := 0, locals := 0 } : Room) s m #[(.int a), (.int b), (.int cI)] below meth c s₁ [] 0 0 := Stand.of_body Bd
  have e0 : s₁.heap = h0 := by rw [← hh, Bd.state]; rfl
  have N0 := Fr.nil n0
  have pre0 : ∀ t, Steps p.tables e below (s₁.setTop (mkF m 0 #[.val (.int a), .val (.int b), .val (.int cI)] [])) t → Steps p.tables e below (s₁.setTop (entryFrame m #[(.int a), (.int b), (.int cI)] 3)) t := fun tt kk => castTop (ef_2 m a b cI) kk
  obtain ⟨fs, hr, hrun, hended, hW, hsame⟩ := X0.leave (v := some (.double (9223372036854775808 : UInt64))) (fun h => by rw [Bd.returns] at h; cases h)
  refine ⟨_, _, pre0 _ ?_, hrun, hended, _, _, rfl, ?_, ⟨_, rfl⟩, hW, hsame.mono (by decide) (by decide)⟩
  · show Steps p.tables e below (s₁.setTop (mkF m 0 #[.val (.int a), .val (.int b), .val (.int cI)] [])) _
    refine XS.iloadN X0.here hx rfl (hb hby d2_0) rfl ?_
    show Steps p.tables e below (s₁.setTop (mkF m 1 #[.val (.int a), .val (.int b), .val (.int cI)] [(.int a)])) _
    refine XS.ifNo X0.here hx rfl (hb hby d2_1) rfl ((if0 _ _).trans (teq hc1).2) ?_
    show Steps p.tables e below (s₁.setTop (mkF m 4 #[.val (.int a), .val (.int b), .val (.int cI)] [])) _
    refine XS.iloadN X0.here hx rfl (hb hby d2_4) rfl ?_
    show Steps p.tables e below (s₁.setTop (mkF m 5 #[.val (.int a), .val (.int b), .val (.int cI)] [(.int b)])) _
    refine XS.iloadN X0.here hx rfl (hb hby d2_5) rfl ?_
    show Steps p.tables e below (s₁.setTop (mkF m 6 #[.val (.int a), .val (.int b), .val (.int cI)] [(.int cI), (.int b)])) _
    refine XS.iushr X0.here hx rfl (hb hby d2_6) rfl ?_
    show Steps p.tables e below (s₁.setTop (mkF m 7 #[.val (.int a), .val (.int b), .val (.int cI)] [(.int ((b.toUInt32 >>> (cI &&& 31).toUInt32).toInt32))])) _
    refine XS.iconst X0.here hx rfl (hb hby d2_7) ?_
    show Steps p.tables e below (s₁.setTop (mkF m 8 #[.val (.int a), .val (.int b), .val (.int cI)] [(.int (1 : Int32)), (.int ((b.toUInt32 >>> (cI &&& 31).toUInt32).toInt32))])) _
    refine XS.iand X0.here hx rfl (hb hby d2_8) rfl ?_
    show Steps p.tables e below (s₁.setTop (mkF m 9 #[.val (.int a), .val (.int b), .val (.int cI)] [(.int (((b.toUInt32 >>> (cI &&& 31).toUInt32).toInt32) &&& (1 : Int32)))])) _
    refine XS.ifNo X0.here hx rfl (hb hby d2_9) rfl ((if0 _ _).trans (feq hc9).1) ?_
    show Steps p.tables e below (s₁.setTop (mkF m 12 #[.val (.int a), .val (.int b), .val (.int cI)] [])) _
    refine X0.ldc2DoubleC hx hown (mvT hZ (hw _ (List.mem_of_getElem? (i := 36) rfl))) (g := (mkF m 12 #[.val (.int a), .val (.int b), .val (.int cI)] [])) rfl (hb hby d2_12) _ ?_
    show Steps p.tables e below (s₁.setTop (mkF m 15 #[.val (.int a), .val (.int b), .val (.int cI)] [(.double (9223372036854775808 : UInt64))])) _
    exact retOut X0 hx Bd.returns rfl (Or.inr (Or.inr (Or.inl ⟨rfl, rfl, _, rfl⟩))) (hb hby d2_15) hr
  · show Qd1 Z a b cI h0 n0 _ s₁.heap _
    rw [e0]
    exact ⟨_, rfl, N0, rfl, by rw [hc1]; exact own_mz⟩
theorem rmD (l : Launch) (Z : State) (a0 : Array Value) (hw : ∀ d ∈ tables_1, d.before a0 Z = true) (ws : List Jvm.Cond) (a b cI : Int32) (h0 : Heap) (n0 : Nat) :
    MetFree l (⟨"com/example/quadrille/quadrille/geometry/SegmentJoinsPinLaw", "toD", "(III)D"⟩ : MethodName) (head1 (Jvm.Cond.code (⟨"com/example/quadrille/quadrille/geometry/SegmentJoinsPinLaw", "toD", "(III)D"⟩ : MethodName) method_2_code 3 (some .double) :: ws) ({ frames := 0, cells := 0, slots := 0, locals := 0 } : Room)) (fun qq U => qq = #[(.int a), (.int b), (.int cI)] ∧ Z.Warmed39 U.vm ∧ U.heap = h0) (fun _ _ _ _ _ => True) (fun _ UU oo UU' => ∃ vv LL, oo = .returned vv ∧ Qd1 Z a b cI h0 n0 vv UU'.heap LL ∧ FrameEnd UU oo UU' LL ({ frames := 0, cells := 0, slots := 0, locals := 0 } : Room).cells ({ frames := 0, cells := 0, slots := 0, locals := 0 } : Room).slots) := by
  by_cases h1 : a = 0
  · by_cases h2 : (((b.toUInt32 >>> (cI &&& 31).toUInt32).toInt32) &&& (1 : Int32)) = (0 : Int32)
    · exact rmDb l Z a0 hw ws a b cI h0 n0 h1 h2
    · exact rmDc l Z a0 hw ws a b cI h0 n0 h1 h2
  · exact rmDa l Z a0 hw ws a b cI h0 n0 h1
theorem d4_0 : decode jdk_30_method_1_code 0 = .ok (.aload_n 0, 1) := by decide +kernel
theorem d4_1 : decode jdk_30_method_1_code 1 = .ok (.invokespecial 1, 3) := by decide +kernel
theorem d4_4 : decode jdk_30_method_1_code 4 = .ok (.return_, 1) := by decide +kernel
theorem ef_4 (m : MethodId) (x0 : Addr) : entryFrame m #[(.ref x0)] 1 = mkF m 0 #[.val (.ref x0)] [] := by first | (simp [entryFrame, mkF, argsToLocals, Value.category]; done) | rfl
theorem pn_4 : plainName "java/lang/Record" = true := by first | (simp [plainName, overriddenIn]; done) | decide +kernel
def Qd2 (Z : State) (a : Addr) (h0 : Heap) (n0 : Nat) (v : Option Value) (h : Heap) (L : List Loc) : Prop := v = none ∧ Fr n0 L ∧ h = h0
set_option maxRecDepth 65536 in
set_option maxHeartbeats 40000000 in
theorem rmR (l : Launch) (Z : State) (a0 : Array Value) (hw : ∀ d ∈ tables_1, d.before a0 Z = true) (ws : List Jvm.Cond) (a : Addr) (h0 : Heap) (n0 : Nat) :
    MetFree l (⟨"java/lang/Record", "<init>", "()V"⟩ : MethodName) (head1 (Jvm.Cond.code (⟨"java/lang/Record", "<init>", "()V"⟩ : MethodName) jdk_30_method_1_code 1 none :: ws) ({ frames := 1, cells := 0, slots := 0, locals := 12 } : Room)) (fun qq U => qq = #[(.ref a)] ∧ Z.Warmed39 U.vm ∧ U.heap = h0) (fun _ _ _ _ _ => True) (fun _ UU oo UU' => ∃ vv LL, oo = .returned vv ∧ Qd2 Z a h0 n0 vv UU'.heap LL ∧ FrameEnd UU oo UU' LL ({ frames := 1, cells := 0, slots := 0, locals := 12 } : Room).cells ({ frames := 1, cells := 0, slots := 0, locals := 12 } : Room).slots) := by
  refine MetFree.of_bodySF (plainFor_of_name pn_4) hisR ?_
  intro p e s m args below meth c s₁ Bd hml0 hP hK
  obtain ⟨rfl, hZ, hh⟩ := hP
  have hx := Bd.exec
  have hby := Bd.bytes
  have hml : c.maxLocals = 1 := hml0
  have hown : s.vm.findClass "java/lang/Record" = some m.cls := findClass_of_methodNamed Bd.named
  have hnm := (name_of_methodNamed Bd.named Bd.method).1
  have X0 : Stand p l e ({ frames := 1, cells := 0, slots := 0, locals := 12 } : Room) s m #[(.ref a)] below meth c s₁ [] 0 0 := Stand.of_body Bd
  have e0 : s₁.heap = h0 := by rw [← hh, Bd.state]; rfl
  have N0 := Fr.nil n0
  have pre0 : ∀ t, Steps p.tables e below (s₁.setTop (mkF m 0 #[.val (.ref a)] [])) t → Steps p.tables e below (s₁.setTop (entryFrame m #[(.ref a)] 1)) t := fun tt kk => castTop (ef_4 m a) kk
  obtain ⟨T1, X1, e1, st1⟩ := initO X0 hx hZ hown (hw _ (List.mem_of_getElem? (i := 18) rfl)) (hw _ (List.mem_of_getElem? (i := 19) rfl)) (hw _ (List.mem_of_getElem? (i := 20) rfl)) e0 (g := (mkF m 1 #[.val (.ref a)] [(.ref a)])) rfl (by rw [hml]; rfl) rfl (hb hby d4_1) (by decide) (W := 0) (by show 2 * 0 + _ ≤ _; exact Nat.le_of_eq rfl) (by decide)
  obtain ⟨fs, hr, hrun, hended, hW, hsame⟩ := X1.leave (v := none) (fun _ => rfl)
  refine ⟨_, _, pre0 _ ?_, hrun, hended, _, _, rfl, ?_, ⟨_, rfl⟩, hW, hsame.mono (by decide) (by decide)⟩
  · show Steps p.tables e below (s₁.setTop (mkF m 0 #[.val (.ref a)] [])) _
    refine XS.aloadN X0.here hx rfl (hb hby d4_0) rfl rfl ?_
    show Steps p.tables e below (s₁.setTop (mkF m 1 #[.val (.ref a)] [(.ref a)])) _
    refine st1 _ ?_
    show Steps p.tables e below (T1.setTop (mkF m 4 #[.val (.ref a)] [])) _
    exact X1.returnOut hx Bd.returns (hb hby d4_4) hr
  · show Qd2 Z a h0 n0 _ T1.heap _
    rw [e1]
    exact ⟨rfl, N0, rfl⟩
theorem d3_0 : decode prog_26_method_1_code 0 = .ok (.aload_n 0, 1) := by decide +kernel
theorem d3_1 : decode prog_26_method_1_code 1 = .ok (.invokespecial 1, 3) := by decide +kernel
theorem own_pd0 : parseMethodDescriptor "()V" = some ⟨[], none⟩ := by decide +kernel
theorem d3_4 : decode prog_26_method_1_code 4 = .ok (.aload_n 0, 1) := by decide +kernel
theorem d3_5 : decode prog_26_method_1_code 5 = .ok (.lload_n 1, 1) := by decide +kernel
theorem d3_6 : decode prog_26_method_1_code 6 = .ok (.putfield 7, 3) := by decide +kernel
theorem d3_9 : decode prog_26_method_1_code 9 = .ok (.aload_n 0, 1) := by decide +kernel
theorem d3_10 : decode prog_26_method_1_code 10 = .ok (.dload_n 3, 1) := by decide +kernel
theorem d3_11 : decode prog_26_method_1_code 11 = .ok (.putfield 13, 3) := by decide +kernel
theorem d3_14 : decode prog_26_method_1_code 14 = .ok (.aload_n 0, 1) := by decide +kernel
theorem d3_15 : decode prog_26_method_1_code 15 = .ok (.dload 5, 2) := by decide +kernel
theorem d3_17 : decode prog_26_method_1_code 17 = .ok (.putfield 17, 3) := by decide +kernel
theorem d3_20 : decode prog_26_method_1_code 20 = .ok (.aload_n 0, 1) := by decide +kernel
theorem d3_21 : decode prog_26_method_1_code 21 = .ok (.dload 7, 2) := by decide +kernel
theorem d3_23 : decode prog_26_method_1_code 23 = .ok (.putfield 20, 3) := by decide +kernel
theorem d3_26 : decode prog_26_method_1_code 26 = .ok (.aload_n 0, 1) := by decide +kernel
theorem d3_27 : decode prog_26_method_1_code 27 = .ok (.dload 9, 2) := by decide +kernel
theorem d3_29 : decode prog_26_method_1_code 29 = .ok (.putfield 23, 3) := by decide +kernel
theorem d3_32 : decode prog_26_method_1_code 32 = .ok (.return_, 1) := by decide +kernel
theorem ef_3 (m : MethodId) (x0 : Addr) (x1 : Int64) (x2 : UInt64) (x3 : UInt64) (x4 : UInt64) (x5 : UInt64) : entryFrame m #[(.ref x0), (.long x1), (.double x2), (.double x3), (.double x4), (.double x5)] 11 = mkF m 0 #[.val (.ref x0), .val (.long x1), .second, .val (.double x2), .second, .val (.double x3), .second, .val (.double x4), .second, .val (.double x5), .second] [] := by first | (simp [entryFrame, mkF, argsToLocals, Value.category]; done) | rfl
theorem pn_3 : plainName "com/example/quadrille/quadrille/geometry/Segment" = true := by first | (simp [plainName, overriddenIn]; done) | decide +kernel
def Qd3 (Z : State) (a : Addr) (i : Int64) (x1 y1 x2 y2 : UInt64) (h0 : Heap) (n0 : Nat) (v : Option Value) (h : Heap) (L : List Loc) : Prop := v = none ∧ Fr n0 L ∧ Keep h0 h [a] ∧ Fld Z h a "com/example/quadrille/quadrille/geometry/Segment" "x1" "D" (.double x1) ∧ Fld Z h a "com/example/quadrille/quadrille/geometry/Segment" "y1" "D" (.double y1) ∧ Fld Z h a "com/example/quadrille/quadrille/geometry/Segment" "x2" "D" (.double x2) ∧ Fld Z h a "com/example/quadrille/quadrille/geometry/Segment" "y2" "D" (.double y2)
set_option maxRecDepth 65536 in
set_option maxHeartbeats 40000000 in
theorem rmS (l : Launch) (Z : State) (a0 : Array Value) (hw : ∀ d ∈ tables_1, d.before a0 Z = true) (ws : List Jvm.Cond) (a : Addr) (i : Int64) (x1 y1 x2 y2 : UInt64) (h0 : Heap) (n0 : Nat) (O0 : Old Z n0 h0) (g_a : n0 ≤ a) (E_a : Exa Z h0 a "com/example/quadrille/quadrille/geometry/Segment") (F_id : Fld Z h0 a "com/example/quadrille/quadrille/geometry/Segment" "id" "J" (.long (0 : Int64))) (F_x1 : Fld Z h0 a "com/example/quadrille/quadrille/geometry/Segment" "x1" "D" (.double (0 : UInt64))) (F_y1 : Fld Z h0 a "com/example/quadrille/quadrille/geometry/Segment" "y1" "D" (.double (0 : UInt64))) (F_x2 : Fld Z h0 a "com/example/quadrille/quadrille/geometry/Segment" "x2" "D" (.double (0 : UInt64))) (F_y2 : Fld Z h0 a "com/example/quadrille/quadrille/geometry/Segment" "y2" "D" (.double (0 : UInt64))) :
    MetFree l (⟨"com/example/quadrille/quadrille/geometry/Segment", "<init>", "(JDDDD)V"⟩ : MethodName) (head1 (Jvm.Cond.code (⟨"com/example/quadrille/quadrille/geometry/Segment", "<init>", "(JDDDD)V"⟩ : MethodName) prog_26_method_1_code 11 none :: ws) ({ frames := 2, cells := 0, slots := 0, locals := 24 } : Room)) (fun qq U => qq = #[(.ref a), (.long i), (.double x1), (.double y1), (.double x2), (.double y2)] ∧ Z.Warmed39 U.vm ∧ U.heap = h0) (fun _ _ _ _ _ => True) (fun _ UU oo UU' => ∃ vv LL, oo = .returned vv ∧ Qd3 Z a i x1 y1 x2 y2 h0 n0 vv UU'.heap LL ∧ FrameEnd UU oo UU' LL ({ frames := 2, cells := 0, slots := 0, locals := 24 } : Room).cells ({ frames := 2, cells := 0, slots := 0, locals := 24 } : Room).slots) := by
  refine MetFree.of_bodySF (plainFor_of_name pn_3) hisR ?_
  intro p e s m args below meth c s₁ Bd hml0 hP hK
  obtain ⟨rfl, hZ, hh⟩ := hP
  have hx := Bd.exec
  have hby := Bd.bytes
  have hml : c.maxLocals = 11 := hml0
  have hown : s.vm.findClass "com/example/quadrille/quadrille/geometry/Segment" = some m.cls := findClass_of_methodNamed Bd.named
  have hnm := (name_of_methodNamed Bd.named Bd.method).1
  have X0 : Stand p l e ({ frames := 2, cells := 0, slots := 0, locals := 24 } : Room) s m #[(.ref a), (.long i), (.double x1), (.double y1), (.double x2), (.double y2)] below meth c s₁ [] 0 0 := Stand.of_body Bd
  have e0 : s₁.heap = h0 := by rw [← hh, Bd.state]; rfl
  have N0 := Fr.nil n0
  have pre0 : ∀ t, Steps p.tables e below (s₁.setTop (mkF m 0 #[.val (.ref a), .val (.long i), .second, .val (.double x1), .second, .val (.double y1), .second, .val (.double x2), .second, .val (.double y2), .second] [])) t → Steps p.tables e below (s₁.setTop (entryFrame m #[(.ref a), (.long i), (.double x1), (.double y1), (.double x2), (.double y2)] 11)) t := fun tt kk => castTop (ef_3 m a i x1 y1 x2 y2) kk
  obtain ⟨_, _, ⟨T1, L1, k1, n1⟩, -, X1, ⟨Lc1, hQ1, l1, y1, z1⟩, st1⟩ := X0.specialBack hx (y := (⟨"java/lang/Record", "<init>", "()V"⟩ : MethodName)) rfl hown (mvT hZ (hw _ (List.mem_of_getElem? (i := 13) rfl))) (mvT hZ (hw _ (List.mem_of_getElem? (i := 14) rfl))) (mvT hZ (hw _ (List.mem_of_getElem? (i := 17) rfl))) (by decide) (backOf (W := 0) (rmR l Z a0 hw [] a h0 n0) hZ (hw _ (List.mem_of_getElem? (i := 17) rfl)) (hw _ (List.mem_of_getElem? (i := 16) rfl)) (by decide) (by decide)) (g := (mkF m 1 #[.val (.ref a), .val (.long i), .second, .val (.double x1), .second, .val (.double y1), .second, .val (.double x2), .second, .val (.double y2), .second] [(.ref a)])) rfl (by rw [hml]; rfl) (Steps.refl _) (a := a) (argsL := []) (rest := []) (lenOf own_pd0 rfl) rfl (by show 2 * 0 + _ ≤ _; exact Nat.le_of_eq rfl) (hb hby d3_1) (fun _ _ => ⟨rfl, e0, (by decide : 0 + 0 ≤ _), (by decide : 0 + 0 ≤ _)⟩)
  dsimp only [Pt.U, Pt.locs, Pt.cells, Pt.slots] at X1 l1 y1 z1 st1 hQ1
  subst l1 y1 z1
  obtain ⟨rfl, N1q, e1⟩ := hQ1
  have N1 := Fr.app N0 N1q
  obtain ⟨T2, h2, X2, e2, W2, st2⟩ := putF X1 hx hZ hown (host := "") (Or.inl (hw _ (List.mem_of_getElem? (i := 21) rfl))) Via.refl e1 F_id E_a (Or.inr ⟨(hw _ (List.mem_of_getElem? (i := 22) rfl)), rfl, hnm⟩) (hw _ (List.mem_of_getElem? (i := 5) rfl)) (ty := .long) (by decide) rfl rfl (g := (mkF m 6 #[.val (.ref a), .val (.long i), .second, .val (.double x1), .second, .val (.double y1), .second, .val (.double x2), .second, .val (.double y2), .second] [(.long i), (.ref a)])) rfl rfl (hb hby d3_6)
  have Fw2 := Fld.same W2 F_id
  have N2 := Fr.snoc X2 N1 g_a
  have O2 := Old.wr O0 W2 g_a
  have K2 := Keep.wr (Keep.refl h0 [a]) W2 (Or.inl (List.mem_of_getElem? (i := 0) rfl))
  have c3 := (Fld.other W2 F_x1 (Or.inr (slot_ne (a0 := a0) (Or.inr (hw _ (List.mem_of_getElem? (i := 24) rfl))) (Or.inr (hw _ (List.mem_of_getElem? (i := 22) rfl))) (by decide) (t := .double) (t' := .long) (by decide) (by decide))))
  obtain ⟨T4, h4, X4, e4, W4, st4⟩ := putF X2 hx hZ hown (host := "") (Or.inl (hw _ (List.mem_of_getElem? (i := 23) rfl))) Via.refl e2 c3 (Exa.wr W2 E_a) (Or.inr ⟨(hw _ (List.mem_of_getElem? (i := 24) rfl)), rfl, hnm⟩) (hw _ (List.mem_of_getElem? (i := 5) rfl)) (ty := .double) (by decide) rfl rfl (g := (mkF m 11 #[.val (.ref a), .val (.long i), .second, .val (.double x1), .second, .val (.double y1), .second, .val (.double x2), .second, .val (.double y2), .second] [(.double x1), (.ref a)])) rfl rfl (hb hby d3_11)
  have Fw4 := Fld.same W4 c3
  have N4 := Fr.snoc X4 N2 g_a
  have O4 := Old.wr O2 W4 g_a
  have K4 := Keep.wr K2 W4 (Or.inl (List.mem_of_getElem? (i := 0) rfl))
  have c5 := (Fld.other W4 (Fld.other W2 F_y1 (Or.inr (slot_ne (a0 := a0) (Or.inr (hw _ (List.mem_of_getElem? (i := 26) rfl))) (Or.inr (hw _ (List.mem_of_getElem? (i := 22) rfl))) (by decide) (t := .double) (t' := .long) (by decide) (by decide)))) (Or.inr (slot_ne (a0 := a0) (Or.inr (hw _ (List.mem_of_getElem? (i := 26) rfl))) (Or.inr (hw _ (List.mem_of_getElem? (i := 24) rfl))) (by decide) (t := .double) (t' := .double) (by decide) (by decide))))
  obtain ⟨T6, h6, X6, e6, W6, st6⟩ := putF X4 hx hZ hown (host := "") (Or.inl (hw _ (List.mem_of_getElem? (i := 25) rfl))) Via.refl e4 c5 (Exa.wr W4 (Exa.wr W2 E_a)) (Or.inr ⟨(hw _ (List.mem_of_getElem? (i := 26) rfl)), rfl, hnm⟩) (hw _ (List.mem_of_getElem? (i := 5) rfl)) (ty := .double) (by decide) rfl rfl (g := (mkF m 17 #[.val (.ref a), .val (.long i), .second, .val (.double x1), .second, .val (.double y1), .second, .val (.double x2), .second, .val (.double y2), .second] [(.double y1), (.ref a)])) rfl rfl (hb hby d3_17)
  have Fw6 := Fld.same W6 c5
  have N6 := Fr.snoc X6 N4 g_a
  have O6 := Old.wr O4 W6 g_a
  have K6 := Keep.wr K4 W6 (Or.inl (List.mem_of_getElem? (i := 0) rfl))
  have c7 := (Fld.other W6 (Fld.other W4 (Fld.other W2 F_x2 (Or.inr (slot_ne (a0 := a0) (Or.inr (hw _ (List.mem_of_getElem? (i := 28) rfl))) (Or.inr (hw _ (List.mem_of_getElem? (i := 22) rfl))) (by decide) (t := .double) (t' := .long) (by decide) (by decide)))) (Or.inr (slot_ne (a0 := a0) (Or.inr (hw _ (List.mem_of_getElem? (i := 28) rfl))) (Or.inr (hw _ (List.mem_of_getElem? (i := 24) rfl))) (by decide) (t := .double) (t' := .double) (by decide) (by decide)))) (Or.inr (slot_ne (a0 := a0) (Or.inr (hw _ (List.mem_of_getElem? (i := 28) rfl))) (Or.inr (hw _ (List.mem_of_getElem? (i := 26) rfl))) (by decide) (t := .double) (t' := .double) (by decide) (by decide))))
  obtain ⟨T8, h8, X8, e8, W8, st8⟩ := putF X6 hx hZ hown (host := "") (Or.inl (hw _ (List.mem_of_getElem? (i := 27) rfl))) Via.refl e6 c7 (Exa.wr W6 (Exa.wr W4 (Exa.wr W2 E_a))) (Or.inr ⟨(hw _ (List.mem_of_getElem? (i := 28) rfl)), rfl, hnm⟩) (hw _ (List.mem_of_getElem? (i := 5) rfl)) (ty := .double) (by decide) rfl rfl (g := (mkF m 23 #[.val (.ref a), .val (.long i), .second, .val (.double x1), .second, .val (.double y1), .second, .val (.double x2), .second, .val (.double y2), .second] [(.double x2), (.ref a)])) rfl rfl (hb hby d3_23)
  have Fw8 := Fld.same W8 c7
  have N8 := Fr.snoc X8 N6 g_a
  have O8 := Old.wr O6 W8 g_a
  have K8 := Keep.wr K6 W8 (Or.inl (List.mem_of_getElem? (i := 0) rfl))
  have c9 := (Fld.other W8 (Fld.other W6 (Fld.other W4 (Fld.other W2 F_y2 (Or.inr (slot_ne (a0 := a0) (Or.inr (hw _ (List.mem_of_getElem? (i := 30) rfl))) (Or.inr (hw _ (List.mem_of_getElem? (i := 22) rfl))) (by decide) (t := .double) (t' := .long) (by decide) (by decide)))) (Or.inr (slot_ne (a0 := a0) (Or.inr (hw _ (List.mem_of_getElem? (i := 30) rfl))) (Or.inr (hw _ (List.mem_of_getElem? (i := 24) rfl))) (by decide) (t := .double) (t' := .double) (by decide) (by decide)))) (Or.inr (slot_ne (a0 := a0) (Or.inr (hw _ (List.mem_of_getElem? (i := 30) rfl))) (Or.inr (hw _ (List.mem_of_getElem? (i := 26) rfl))) (by decide) (t := .double) (t' := .double) (by decide) (by decide)))) (Or.inr (slot_ne (a0 := a0) (Or.inr (hw _ (List.mem_of_getElem? (i := 30) rfl))) (Or.inr (hw _ (List.mem_of_getElem? (i := 28) rfl))) (by decide) (t := .double) (t' := .double) (by decide) (by decide))))
  obtain ⟨T10, h10, X10, e10, W10, st10⟩ := putF X8 hx hZ hown (host := "") (Or.inl (hw _ (List.mem_of_getElem? (i := 29) rfl))) Via.refl e8 c9 (Exa.wr W8 (Exa.wr W6 (Exa.wr W4 (Exa.wr W2 E_a)))) (Or.inr ⟨(hw _ (List.mem_of_getElem? (i := 30) rfl)), rfl, hnm⟩) (hw _ (List.mem_of_getElem? (i := 5) rfl)) (ty := .double) (by decide) rfl rfl (g := (mkF m 29 #[.val (.ref a), .val (.long i), .second, .val (.double x1), .second, .val (.double y1), .second, .val (.double x2), .second, .val (.double y2), .second] [(.double y2), (.ref a)])) rfl rfl (hb hby d3_29)
  have Fw10 := Fld.same W10 c9
  have N10 := Fr.snoc X10 N8 g_a
  have O10 := Old.wr O8 W10 g_a
  have K10 := Keep.wr K8 W10 (Or.inl (List.mem_of_getElem? (i := 0) rfl))
  have c11 := (Fld.other W10 (Fld.other W8 (Fld.other W6 Fw4 (Or.inr (slot_ne (a0 := a0) (Or.inr (hw _ (List.mem_of_getElem? (i := 24) rfl))) (Or.inr (hw _ (List.mem_of_getElem? (i := 26) rfl))) (by decide) (t := .double) (t' := .double) (by decide) (by decide)))) (Or.inr (slot_ne (a0 := a0) (Or.inr (hw _ (List.mem_of_getElem? (i := 24) rfl))) (Or.inr (hw _ (List.mem_of_getElem? (i := 28) rfl))) (by decide) (t := .double) (t' := .double) (by decide) (by decide)))) (Or.inr (slot_ne (a0 := a0) (Or.inr (hw _ (List.mem_of_getElem? (i := 24) rfl))) (Or.inr (hw _ (List.mem_of_getElem? (i := 30) rfl))) (by decide) (t := .double) (t' := .double) (by decide) (by decide))))
  have c12 := (Fld.other W10 (Fld.other W8 Fw6 (Or.inr (slot_ne (a0 := a0) (Or.inr (hw _ (List.mem_of_getElem? (i := 26) rfl))) (Or.inr (hw _ (List.mem_of_getElem? (i := 28) rfl))) (by decide) (t := .double) (t' := .double) (by decide) (by decide)))) (Or.inr (slot_ne (a0 := a0) (Or.inr (hw _ (List.mem_of_getElem? (i := 26) rfl))) (Or.inr (hw _ (List.mem_of_getElem? (i := 30) rfl))) (by decide) (t := .double) (t' := .double) (by decide) (by decide))))
  have c13 := (Fld.other W10 Fw8 (Or.inr (slot_ne (a0 := a0) (Or.inr (hw _ (List.mem_of_getElem? (i := 28) rfl))) (Or.inr (hw _ (List.mem_of_getElem? (i := 30) rfl))) (by decide) (t := .double) (t' := .double) (by decide) (by decide))))
  obtain ⟨fs, hr, hrun, hended, hW, hsame⟩ := X10.leave (v := none) (fun _ => rfl)
  refine ⟨_, _, pre0 _ ?_, hrun, hended, _, _, rfl, ?_, ⟨_, rfl⟩, hW, hsame.mono (by decide) (by decide)⟩
  · show Steps p.tables e below (s₁.setTop (mkF m 0 #[.val (.ref a), .val (.long i), .second, .val (.double x1), .second, .val (.double y1), .second, .val (.double x2), .second, .val (.double y2), .second] [])) _
    refine XS.aloadN X0.here hx rfl (hb hby d3_0) rfl rfl ?_
    show Steps p.tables e below (s₁.setTop (mkF m 1 #[.val (.ref a), .val (.long i), .second, .val (.double x1), .second, .val (.double y1), .second, .val (.double x2), .second, .val (.double y2), .second] [(.ref a)])) _
    refine st1.trans ?_
    show Steps p.tables e below (T1.setTop (mkF m 4 #[.val (.ref a), .val (.long i), .second, .val (.double x1), .second, .val (.double y1), .second, .val (.double x2), .second, .val (.double y2), .second] [])) _
    refine XS.aloadN X1.here hx rfl (hb hby d3_4) rfl rfl ?_
    show Steps p.tables e below (T1.setTop (mkF m 5 #[.val (.ref a), .val (.long i), .second, .val (.double x1), .second, .val (.double y1), .second, .val (.double x2), .second, .val (.double y2), .second] [(.ref a)])) _
    refine XS.lloadN X1.here hx rfl (hb hby d3_5) rfl ?_
    show Steps p.tables e below (T1.setTop (mkF m 6 #[.val (.ref a), .val (.long i), .second, .val (.double x1), .second, .val (.double y1), .second, .val (.double x2), .second, .val (.double y2), .second] [(.long i), (.ref a)])) _
    refine st2 _ ?_
    show Steps p.tables e below (T2.setTop (mkF m 9 #[.val (.ref a), .val (.long i), .second, .val (.double x1), .second, .val (.double y1), .second, .val (.double x2), .second, .val (.double y2), .second] [])) _
    refine XS.aloadN X2.here hx rfl (hb hby d3_9) rfl rfl ?_
    show Steps p.tables e below (T2.setTop (mkF m 10 #[.val (.ref a), .val (.long i), .second, .val (.double x1), .second, .val (.double y1), .second, .val (.double x2), .second, .val (.double y2), .second] [(.ref a)])) _
    refine own_dloadN X2.here hx rfl (hb hby d3_10) rfl ?_
    show Steps p.tables e below (T2.setTop (mkF m 11 #[.val (.ref a), .val (.long i), .second, .val (.double x1), .second, .val (.double y1), .second, .val (.double x2), .second, .val (.double y2), .second] [(.double x1), (.ref a)])) _
    refine st4 _ ?_
    show Steps p.tables e below (T4.setTop (mkF m 14 #[.val (.ref a), .val (.long i), .second, .val (.double x1), .second, .val (.double y1), .second, .val (.double x2), .second, .val (.double y2), .second] [])) _
    refine XS.aloadN X4.here hx rfl (hb hby d3_14) rfl rfl ?_
    show Steps p.tables e below (T4.setTop (mkF m 15 #[.val (.ref a), .val (.long i), .second, .val (.double x1), .second, .val (.double y1), .second, .val (.double x2), .second, .val (.double y2), .second] [(.ref a)])) _
    refine own_dload X4.here hx rfl (hb hby d3_15) rfl ?_
    show Steps p.tables e below (T4.setTop (mkF m 17 #[.val (.ref a), .val (.long i), .second, .val (.double x1), .second, .val (.double y1), .second, .val (.double x2), .second, .val (.double y2), .second] [(.double y1), (.ref a)])) _
    refine st6 _ ?_
    show Steps p.tables e below (T6.setTop (mkF m 20 #[.val (.ref a), .val (.long i), .second, .val (.double x1), .second, .val (.double y1), .second, .val (.double x2), .second, .val (.double y2), .second] [])) _
    refine XS.aloadN X6.here hx rfl (hb hby d3_20) rfl rfl ?_
    show Steps p.tables e below (T6.setTop (mkF m 21 #[.val (.ref a), .val (.long i), .second, .val (.double x1), .second, .val (.double y1), .second, .val (.double x2), .second, .val (.double y2), .second] [(.ref a)])) _
    refine own_dload X6.here hx rfl (hb hby d3_21) rfl ?_
    show Steps p.tables e below (T6.setTop (mkF m 23 #[.val (.ref a), .val (.long i), .second, .val (.double x1), .second, .val (.double y1), .second, .val (.double x2), .second, .val (.double y2), .second] [(.double x2), (.ref a)])) _
    refine st8 _ ?_
    show Steps p.tables e below (T8.setTop (mkF m 26 #[.val (.ref a), .val (.long i), .second, .val (.double x1), .second, .val (.double y1), .second, .val (.double x2), .second, .val (.double y2), .second] [])) _
    refine XS.aloadN X8.here hx rfl (hb hby d3_26) rfl rfl ?_
    show Steps p.tables e below (T8.setTop (mkF m 27 #[.val (.ref a), .val (.long i), .second, .val (.double x1), .second, .val (.double y1), .second, .val (.double x2), .second, .val (.double y2), .second] [(.ref a)])) _
    refine own_dload X8.here hx rfl (hb hby d3_27) rfl ?_
    show Steps p.tables e below (T8.setTop (mkF m 29 #[.val (.ref a), .val (.long i), .second, .val (.double x1), .second, .val (.double y1), .second, .val (.double x2), .second, .val (.double y2), .second] [(.double y2), (.ref a)])) _
    refine st10 _ ?_
    show Steps p.tables e below (T10.setTop (mkF m 32 #[.val (.ref a), .val (.long i), .second, .val (.double x1), .second, .val (.double y1), .second, .val (.double x2), .second, .val (.double y2), .second] [])) _
    exact X10.returnOut hx Bd.returns (hb hby d3_32) hr
  · show Qd3 Z a i x1 y1 x2 y2 h0 n0 _ T10.heap _
    rw [e10]
    exact ⟨rfl, N10, K10, c11, c12, c13, Fw10⟩
theorem d6_0 : decode prog_26_method_3_code 0 = .ok (.aload_n 0, 1) := by decide +kernel
theorem d6_1 : decode prog_26_method_3_code 1 = .ok (.getfield 13, 3) := by decide +kernel
theorem d6_4 : decode prog_26_method_3_code 4 = .ok (.dload_n 1, 1) := by decide +kernel
theorem d6_5 : decode prog_26_method_3_code 5 = .ok (.dcmp .l, 1) := by decide +kernel
theorem d6_6 : decode prog_26_method_3_code 6 = .ok (.ifCond .ne 36, 3) := by decide +kernel
theorem d6_42 : decode prog_26_method_3_code 42 = .ok (.iconst 0, 1) := by decide +kernel
theorem d6_43 : decode prog_26_method_3_code 43 = .ok (.istore 9, 2) := by decide +kernel
set_option maxRecDepth 65536 in
set_option maxHeartbeats 40000000 in
theorem jA0 {p : Program} {l : Launch} {e : Env} {R : Room} {s : State} {m : MethodId} {args : Array Value} {below : List Frame} {meth : Method} {c : Code} {T0 : State} {locs : List Loc} {cells slots : Nat} {Z : State} {a0 : Array Value} {h0 : Heap} (X0 : Stand p l e R s m args below meth c T0 locs cells slots) (hx : p.tables.exec = Jvm.exec) (hZ : Z.Warmed39 s.vm) (hw : ∀ d ∈ tables_1, d.before a0 Z = true) (hby : c.code = prog_26_method_3_code) (hown : s.vm.findClass "com/example/quadrille/quadrille/geometry/Segment" = some m.cls) (e0 : T0.heap = h0) (o : Addr) (a1 a2 a3 a4 b1 b2 b3 b4 : UInt64)  (FA1 : Fld Z h0 o "com/example/quadrille/quadrille/geometry/Segment" "x1" "D" (.double a1)) (FA2 : Fld Z h0 o "com/example/quadrille/quadrille/geometry/Segment" "y1" "D" (.double a2)) (FA3 : Fld Z h0 o "com/example/quadrille/quadrille/geometry/Segment" "x2" "D" (.double a3)) (FA4 : Fld Z h0 o "com/example/quadrille/quadrille/geometry/Segment" "y2" "D" (.double a4)) (hc6 : ¬ ((cmpValue (FP.dcmp a1 b1) .l) = (0 : Int32))) :
    ∃ (T' : State), Stand p l e R s m args below meth c T' locs cells slots ∧ T'.heap = h0 ∧ ∀ target, Steps p.tables e below (T'.setTop (mkF m 45 #[.val (.ref o), .val (.double b1), .second, .val (.double b2), .second, .val (.double b3), .second, .val (.double b4), .second, .val (.int (0 : Int32)), .unset] [])) target → Steps p.tables e below (T0.setTop (mkF m 0 #[.val (.ref o), .val (.double b1), .second, .val (.double b2), .second, .val (.double b3), .second, .val (.double b4), .second, .unset, .unset] [])) target := by
  obtain ⟨T1, X1, e1, st1⟩ := getF X0 hx hZ hown (host := "") (Or.inl (hw _ (List.mem_of_getElem? (i := 23) rfl))) Via.refl e0 FA1 (g := (mkF m 1 #[.val (.ref o), .val (.double b1), .second, .val (.double b2), .second, .val (.double b3), .second, .val (.double b4), .second, .unset, .unset] [(.ref o)])) rfl rfl (hb hby d6_1)
  refine ⟨T1, X1, e1, fun target kt => ?_⟩
  show Steps p.tables e below (T0.setTop (mkF m 0 #[.val (.ref o), .val (.double b1), .second, .val (.double b2), .second, .val (.double b3), .second, .val (.double b4), .second, .unset, .unset] [])) _
  refine XS.aloadN X0.here hx rfl (hb hby d6_0) rfl rfl ?_
  show Steps p.tables e below (T0.setTop (mkF m 1 #[.val (.ref o), .val (.double b1), .second, .val (.double b2), .second, .val (.double b3), .second, .val (.double b4), .second, .unset, .unset] [(.ref o)])) _
  refine st1 _ ?_
  show Steps p.tables e below (T1.setTop (mkF m 4 #[.val (.ref o), .val (.double b1), .second, .val (.double b2), .second, .val (.double b3), .second, .val (.double b4), .second, .unset, .unset] [(.double a1)])) _
  refine own_dloadN X1.here hx rfl (hb hby d6_4) rfl ?_
  show Steps p.tables e below (T1.setTop (mkF m 5 #[.val (.ref o), .val (.double b1), .second, .val (.double b2), .second, .val (.double b3), .second, .val (.double b4), .second, .unset, .unset] [(.double b1), (.double a1)])) _
  refine own_dcmp X1.here hx rfl (hb hby d6_5) rfl ?_
  show Steps p.tables e below (T1.setTop (mkF m 6 #[.val (.ref o), .val (.double b1), .second, .val (.double b2), .second, .val (.double b3), .second, .val (.double b4), .second, .unset, .unset] [(.int (cmpValue (FP.dcmp a1 b1) .l))])) _
  refine XS.ifYes X1.here hx rfl (pc0 := 6) (pc' := 42) rfl (hb hby d6_6) rfl ((if0 _ _).trans (feq hc6).2) (by decide) (by decide) ?_
  show Steps p.tables e below (T1.setTop (mkF m 42 #[.val (.ref o), .val (.double b1), .second, .val (.double b2), .second, .val (.double b3), .second, .val (.double b4), .second, .unset, .unset] [])) _
  refine XS.iconst X1.here hx rfl (hb hby d6_42) ?_
  show Steps p.tables e below (T1.setTop (mkF m 43 #[.val (.ref o), .val (.double b1), .second, .val (.double b2), .second, .val (.double b3), .second, .val (.double b4), .second, .unset, .unset] [(.int (0 : Int32))])) _
  refine XS.istore X1.here hx rfl (hb hby d6_43) rfl (l' := #[.val (.ref o), .val (.double b1), .second, .val (.double b2), .second, .val (.double b3), .second, .val (.double b4), .second, .val (.int (0 : Int32)), .unset]) rfl ?_
  exact kt
theorem d6_9 : decode prog_26_method_3_code 9 = .ok (.aload_n 0, 1) := by decide +kernel
theorem d6_10 : decode prog_26_method_3_code 10 = .ok (.getfield 17, 3) := by decide +kernel
theorem d6_13 : decode prog_26_method_3_code 13 = .ok (.dload_n 3, 1) := by decide +kernel
theorem d6_14 : decode prog_26_method_3_code 14 = .ok (.dcmp .l, 1) := by decide +kernel
theorem d6_15 : decode prog_26_method_3_code 15 = .ok (.ifCond .ne 27, 3) := by decide +kernel
set_option maxRecDepth 65536 in
set_option maxHeartbeats 40000000 in
theorem jA1 {p : Program} {l : Launch} {e : Env} {R : Room} {s : State} {m : MethodId} {args : Array Value} {below : List Frame} {meth : Method} {c : Code} {T0 : State} {locs : List Loc} {cells slots : Nat} {Z : State} {a0 : Array Value} {h0 : Heap} (X0 : Stand p l e R s m args below meth c T0 locs cells slots) (hx : p.tables.exec = Jvm.exec) (hZ : Z.Warmed39 s.vm) (hw : ∀ d ∈ tables_1, d.before a0 Z = true) (hby : c.code = prog_26_method_3_code) (hown : s.vm.findClass "com/example/quadrille/quadrille/geometry/Segment" = some m.cls) (e0 : T0.heap = h0) (o : Addr) (a1 a2 a3 a4 b1 b2 b3 b4 : UInt64)  (FA1 : Fld Z h0 o "com/example/quadrille/quadrille/geometry/Segment" "x1" "D" (.double a1)) (FA2 : Fld Z h0 o "com/example/quadrille/quadrille/geometry/Segment" "y1" "D" (.double a2)) (FA3 : Fld Z h0 o "com/example/quadrille/quadrille/geometry/Segment" "x2" "D" (.double a3)) (FA4 : Fld Z h0 o "com/example/quadrille/quadrille/geometry/Segment" "y2" "D" (.double a4)) (hc6 : (cmpValue (FP.dcmp a1 b1) .l) = (0 : Int32)) (hc15 : ¬ ((cmpValue (FP.dcmp a2 b2) .l) = (0 : Int32))) :
    ∃ (T' : State), Stand p l e R s m args below meth c T' locs cells slots ∧ T'.heap = h0 ∧ ∀ target, Steps p.tables e below (T'.setTop (mkF m 45 #[.val (.ref o), .val (.double b1), .second, .val (.double b2), .second, .val (.double b3), .second, .val (.double b4), .second, .val (.int (0 : Int32)), .unset] [])) target → Steps p.tables e below (T0.setTop (mkF m 0 #[.val (.ref o), .val (.double b1), .second, .val (.double b2), .second, .val (.double b3), .second, .val (.double b4), .second, .unset, .unset] [])) target := by
  obtain ⟨T1, X1, e1, st1⟩ := getF X0 hx hZ hown (host := "") (Or.inl (hw _ (List.mem_of_getElem? (i := 23) rfl))) Via.refl e0 FA1 (g := (mkF m 1 #[.val (.ref o), .val (.double b1), .second, .val (.double b2), .second, .val (.double b3), .second, .val (.double b4), .second, .unset, .unset] [(.ref o)])) rfl rfl (hb hby d6_1)
  obtain ⟨T2, X2, e2, st2⟩ := getF X1 hx hZ hown (host := "") (Or.inl (hw _ (List.mem_of_getElem? (i := 25) rfl))) Via.refl e1 FA2 (g := (mkF m 10 #[.val (.ref o), .val (.double b1), .second, .val (.double b2), .second, .val (.double b3), .second, .val (.double b4), .second, .unset, .unset] [(.ref o)])) rfl rfl (hb hby d6_10)
  refine ⟨T2, X2, e2, fun target kt => ?_⟩
  show Steps p.tables e below (T0.setTop (mkF m 0 #[.val (.ref o), .val (.double b1), .second, .val (.double b2), .second, .val (.double b3), .second, .val (.double b4), .second, .unset, .unset] [])) _
  refine XS.aloadN X0.here hx rfl (hb hby d6_0) rfl rfl ?_
  show Steps p.tables e below (T0.setTop (mkF m 1 #[.val (.ref o), .val (.double b1), .second, .val (.double b2), .second, .val (.double b3), .second, .val (.double b4), .second, .unset, .unset] [(.ref o)])) _
  refine st1 _ ?_
  show Steps p.tables e below (T1.setTop (mkF m 4 #[.val (.ref o), .val (.double b1), .second, .val (.double b2), .second, .val (.double b3), .second, .val (.double b4), .second, .unset, .unset] [(.double a1)])) _
  refine own_dloadN X1.here hx rfl (hb hby d6_4) rfl ?_
  show Steps p.tables e below (T1.setTop (mkF m 5 #[.val (.ref o), .val (.double b1), .second, .val (.double b2), .second, .val (.double b3), .second, .val (.double b4), .second, .unset, .unset] [(.double b1), (.double a1)])) _
  refine own_dcmp X1.here hx rfl (hb hby d6_5) rfl ?_
  show Steps p.tables e below (T1.setTop (mkF m 6 #[.val (.ref o), .val (.double b1), .second, .val (.double b2), .second, .val (.double b3), .second, .val (.double b4), .second, .unset, .unset] [(.int (cmpValue (FP.dcmp a1 b1) .l))])) _
  refine XS.ifNo X1.here hx rfl (hb hby d6_6) rfl ((if0 _ _).trans (teq hc6).2) ?_
  show Steps p.tables e below (T1.setTop (mkF m 9 #[.val (.ref o), .val (.double b1), .second, .val (.double b2), .second, .val (.double b3), .second, .val (.double b4), .second, .unset, .unset] [])) _
  refine XS.aloadN X1.here hx rfl (hb hby d6_9) rfl rfl ?_
  show Steps p.tables e below (T1.setTop (mkF m 10 #[.val (.ref o), .val (.double b1), .second, .val (.double b2), .second, .val (.double b3), .second, .val (.double b4), .second, .unset, .unset] [(.ref o)])) _
  refine st2 _ ?_
  show Steps p.tables e below (T2.setTop (mkF m 13 #[.val (.ref o), .val (.double b1), .second, .val (.double b2), .second, .val (.double b3), .second, .val (.double b4), .second, .unset, .unset] [(.double a2)])) _
  refine own_dloadN X2.here hx rfl (hb hby d6_13) rfl ?_
  show Steps p.tables e below (T2.setTop (mkF m 14 #[.val (.ref o), .val (.double b1), .second, .val (.double b2), .second, .val (.double b3), .second, .val (.double b4), .second, .unset, .unset] [(.double b2), (.double a2)])) _
  refine own_dcmp X2.here hx rfl (hb hby d6_14) rfl ?_
  show Steps p.tables e below (T2.setTop (mkF m 15 #[.val (.ref o), .val (.double b1), .second, .val (.double b2), .second, .val (.double b3), .second, .val (.double b4), .second, .unset, .unset] [(.int (cmpValue (FP.dcmp a2 b2) .l))])) _
  refine XS.ifYes X2.here hx rfl (pc0 := 15) (pc' := 42) rfl (hb hby d6_15) rfl ((if0 _ _).trans (feq hc15).2) (by decide) (by decide) ?_
  show Steps p.tables e below (T2.setTop (mkF m 42 #[.val (.ref o), .val (.double b1), .second, .val (.double b2), .second, .val (.double b3), .second, .val (.double b4), .second, .unset, .unset] [])) _
  refine XS.iconst X2.here hx rfl (hb hby d6_42) ?_
  show Steps p.tables e below (T2.setTop (mkF m 43 #[.val (.ref o), .val (.double b1), .second, .val (.double b2), .second, .val (.double b3), .second, .val (.double b4), .second, .unset, .unset] [(.int (0 : Int32))])) _
  refine XS.istore X2.here hx rfl (hb hby d6_43) rfl (l' := #[.val (.ref o), .val (.double b1), .second, .val (.double b2), .second, .val (.double b3), .second, .val (.double b4), .second, .val (.int (0 : Int32)), .unset]) rfl ?_
  exact kt
theorem d6_18 : decode prog_26_method_3_code 18 = .ok (.aload_n 0, 1) := by decide +kernel
theorem d6_19 : decode prog_26_method_3_code 19 = .ok (.getfield 20, 3) := by decide +kernel
theorem d6_22 : decode prog_26_method_3_code 22 = .ok (.dload 5, 2) := by decide +kernel
theorem d6_24 : decode prog_26_method_3_code 24 = .ok (.dcmp .l, 1) := by decide +kernel
theorem d6_25 : decode prog_26_method_3_code 25 = .ok (.ifCond .ne 17, 3) := by decide +kernel
set_option maxRecDepth 65536 in
set_option maxHeartbeats 40000000 in
theorem jA2 {p : Program} {l : Launch} {e : Env} {R : Room} {s : State} {m : MethodId} {args : Array Value} {below : List Frame} {meth : Method} {c : Code} {T0 : State} {locs : List Loc} {cells slots : Nat} {Z : State} {a0 : Array Value} {h0 : Heap} (X0 : Stand p l e R s m args below meth c T0 locs cells slots) (hx : p.tables.exec = Jvm.exec) (hZ : Z.Warmed39 s.vm) (hw : ∀ d ∈ tables_1, d.before a0 Z = true) (hby : c.code = prog_26_method_3_code) (hown : s.vm.findClass "com/example/quadrille/quadrille/geometry/Segment" = some m.cls) (e0 : T0.heap = h0) (o : Addr) (a1 a2 a3 a4 b1 b2 b3 b4 : UInt64)  (FA1 : Fld Z h0 o "com/example/quadrille/quadrille/geometry/Segment" "x1" "D" (.double a1)) (FA2 : Fld Z h0 o "com/example/quadrille/quadrille/geometry/Segment" "y1" "D" (.double a2)) (FA3 : Fld Z h0 o "com/example/quadrille/quadrille/geometry/Segment" "x2" "D" (.double a3)) (FA4 : Fld Z h0 o "com/example/quadrille/quadrille/geometry/Segment" "y2" "D" (.double a4)) (hc6 : (cmpValue (FP.dcmp a1 b1) .l) = (0 : Int32)) (hc15 : (cmpValue (FP.dcmp a2 b2) .l) = (0 : Int32)) (hc25 : ¬ ((cmpValue (FP.dcmp a3 b3) .l) = (0 : Int32))) :
    ∃ (T' : State), Stand p l e R s m args below meth c T' locs cells slots ∧ T'.heap = h0 ∧ ∀ target, Steps p.tables e below (T'.setTop (mkF m 45 #[.val (.ref o), .val (.double b1), .second, .val (.double b2), .second, .val (.double b3), .second, .val (.double b4), .second, .val (.int (0 : Int32)), .unset] [])) target → Steps p.tables e below (T0.setTop (mkF m 0 #[.val (.ref o), .val (.double b1), .second, .val (.double b2), .second, .val (.double b3), .second, .val (.double b4), .second, .unset, .unset] [])) target := by
  obtain ⟨T1, X1, e1, st1⟩ := getF X0 hx hZ hown (host := "") (Or.inl (hw _ (List.mem_of_getElem? (i := 23) rfl))) Via.refl e0 FA1 (g := (mkF m 1 #[.val (.ref o), .val (.double b1), .second, .val (.double b2), .second, .val (.double b3), .second, .val (.double b4), .second, .unset, .unset] [(.ref o)])) rfl rfl (hb hby d6_1)
  obtain ⟨T2, X2, e2, st2⟩ := getF X1 hx hZ hown (host := "") (Or.inl (hw _ (List.mem_of_getElem? (i := 25) rfl))) Via.refl e1 FA2 (g := (mkF m 10 #[.val (.ref o), .val (.double b1), .second, .val (.double b2), .second, .val (.double b3), .second, .val (.double b4), .second, .unset, .unset] [(.ref o)])) rfl rfl (hb hby d6_10)
  obtain ⟨T3, X3, e3, st3⟩ := getF X2 hx hZ hown (host := "") (Or.inl (hw _ (List.mem_of_getElem? (i := 27) rfl))) Via.refl e2 FA3 (g := (mkF m 19 #[.val (.ref o), .val (.double b1), .second, .val (.double b2), .second, .val (.double b3), .second, .val (.double b4), .second, .unset, .unset] [(.ref o)])) rfl rfl (hb hby d6_19)
  refine ⟨T3, X3, e3, fun target kt => ?_⟩
  show Steps p.tables e below (T0.setTop (mkF m 0 #[.val (.ref o), .val (.double b1), .second, .val (.double b2), .second, .val (.double b3), .second, .val (.double b4), .second, .unset, .unset] [])) _
  refine XS.aloadN X0.here hx rfl (hb hby d6_0) rfl rfl ?_
  show Steps p.tables e below (T0.setTop (mkF m 1 #[.val (.ref o), .val (.double b1), .second, .val (.double b2), .second, .val (.double b3), .second, .val (.double b4), .second, .unset, .unset] [(.ref o)])) _
  refine st1 _ ?_
  show Steps p.tables e below (T1.setTop (mkF m 4 #[.val (.ref o), .val (.double b1), .second, .val (.double b2), .second, .val (.double b3), .second, .val (.double b4), .second, .unset, .unset] [(.double a1)])) _
  refine own_dloadN X1.here hx rfl (hb hby d6_4) rfl ?_
  show Steps p.tables e below (T1.setTop (mkF m 5 #[.val (.ref o), .val (.double b1), .second, .val (.double b2), .second, .val (.double b3), .second, .val (.double b4), .second, .unset, .unset] [(.double b1), (.double a1)])) _
  refine own_dcmp X1.here hx rfl (hb hby d6_5) rfl ?_
  show Steps p.tables e below (T1.setTop (mkF m 6 #[.val (.ref o), .val (.double b1), .second, .val (.double b2), .second, .val (.double b3), .second, .val (.double b4), .second, .unset, .unset] [(.int (cmpValue (FP.dcmp a1 b1) .l))])) _
  refine XS.ifNo X1.here hx rfl (hb hby d6_6) rfl ((if0 _ _).trans (teq hc6).2) ?_
  show Steps p.tables e below (T1.setTop (mkF m 9 #[.val (.ref o), .val (.double b1), .second, .val (.double b2), .second, .val (.double b3), .second, .val (.double b4), .second, .unset, .unset] [])) _
  refine XS.aloadN X1.here hx rfl (hb hby d6_9) rfl rfl ?_
  show Steps p.tables e below (T1.setTop (mkF m 10 #[.val (.ref o), .val (.double b1), .second, .val (.double b2), .second, .val (.double b3), .second, .val (.double b4), .second, .unset, .unset] [(.ref o)])) _
  refine st2 _ ?_
  show Steps p.tables e below (T2.setTop (mkF m 13 #[.val (.ref o), .val (.double b1), .second, .val (.double b2), .second, .val (.double b3), .second, .val (.double b4), .second, .unset, .unset] [(.double a2)])) _
  refine own_dloadN X2.here hx rfl (hb hby d6_13) rfl ?_
  show Steps p.tables e below (T2.setTop (mkF m 14 #[.val (.ref o), .val (.double b1), .second, .val (.double b2), .second, .val (.double b3), .second, .val (.double b4), .second, .unset, .unset] [(.double b2), (.double a2)])) _
  refine own_dcmp X2.here hx rfl (hb hby d6_14) rfl ?_
  show Steps p.tables e below (T2.setTop (mkF m 15 #[.val (.ref o), .val (.double b1), .second, .val (.double b2), .second, .val (.double b3), .second, .val (.double b4), .second, .unset, .unset] [(.int (cmpValue (FP.dcmp a2 b2) .l))])) _
  refine XS.ifNo X2.here hx rfl (hb hby d6_15) rfl ((if0 _ _).trans (teq hc15).2) ?_
  show Steps p.tables e below (T2.setTop (mkF m 18 #[.val (.ref o), .val (.double b1), .second, .val (.double b2), .second, .val (.double b3), .second, .val (.double b4), .second, .unset, .unset] [])) _
  refine XS.aloadN X2.here hx rfl (hb hby d6_18) rfl rfl ?_
  show Steps p.tables e below (T2.setTop (mkF m 19 #[.val (.ref o), .val (.double b1), .second, .val (.double b2), .second, .val (.double b3), .second, .val (.double b4), .second, .unset, .unset] [(.ref o)])) _
  refine st3 _ ?_
  show Steps p.tables e below (T3.setTop (mkF m 22 #[.val (.ref o), .val (.double b1), .second, .val (.double b2), .second, .val (.double b3), .second, .val (.double b4), .second, .unset, .unset] [(.double a3)])) _
  refine own_dload X3.here hx rfl (hb hby d6_22) rfl ?_
  show Steps p.tables e below (T3.setTop (mkF m 24 #[.val (.ref o), .val (.double b1), .second, .val (.double b2), .second, .val (.double b3), .second, .val (.double b4), .second, .unset, .unset] [(.double b3), (.double a3)])) _
  refine own_dcmp X3.here hx rfl (hb hby d6_24) rfl ?_
  show Steps p.tables e below (T3.setTop (mkF m 25 #[.val (.ref o), .val (.double b1), .second, .val (.double b2), .second, .val (.double b3), .second, .val (.double b4), .second, .unset, .unset] [(.int (cmpValue (FP.dcmp a3 b3) .l))])) _
  refine XS.ifYes X3.here hx rfl (pc0 := 25) (pc' := 42) rfl (hb hby d6_25) rfl ((if0 _ _).trans (feq hc25).2) (by decide) (by decide) ?_
  show Steps p.tables e below (T3.setTop (mkF m 42 #[.val (.ref o), .val (.double b1), .second, .val (.double b2), .second, .val (.double b3), .second, .val (.double b4), .second, .unset, .unset] [])) _
  refine XS.iconst X3.here hx rfl (hb hby d6_42) ?_
  show Steps p.tables e below (T3.setTop (mkF m 43 #[.val (.ref o), .val (.double b1), .second, .val (.double b2), .second, .val (.double b3), .second, .val (.double b4), .second, .unset, .unset] [(.int (0 : Int32))])) _
  refine XS.istore X3.here hx rfl (hb hby d6_43) rfl (l' := #[.val (.ref o), .val (.double b1), .second, .val (.double b2), .second, .val (.double b3), .second, .val (.double b4), .second, .val (.int (0 : Int32)), .unset]) rfl ?_
  exact kt
theorem d6_28 : decode prog_26_method_3_code 28 = .ok (.aload_n 0, 1) := by decide +kernel
theorem d6_29 : decode prog_26_method_3_code 29 = .ok (.getfield 23, 3) := by decide +kernel
theorem d6_32 : decode prog_26_method_3_code 32 = .ok (.dload 7, 2) := by decide +kernel
theorem d6_34 : decode prog_26_method_3_code 34 = .ok (.dcmp .l, 1) := by decide +kernel
theorem d6_35 : decode prog_26_method_3_code 35 = .ok (.ifCond .ne 7, 3) := by decide +kernel
set_option maxRecDepth 65536 in
set_option maxHeartbeats 40000000 in
theorem jA3 {p : Program} {l : Launch} {e : Env} {R : Room} {s : State} {m : MethodId} {args : Array Value} {below : List Frame} {meth : Method} {c : Code} {T0 : State} {locs : List Loc} {cells slots : Nat} {Z : State} {a0 : Array Value} {h0 : Heap} (X0 : Stand p l e R s m args below meth c T0 locs cells slots) (hx : p.tables.exec = Jvm.exec) (hZ : Z.Warmed39 s.vm) (hw : ∀ d ∈ tables_1, d.before a0 Z = true) (hby : c.code = prog_26_method_3_code) (hown : s.vm.findClass "com/example/quadrille/quadrille/geometry/Segment" = some m.cls) (e0 : T0.heap = h0) (o : Addr) (a1 a2 a3 a4 b1 b2 b3 b4 : UInt64)  (FA1 : Fld Z h0 o "com/example/quadrille/quadrille/geometry/Segment" "x1" "D" (.double a1)) (FA2 : Fld Z h0 o "com/example/quadrille/quadrille/geometry/Segment" "y1" "D" (.double a2)) (FA3 : Fld Z h0 o "com/example/quadrille/quadrille/geometry/Segment" "x2" "D" (.double a3)) (FA4 : Fld Z h0 o "com/example/quadrille/quadrille/geometry/Segment" "y2" "D" (.double a4)) (hc6 : (cmpValue (FP.dcmp a1 b1) .l) = (0 : Int32)) (hc15 : (cmpValue (FP.dcmp a2 b2) .l) = (0 : Int32)) (hc25 : (cmpValue (FP.dcmp a3 b3) .l) = (0 : Int32)) (hc35 : ¬ ((cmpValue (FP.dcmp a4 b4) .l) = (0 : Int32))) :
    ∃ (T' : State), Stand p l e R s m args below meth c T' locs cells slots ∧ T'.heap = h0 ∧ ∀ target, Steps p.tables e below (T'.setTop (mkF m 45 #[.val (.ref o), .val (.double b1), .second, .val (.double b2), .second, .val (.double b3), .second, .val (.double b4), .second, .val (.int (0 : Int32)), .unset] [])) target → Steps p.tables e below (T0.setTop (mkF m 0 #[.val (.ref o), .val (.double b1), .second, .val (.double b2), .second, .val (.double b3), .second, .val (.double b4), .second, .unset, .unset] [])) target := by
  obtain ⟨T1, X1, e1, st1⟩ := getF X0 hx hZ hown (host := "") (Or.inl (hw _ (List.mem_of_getElem? (i := 23) rfl))) Via.refl e0 FA1 (g := (mkF m 1 #[.val (.ref o), .val (.double b1), .second, .val (.double b2), .second, .val (.double b3), .second, .val (.double b4), .second, .unset, .unset] [(.ref o)])) rfl rfl (hb hby d6_1)
  obtain ⟨T2, X2, e2, st2⟩ := getF X1 hx hZ hown (host := "") (Or.inl (hw _ (List.mem_of_getElem? (i := 25) rfl))) Via.refl e1 FA2 (g := (mkF m 10 #[.val (.ref o), .val (.double b1), .second, .val (.double b2), .second, .val (.double b3), .second, .val (.double b4), .second, .unset, .unset] [(.ref o)])) rfl rfl (hb hby d6_10)
  obtain ⟨T3, X3, e3, st3⟩ := getF X2 hx hZ hown (host := "") (Or.inl (hw _ (List.mem_of_getElem? (i := 27) rfl))) Via.refl e2 FA3 (g := (mkF m 19 #[.val (.ref o), .val (.double b1), .second, .val (.double b2), .second, .val (.double b3), .second, .val (.double b4), .second, .unset, .unset] [(.ref o)])) rfl rfl (hb hby d6_19)
  obtain ⟨T4, X4, e4, st4⟩ := getF X3 hx hZ hown (host := "") (Or.inl (hw _ (List.mem_of_getElem? (i := 29) rfl))) Via.refl e3 FA4 (g := (mkF m 29 #[.val (.ref o), .val (.double b1), .second, .val (.double b2), .second, .val (.double b3), .second, .val (.double b4), .second, .unset, .unset] [(.ref o)])) rfl rfl (hb hby d6_29)
  refine ⟨T4, X4, e4, fun target kt => ?_⟩
  show Steps p.tables e below (T0.setTop (mkF m 0 #[.val (.ref o), .val (.double b1), .second, .val (.double b2), .second, .val (.double b3), .second, .val (.double b4), .second, .unset, .unset] [])) _
  refine XS.aloadN X0.here hx rfl (hb hby d6_0) rfl rfl ?_
  show Steps p.tables e below (T0.setTop (mkF m 1 #[.val (.ref o), .val (.double b1), .second, .val (.double b2), .second, .val (.double b3), .second, .val (.double b4), .second, .unset, .unset] [(.ref o)])) _
  refine st1 _ ?_
  show Steps p.tables e below (T1.setTop (mkF m 4 #[.val (.ref o), .val (.double b1), .second, .val (.double b2), .second, .val (.double b3), .second, .val (.double b4), .second, .unset, .unset] [(.double a1)])) _
  refine own_dloadN X1.here hx rfl (hb hby d6_4) rfl ?_
  show Steps p.tables e below (T1.setTop (mkF m 5 #[.val (.ref o), .val (.double b1), .second, .val (.double b2), .second, .val (.double b3), .second, .val (.double b4), .second, .unset, .unset] [(.double b1), (.double a1)])) _
  refine own_dcmp X1.here hx rfl (hb hby d6_5) rfl ?_
  show Steps p.tables e below (T1.setTop (mkF m 6 #[.val (.ref o), .val (.double b1), .second, .val (.double b2), .second, .val (.double b3), .second, .val (.double b4), .second, .unset, .unset] [(.int (cmpValue (FP.dcmp a1 b1) .l))])) _
  refine XS.ifNo X1.here hx rfl (hb hby d6_6) rfl ((if0 _ _).trans (teq hc6).2) ?_
  show Steps p.tables e below (T1.setTop (mkF m 9 #[.val (.ref o), .val (.double b1), .second, .val (.double b2), .second, .val (.double b3), .second, .val (.double b4), .second, .unset, .unset] [])) _
  refine XS.aloadN X1.here hx rfl (hb hby d6_9) rfl rfl ?_
  show Steps p.tables e below (T1.setTop (mkF m 10 #[.val (.ref o), .val (.double b1), .second, .val (.double b2), .second, .val (.double b3), .second, .val (.double b4), .second, .unset, .unset] [(.ref o)])) _
  refine st2 _ ?_
  show Steps p.tables e below (T2.setTop (mkF m 13 #[.val (.ref o), .val (.double b1), .second, .val (.double b2), .second, .val (.double b3), .second, .val (.double b4), .second, .unset, .unset] [(.double a2)])) _
  refine own_dloadN X2.here hx rfl (hb hby d6_13) rfl ?_
  show Steps p.tables e below (T2.setTop (mkF m 14 #[.val (.ref o), .val (.double b1), .second, .val (.double b2), .second, .val (.double b3), .second, .val (.double b4), .second, .unset, .unset] [(.double b2), (.double a2)])) _
  refine own_dcmp X2.here hx rfl (hb hby d6_14) rfl ?_
  show Steps p.tables e below (T2.setTop (mkF m 15 #[.val (.ref o), .val (.double b1), .second, .val (.double b2), .second, .val (.double b3), .second, .val (.double b4), .second, .unset, .unset] [(.int (cmpValue (FP.dcmp a2 b2) .l))])) _
  refine XS.ifNo X2.here hx rfl (hb hby d6_15) rfl ((if0 _ _).trans (teq hc15).2) ?_
  show Steps p.tables e below (T2.setTop (mkF m 18 #[.val (.ref o), .val (.double b1), .second, .val (.double b2), .second, .val (.double b3), .second, .val (.double b4), .second, .unset, .unset] [])) _
  refine XS.aloadN X2.here hx rfl (hb hby d6_18) rfl rfl ?_
  show Steps p.tables e below (T2.setTop (mkF m 19 #[.val (.ref o), .val (.double b1), .second, .val (.double b2), .second, .val (.double b3), .second, .val (.double b4), .second, .unset, .unset] [(.ref o)])) _
  refine st3 _ ?_
  show Steps p.tables e below (T3.setTop (mkF m 22 #[.val (.ref o), .val (.double b1), .second, .val (.double b2), .second, .val (.double b3), .second, .val (.double b4), .second, .unset, .unset] [(.double a3)])) _
  refine own_dload X3.here hx rfl (hb hby d6_22) rfl ?_
  show Steps p.tables e below (T3.setTop (mkF m 24 #[.val (.ref o), .val (.double b1), .second, .val (.double b2), .second, .val (.double b3), .second, .val (.double b4), .second, .unset, .unset] [(.double b3), (.double a3)])) _
  refine own_dcmp X3.here hx rfl (hb hby d6_24) rfl ?_
  show Steps p.tables e below (T3.setTop (mkF m 25 #[.val (.ref o), .val (.double b1), .second, .val (.double b2), .second, .val (.double b3), .second, .val (.double b4), .second, .unset, .unset] [(.int (cmpValue (FP.dcmp a3 b3) .l))])) _
  refine XS.ifNo X3.here hx rfl (hb hby d6_25) rfl ((if0 _ _).trans (teq hc25).2) ?_
  show Steps p.tables e below (T3.setTop (mkF m 28 #[.val (.ref o), .val (.double b1), .second, .val (.double b2), .second, .val (.double b3), .second, .val (.double b4), .second, .unset, .unset] [])) _
  refine XS.aloadN X3.here hx rfl (hb hby d6_28) rfl rfl ?_
  show Steps p.tables e below (T3.setTop (mkF m 29 #[.val (.ref o), .val (.double b1), .second, .val (.double b2), .second, .val (.double b3), .second, .val (.double b4), .second, .unset, .unset] [(.ref o)])) _
  refine st4 _ ?_
  show Steps p.tables e below (T4.setTop (mkF m 32 #[.val (.ref o), .val (.double b1), .second, .val (.double b2), .second, .val (.double b3), .second, .val (.double b4), .second, .unset, .unset] [(.double a4)])) _
  refine own_dload X4.here hx rfl (hb hby d6_32) rfl ?_
  show Steps p.tables e below (T4.setTop (mkF m 34 #[.val (.ref o), .val (.double b1), .second, .val (.double b2), .second, .val (.double b3), .second, .val (.double b4), .second, .unset, .unset] [(.double b4), (.double a4)])) _
  refine own_dcmp X4.here hx rfl (hb hby d6_34) rfl ?_
  show Steps p.tables e below (T4.setTop (mkF m 35 #[.val (.ref o), .val (.double b1), .second, .val (.double b2), .second, .val (.double b3), .second, .val (.double b4), .second, .unset, .unset] [(.int (cmpValue (FP.dcmp a4 b4) .l))])) _
  refine XS.ifYes X4.here hx rfl (pc0 := 35) (pc' := 42) rfl (hb hby d6_35) rfl ((if0 _ _).trans (feq hc35).2) (by decide) (by decide) ?_
  show Steps p.tables e below (T4.setTop (mkF m 42 #[.val (.ref o), .val (.double b1), .second, .val (.double b2), .second, .val (.double b3), .second, .val (.double b4), .second, .unset, .unset] [])) _
  refine XS.iconst X4.here hx rfl (hb hby d6_42) ?_
  show Steps p.tables e below (T4.setTop (mkF m 43 #[.val (.ref o), .val (.double b1), .second, .val (.double b2), .second, .val (.double b3), .second, .val (.double b4), .second, .unset, .unset] [(.int (0 : Int32))])) _
  refine XS.istore X4.here hx rfl (hb hby d6_43) rfl (l' := #[.val (.ref o), .val (.double b1), .second, .val (.double b2), .second, .val (.double b3), .second, .val (.double b4), .second, .val (.int (0 : Int32)), .unset]) rfl ?_
  exact kt
theorem d6_38 : decode prog_26_method_3_code 38 = .ok (.iconst 1, 1) := by decide +kernel
theorem d6_39 : decode prog_26_method_3_code 39 = .ok (.goto 4, 3) := by decide +kernel
set_option maxRecDepth 65536 in
set_option maxHeartbeats 40000000 in
theorem jA4 {p : Program} {l : Launch} {e : Env} {R : Room} {s : State} {m : MethodId} {args : Array Value} {below : List Frame} {meth : Method} {c : Code} {T0 : State} {locs : List Loc} {cells slots : Nat} {Z : State} {a0 : Array Value} {h0 : Heap} (X0 : Stand p l e R s m args below meth c T0 locs cells slots) (hx : p.tables.exec = Jvm.exec) (hZ : Z.Warmed39 s.vm) (hw : ∀ d ∈ tables_1, d.before a0 Z = true) (hby : c.code = prog_26_method_3_code) (hown : s.vm.findClass "com/example/quadrille/quadrille/geometry/Segment" = some m.cls) (e0 : T0.heap = h0) (o : Addr) (a1 a2 a3 a4 b1 b2 b3 b4 : UInt64)  (FA1 : Fld Z h0 o "com/example/quadrille/quadrille/geometry/Segment" "x1" "D" (.double a1)) (FA2 : Fld Z h0 o "com/example/quadrille/quadrille/geometry/Segment" "y1" "D" (.double a2)) (FA3 : Fld Z h0 o "com/example/quadrille/quadrille/geometry/Segment" "x2" "D" (.double a3)) (FA4 : Fld Z h0 o "com/example/quadrille/quadrille/geometry/Segment" "y2" "D" (.double a4)) (hc6 : (cmpValue (FP.dcmp a1 b1) .l) = (0 : Int32)) (hc15 : (cmpValue (FP.dcmp a2 b2) .l) = (0 : Int32)) (hc25 : (cmpValue (FP.dcmp a3 b3) .l) = (0 : Int32)) (hc35 : (cmpValue (FP.dcmp a4 b4) .l) = (0 : Int32)) :
    ∃ (T' : State), Stand p l e R s m args below meth c T' locs cells slots ∧ T'.heap = h0 ∧ ∀ target, Steps p.tables e below (T'.setTop (mkF m 45 #[.val (.ref o), .val (.double b1), .second, .val (.double b2), .second, .val (.double b3), .second, .val (.double b4), .second, .val (.int (1 : Int32)), .unset] [])) target → Steps p.tables e below (T0.setTop (mkF m 0 #[.val (.ref o), .val (.double b1), .second, .val (.double b2), .second, .val (.double b3), .second, .val (.double b4), .second, .unset, .unset] [])) target := by
  obtain ⟨T1, X1, e1, st1⟩ := getF X0 hx hZ hown (host := "") (Or.inl (hw _ (List.mem_of_getElem? (i := 23) rfl))) Via.refl e0 FA1 (g := (mkF m 1 #[.val (.ref o), .val (.double b1), .second, .val (.double b2), .second, .val (.double b3), .second, .val (.double b4), .second, .unset, .unset] [(.ref o)])) rfl rfl (hb hby d6_1)
  obtain ⟨T2, X2, e2, st2⟩ := getF X1 hx hZ hown (host := "") (Or.inl (hw _ (List.mem_of_getElem? (i := 25) rfl))) Via.refl e1 FA2 (g := (mkF m 10 #[.val (.ref o), .val (.double b1), .second, .val (.double b2), .second, .val (.double b3), .second, .val (.double b4), .second, .unset, .unset] [(.ref o)])) rfl rfl (hb hby d6_10)
  obtain ⟨T3, X3, e3, st3⟩ := getF X2 hx hZ hown (host := "") (Or.inl (hw _ (List.mem_of_getElem? (i := 27) rfl))) Via.refl e2 FA3 (g := (mkF m 19 #[.val (.ref o), .val (.double b1), .second, .val (.double b2), .second, .val (.double b3), .second, .val (.double b4), .second, .unset, .unset] [(.ref o)])) rfl rfl (hb hby d6_19)
  obtain ⟨T4, X4, e4, st4⟩ := getF X3 hx hZ hown (host := "") (Or.inl (hw _ (List.mem_of_getElem? (i := 29) rfl))) Via.refl e3 FA4 (g := (mkF m 29 #[.val (.ref o), .val (.double b1), .second, .val (.double b2), .second, .val (.double b3), .second, .val (.double b4), .second, .unset, .unset] [(.ref o)])) rfl rfl (hb hby d6_29)
  refine ⟨T4, X4, e4, fun target kt => ?_⟩
  show Steps p.tables e below (T0.setTop (mkF m 0 #[.val (.ref o), .val (.double b1), .second, .val (.double b2), .second, .val (.double b3), .second, .val (.double b4), .second, .unset, .unset] [])) _
  refine XS.aloadN X0.here hx rfl (hb hby d6_0) rfl rfl ?_
  show Steps p.tables e below (T0.setTop (mkF m 1 #[.val (.ref o), .val (.double b1), .second, .val (.double b2), .second, .val (.double b3), .second, .val (.double b4), .second, .unset, .unset] [(.ref o)])) _
  refine st1 _ ?_
  show Steps p.tables e below (T1.setTop (mkF m 4 #[.val (.ref o), .val (.double b1), .second, .val (.double b2), .second, .val (.double b3), .second, .val (.double b4), .second, .unset, .unset] [(.double a1)])) _
  refine own_dloadN X1.here hx rfl (hb hby d6_4) rfl ?_
  show Steps p.tables e below (T1.setTop (mkF m 5 #[.val (.ref o), .val (.double b1), .second, .val (.double b2), .second, .val (.double b3), .second, .val (.double b4), .second, .unset, .unset] [(.double b1), (.double a1)])) _
  refine own_dcmp X1.here hx rfl (hb hby d6_5) rfl ?_
  show Steps p.tables e below (T1.setTop (mkF m 6 #[.val (.ref o), .val (.double b1), .second, .val (.double b2), .second, .val (.double b3), .second, .val (.double b4), .second, .unset, .unset] [(.int (cmpValue (FP.dcmp a1 b1) .l))])) _
  refine XS.ifNo X1.here hx rfl (hb hby d6_6) rfl ((if0 _ _).trans (teq hc6).2) ?_
  show Steps p.tables e below (T1.setTop (mkF m 9 #[.val (.ref o), .val (.double b1), .second, .val (.double b2), .second, .val (.double b3), .second, .val (.double b4), .second, .unset, .unset] [])) _
  refine XS.aloadN X1.here hx rfl (hb hby d6_9) rfl rfl ?_
  show Steps p.tables e below (T1.setTop (mkF m 10 #[.val (.ref o), .val (.double b1), .second, .val (.double b2), .second, .val (.double b3), .second, .val (.double b4), .second, .unset, .unset] [(.ref o)])) _
  refine st2 _ ?_
  show Steps p.tables e below (T2.setTop (mkF m 13 #[.val (.ref o), .val (.double b1), .second, .val (.double b2), .second, .val (.double b3), .second, .val (.double b4), .second, .unset, .unset] [(.double a2)])) _
  refine own_dloadN X2.here hx rfl (hb hby d6_13) rfl ?_
  show Steps p.tables e below (T2.setTop (mkF m 14 #[.val (.ref o), .val (.double b1), .second, .val (.double b2), .second, .val (.double b3), .second, .val (.double b4), .second, .unset, .unset] [(.double b2), (.double a2)])) _
  refine own_dcmp X2.here hx rfl (hb hby d6_14) rfl ?_
  show Steps p.tables e below (T2.setTop (mkF m 15 #[.val (.ref o), .val (.double b1), .second, .val (.double b2), .second, .val (.double b3), .second, .val (.double b4), .second, .unset, .unset] [(.int (cmpValue (FP.dcmp a2 b2) .l))])) _
  refine XS.ifNo X2.here hx rfl (hb hby d6_15) rfl ((if0 _ _).trans (teq hc15).2) ?_
  show Steps p.tables e below (T2.setTop (mkF m 18 #[.val (.ref o), .val (.double b1), .second, .val (.double b2), .second, .val (.double b3), .second, .val (.double b4), .second, .unset, .unset] [])) _
  refine XS.aloadN X2.here hx rfl (hb hby d6_18) rfl rfl ?_
  show Steps p.tables e below (T2.setTop (mkF m 19 #[.val (.ref o), .val (.double b1), .second, .val (.double b2), .second, .val (.double b3), .second, .val (.double b4), .second, .unset, .unset] [(.ref o)])) _
  refine st3 _ ?_
  show Steps p.tables e below (T3.setTop (mkF m 22 #[.val (.ref o), .val (.double b1), .second, .val (.double b2), .second, .val (.double b3), .second, .val (.double b4), .second, .unset, .unset] [(.double a3)])) _
  refine own_dload X3.here hx rfl (hb hby d6_22) rfl ?_
  show Steps p.tables e below (T3.setTop (mkF m 24 #[.val (.ref o), .val (.double b1), .second, .val (.double b2), .second, .val (.double b3), .second, .val (.double b4), .second, .unset, .unset] [(.double b3), (.double a3)])) _
  refine own_dcmp X3.here hx rfl (hb hby d6_24) rfl ?_
  show Steps p.tables e below (T3.setTop (mkF m 25 #[.val (.ref o), .val (.double b1), .second, .val (.double b2), .second, .val (.double b3), .second, .val (.double b4), .second, .unset, .unset] [(.int (cmpValue (FP.dcmp a3 b3) .l))])) _
  refine XS.ifNo X3.here hx rfl (hb hby d6_25) rfl ((if0 _ _).trans (teq hc25).2) ?_
  show Steps p.tables e below (T3.setTop (mkF m 28 #[.val (.ref o), .val (.double b1), .second, .val (.double b2), .second, .val (.double b3), .second, .val (.double b4), .second, .unset, .unset] [])) _
  refine XS.aloadN X3.here hx rfl (hb hby d6_28) rfl rfl ?_
  show Steps p.tables e below (T3.setTop (mkF m 29 #[.val (.ref o), .val (.double b1), .second, .val (.double b2), .second, .val (.double b3), .second, .val (.double b4), .second, .unset, .unset] [(.ref o)])) _
  refine st4 _ ?_
  show Steps p.tables e below (T4.setTop (mkF m 32 #[.val (.ref o), .val (.double b1), .second, .val (.double b2), .second, .val (.double b3), .second, .val (.double b4), .second, .unset, .unset] [(.double a4)])) _
  refine own_dload X4.here hx rfl (hb hby d6_32) rfl ?_
  show Steps p.tables e below (T4.setTop (mkF m 34 #[.val (.ref o), .val (.double b1), .second, .val (.double b2), .second, .val (.double b3), .second, .val (.double b4), .second, .unset, .unset] [(.double b4), (.double a4)])) _
  refine own_dcmp X4.here hx rfl (hb hby d6_34) rfl ?_
  show Steps p.tables e below (T4.setTop (mkF m 35 #[.val (.ref o), .val (.double b1), .second, .val (.double b2), .second, .val (.double b3), .second, .val (.double b4), .second, .unset, .unset] [(.int (cmpValue (FP.dcmp a4 b4) .l))])) _
  refine XS.ifNo X4.here hx rfl (hb hby d6_35) rfl ((if0 _ _).trans (teq hc35).2) ?_
  show Steps p.tables e below (T4.setTop (mkF m 38 #[.val (.ref o), .val (.double b1), .second, .val (.double b2), .second, .val (.double b3), .second, .val (.double b4), .second, .unset, .unset] [])) _
  refine XS.iconst X4.here hx rfl (hb hby d6_38) ?_
  show Steps p.tables e below (T4.setTop (mkF m 39 #[.val (.ref o), .val (.double b1), .second, .val (.double b2), .second, .val (.double b3), .second, .val (.double b4), .second, .unset, .unset] [(.int (1 : Int32))])) _
  refine XS.goto X4.here hx rfl (pc0 := 39) (pc' := 43) rfl (hb hby d6_39) (by decide) (by decide) ?_
  show Steps p.tables e below (T4.setTop (mkF m 43 #[.val (.ref o), .val (.double b1), .second, .val (.double b2), .second, .val (.double b3), .second, .val (.double b4), .second, .unset, .unset] [(.int (1 : Int32))])) _
  refine XS.istore X4.here hx rfl (hb hby d6_43) rfl (l' := #[.val (.ref o), .val (.double b1), .second, .val (.double b2), .second, .val (.double b3), .second, .val (.double b4), .second, .val (.int (1 : Int32)), .unset]) rfl ?_
  exact kt
theorem jA {p : Program} {l : Launch} {e : Env} {R : Room} {s : State} {m : MethodId} {args : Array Value} {below : List Frame} {meth : Method} {c : Code} {T0 : State} {locs : List Loc} {cells slots : Nat} {Z : State} {a0 : Array Value} {h0 : Heap} (X0 : Stand p l e R s m args below meth c T0 locs cells slots) (hx : p.tables.exec = Jvm.exec) (hZ : Z.Warmed39 s.vm) (hw : ∀ d ∈ tables_1, d.before a0 Z = true) (hby : c.code = prog_26_method_3_code) (hown : s.vm.findClass "com/example/quadrille/quadrille/geometry/Segment" = some m.cls) (e0 : T0.heap = h0) (o : Addr) (a1 a2 a3 a4 b1 b2 b3 b4 : UInt64)  (FA1 : Fld Z h0 o "com/example/quadrille/quadrille/geometry/Segment" "x1" "D" (.double a1)) (FA2 : Fld Z h0 o "com/example/quadrille/quadrille/geometry/Segment" "y1" "D" (.double a2)) (FA3 : Fld Z h0 o "com/example/quadrille/quadrille/geometry/Segment" "x2" "D" (.double a3)) (FA4 : Fld Z h0 o "com/example/quadrille/quadrille/geometry/Segment" "y2" "D" (.double a4)) :
    ∃ (T' : State), Stand p l e R s m args below meth c T' locs cells slots ∧ T'.heap = h0 ∧ ∀ target, Steps p.tables e below (T'.setTop (mkF m 45 #[.val (.ref o), .val (.double b1), .second, .val (.double b2), .second, .val (.double b3), .second, .val (.double b4), .second, .val (.int (own_and (own_c a1 b1 = 0) (own_c a2 b2 = 0) (own_c a3 b3 = 0) (own_c a4 b4 = 0))), .unset] [])) target → Steps p.tables e below (T0.setTop (mkF m 0 #[.val (.ref o), .val (.double b1), .second, .val (.double b2), .second, .val (.double b3), .second, .val (.double b4), .second, .unset, .unset] [])) target := by
  have A := fun q => (show (own_and (own_c a1 b1 = 0) (own_c a2 b2 = 0) (own_c a3 b3 = 0) (own_c a4 b4 = 0)) = 1 from if_pos q)
  have N := fun q => (show (own_and (own_c a1 b1 = 0) (own_c a2 b2 = 0) (own_c a3 b3 = 0) (own_c a4 b4 = 0)) = 0 from if_neg q)
  by_cases k0 : ¬ (own_c a1 b1 = 0)
  · rw [N (fun q => k0 q.1)]; exact jA0 X0 hx hZ hw hby hown e0 o a1 a2 a3 a4 b1 b2 b3 b4 FA1 FA2 FA3 FA4  k0
  replace k0 := Classical.not_not.mp k0
  by_cases k1 : ¬ (own_c a2 b2 = 0)
  · rw [N (fun q => k1 q.2.1)]; exact jA1 X0 hx hZ hw hby hown e0 o a1 a2 a3 a4 b1 b2 b3 b4 FA1 FA2 FA3 FA4 k0 k1
  replace k1 := Classical.not_not.mp k1
  by_cases k2 : ¬ (own_c a3 b3 = 0)
  · rw [N (fun q => k2 q.2.2.1)]; exact jA2 X0 hx hZ hw hby hown e0 o a1 a2 a3 a4 b1 b2 b3 b4 FA1 FA2 FA3 FA4 k0 k1 k2
  replace k2 := Classical.not_not.mp k2
  by_cases k3 : ¬ (own_c a4 b4 = 0)
  · rw [N (fun q => k3 q.2.2.2)]; exact jA3 X0 hx hZ hw hby hown e0 o a1 a2 a3 a4 b1 b2 b3 b4 FA1 FA2 FA3 FA4 k0 k1 k2 k3
  replace k3 := Classical.not_not.mp k3
  rw [A ⟨k0, k1, k2, k3⟩]; exact jA4 X0 hx hZ hw hby hown e0 o a1 a2 a3 a4 b1 b2 b3 b4 FA1 FA2 FA3 FA4 k0 k1 k2 k3
theorem d6_45 : decode prog_26_method_3_code 45 = .ok (.aload_n 0, 1) := by decide +kernel
theorem d6_46 : decode prog_26_method_3_code 46 = .ok (.getfield 13, 3) := by decide +kernel
theorem d6_49 : decode prog_26_method_3_code 49 = .ok (.dload 5, 2) := by decide +kernel
theorem d6_51 : decode prog_26_method_3_code 51 = .ok (.dcmp .l, 1) := by decide +kernel
theorem d6_52 : decode prog_26_method_3_code 52 = .ok (.ifCond .ne 35, 3) := by decide +kernel
theorem d6_87 : decode prog_26_method_3_code 87 = .ok (.iconst 0, 1) := by decide +kernel
theorem d6_88 : decode prog_26_method_3_code 88 = .ok (.istore 10, 2) := by decide +kernel
set_option maxRecDepth 65536 in
set_option maxHeartbeats 40000000 in
theorem jB0 {p : Program} {l : Launch} {e : Env} {R : Room} {s : State} {m : MethodId} {args : Array Value} {below : List Frame} {meth : Method} {c : Code} {T0 : State} {locs : List Loc} {cells slots : Nat} {Z : State} {a0 : Array Value} {h0 : Heap} (X0 : Stand p l e R s m args below meth c T0 locs cells slots) (hx : p.tables.exec = Jvm.exec) (hZ : Z.Warmed39 s.vm) (hw : ∀ d ∈ tables_1, d.before a0 Z = true) (hby : c.code = prog_26_method_3_code) (hown : s.vm.findClass "com/example/quadrille/quadrille/geometry/Segment" = some m.cls) (e0 : T0.heap = h0) (v9 : Int32) (o : Addr) (a1 a2 a3 a4 b1 b2 b3 b4 : UInt64)  (FA1 : Fld Z h0 o "com/example/quadrille/quadrille/geometry/Segment" "x1" "D" (.double a1)) (FA2 : Fld Z h0 o "com/example/quadrille/quadrille/geometry/Segment" "y1" "D" (.double a2)) (FA3 : Fld Z h0 o "com/example/quadrille/quadrille/geometry/Segment" "x2" "D" (.double a3)) (FA4 : Fld Z h0 o "com/example/quadrille/quadrille/geometry/Segment" "y2" "D" (.double a4)) (hc52 : ¬ ((cmpValue (FP.dcmp a1 b3) .l) = (0 : Int32))) :
    ∃ (T' : State), Stand p l e R s m args below meth c T' locs cells slots ∧ T'.heap = h0 ∧ ∀ target, Steps p.tables e below (T'.setTop (mkF m 90 #[.val (.ref o), .val (.double b1), .second, .val (.double b2), .second, .val (.double b3), .second, .val (.double b4), .second, .val (.int v9), .val (.int (0 : Int32))] [])) target → Steps p.tables e below (T0.setTop (mkF m 45 #[.val (.ref o), .val (.double b1), .second, .val (.double b2), .second, .val (.double b3), .second, .val (.double b4), .second, .val (.int v9), .unset] [])) target := by
  obtain ⟨T1, X1, e1, st1⟩ := getF X0 hx hZ hown (host := "") (Or.inl (hw _ (List.mem_of_getElem? (i := 23) rfl))) Via.refl e0 FA1 (g := (mkF m 46 #[.val (.ref o), .val (.double b1), .second, .val (.double b2), .second, .val (.double b3), .second, .val (.double b4), .second, .val (.int v9), .unset] [(.ref o)])) rfl rfl (hb hby d6_46)
  refine ⟨T1, X1, e1, fun target kt => ?_⟩
  show Steps p.tables e below (T0.setTop (mkF m 45 #[.val (.ref o), .val (.double b1), .second, .val (.double b2), .second, .val (.double b3), .second, .val (.double b4), .second, .val (.int v9), .unset] [])) _
  refine XS.aloadN X0.here hx rfl (hb hby d6_45) rfl rfl ?_
  show Steps p.tables e below (T0.setTop (mkF m 46 #[.val (.ref o), .val (.double b1), .second, .val (.double b2), .second, .val (.double b3), .second, .val (.double b4), .second, .val (.int v9), .unset] [(.ref o)])) _
  refine st1 _ ?_
  show Steps p.tables e below (T1.setTop (mkF m 49 #[.val (.ref o), .val (.double b1), .second, .val (.double b2), .second, .val (.double b3), .second, .val (.double b4), .second, .val (.int v9), .unset] [(.double a1)])) _
  refine own_dload X1.here hx rfl (hb hby d6_49) rfl ?_
  show Steps p.tables e below (T1.setTop (mkF m 51 #[.val (.ref o), .val (.double b1), .second, .val (.double b2), .second, .val (.double b3), .second, .val (.double b4), .second, .val (.int v9), .unset] [(.double b3), (.double a1)])) _
  refine own_dcmp X1.here hx rfl (hb hby d6_51) rfl ?_
  show Steps p.tables e below (T1.setTop (mkF m 52 #[.val (.ref o), .val (.double b1), .second, .val (.double b2), .second, .val (.double b3), .second, .val (.double b4), .second, .val (.int v9), .unset] [(.int (cmpValue (FP.dcmp a1 b3) .l))])) _
  refine XS.ifYes X1.here hx rfl (pc0 := 52) (pc' := 87) rfl (hb hby d6_52) rfl ((if0 _ _).trans (feq hc52).2) (by decide) (by decide) ?_
  show Steps p.tables e below (T1.setTop (mkF m 87 #[.val (.ref o), .val (.double b1), .second, .val (.double b2), .second, .val (.double b3), .second, .val (.double b4), .second, .val (.int v9), .unset] [])) _
  refine XS.iconst X1.here hx rfl (hb hby d6_87) ?_
  show Steps p.tables e below (T1.setTop (mkF m 88 #[.val (.ref o), .val (.double b1), .second, .val (.double b2), .second, .val (.double b3), .second, .val (.double b4), .second, .val (.int v9), .unset] [(.int (0 : Int32))])) _
  refine XS.istore X1.here hx rfl (hb hby d6_88) rfl (l' := #[.val (.ref o), .val (.double b1), .second, .val (.double b2), .second, .val (.double b3), .second, .val (.double b4), .second, .val (.int v9), .val (.int (0 : Int32))]) rfl ?_
  exact kt
theorem d6_55 : decode prog_26_method_3_code 55 = .ok (.aload_n 0, 1) := by decide +kernel
theorem d6_56 : decode prog_26_method_3_code 56 = .ok (.getfield 17, 3) := by decide +kernel
theorem d6_59 : decode prog_26_method_3_code 59 = .ok (.dload 7, 2) := by decide +kernel
theorem d6_61 : decode prog_26_method_3_code 61 = .ok (.dcmp .l, 1) := by decide +kernel
theorem d6_62 : decode prog_26_method_3_code 62 = .ok (.ifCond .ne 25, 3) := by decide +kernel
set_option maxRecDepth 65536 in
set_option maxHeartbeats 40000000 in
theorem jB1 {p : Program} {l : Launch} {e : Env} {R : Room} {s : State} {m : MethodId} {args : Array Value} {below : List Frame} {meth : Method} {c : Code} {T0 : State} {locs : List Loc} {cells slots : Nat} {Z : State} {a0 : Array Value} {h0 : Heap} (X0 : Stand p l e R s m args below meth c T0 locs cells slots) (hx : p.tables.exec = Jvm.exec) (hZ : Z.Warmed39 s.vm) (hw : ∀ d ∈ tables_1, d.before a0 Z = true) (hby : c.code = prog_26_method_3_code) (hown : s.vm.findClass "com/example/quadrille/quadrille/geometry/Segment" = some m.cls) (e0 : T0.heap = h0) (v9 : Int32) (o : Addr) (a1 a2 a3 a4 b1 b2 b3 b4 : UInt64)  (FA1 : Fld Z h0 o "com/example/quadrille/quadrille/geometry/Segment" "x1" "D" (.double a1)) (FA2 : Fld Z h0 o "com/example/quadrille/quadrille/geometry/Segment" "y1" "D" (.double a2)) (FA3 : Fld Z h0 o "com/example/quadrille/quadrille/geometry/Segment" "x2" "D" (.double a3)) (FA4 : Fld Z h0 o "com/example/quadrille/quadrille/geometry/Segment" "y2" "D" (.double a4)) (hc52 : (cmpValue (FP.dcmp a1 b3) .l) = (0 : Int32)) (hc62 : ¬ ((cmpValue (FP.dcmp a2 b4) .l) = (0 : Int32))) :
    ∃ (T' : State), Stand p l e R s m args below meth c T' locs cells slots ∧ T'.heap = h0 ∧ ∀ target, Steps p.tables e below (T'.setTop (mkF m 90 #[.val (.ref o), .val (.double b1), .second, .val (.double b2), .second, .val (.double b3), .second, .val (.double b4), .second, .val (.int v9), .val (.int (0 : Int32))] [])) target → Steps p.tables e below (T0.setTop (mkF m 45 #[.val (.ref o), .val (.double b1), .second, .val (.double b2), .second, .val (.double b3), .second, .val (.double b4), .second, .val (.int v9), .unset] [])) target := by
  obtain ⟨T1, X1, e1, st1⟩ := getF X0 hx hZ hown (host := "") (Or.inl (hw _ (List.mem_of_getElem? (i := 23) rfl))) Via.refl e0 FA1 (g := (mkF m 46 #[.val (.ref o), .val (.double b1), .second, .val (.double b2), .second, .val (.double b3), .second, .val (.double b4), .second, .val (.int v9), .unset] [(.ref o)])) rfl rfl (hb hby d6_46)
  obtain ⟨T2, X2, e2, st2⟩ := getF X1 hx hZ hown (host := "") (Or.inl (hw _ (List.mem_of_getElem? (i := 25) rfl))) Via.refl e1 FA2 (g := (mkF m 56 #[.val (.ref o), .val (.double b1), .second, .val (.double b2), .second, .val (.double b3), .second, .val (.double b4), .second, .val (.int v9), .unset] [(.ref o)])) rfl rfl (hb hby d6_56)
  refine ⟨T2, X2, e2, fun target kt => ?_⟩
  show Steps p.tables e below (T0.setTop (mkF m 45 #[.val (.ref o), .val (.double b1), .second, .val (.double b2), .second, .val (.double b3), .second, .val (.double b4), .second, .val (.int v9), .unset] [])) _
  refine XS.aloadN X0.here hx rfl (hb hby d6_45) rfl rfl ?_
  show Steps p.tables e below (T0.setTop (mkF m 46 #[.val (.ref o), .val (.double b1), .second, .val (.double b2), .second, .val (.double b3), .second, .val (.double b4), .second, .val (.int v9), .unset] [(.ref o)])) _
  refine st1 _ ?_
  show Steps p.tables e below (T1.setTop (mkF m 49 #[.val (.ref o), .val (.double b1), .second, .val (.double b2), .second, .val (.double b3), .second, .val (.double b4), .second, .val (.int v9), .unset] [(.double a1)])) _
  refine own_dload X1.here hx rfl (hb hby d6_49) rfl ?_
  show Steps p.tables e below (T1.setTop (mkF m 51 #[.val (.ref o), .val (.double b1), .second, .val (.double b2), .second, .val (.double b3), .second, .val (.double b4), .second, .val (.int v9), .unset] [(.double b3), (.double a1)])) _
  refine own_dcmp X1.here hx rfl (hb hby d6_51) rfl ?_
  show Steps p.tables e below (T1.setTop (mkF m 52 #[.val (.ref o), .val (.double b1), .second, .val (.double b2), .second, .val (.double b3), .second, .val (.double b4), .second, .val (.int v9), .unset] [(.int (cmpValue (FP.dcmp a1 b3) .l))])) _
  refine XS.ifNo X1.here hx rfl (hb hby d6_52) rfl ((if0 _ _).trans (teq hc52).2) ?_
  show Steps p.tables e below (T1.setTop (mkF m 55 #[.val (.ref o), .val (.double b1), .second, .val (.double b2), .second, .val (.double b3), .second, .val (.double b4), .second, .val (.int v9), .unset] [])) _
  refine XS.aloadN X1.here hx rfl (hb hby d6_55) rfl rfl ?_
  show Steps p.tables e below (T1.setTop (mkF m 56 #[.val (.ref o), .val (.double b1), .second, .val (.double b2), .second, .val (.double b3), .second, .val (.double b4), .second, .val (.int v9), .unset] [(.ref o)])) _
  refine st2 _ ?_
  show Steps p.tables e below (T2.setTop (mkF m 59 #[.val (.ref o), .val (.double b1), .second, .val (.double b2), .second, .val (.double b3), .second, .val (.double b4), .second, .val (.int v9), .unset] [(.double a2)])) _
  refine own_dload X2.here hx rfl (hb hby d6_59) rfl ?_
  show Steps p.tables e below (T2.setTop (mkF m 61 #[.val (.ref o), .val (.double b1), .second, .val (.double b2), .second, .val (.double b3), .second, .val (.double b4), .second, .val (.int v9), .unset] [(.double b4), (.double a2)])) _
  refine own_dcmp X2.here hx rfl (hb hby d6_61) rfl ?_
  show Steps p.tables e below (T2.setTop (mkF m 62 #[.val (.ref o), .val (.double b1), .second, .val (.double b2), .second, .val (.double b3), .second, .val (.double b4), .second, .val (.int v9), .unset] [(.int (cmpValue (FP.dcmp a2 b4) .l))])) _
  refine XS.ifYes X2.here hx rfl (pc0 := 62) (pc' := 87) rfl (hb hby d6_62) rfl ((if0 _ _).trans (feq hc62).2) (by decide) (by decide) ?_
  show Steps p.tables e below (T2.setTop (mkF m 87 #[.val (.ref o), .val (.double b1), .second, .val (.double b2), .second, .val (.double b3), .second, .val (.double b4), .second, .val (.int v9), .unset] [])) _
  refine XS.iconst X2.here hx rfl (hb hby d6_87) ?_
  show Steps p.tables e below (T2.setTop (mkF m 88 #[.val (.ref o), .val (.double b1), .second, .val (.double b2), .second, .val (.double b3), .second, .val (.double b4), .second, .val (.int v9), .unset] [(.int (0 : Int32))])) _
  refine XS.istore X2.here hx rfl (hb hby d6_88) rfl (l' := #[.val (.ref o), .val (.double b1), .second, .val (.double b2), .second, .val (.double b3), .second, .val (.double b4), .second, .val (.int v9), .val (.int (0 : Int32))]) rfl ?_
  exact kt
theorem d6_65 : decode prog_26_method_3_code 65 = .ok (.aload_n 0, 1) := by decide +kernel
theorem d6_66 : decode prog_26_method_3_code 66 = .ok (.getfield 20, 3) := by decide +kernel
theorem d6_69 : decode prog_26_method_3_code 69 = .ok (.dload_n 1, 1) := by decide +kernel
theorem d6_70 : decode prog_26_method_3_code 70 = .ok (.dcmp .l, 1) := by decide +kernel
theorem d6_71 : decode prog_26_method_3_code 71 = .ok (.ifCond .ne 16, 3) := by decide +kernel
set_option maxRecDepth 65536 in
set_option maxHeartbeats 40000000 in
theorem jB2 {p : Program} {l : Launch} {e : Env} {R : Room} {s : State} {m : MethodId} {args : Array Value} {below : List Frame} {meth : Method} {c : Code} {T0 : State} {locs : List Loc} {cells slots : Nat} {Z : State} {a0 : Array Value} {h0 : Heap} (X0 : Stand p l e R s m args below meth c T0 locs cells slots) (hx : p.tables.exec = Jvm.exec) (hZ : Z.Warmed39 s.vm) (hw : ∀ d ∈ tables_1, d.before a0 Z = true) (hby : c.code = prog_26_method_3_code) (hown : s.vm.findClass "com/example/quadrille/quadrille/geometry/Segment" = some m.cls) (e0 : T0.heap = h0) (v9 : Int32) (o : Addr) (a1 a2 a3 a4 b1 b2 b3 b4 : UInt64)  (FA1 : Fld Z h0 o "com/example/quadrille/quadrille/geometry/Segment" "x1" "D" (.double a1)) (FA2 : Fld Z h0 o "com/example/quadrille/quadrille/geometry/Segment" "y1" "D" (.double a2)) (FA3 : Fld Z h0 o "com/example/quadrille/quadrille/geometry/Segment" "x2" "D" (.double a3)) (FA4 : Fld Z h0 o "com/example/quadrille/quadrille/geometry/Segment" "y2" "D" (.double a4)) (hc52 : (cmpValue (FP.dcmp a1 b3) .l) = (0 : Int32)) (hc62 : (cmpValue (FP.dcmp a2 b4) .l) = (0 : Int32)) (hc71 : ¬ ((cmpValue (FP.dcmp a3 b1) .l) = (0 : Int32))) :
    ∃ (T' : State), Stand p l e R s m args below meth c T' locs cells slots ∧ T'.heap = h0 ∧ ∀ target, Steps p.tables e below (T'.setTop (mkF m 90 #[.val (.ref o), .val (.double b1), .second, .val (.double b2), .second, .val (.double b3), .second, .val (.double b4), .second, .val (.int v9), .val (.int (0 : Int32))] [])) target → Steps p.tables e below (T0.setTop (mkF m 45 #[.val (.ref o), .val (.double b1), .second, .val (.double b2), .second, .val (.double b3), .second, .val (.double b4), .second, .val (.int v9), .unset] [])) target := by
  obtain ⟨T1, X1, e1, st1⟩ := getF X0 hx hZ hown (host := "") (Or.inl (hw _ (List.mem_of_getElem? (i := 23) rfl))) Via.refl e0 FA1 (g := (mkF m 46 #[.val (.ref o), .val (.double b1), .second, .val (.double b2), .second, .val (.double b3), .second, .val (.double b4), .second, .val (.int v9), .unset] [(.ref o)])) rfl rfl (hb hby d6_46)
  obtain ⟨T2, X2, e2, st2⟩ := getF X1 hx hZ hown (host := "") (Or.inl (hw _ (List.mem_of_getElem? (i := 25) rfl))) Via.refl e1 FA2 (g := (mkF m 56 #[.val (.ref o), .val (.double b1), .second, .val (.double b2), .second, .val (.double b3), .second, .val (.double b4), .second, .val (.int v9), .unset] [(.ref o)])) rfl rfl (hb hby d6_56)
  obtain ⟨T3, X3, e3, st3⟩ := getF X2 hx hZ hown (host := "") (Or.inl (hw _ (List.mem_of_getElem? (i := 27) rfl))) Via.refl e2 FA3 (g := (mkF m 66 #[.val (.ref o), .val (.double b1), .second, .val (.double b2), .second, .val (.double b3), .second, .val (.double b4), .second, .val (.int v9), .unset] [(.ref o)])) rfl rfl (hb hby d6_66)
  refine ⟨T3, X3, e3, fun target kt => ?_⟩
  show Steps p.tables e below (T0.setTop (mkF m 45 #[.val (.ref o), .val (.double b1), .second, .val (.double b2), .second, .val (.double b3), .second, .val (.double b4), .second, .val (.int v9), .unset] [])) _
  refine XS.aloadN X0.here hx rfl (hb hby d6_45) rfl rfl ?_
  show Steps p.tables e below (T0.setTop (mkF m 46 #[.val (.ref o), .val (.double b1), .second, .val (.double b2), .second, .val (.double b3), .second, .val (.double b4), .second, .val (.int v9), .unset] [(.ref o)])) _
  refine st1 _ ?_
  show Steps p.tables e below (T1.setTop (mkF m 49 #[.val (.ref o), .val (.double b1), .second, .val (.double b2), .second, .val (.double b3), .second, .val (.double b4), .second, .val (.int v9), .unset] [(.double a1)])) _
  refine own_dload X1.here hx rfl (hb hby d6_49) rfl ?_
  show Steps p.tables e below (T1.setTop (mkF m 51 #[.val (.ref o), .val (.double b1), .second, .val (.double b2), .second, .val (.double b3), .second, .val (.double b4), .second, .val (.int v9), .unset] [(.double b3), (.double a1)])) _
  refine own_dcmp X1.here hx rfl (hb hby d6_51) rfl ?_
  show Steps p.tables e below (T1.setTop (mkF m 52 #[.val (.ref o), .val (.double b1), .second, .val (.double b2), .second, .val (.double b3), .second, .val (.double b4), .second, .val (.int v9), .unset] [(.int (cmpValue (FP.dcmp a1 b3) .l))])) _
  refine XS.ifNo X1.here hx rfl (hb hby d6_52) rfl ((if0 _ _).trans (teq hc52).2) ?_
  show Steps p.tables e below (T1.setTop (mkF m 55 #[.val (.ref o), .val (.double b1), .second, .val (.double b2), .second, .val (.double b3), .second, .val (.double b4), .second, .val (.int v9), .unset] [])) _
  refine XS.aloadN X1.here hx rfl (hb hby d6_55) rfl rfl ?_
  show Steps p.tables e below (T1.setTop (mkF m 56 #[.val (.ref o), .val (.double b1), .second, .val (.double b2), .second, .val (.double b3), .second, .val (.double b4), .second, .val (.int v9), .unset] [(.ref o)])) _
  refine st2 _ ?_
  show Steps p.tables e below (T2.setTop (mkF m 59 #[.val (.ref o), .val (.double b1), .second, .val (.double b2), .second, .val (.double b3), .second, .val (.double b4), .second, .val (.int v9), .unset] [(.double a2)])) _
  refine own_dload X2.here hx rfl (hb hby d6_59) rfl ?_
  show Steps p.tables e below (T2.setTop (mkF m 61 #[.val (.ref o), .val (.double b1), .second, .val (.double b2), .second, .val (.double b3), .second, .val (.double b4), .second, .val (.int v9), .unset] [(.double b4), (.double a2)])) _
  refine own_dcmp X2.here hx rfl (hb hby d6_61) rfl ?_
  show Steps p.tables e below (T2.setTop (mkF m 62 #[.val (.ref o), .val (.double b1), .second, .val (.double b2), .second, .val (.double b3), .second, .val (.double b4), .second, .val (.int v9), .unset] [(.int (cmpValue (FP.dcmp a2 b4) .l))])) _
  refine XS.ifNo X2.here hx rfl (hb hby d6_62) rfl ((if0 _ _).trans (teq hc62).2) ?_
  show Steps p.tables e below (T2.setTop (mkF m 65 #[.val (.ref o), .val (.double b1), .second, .val (.double b2), .second, .val (.double b3), .second, .val (.double b4), .second, .val (.int v9), .unset] [])) _
  refine XS.aloadN X2.here hx rfl (hb hby d6_65) rfl rfl ?_
  show Steps p.tables e below (T2.setTop (mkF m 66 #[.val (.ref o), .val (.double b1), .second, .val (.double b2), .second, .val (.double b3), .second, .val (.double b4), .second, .val (.int v9), .unset] [(.ref o)])) _
  refine st3 _ ?_
  show Steps p.tables e below (T3.setTop (mkF m 69 #[.val (.ref o), .val (.double b1), .second, .val (.double b2), .second, .val (.double b3), .second, .val (.double b4), .second, .val (.int v9), .unset] [(.double a3)])) _
  refine own_dloadN X3.here hx rfl (hb hby d6_69) rfl ?_
  show Steps p.tables e below (T3.setTop (mkF m 70 #[.val (.ref o), .val (.double b1), .second, .val (.double b2), .second, .val (.double b3), .second, .val (.double b4), .second, .val (.int v9), .unset] [(.double b1), (.double a3)])) _
  refine own_dcmp X3.here hx rfl (hb hby d6_70) rfl ?_
  show Steps p.tables e below (T3.setTop (mkF m 71 #[.val (.ref o), .val (.double b1), .second, .val (.double b2), .second, .val (.double b3), .second, .val (.double b4), .second, .val (.int v9), .unset] [(.int (cmpValue (FP.dcmp a3 b1) .l))])) _
  refine XS.ifYes X3.here hx rfl (pc0 := 71) (pc' := 87) rfl (hb hby d6_71) rfl ((if0 _ _).trans (feq hc71).2) (by decide) (by decide) ?_
  show Steps p.tables e below (T3.setTop (mkF m 87 #[.val (.ref o), .val (.double b1), .second, .val (.double b2), .second, .val (.double b3), .second, .val (.double b4), .second, .val (.int v9), .unset] [])) _
  refine XS.iconst X3.here hx rfl (hb hby d6_87) ?_
  show Steps p.tables e below (T3.setTop (mkF m 88 #[.val (.ref o), .val (.double b1), .second, .val (.double b2), .second, .val (.double b3), .second, .val (.double b4), .second, .val (.int v9), .unset] [(.int (0 : Int32))])) _
  refine XS.istore X3.here hx rfl (hb hby d6_88) rfl (l' := #[.val (.ref o), .val (.double b1), .second, .val (.double b2), .second, .val (.double b3), .second, .val (.double b4), .second, .val (.int v9), .val (.int (0 : Int32))]) rfl ?_
  exact kt
theorem d6_74 : decode prog_26_method_3_code 74 = .ok (.aload_n 0, 1) := by decide +kernel
theorem d6_75 : decode prog_26_method_3_code 75 = .ok (.getfield 23, 3) := by decide +kernel
theorem d6_78 : decode prog_26_method_3_code 78 = .ok (.dload_n 3, 1) := by decide +kernel
theorem d6_79 : decode prog_26_method_3_code 79 = .ok (.dcmp .l, 1) := by decide +kernel
theorem d6_80 : decode prog_26_method_3_code 80 = .ok (.ifCond .ne 7, 3) := by decide +kernel
set_option maxRecDepth 65536 in
set_option maxHeartbeats 40000000 in
theorem jB3 {p : Program} {l : Launch} {e : Env} {R : Room} {s : State} {m : MethodId} {args : Array Value} {below : List Frame} {meth : Method} {c : Code} {T0 : State} {locs : List Loc} {cells slots : Nat} {Z : State} {a0 : Array Value} {h0 : Heap} (X0 : Stand p l e R s m args below meth c T0 locs cells slots) (hx : p.tables.exec = Jvm.exec) (hZ : Z.Warmed39 s.vm) (hw : ∀ d ∈ tables_1, d.before a0 Z = true) (hby : c.code = prog_26_method_3_code) (hown : s.vm.findClass "com/example/quadrille/quadrille/geometry/Segment" = some m.cls) (e0 : T0.heap = h0) (v9 : Int32) (o : Addr) (a1 a2 a3 a4 b1 b2 b3 b4 : UInt64)  (FA1 : Fld Z h0 o "com/example/quadrille/quadrille/geometry/Segment" "x1" "D" (.double a1)) (FA2 : Fld Z h0 o "com/example/quadrille/quadrille/geometry/Segment" "y1" "D" (.double a2)) (FA3 : Fld Z h0 o "com/example/quadrille/quadrille/geometry/Segment" "x2" "D" (.double a3)) (FA4 : Fld Z h0 o "com/example/quadrille/quadrille/geometry/Segment" "y2" "D" (.double a4)) (hc52 : (cmpValue (FP.dcmp a1 b3) .l) = (0 : Int32)) (hc62 : (cmpValue (FP.dcmp a2 b4) .l) = (0 : Int32)) (hc71 : (cmpValue (FP.dcmp a3 b1) .l) = (0 : Int32)) (hc80 : ¬ ((cmpValue (FP.dcmp a4 b2) .l) = (0 : Int32))) :
    ∃ (T' : State), Stand p l e R s m args below meth c T' locs cells slots ∧ T'.heap = h0 ∧ ∀ target, Steps p.tables e below (T'.setTop (mkF m 90 #[.val (.ref o), .val (.double b1), .second, .val (.double b2), .second, .val (.double b3), .second, .val (.double b4), .second, .val (.int v9), .val (.int (0 : Int32))] [])) target → Steps p.tables e below (T0.setTop (mkF m 45 #[.val (.ref o), .val (.double b1), .second, .val (.double b2), .second, .val (.double b3), .second, .val (.double b4), .second, .val (.int v9), .unset] [])) target := by
  obtain ⟨T1, X1, e1, st1⟩ := getF X0 hx hZ hown (host := "") (Or.inl (hw _ (List.mem_of_getElem? (i := 23) rfl))) Via.refl e0 FA1 (g := (mkF m 46 #[.val (.ref o), .val (.double b1), .second, .val (.double b2), .second, .val (.double b3), .second, .val (.double b4), .second, .val (.int v9), .unset] [(.ref o)])) rfl rfl (hb hby d6_46)
  obtain ⟨T2, X2, e2, st2⟩ := getF X1 hx hZ hown (host := "") (Or.inl (hw _ (List.mem_of_getElem? (i := 25) rfl))) Via.refl e1 FA2 (g := (mkF m 56 #[.val (.ref o), .val (.double b1), .second, .val (.double b2), .second, .val (.double b3), .second, .val (.double b4), .second, .val (.int v9), .unset] [(.ref o)])) rfl rfl (hb hby d6_56)
  obtain ⟨T3, X3, e3, st3⟩ := getF X2 hx hZ hown (host := "") (Or.inl (hw _ (List.mem_of_getElem? (i := 27) rfl))) Via.refl e2 FA3 (g := (mkF m 66 #[.val (.ref o), .val (.double b1), .second, .val (.double b2), .second, .val (.double b3), .second, .val (.double b4), .second, .val (.int v9), .unset] [(.ref o)])) rfl rfl (hb hby d6_66)
  obtain ⟨T4, X4, e4, st4⟩ := getF X3 hx hZ hown (host := "") (Or.inl (hw _ (List.mem_of_getElem? (i := 29) rfl))) Via.refl e3 FA4 (g := (mkF m 75 #[.val (.ref o), .val (.double b1), .second, .val (.double b2), .second, .val (.double b3), .second, .val (.double b4), .second, .val (.int v9), .unset] [(.ref o)])) rfl rfl (hb hby d6_75)
  refine ⟨T4, X4, e4, fun target kt => ?_⟩
  show Steps p.tables e below (T0.setTop (mkF m 45 #[.val (.ref o), .val (.double b1), .second, .val (.double b2), .second, .val (.double b3), .second, .val (.double b4), .second, .val (.int v9), .unset] [])) _
  refine XS.aloadN X0.here hx rfl (hb hby d6_45) rfl rfl ?_
  show Steps p.tables e below (T0.setTop (mkF m 46 #[.val (.ref o), .val (.double b1), .second, .val (.double b2), .second, .val (.double b3), .second, .val (.double b4), .second, .val (.int v9), .unset] [(.ref o)])) _
  refine st1 _ ?_
  show Steps p.tables e below (T1.setTop (mkF m 49 #[.val (.ref o), .val (.double b1), .second, .val (.double b2), .second, .val (.double b3), .second, .val (.double b4), .second, .val (.int v9), .unset] [(.double a1)])) _
  refine own_dload X1.here hx rfl (hb hby d6_49) rfl ?_
  show Steps p.tables e below (T1.setTop (mkF m 51 #[.val (.ref o), .val (.double b1), .second, .val (.double b2), .second, .val (.double b3), .second, .val (.double b4), .second, .val (.int v9), .unset] [(.double b3), (.double a1)])) _
  refine own_dcmp X1.here hx rfl (hb hby d6_51) rfl ?_
  show Steps p.tables e below (T1.setTop (mkF m 52 #[.val (.ref o), .val (.double b1), .second, .val (.double b2), .second, .val (.double b3), .second, .val (.double b4), .second, .val (.int v9), .unset] [(.int (cmpValue (FP.dcmp a1 b3) .l))])) _
  refine XS.ifNo X1.here hx rfl (hb hby d6_52) rfl ((if0 _ _).trans (teq hc52).2) ?_
  show Steps p.tables e below (T1.setTop (mkF m 55 #[.val (.ref o), .val (.double b1), .second, .val (.double b2), .second, .val (.double b3), .second, .val (.double b4), .second, .val (.int v9), .unset] [])) _
  refine XS.aloadN X1.here hx rfl (hb hby d6_55) rfl rfl ?_
  show Steps p.tables e below (T1.setTop (mkF m 56 #[.val (.ref o), .val (.double b1), .second, .val (.double b2), .second, .val (.double b3), .second, .val (.double b4), .second, .val (.int v9), .unset] [(.ref o)])) _
  refine st2 _ ?_
  show Steps p.tables e below (T2.setTop (mkF m 59 #[.val (.ref o), .val (.double b1), .second, .val (.double b2), .second, .val (.double b3), .second, .val (.double b4), .second, .val (.int v9), .unset] [(.double a2)])) _
  refine own_dload X2.here hx rfl (hb hby d6_59) rfl ?_
  show Steps p.tables e below (T2.setTop (mkF m 61 #[.val (.ref o), .val (.double b1), .second, .val (.double b2), .second, .val (.double b3), .second, .val (.double b4), .second, .val (.int v9), .unset] [(.double b4), (.double a2)])) _
  refine own_dcmp X2.here hx rfl (hb hby d6_61) rfl ?_
  show Steps p.tables e below (T2.setTop (mkF m 62 #[.val (.ref o), .val (.double b1), .second, .val (.double b2), .second, .val (.double b3), .second, .val (.double b4), .second, .val (.int v9), .unset] [(.int (cmpValue (FP.dcmp a2 b4) .l))])) _
  refine XS.ifNo X2.here hx rfl (hb hby d6_62) rfl ((if0 _ _).trans (teq hc62).2) ?_
  show Steps p.tables e below (T2.setTop (mkF m 65 #[.val (.ref o), .val (.double b1), .second, .val (.double b2), .second, .val (.double b3), .second, .val (.double b4), .second, .val (.int v9), .unset] [])) _
  refine XS.aloadN X2.here hx rfl (hb hby d6_65) rfl rfl ?_
  show Steps p.tables e below (T2.setTop (mkF m 66 #[.val (.ref o), .val (.double b1), .second, .val (.double b2), .second, .val (.double b3), .second, .val (.double b4), .second, .val (.int v9), .unset] [(.ref o)])) _
  refine st3 _ ?_
  show Steps p.tables e below (T3.setTop (mkF m 69 #[.val (.ref o), .val (.double b1), .second, .val (.double b2), .second, .val (.double b3), .second, .val (.double b4), .second, .val (.int v9), .unset] [(.double a3)])) _
  refine own_dloadN X3.here hx rfl (hb hby d6_69) rfl ?_
  show Steps p.tables e below (T3.setTop (mkF m 70 #[.val (.ref o), .val (.double b1), .second, .val (.double b2), .second, .val (.double b3), .second, .val (.double b4), .second, .val (.int v9), .unset] [(.double b1), (.double a3)])) _
  refine own_dcmp X3.here hx rfl (hb hby d6_70) rfl ?_
  show Steps p.tables e below (T3.setTop (mkF m 71 #[.val (.ref o), .val (.double b1), .second, .val (.double b2), .second, .val (.double b3), .second, .val (.double b4), .second, .val (.int v9), .unset] [(.int (cmpValue (FP.dcmp a3 b1) .l))])) _
  refine XS.ifNo X3.here hx rfl (hb hby d6_71) rfl ((if0 _ _).trans (teq hc71).2) ?_
  show Steps p.tables e below (T3.setTop (mkF m 74 #[.val (.ref o), .val (.double b1), .second, .val (.double b2), .second, .val (.double b3), .second, .val (.double b4), .second, .val (.int v9), .unset] [])) _
  refine XS.aloadN X3.here hx rfl (hb hby d6_74) rfl rfl ?_
  show Steps p.tables e below (T3.setTop (mkF m 75 #[.val (.ref o), .val (.double b1), .second, .val (.double b2), .second, .val (.double b3), .second, .val (.double b4), .second, .val (.int v9), .unset] [(.ref o)])) _
  refine st4 _ ?_
  show Steps p.tables e below (T4.setTop (mkF m 78 #[.val (.ref o), .val (.double b1), .second, .val (.double b2), .second, .val (.double b3), .second, .val (.double b4), .second, .val (.int v9), .unset] [(.double a4)])) _
  refine own_dloadN X4.here hx rfl (hb hby d6_78) rfl ?_
  show Steps p.tables e below (T4.setTop (mkF m 79 #[.val (.ref o), .val (.double b1), .second, .val (.double b2), .second, .val (.double b3), .second, .val (.double b4), .second, .val (.int v9), .unset] [(.double b2), (.double a4)])) _
  refine own_dcmp X4.here hx rfl (hb hby d6_79) rfl ?_
  show Steps p.tables e below (T4.setTop (mkF m 80 #[.val (.ref o), .val (.double b1), .second, .val (.double b2), .second, .val (.double b3), .second, .val (.double b4), .second, .val (.int v9), .unset] [(.int (cmpValue (FP.dcmp a4 b2) .l))])) _
  refine XS.ifYes X4.here hx rfl (pc0 := 80) (pc' := 87) rfl (hb hby d6_80) rfl ((if0 _ _).trans (feq hc80).2) (by decide) (by decide) ?_
  show Steps p.tables e below (T4.setTop (mkF m 87 #[.val (.ref o), .val (.double b1), .second, .val (.double b2), .second, .val (.double b3), .second, .val (.double b4), .second, .val (.int v9), .unset] [])) _
  refine XS.iconst X4.here hx rfl (hb hby d6_87) ?_
  show Steps p.tables e below (T4.setTop (mkF m 88 #[.val (.ref o), .val (.double b1), .second, .val (.double b2), .second, .val (.double b3), .second, .val (.double b4), .second, .val (.int v9), .unset] [(.int (0 : Int32))])) _
  refine XS.istore X4.here hx rfl (hb hby d6_88) rfl (l' := #[.val (.ref o), .val (.double b1), .second, .val (.double b2), .second, .val (.double b3), .second, .val (.double b4), .second, .val (.int v9), .val (.int (0 : Int32))]) rfl ?_
  exact kt
theorem d6_83 : decode prog_26_method_3_code 83 = .ok (.iconst 1, 1) := by decide +kernel
theorem d6_84 : decode prog_26_method_3_code 84 = .ok (.goto 4, 3) := by decide +kernel
set_option maxRecDepth 65536 in
set_option maxHeartbeats 40000000 in
theorem jB4 {p : Program} {l : Launch} {e : Env} {R : Room} {s : State} {m : MethodId} {args : Array Value} {below : List Frame} {meth : Method} {c : Code} {T0 : State} {locs : List Loc} {cells slots : Nat} {Z : State} {a0 : Array Value} {h0 : Heap} (X0 : Stand p l e R s m args below meth c T0 locs cells slots) (hx : p.tables.exec = Jvm.exec) (hZ : Z.Warmed39 s.vm) (hw : ∀ d ∈ tables_1, d.before a0 Z = true) (hby : c.code = prog_26_method_3_code) (hown : s.vm.findClass "com/example/quadrille/quadrille/geometry/Segment" = some m.cls) (e0 : T0.heap = h0) (v9 : Int32) (o : Addr) (a1 a2 a3 a4 b1 b2 b3 b4 : UInt64)  (FA1 : Fld Z h0 o "com/example/quadrille/quadrille/geometry/Segment" "x1" "D" (.double a1)) (FA2 : Fld Z h0 o "com/example/quadrille/quadrille/geometry/Segment" "y1" "D" (.double a2)) (FA3 : Fld Z h0 o "com/example/quadrille/quadrille/geometry/Segment" "x2" "D" (.double a3)) (FA4 : Fld Z h0 o "com/example/quadrille/quadrille/geometry/Segment" "y2" "D" (.double a4)) (hc52 : (cmpValue (FP.dcmp a1 b3) .l) = (0 : Int32)) (hc62 : (cmpValue (FP.dcmp a2 b4) .l) = (0 : Int32)) (hc71 : (cmpValue (FP.dcmp a3 b1) .l) = (0 : Int32)) (hc80 : (cmpValue (FP.dcmp a4 b2) .l) = (0 : Int32)) :
    ∃ (T' : State), Stand p l e R s m args below meth c T' locs cells slots ∧ T'.heap = h0 ∧ ∀ target, Steps p.tables e below (T'.setTop (mkF m 90 #[.val (.ref o), .val (.double b1), .second, .val (.double b2), .second, .val (.double b3), .second, .val (.double b4), .second, .val (.int v9), .val (.int (1 : Int32))] [])) target → Steps p.tables e below (T0.setTop (mkF m 45 #[.val (.ref o), .val (.double b1), .second, .val (.double b2), .second, .val (.double b3), .second, .val (.double b4), .second, .val (.int v9), .unset] [])) target := by
  obtain ⟨T1, X1, e1, st1⟩ := getF X0 hx hZ hown (host := "") (Or.inl (hw _ (List.mem_of_getElem? (i := 23) rfl))) Via.refl e0 FA1 (g := (mkF m 46 #[.val (.ref o), .val (.double b1), .second, .val (.double b2), .second, .val (.double b3), .second, .val (.double b4), .second, .val (.int v9), .unset] [(.ref o)])) rfl rfl (hb hby d6_46)
  obtain ⟨T2, X2, e2, st2⟩ := getF X1 hx hZ hown (host := "") (Or.inl (hw _ (List.mem_of_getElem? (i := 25) rfl))) Via.refl e1 FA2 (g := (mkF m 56 #[.val (.ref o), .val (.double b1), .second, .val (.double b2), .second, .val (.double b3), .second, .val (.double b4), .second, .val (.int v9), .unset] [(.ref o)])) rfl rfl (hb hby d6_56)
  obtain ⟨T3, X3, e3, st3⟩ := getF X2 hx hZ hown (host := "") (Or.inl (hw _ (List.mem_of_getElem? (i := 27) rfl))) Via.refl e2 FA3 (g := (mkF m 66 #[.val (.ref o), .val (.double b1), .second, .val (.double b2), .second, .val (.double b3), .second, .val (.double b4), .second, .val (.int v9), .unset] [(.ref o)])) rfl rfl (hb hby d6_66)
  obtain ⟨T4, X4, e4, st4⟩ := getF X3 hx hZ hown (host := "") (Or.inl (hw _ (List.mem_of_getElem? (i := 29) rfl))) Via.refl e3 FA4 (g := (mkF m 75 #[.val (.ref o), .val (.double b1), .second, .val (.double b2), .second, .val (.double b3), .second, .val (.double b4), .second, .val (.int v9), .unset] [(.ref o)])) rfl rfl (hb hby d6_75)
  refine ⟨T4, X4, e4, fun target kt => ?_⟩
  show Steps p.tables e below (T0.setTop (mkF m 45 #[.val (.ref o), .val (.double b1), .second, .val (.double b2), .second, .val (.double b3), .second, .val (.double b4), .second, .val (.int v9), .unset] [])) _
  refine XS.aloadN X0.here hx rfl (hb hby d6_45) rfl rfl ?_
  show Steps p.tables e below (T0.setTop (mkF m 46 #[.val (.ref o), .val (.double b1), .second, .val (.double b2), .second, .val (.double b3), .second, .val (.double b4), .second, .val (.int v9), .unset] [(.ref o)])) _
  refine st1 _ ?_
  show Steps p.tables e below (T1.setTop (mkF m 49 #[.val (.ref o), .val (.double b1), .second, .val (.double b2), .second, .val (.double b3), .second, .val (.double b4), .second, .val (.int v9), .unset] [(.double a1)])) _
  refine own_dload X1.here hx rfl (hb hby d6_49) rfl ?_
  show Steps p.tables e below (T1.setTop (mkF m 51 #[.val (.ref o), .val (.double b1), .second, .val (.double b2), .second, .val (.double b3), .second, .val (.double b4), .second, .val (.int v9), .unset] [(.double b3), (.double a1)])) _
  refine own_dcmp X1.here hx rfl (hb hby d6_51) rfl ?_
  show Steps p.tables e below (T1.setTop (mkF m 52 #[.val (.ref o), .val (.double b1), .second, .val (.double b2), .second, .val (.double b3), .second, .val (.double b4), .second, .val (.int v9), .unset] [(.int (cmpValue (FP.dcmp a1 b3) .l))])) _
  refine XS.ifNo X1.here hx rfl (hb hby d6_52) rfl ((if0 _ _).trans (teq hc52).2) ?_
  show Steps p.tables e below (T1.setTop (mkF m 55 #[.val (.ref o), .val (.double b1), .second, .val (.double b2), .second, .val (.double b3), .second, .val (.double b4), .second, .val (.int v9), .unset] [])) _
  refine XS.aloadN X1.here hx rfl (hb hby d6_55) rfl rfl ?_
  show Steps p.tables e below (T1.setTop (mkF m 56 #[.val (.ref o), .val (.double b1), .second, .val (.double b2), .second, .val (.double b3), .second, .val (.double b4), .second, .val (.int v9), .unset] [(.ref o)])) _
  refine st2 _ ?_
  show Steps p.tables e below (T2.setTop (mkF m 59 #[.val (.ref o), .val (.double b1), .second, .val (.double b2), .second, .val (.double b3), .second, .val (.double b4), .second, .val (.int v9), .unset] [(.double a2)])) _
  refine own_dload X2.here hx rfl (hb hby d6_59) rfl ?_
  show Steps p.tables e below (T2.setTop (mkF m 61 #[.val (.ref o), .val (.double b1), .second, .val (.double b2), .second, .val (.double b3), .second, .val (.double b4), .second, .val (.int v9), .unset] [(.double b4), (.double a2)])) _
  refine own_dcmp X2.here hx rfl (hb hby d6_61) rfl ?_
  show Steps p.tables e below (T2.setTop (mkF m 62 #[.val (.ref o), .val (.double b1), .second, .val (.double b2), .second, .val (.double b3), .second, .val (.double b4), .second, .val (.int v9), .unset] [(.int (cmpValue (FP.dcmp a2 b4) .l))])) _
  refine XS.ifNo X2.here hx rfl (hb hby d6_62) rfl ((if0 _ _).trans (teq hc62).2) ?_
  show Steps p.tables e below (T2.setTop (mkF m 65 #[.val (.ref o), .val (.double b1), .second, .val (.double b2), .second, .val (.double b3), .second, .val (.double b4), .second, .val (.int v9), .unset] [])) _
  refine XS.aloadN X2.here hx rfl (hb hby d6_65) rfl rfl ?_
  show Steps p.tables e below (T2.setTop (mkF m 66 #[.val (.ref o), .val (.double b1), .second, .val (.double b2), .second, .val (.double b3), .second, .val (.double b4), .second, .val (.int v9), .unset] [(.ref o)])) _
  refine st3 _ ?_
  show Steps p.tables e below (T3.setTop (mkF m 69 #[.val (.ref o), .val (.double b1), .second, .val (.double b2), .second, .val (.double b3), .second, .val (.double b4), .second, .val (.int v9), .unset] [(.double a3)])) _
  refine own_dloadN X3.here hx rfl (hb hby d6_69) rfl ?_
  show Steps p.tables e below (T3.setTop (mkF m 70 #[.val (.ref o), .val (.double b1), .second, .val (.double b2), .second, .val (.double b3), .second, .val (.double b4), .second, .val (.int v9), .unset] [(.double b1), (.double a3)])) _
  refine own_dcmp X3.here hx rfl (hb hby d6_70) rfl ?_
  show Steps p.tables e below (T3.setTop (mkF m 71 #[.val (.ref o), .val (.double b1), .second, .val (.double b2), .second, .val (.double b3), .second, .val (.double b4), .second, .val (.int v9), .unset] [(.int (cmpValue (FP.dcmp a3 b1) .l))])) _
  refine XS.ifNo X3.here hx rfl (hb hby d6_71) rfl ((if0 _ _).trans (teq hc71).2) ?_
  show Steps p.tables e below (T3.setTop (mkF m 74 #[.val (.ref o), .val (.double b1), .second, .val (.double b2), .second, .val (.double b3), .second, .val (.double b4), .second, .val (.int v9), .unset] [])) _
  refine XS.aloadN X3.here hx rfl (hb hby d6_74) rfl rfl ?_
  show Steps p.tables e below (T3.setTop (mkF m 75 #[.val (.ref o), .val (.double b1), .second, .val (.double b2), .second, .val (.double b3), .second, .val (.double b4), .second, .val (.int v9), .unset] [(.ref o)])) _
  refine st4 _ ?_
  show Steps p.tables e below (T4.setTop (mkF m 78 #[.val (.ref o), .val (.double b1), .second, .val (.double b2), .second, .val (.double b3), .second, .val (.double b4), .second, .val (.int v9), .unset] [(.double a4)])) _
  refine own_dloadN X4.here hx rfl (hb hby d6_78) rfl ?_
  show Steps p.tables e below (T4.setTop (mkF m 79 #[.val (.ref o), .val (.double b1), .second, .val (.double b2), .second, .val (.double b3), .second, .val (.double b4), .second, .val (.int v9), .unset] [(.double b2), (.double a4)])) _
  refine own_dcmp X4.here hx rfl (hb hby d6_79) rfl ?_
  show Steps p.tables e below (T4.setTop (mkF m 80 #[.val (.ref o), .val (.double b1), .second, .val (.double b2), .second, .val (.double b3), .second, .val (.double b4), .second, .val (.int v9), .unset] [(.int (cmpValue (FP.dcmp a4 b2) .l))])) _
  refine XS.ifNo X4.here hx rfl (hb hby d6_80) rfl ((if0 _ _).trans (teq hc80).2) ?_
  show Steps p.tables e below (T4.setTop (mkF m 83 #[.val (.ref o), .val (.double b1), .second, .val (.double b2), .second, .val (.double b3), .second, .val (.double b4), .second, .val (.int v9), .unset] [])) _
  refine XS.iconst X4.here hx rfl (hb hby d6_83) ?_
  show Steps p.tables e below (T4.setTop (mkF m 84 #[.val (.ref o), .val (.double b1), .second, .val (.double b2), .second, .val (.double b3), .second, .val (.double b4), .second, .val (.int v9), .unset] [(.int (1 : Int32))])) _
  refine XS.goto X4.here hx rfl (pc0 := 84) (pc' := 88) rfl (hb hby d6_84) (by decide) (by decide) ?_
  show Steps p.tables e below (T4.setTop (mkF m 88 #[.val (.ref o), .val (.double b1), .second, .val (.double b2), .second, .val (.double b3), .second, .val (.double b4), .second, .val (.int v9), .unset] [(.int (1 : Int32))])) _
  refine XS.istore X4.here hx rfl (hb hby d6_88) rfl (l' := #[.val (.ref o), .val (.double b1), .second, .val (.double b2), .second, .val (.double b3), .second, .val (.double b4), .second, .val (.int v9), .val (.int (1 : Int32))]) rfl ?_
  exact kt
theorem jB {p : Program} {l : Launch} {e : Env} {R : Room} {s : State} {m : MethodId} {args : Array Value} {below : List Frame} {meth : Method} {c : Code} {T0 : State} {locs : List Loc} {cells slots : Nat} {Z : State} {a0 : Array Value} {h0 : Heap} (X0 : Stand p l e R s m args below meth c T0 locs cells slots) (hx : p.tables.exec = Jvm.exec) (hZ : Z.Warmed39 s.vm) (hw : ∀ d ∈ tables_1, d.before a0 Z = true) (hby : c.code = prog_26_method_3_code) (hown : s.vm.findClass "com/example/quadrille/quadrille/geometry/Segment" = some m.cls) (e0 : T0.heap = h0) (v9 : Int32) (o : Addr) (a1 a2 a3 a4 b1 b2 b3 b4 : UInt64)  (FA1 : Fld Z h0 o "com/example/quadrille/quadrille/geometry/Segment" "x1" "D" (.double a1)) (FA2 : Fld Z h0 o "com/example/quadrille/quadrille/geometry/Segment" "y1" "D" (.double a2)) (FA3 : Fld Z h0 o "com/example/quadrille/quadrille/geometry/Segment" "x2" "D" (.double a3)) (FA4 : Fld Z h0 o "com/example/quadrille/quadrille/geometry/Segment" "y2" "D" (.double a4)) :
    ∃ (T' : State), Stand p l e R s m args below meth c T' locs cells slots ∧ T'.heap = h0 ∧ ∀ target, Steps p.tables e below (T'.setTop (mkF m 90 #[.val (.ref o), .val (.double b1), .second, .val (.double b2), .second, .val (.double b3), .second, .val (.double b4), .second, .val (.int v9), .val (.int (own_and (own_c a1 b3 = 0) (own_c a2 b4 = 0) (own_c a3 b1 = 0) (own_c a4 b2 = 0)))] [])) target → Steps p.tables e below (T0.setTop (mkF m 45 #[.val (.ref o), .val (.double b1), .second, .val (.double b2), .second, .val (.double b3), .second, .val (.double b4), .second, .val (.int v9), .unset] [])) target := by
  have A := fun q => (show (own_and (own_c a1 b3 = 0) (own_c a2 b4 = 0) (own_c a3 b1 = 0) (own_c a4 b2 = 0)) = 1 from if_pos q)
  have N := fun q => (show (own_and (own_c a1 b3 = 0) (own_c a2 b4 = 0) (own_c a3 b1 = 0) (own_c a4 b2 = 0)) = 0 from if_neg q)
  by_cases k0 : ¬ (own_c a1 b3 = 0)
  · rw [N (fun q => k0 q.1)]; exact jB0 X0 hx hZ hw hby hown e0 v9 o a1 a2 a3 a4 b1 b2 b3 b4 FA1 FA2 FA3 FA4  k0
  replace k0 := Classical.not_not.mp k0
  by_cases k1 : ¬ (own_c a2 b4 = 0)
  · rw [N (fun q => k1 q.2.1)]; exact jB1 X0 hx hZ hw hby hown e0 v9 o a1 a2 a3 a4 b1 b2 b3 b4 FA1 FA2 FA3 FA4 k0 k1
  replace k1 := Classical.not_not.mp k1
  by_cases k2 : ¬ (own_c a3 b1 = 0)
  · rw [N (fun q => k2 q.2.2.1)]; exact jB2 X0 hx hZ hw hby hown e0 v9 o a1 a2 a3 a4 b1 b2 b3 b4 FA1 FA2 FA3 FA4 k0 k1 k2
  replace k2 := Classical.not_not.mp k2
  by_cases k3 : ¬ (own_c a4 b2 = 0)
  · rw [N (fun q => k3 q.2.2.2)]; exact jB3 X0 hx hZ hw hby hown e0 v9 o a1 a2 a3 a4 b1 b2 b3 b4 FA1 FA2 FA3 FA4 k0 k1 k2 k3
  replace k3 := Classical.not_not.mp k3
  rw [A ⟨k0, k1, k2, k3⟩]; exact jB4 X0 hx hZ hw hby hown e0 v9 o a1 a2 a3 a4 b1 b2 b3 b4 FA1 FA2 FA3 FA4 k0 k1 k2 k3
theorem d6_90 : decode prog_26_method_3_code 90 = .ok (.iload 9, 2) := by decide +kernel
theorem d6_92 : decode prog_26_method_3_code 92 = .ok (.ifCond .ne 8, 3) := by decide +kernel
theorem d6_100 : decode prog_26_method_3_code 100 = .ok (.iconst 1, 1) := by decide +kernel
theorem d6_101 : decode prog_26_method_3_code 101 = .ok (.goto 4, 3) := by decide +kernel
theorem d6_105 : decode prog_26_method_3_code 105 = .ok (.ireturn, 1) := by decide +kernel
theorem ef_6 (m : MethodId) (x0 : Addr) (x1 : UInt64) (x2 : UInt64) (x3 : UInt64) (x4 : UInt64) : entryFrame m #[(.ref x0), (.double x1), (.double x2), (.double x3), (.double x4)] 11 = mkF m 0 #[.val (.ref x0), .val (.double x1), .second, .val (.double x2), .second, .val (.double x3), .second, .val (.double x4), .second, .unset, .unset] [] := by first | (simp [entryFrame, mkF, argsToLocals, Value.category]; done) | rfl
theorem pn_6 : plainName "com/example/quadrille/quadrille/geometry/Segment" = true := by first | (simp [plainName, overriddenIn]; done) | decide +kernel
def Qd4 (Z : State) (o : Addr) (a1 a2 a3 a4 b1 b2 b3 b4 : UInt64) (h0 : Heap) (n0 : Nat) (v : Option Value) (h : Heap) (L : List Loc) : Prop := v = some (.int (own_or (own_and (own_c a1 b1 = 0) (own_c a2 b2 = 0) (own_c a3 b3 = 0) (own_c a4 b4 = 0)) (own_and (own_c a1 b3 = 0) (own_c a2 b4 = 0) (own_c a3 b1 = 0) (own_c a4 b2 = 0)))) ∧ Fr n0 L ∧ h = h0
set_option maxRecDepth 65536 in
set_option maxHeartbeats 40000000 in
theorem rmJa (l : Launch) (Z : State) (a0 : Array Value) (hw : ∀ d ∈ tables_1, d.before a0 Z = true) (ws : List Jvm.Cond) (o : Addr) (a1 a2 a3 a4 b1 b2 b3 b4 : UInt64) (h0 : Heap) (n0 : Nat) (FA1 : Fld Z h0 o "com/example/quadrille/quadrille/geometry/Segment" "x1" "D" (.double a1)) (FA2 : Fld Z h0 o "com/example/quadrille/quadrille/geometry/Segment" "y1" "D" (.double a2)) (FA3 : Fld Z h0 o "com/example/quadrille/quadrille/geometry/Segment" "x2" "D" (.double a3)) (FA4 : Fld Z h0 o "com/example/quadrille/quadrille/geometry/Segment" "y2" "D" (.double a4)) (hc92 : ¬ ((own_and (own_c a1 b1 = 0) (own_c a2 b2 = 0) (own_c a3 b3 = 0) (own_c a4 b4 = 0)) = (0 : Int32))) :
    MetFree l (⟨"com/example/quadrille/quadrille/geometry/Segment", "joins", "(DDDD)Z"⟩ : MethodName) (head1 (Jvm.Cond.code (⟨"com/example/quadrille/quadrille/geometry/Segment", "joins", "(DDDD)Z"⟩ : MethodName) prog_26_method_3_code 11 (some .boolean) :: ws) ({ frames := 0, cells := 0, slots := 0, locals := 0 } : Room)) (fun qq U => qq = #[(.ref o), (.double b1), (.double b2), (.double b3), (.double b4)] ∧ Z.Warmed39 U.vm ∧ U.heap = h0) (fun _ _ _ _ _ => True) (fun _ UU oo UU' => ∃ vv LL, oo = .returned vv ∧ Qd4 Z o a1 a2 a3 a4 b1 b2 b3 b4 h0 n0 vv UU'.heap LL ∧ FrameEnd UU oo UU' LL ({ frames := 0, cells := 0, slots := 0, locals := 0 } : Room).cells ({ frames := 0, cells := 0, slots := 0, locals := 0 } : Room).slots) := by
  refine MetFree.of_bodySF (plainFor_of_name pn_6) hisR ?_
  intro p e s m args below meth c s₁ Bd hml0 hP hK
  obtain ⟨rfl, hZ, hh⟩ := hP
  have hx := Bd.exec
  have hby := Bd.bytes
  have hml : c.maxLocals = 11 := hml0
  have hown : s.vm.findClass "com/example/quadrille/quadrille/geometry/Segment" = some m.cls := findClass_of_methodNamed Bd.named
  have hnm := (name_of_methodNamed Bd.named Bd.method).1
  have X0 : Stand p l e ({ frames := 0, cells := 0, slots := 0, locals := 0 } : Room) s m #[(.ref o), (.double b1), (.double b2), (.double b3), (.double b4)] below meth c s₁ [] 0 0 := Stand.of_body Bd
  have e0 : s₁.heap = h0 := by rw [← hh, Bd.state]; rfl
  have N0 := Fr.nil n0
  have pre0 : ∀ t, Steps p.tables e below (s₁.setTop (mkF m 0 #[.val (.ref o), .val (.double b1), .second, .val (.double b2), .second, .val (.double b3), .second, .val (.double b4), .second, .unset, .unset] [])) t → Steps p.tables e below (s₁.setTop (entryFrame m #[(.ref o), (.double b1), (.double b2), (.double b3), (.double b4)] 11)) t := fun tt kk => castTop (ef_6 m o b1 b2 b3 b4) kk
  obtain ⟨T1, X1, e1, st1⟩ := jA X0 hx hZ hw hby hown e0 o a1 a2 a3 a4 b1 b2 b3 b4 FA1 FA2 FA3 FA4
  obtain ⟨T2, X2, e2, st2⟩ := jB X1 hx hZ hw hby hown e1 (own_and (own_c a1 b1 = 0) (own_c a2 b2 = 0) (own_c a3 b3 = 0) (own_c a4 b4 = 0)) o a1 a2 a3 a4 b1 b2 b3 b4 FA1 FA2 FA3 FA4
  obtain ⟨fs, hr, hrun, hended, hW, hsame⟩ := X2.leave (v := some (.int (1 : Int32))) (fun h => by rw [Bd.returns] at h; cases h)
  refine ⟨_, _, pre0 _ ?_, hrun, hended, _, _, rfl, ?_, ⟨_, rfl⟩, hW, hsame.mono (by decide) (by decide)⟩
  · show Steps p.tables e below (s₁.setTop (mkF m 0 #[.val (.ref o), .val (.double b1), .second, .val (.double b2), .second, .val (.double b3), .second, .val (.double b4), .second, .unset, .unset] [])) _
    refine st1 _ ?_
    show Steps p.tables e below (T1.setTop (mkF m 45 #[.val (.ref o), .val (.double b1), .second, .val (.double b2), .second, .val (.double b3), .second, .val (.double b4), .second, .val (.int (own_and (own_c a1 b1 = 0) (own_c a2 b2 = 0) (own_c a3 b3 = 0) (own_c a4 b4 = 0))), .unset] [])) _
    refine st2 _ ?_
    show Steps p.tables e below (T2.setTop (mkF m 90 #[.val (.ref o), .val (.double b1), .second, .val (.double b2), .second, .val (.double b3), .second, .val (.double b4), .second, .val (.int (own_and (own_c a1 b1 = 0) (own_c a2 b2 = 0) (own_c a3 b3 = 0) (own_c a4 b4 = 0))), .val (.int (own_and (own_c a1 b3 = 0) (own_c a2 b4 = 0) (own_c a3 b1 = 0) (own_c a4 b2 = 0)))] [])) _
    refine XS.iload X2.here hx rfl (hb hby d6_90) rfl ?_
    show Steps p.tables e below (T2.setTop (mkF m 92 #[.val (.ref o), .val (.double b1), .second, .val (.double b2), .second, .val (.double b3), .second, .val (.double b4), .second, .val (.int (own_and (own_c a1 b1 = 0) (own_c a2 b2 = 0) (own_c a3 b3 = 0) (own_c a4 b4 = 0))), .val (.int (own_and (own_c a1 b3 = 0) (own_c a2 b4 = 0) (own_c a3 b1 = 0) (own_c a4 b2 = 0)))] [(.int (own_and (own_c a1 b1 = 0) (own_c a2 b2 = 0) (own_c a3 b3 = 0) (own_c a4 b4 = 0)))])) _
    refine XS.ifYes X2.here hx rfl (pc0 := 92) (pc' := 100) rfl (hb hby d6_92) rfl ((if0 _ _).trans (feq hc92).2) (by decide) (by decide) ?_
    show Steps p.tables e below (T2.setTop (mkF m 100 #[.val (.ref o), .val (.double b1), .second, .val (.double b2), .second, .val (.double b3), .second, .val (.double b4), .second, .val (.int (own_and (own_c a1 b1 = 0) (own_c a2 b2 = 0) (own_c a3 b3 = 0) (own_c a4 b4 = 0))), .val (.int (own_and (own_c a1 b3 = 0) (own_c a2 b4 = 0) (own_c a3 b1 = 0) (own_c a4 b2 = 0)))] [])) _
    refine XS.iconst X2.here hx rfl (hb hby d6_100) ?_
    show Steps p.tables e below (T2.setTop (mkF m 101 #[.val (.ref o), .val (.double b1), .second, .val (.double b2), .second, .val (.double b3), .second, .val (.double b4), .second, .val (.int (own_and (own_c a1 b1 = 0) (own_c a2 b2 = 0) (own_c a3 b3 = 0) (own_c a4 b4 = 0))), .val (.int (own_and (own_c a1 b3 = 0) (own_c a2 b4 = 0) (own_c a3 b1 = 0) (own_c a4 b2 = 0)))] [(.int (1 : Int32))])) _
    refine XS.goto X2.here hx rfl (pc0 := 101) (pc' := 105) rfl (hb hby d6_101) (by decide) (by decide) ?_
    show Steps p.tables e below (T2.setTop (mkF m 105 #[.val (.ref o), .val (.double b1), .second, .val (.double b2), .second, .val (.double b3), .second, .val (.double b4), .second, .val (.int (own_and (own_c a1 b1 = 0) (own_c a2 b2 = 0) (own_c a3 b3 = 0) (own_c a4 b4 = 0))), .val (.int (own_and (own_c a1 b3 = 0) (own_c a2 b4 = 0) (own_c a3 b1 = 0) (own_c a4 b2 = 0)))] [(.int (1 : Int32))])) _
    exact retN X2 hx (t := .boolean) Bd.returns (by simp) (hb hby d6_105) hr
  · show Qd4 Z o a1 a2 a3 a4 b1 b2 b3 b4 h0 n0 _ T2.heap _
    rw [e2]
    exact ⟨(by rw [own_or, if_neg hc92]), N0, rfl⟩
theorem d6_95 : decode prog_26_method_3_code 95 = .ok (.iload 10, 2) := by decide +kernel
theorem d6_97 : decode prog_26_method_3_code 97 = .ok (.ifCond .eq 7, 3) := by decide +kernel
theorem d6_104 : decode prog_26_method_3_code 104 = .ok (.iconst 0, 1) := by decide +kernel
set_option maxRecDepth 65536 in
set_option maxHeartbeats 40000000 in
theorem rmJb (l : Launch) (Z : State) (a0 : Array Value) (hw : ∀ d ∈ tables_1, d.before a0 Z = true) (ws : List Jvm.Cond) (o : Addr) (a1 a2 a3 a4 b1 b2 b3 b4 : UInt64) (h0 : Heap) (n0 : Nat) (FA1 : Fld Z h0 o "com/example/quadrille/quadrille/geometry/Segment" "x1" "D" (.double a1)) (FA2 : Fld Z h0 o "com/example/quadrille/quadrille/geometry/Segment" "y1" "D" (.double a2)) (FA3 : Fld Z h0 o "com/example/quadrille/quadrille/geometry/Segment" "x2" "D" (.double a3)) (FA4 : Fld Z h0 o "com/example/quadrille/quadrille/geometry/Segment" "y2" "D" (.double a4)) (hc92 : (own_and (own_c a1 b1 = 0) (own_c a2 b2 = 0) (own_c a3 b3 = 0) (own_c a4 b4 = 0)) = (0 : Int32)) (hc97 : (own_and (own_c a1 b3 = 0) (own_c a2 b4 = 0) (own_c a3 b1 = 0) (own_c a4 b2 = 0)) = (0 : Int32)) :
    MetFree l (⟨"com/example/quadrille/quadrille/geometry/Segment", "joins", "(DDDD)Z"⟩ : MethodName) (head1 (Jvm.Cond.code (⟨"com/example/quadrille/quadrille/geometry/Segment", "joins", "(DDDD)Z"⟩ : MethodName) prog_26_method_3_code 11 (some .boolean) :: ws) ({ frames := 0, cells := 0, slots := 0, locals := 0 } : Room)) (fun qq U => qq = #[(.ref o), (.double b1), (.double b2), (.double b3), (.double b4)] ∧ Z.Warmed39 U.vm ∧ U.heap = h0) (fun _ _ _ _ _ => True) (fun _ UU oo UU' => ∃ vv LL, oo = .returned vv ∧ Qd4 Z o a1 a2 a3 a4 b1 b2 b3 b4 h0 n0 vv UU'.heap LL ∧ FrameEnd UU oo UU' LL ({ frames := 0, cells := 0, slots := 0, locals := 0 } : Room).cells ({ frames := 0, cells := 0, slots := 0, locals := 0 } : Room).slots) := by
  refine MetFree.of_bodySF (plainFor_of_name pn_6) hisR ?_
  intro p e s m args below meth c s₁ Bd hml0 hP hK
  obtain ⟨rfl, hZ, hh⟩ := hP
  have hx := Bd.exec
  have hby := Bd.bytes
  have hml : c.maxLocals = 11 := hml0
  have hown : s.vm.findClass "com/example/quadrille/quadrille/geometry/Segment" = some m.cls := findClass_of_methodNamed Bd.named
  have hnm := (name_of_methodNamed Bd.named Bd.method).1
  have X0 : Stand p l e ({ frames := 0, cells := 0, slots := 0, locals := 0 } : Room) s m #[(.ref o), (.double b1), (.double b2), (.double b3), (.double b4)] below meth c s₁ [] 0 0 := Stand.of_body Bd
  have e0 : s₁.heap = h0 := by rw [← hh, Bd.state]; rfl
  have N0 := Fr.nil n0
  have pre0 : ∀ t, Steps p.tables e below (s₁.setTop (mkF m 0 #[.val (.ref o), .val (.double b1), .second, .val (.double b2), .second, .val (.double b3), .second, .val (.double b4), .second, .unset, .unset] [])) t → Steps p.tables e below (s₁.setTop (entryFrame m #[(.ref o), (.double b1), (.double b2), (.double b3), (.double b4)] 11)) t := fun tt kk => castTop (ef_6 m o b1 b2 b3 b4) kk
  obtain ⟨T1, X1, e1, st1⟩ := jA X0 hx hZ hw hby hown e0 o a1 a2 a3 a4 b1 b2 b3 b4 FA1 FA2 FA3 FA4
  obtain ⟨T2, X2, e2, st2⟩ := jB X1 hx hZ hw hby hown e1 (own_and (own_c a1 b1 = 0) (own_c a2 b2 = 0) (own_c a3 b3 = 0) (own_c a4 b4 = 0)) o a1 a2 a3 a4 b1 b2 b3 b4 FA1 FA2 FA3 FA4
  obtain ⟨fs, hr, hrun, hended, hW, hsame⟩ := X2.leave (v := some (.int (0 : Int32))) (fun h => by rw [Bd.returns] at h; cases h)
  refine ⟨_, _, pre0 _ ?_, hrun, hended, _, _, rfl, ?_, ⟨_, rfl⟩, hW, hsame.mono (by decide) (by decide)⟩
  · show Steps p.tables e below (s₁.setTop (mkF m 0 #[.val (.ref o), .val (.double b1), .second, .val (.double b2), .second, .val (.double b3), .second, .val (.double b4), .second, .unset, .unset] [])) _
    refine st1 _ ?_
    show Steps p.tables e below (T1.setTop (mkF m 45 #[.val (.ref o), .val (.double b1), .second, .val (.double b2), .second, .val (.double b3), .second, .val (.double b4), .second, .val (.int (own_and (own_c a1 b1 = 0) (own_c a2 b2 = 0) (own_c a3 b3 = 0) (own_c a4 b4 = 0))), .unset] [])) _
    refine st2 _ ?_
    show Steps p.tables e below (T2.setTop (mkF m 90 #[.val (.ref o), .val (.double b1), .second, .val (.double b2), .second, .val (.double b3), .second, .val (.double b4), .second, .val (.int (own_and (own_c a1 b1 = 0) (own_c a2 b2 = 0) (own_c a3 b3 = 0) (own_c a4 b4 = 0))), .val (.int (own_and (own_c a1 b3 = 0) (own_c a2 b4 = 0) (own_c a3 b1 = 0) (own_c a4 b2 = 0)))] [])) _
    refine XS.iload X2.here hx rfl (hb hby d6_90) rfl ?_
    show Steps p.tables e below (T2.setTop (mkF m 92 #[.val (.ref o), .val (.double b1), .second, .val (.double b2), .second, .val (.double b3), .second, .val (.double b4), .second, .val (.int (own_and (own_c a1 b1 = 0) (own_c a2 b2 = 0) (own_c a3 b3 = 0) (own_c a4 b4 = 0))), .val (.int (own_and (own_c a1 b3 = 0) (own_c a2 b4 = 0) (own_c a3 b1 = 0) (own_c a4 b2 = 0)))] [(.int (own_and (own_c a1 b1 = 0) (own_c a2 b2 = 0) (own_c a3 b3 = 0) (own_c a4 b4 = 0)))])) _
    refine XS.ifNo X2.here hx rfl (hb hby d6_92) rfl ((if0 _ _).trans (teq hc92).2) ?_
    show Steps p.tables e below (T2.setTop (mkF m 95 #[.val (.ref o), .val (.double b1), .second, .val (.double b2), .second, .val (.double b3), .second, .val (.double b4), .second, .val (.int (own_and (own_c a1 b1 = 0) (own_c a2 b2 = 0) (own_c a3 b3 = 0) (own_c a4 b4 = 0))), .val (.int (own_and (own_c a1 b3 = 0) (own_c a2 b4 = 0) (own_c a3 b1 = 0) (own_c a4 b2 = 0)))] [])) _
    refine XS.iload X2.here hx rfl (hb hby d6_95) rfl ?_
    show Steps p.tables e below (T2.setTop (mkF m 97 #[.val (.ref o), .val (.double b1), .second, .val (.double b2), .second, .val (.double b3), .second, .val (.double b4), .second, .val (.int (own_and (own_c a1 b1 = 0) (own_c a2 b2 = 0) (own_c a3 b3 = 0) (own_c a4 b4 = 0))), .val (.int (own_and (own_c a1 b3 = 0) (own_c a2 b4 = 0) (own_c a3 b1 = 0) (own_c a4 b2 = 0)))] [(.int (own_and (own_c a1 b3 = 0) (own_c a2 b4 = 0) (own_c a3 b1 = 0) (own_c a4 b2 = 0)))])) _
    refine XS.ifYes X2.here hx rfl (pc0 := 97) (pc' := 104) rfl (hb hby d6_97) rfl ((if0 _ _).trans (teq hc97).1) (by decide) (by decide) ?_
    show Steps p.tables e below (T2.setTop (mkF m 104 #[.val (.ref o), .val (.double b1), .second, .val (.double b2), .second, .val (.double b3), .second, .val (.double b4), .second, .val (.int (own_and (own_c a1 b1 = 0) (own_c a2 b2 = 0) (own_c a3 b3 = 0) (own_c a4 b4 = 0))), .val (.int (own_and (own_c a1 b3 = 0) (own_c a2 b4 = 0) (own_c a3 b1 = 0) (own_c a4 b2 = 0)))] [])) _
    refine XS.iconst X2.here hx rfl (hb hby d6_104) ?_
    show Steps p.tables e below (T2.setTop (mkF m 105 #[.val (.ref o), .val (.double b1), .second, .val (.double b2), .second, .val (.double b3), .second, .val (.double b4), .second, .val (.int (own_and (own_c a1 b1 = 0) (own_c a2 b2 = 0) (own_c a3 b3 = 0) (own_c a4 b4 = 0))), .val (.int (own_and (own_c a1 b3 = 0) (own_c a2 b4 = 0) (own_c a3 b1 = 0) (own_c a4 b2 = 0)))] [(.int (0 : Int32))])) _
    exact retN X2 hx (t := .boolean) Bd.returns (by simp) (hb hby d6_105) hr
  · show Qd4 Z o a1 a2 a3 a4 b1 b2 b3 b4 h0 n0 _ T2.heap _
    rw [e2]
    exact ⟨(by rw [own_or, if_pos hc92, if_pos hc97]), N0, rfl⟩
set_option maxRecDepth 65536 in
set_option maxHeartbeats 40000000 in
theorem rmJc (l : Launch) (Z : State) (a0 : Array Value) (hw : ∀ d ∈ tables_1, d.before a0 Z = true) (ws : List Jvm.Cond) (o : Addr) (a1 a2 a3 a4 b1 b2 b3 b4 : UInt64) (h0 : Heap) (n0 : Nat) (FA1 : Fld Z h0 o "com/example/quadrille/quadrille/geometry/Segment" "x1" "D" (.double a1)) (FA2 : Fld Z h0 o "com/example/quadrille/quadrille/geometry/Segment" "y1" "D" (.double a2)) (FA3 : Fld Z h0 o "com/example/quadrille/quadrille/geometry/Segment" "x2" "D" (.double a3)) (FA4 : Fld Z h0 o "com/example/quadrille/quadrille/geometry/Segment" "y2" "D" (.double a4)) (hc92 : (own_and (own_c a1 b1 = 0) (own_c a2 b2 = 0) (own_c a3 b3 = 0) (own_c a4 b4 = 0)) = (0 : Int32)) (hc97 : ¬ ((own_and (own_c a1 b3 = 0) (own_c a2 b4 = 0) (own_c a3 b1 = 0) (own_c a4 b2 = 0)) = (0 : Int32))) :
    MetFree l (⟨"com/example/quadrille/quadrille/geometry/Segment", "joins", "(DDDD)Z"⟩ : MethodName) (head1 (Jvm.Cond.code (⟨"com/example/quadrille/quadrille/geometry/Segment", "joins", "(DDDD)Z"⟩ : MethodName) prog_26_method_3_code 11 (some .boolean) :: ws) ({ frames := 0, cells := 0, slots := 0, locals := 0 } : Room)) (fun qq U => qq = #[(.ref o), (.double b1), (.double b2), (.double b3), (.double b4)] ∧ Z.Warmed39 U.vm ∧ U.heap = h0) (fun _ _ _ _ _ => True) (fun _ UU oo UU' => ∃ vv LL, oo = .returned vv ∧ Qd4 Z o a1 a2 a3 a4 b1 b2 b3 b4 h0 n0 vv UU'.heap LL ∧ FrameEnd UU oo UU' LL ({ frames := 0, cells := 0, slots := 0, locals := 0 } : Room).cells ({ frames := 0, cells := 0, slots := 0, locals := 0 } : Room).slots) := by
  refine MetFree.of_bodySF (plainFor_of_name pn_6) hisR ?_
  intro p e s m args below meth c s₁ Bd hml0 hP hK
  obtain ⟨rfl, hZ, hh⟩ := hP
  have hx := Bd.exec
  have hby := Bd.bytes
  have hml : c.maxLocals = 11 := hml0
  have hown : s.vm.findClass "com/example/quadrille/quadrille/geometry/Segment" = some m.cls := findClass_of_methodNamed Bd.named
  have hnm := (name_of_methodNamed Bd.named Bd.method).1
  have X0 : Stand p l e ({ frames := 0, cells := 0, slots := 0, locals := 0 } : Room) s m #[(.ref o), (.double b1), (.double b2), (.double b3), (.double b4)] below meth c s₁ [] 0 0 := Stand.of_body Bd
  have e0 : s₁.heap = h0 := by rw [← hh, Bd.state]; rfl
  have N0 := Fr.nil n0
  have pre0 : ∀ t, Steps p.tables e below (s₁.setTop (mkF m 0 #[.val (.ref o), .val (.double b1), .second, .val (.double b2), .second, .val (.double b3), .second, .val (.double b4), .second, .unset, .unset] [])) t → Steps p.tables e below (s₁.setTop (entryFrame m #[(.ref o), (.double b1), (.double b2), (.double b3), (.double b4)] 11)) t := fun tt kk => castTop (ef_6 m o b1 b2 b3 b4) kk
  obtain ⟨T1, X1, e1, st1⟩ := jA X0 hx hZ hw hby hown e0 o a1 a2 a3 a4 b1 b2 b3 b4 FA1 FA2 FA3 FA4
  obtain ⟨T2, X2, e2, st2⟩ := jB X1 hx hZ hw hby hown e1 (own_and (own_c a1 b1 = 0) (own_c a2 b2 = 0) (own_c a3 b3 = 0) (own_c a4 b4 = 0)) o a1 a2 a3 a4 b1 b2 b3 b4 FA1 FA2 FA3 FA4
  obtain ⟨fs, hr, hrun, hended, hW, hsame⟩ := X2.leave (v := some (.int (1 : Int32))) (fun h => by rw [Bd.returns] at h; cases h)
  refine ⟨_, _, pre0 _ ?_, hrun, hended, _, _, rfl, ?_, ⟨_, rfl⟩, hW, hsame.mono (by decide) (by decide)⟩
  · show Steps p.tables e below (s₁.setTop (mkF m 0 #[.val (.ref o), .val (.double b1), .second, .val (.double b2), .second, .val (.double b3), .second, .val (.double b4), .second, .unset, .unset] [])) _
    refine st1 _ ?_
    show Steps p.tables e below (T1.setTop (mkF m 45 #[.val (.ref o), .val (.double b1), .second, .val (.double b2), .second, .val (.double b3), .second, .val (.double b4), .second, .val (.int (own_and (own_c a1 b1 = 0) (own_c a2 b2 = 0) (own_c a3 b3 = 0) (own_c a4 b4 = 0))), .unset] [])) _
    refine st2 _ ?_
    show Steps p.tables e below (T2.setTop (mkF m 90 #[.val (.ref o), .val (.double b1), .second, .val (.double b2), .second, .val (.double b3), .second, .val (.double b4), .second, .val (.int (own_and (own_c a1 b1 = 0) (own_c a2 b2 = 0) (own_c a3 b3 = 0) (own_c a4 b4 = 0))), .val (.int (own_and (own_c a1 b3 = 0) (own_c a2 b4 = 0) (own_c a3 b1 = 0) (own_c a4 b2 = 0)))] [])) _
    refine XS.iload X2.here hx rfl (hb hby d6_90) rfl ?_
    show Steps p.tables e below (T2.setTop (mkF m 92 #[.val (.ref o), .val (.double b1), .second, .val (.double b2), .second, .val (.double b3), .second, .val (.double b4), .second, .val (.int (own_and (own_c a1 b1 = 0) (own_c a2 b2 = 0) (own_c a3 b3 = 0) (own_c a4 b4 = 0))), .val (.int (own_and (own_c a1 b3 = 0) (own_c a2 b4 = 0) (own_c a3 b1 = 0) (own_c a4 b2 = 0)))] [(.int (own_and (own_c a1 b1 = 0) (own_c a2 b2 = 0) (own_c a3 b3 = 0) (own_c a4 b4 = 0)))])) _
    refine XS.ifNo X2.here hx rfl (hb hby d6_92) rfl ((if0 _ _).trans (teq hc92).2) ?_
    show Steps p.tables e below (T2.setTop (mkF m 95 #[.val (.ref o), .val (.double b1), .second, .val (.double b2), .second, .val (.double b3), .second, .val (.double b4), .second, .val (.int (own_and (own_c a1 b1 = 0) (own_c a2 b2 = 0) (own_c a3 b3 = 0) (own_c a4 b4 = 0))), .val (.int (own_and (own_c a1 b3 = 0) (own_c a2 b4 = 0) (own_c a3 b1 = 0) (own_c a4 b2 = 0)))] [])) _
    refine XS.iload X2.here hx rfl (hb hby d6_95) rfl ?_
    show Steps p.tables e below (T2.setTop (mkF m 97 #[.val (.ref o), .val (.double b1), .second, .val (.double b2), .second, .val (.double b3), .second, .val (.double b4), .second, .val (.int (own_and (own_c a1 b1 = 0) (own_c a2 b2 = 0) (own_c a3 b3 = 0) (own_c a4 b4 = 0))), .val (.int (own_and (own_c a1 b3 = 0) (own_c a2 b4 = 0) (own_c a3 b1 = 0) (own_c a4 b2 = 0)))] [(.int (own_and (own_c a1 b3 = 0) (own_c a2 b4 = 0) (own_c a3 b1 = 0) (own_c a4 b2 = 0)))])) _
    refine XS.ifNo X2.here hx rfl (hb hby d6_97) rfl ((if0 _ _).trans (feq hc97).1) ?_
    show Steps p.tables e below (T2.setTop (mkF m 100 #[.val (.ref o), .val (.double b1), .second, .val (.double b2), .second, .val (.double b3), .second, .val (.double b4), .second, .val (.int (own_and (own_c a1 b1 = 0) (own_c a2 b2 = 0) (own_c a3 b3 = 0) (own_c a4 b4 = 0))), .val (.int (own_and (own_c a1 b3 = 0) (own_c a2 b4 = 0) (own_c a3 b1 = 0) (own_c a4 b2 = 0)))] [])) _
    refine XS.iconst X2.here hx rfl (hb hby d6_100) ?_
    show Steps p.tables e below (T2.setTop (mkF m 101 #[.val (.ref o), .val (.double b1), .second, .val (.double b2), .second, .val (.double b3), .second, .val (.double b4), .second, .val (.int (own_and (own_c a1 b1 = 0) (own_c a2 b2 = 0) (own_c a3 b3 = 0) (own_c a4 b4 = 0))), .val (.int (own_and (own_c a1 b3 = 0) (own_c a2 b4 = 0) (own_c a3 b1 = 0) (own_c a4 b2 = 0)))] [(.int (1 : Int32))])) _
    refine XS.goto X2.here hx rfl (pc0 := 101) (pc' := 105) rfl (hb hby d6_101) (by decide) (by decide) ?_
    show Steps p.tables e below (T2.setTop (mkF m 105 #[.val (.ref o), .val (.double b1), .second, .val (.double b2), .second, .val (.double b3), .second, .val (.double b4), .second, .val (.int (own_and (own_c a1 b1 = 0) (own_c a2 b2 = 0) (own_c a3 b3 = 0) (own_c a4 b4 = 0))), .val (.int (own_and (own_c a1 b3 = 0) (own_c a2 b4 = 0) (own_c a3 b1 = 0) (own_c a4 b2 = 0)))] [(.int (1 : Int32))])) _
    exact retN X2 hx (t := .boolean) Bd.returns (by simp) (hb hby d6_105) hr
  · show Qd4 Z o a1 a2 a3 a4 b1 b2 b3 b4 h0 n0 _ T2.heap _
    rw [e2]
    exact ⟨(by rw [own_or, if_pos hc92, if_neg hc97]), N0, rfl⟩
theorem rmJ (l : Launch) (Z : State) (a0 : Array Value) (hw : ∀ d ∈ tables_1, d.before a0 Z = true) (ws : List Jvm.Cond) (o : Addr) (a1 a2 a3 a4 b1 b2 b3 b4 : UInt64) (h0 : Heap) (n0 : Nat) (FA1 : Fld Z h0 o "com/example/quadrille/quadrille/geometry/Segment" "x1" "D" (.double a1)) (FA2 : Fld Z h0 o "com/example/quadrille/quadrille/geometry/Segment" "y1" "D" (.double a2)) (FA3 : Fld Z h0 o "com/example/quadrille/quadrille/geometry/Segment" "x2" "D" (.double a3)) (FA4 : Fld Z h0 o "com/example/quadrille/quadrille/geometry/Segment" "y2" "D" (.double a4)) :
    MetFree l (⟨"com/example/quadrille/quadrille/geometry/Segment", "joins", "(DDDD)Z"⟩ : MethodName) (head1 (Jvm.Cond.code (⟨"com/example/quadrille/quadrille/geometry/Segment", "joins", "(DDDD)Z"⟩ : MethodName) prog_26_method_3_code 11 (some .boolean) :: ws) ({ frames := 0, cells := 0, slots := 0, locals := 0 } : Room)) (fun qq U => qq = #[(.ref o), (.double b1), (.double b2), (.double b3), (.double b4)] ∧ Z.Warmed39 U.vm ∧ U.heap = h0) (fun _ _ _ _ _ => True) (fun _ UU oo UU' => ∃ vv LL, oo = .returned vv ∧ Qd4 Z o a1 a2 a3 a4 b1 b2 b3 b4 h0 n0 vv UU'.heap LL ∧ FrameEnd UU oo UU' LL ({ frames := 0, cells := 0, slots := 0, locals := 0 } : Room).cells ({ frames := 0, cells := 0, slots := 0, locals := 0 } : Room).slots) := by
  by_cases h1 : (own_and (own_c a1 b1 = 0) (own_c a2 b2 = 0) (own_c a3 b3 = 0) (own_c a4 b4 = 0)) = 0
  · by_cases h2 : (own_and (own_c a1 b3 = 0) (own_c a2 b4 = 0) (own_c a3 b1 = 0) (own_c a4 b2 = 0)) = 0
    · exact rmJb l Z a0 hw ws o a1 a2 a3 a4 b1 b2 b3 b4 h0 n0 FA1 FA2 FA3 FA4 h1 h2
    · exact rmJc l Z a0 hw ws o a1 a2 a3 a4 b1 b2 b3 b4 h0 n0 FA1 FA2 FA3 FA4 h1 h2
  · exact rmJa l Z a0 hw ws o a1 a2 a3 a4 b1 b2 b3 b4 h0 n0 FA1 FA2 FA3 FA4 h1
set_option maxRecDepth 65536 in
set_option maxHeartbeats 40000000 in
theorem s1s {p : Program} {l : Launch} {e : Env} {R : Room} {s : State} {m : MethodId} {args : Array Value} {below : List Frame} {meth : Method} {c : Code} {T0 : State} {locs : List Loc} {cells slots : Nat} {Z : State} {a0 : Array Value} {h0 : Heap} (X0 : Stand p l e R s m args below meth c T0 locs cells slots) (hx : p.tables.exec = Jvm.exec) (hZ : Z.Warmed39 s.vm) (hw : ∀ d ∈ tables_1, d.before a0 Z = true) (hby : c.code = code) (hown : s.vm.findClass "com/example/quadrille/quadrille/geometry/SegmentJoinsPinLaw" = some m.cls) (e0 : T0.heap = h0) {a b cI d w k : Int32} (hc4 : ¬ ((k &&& (1 : Int32)) = (0 : Int32))) :
    ∀ target, Steps p.tables e below (T0.setTop (mkF m 62 #[.val (.int a), .val (.int b), .val (.int cI), .val (.int d), .val (.int w), .val (.int k), .val (.int (1 : Int32)), .val (.int cI), .val (.int d), .val (.int a), .val (.int b), .unset, .unset, .unset, .unset, .unset, .unset, .unset, .unset, .unset] [])) target → Steps p.tables e below (T0.setTop (mkF m 0 #[.val (.int a), .val (.int b), .val (.int cI), .val (.int d), .val (.int w), .val (.int k), .unset, .unset, .unset, .unset, .unset, .unset, .unset, .unset, .unset, .unset, .unset, .unset, .unset, .unset] [])) target := by
  intro target kt
  show Steps p.tables e below (T0.setTop (mkF m 0 #[.val (.int a), .val (.int b), .val (.int cI), .val (.int d), .val (.int w), .val (.int k), .unset, .unset, .unset, .unset, .unset, .unset, .unset, .unset, .unset, .unset, .unset, .unset, .unset, .unset] [])) _
  refine XS.iload X0.here hx rfl (hb hby at_0) rfl ?_
  show Steps p.tables e below (T0.setTop (mkF m 2 #[.val (.int a), .val (.int b), .val (.int cI), .val (.int d), .val (.int w), .val (.int k), .unset, .unset, .unset, .unset, .unset, .unset, .unset, .unset, .unset, .unset, .unset, .unset, .unset, .unset] [(.int k)])) _
  refine XS.iconst X0.here hx rfl (hb hby at_2) ?_
  show Steps p.tables e below (T0.setTop (mkF m 3 #[.val (.int a), .val (.int b), .val (.int cI), .val (.int d), .val (.int w), .val (.int k), .unset, .unset, .unset, .unset, .unset, .unset, .unset, .unset, .unset, .unset, .unset, .unset, .unset, .unset] [(.int (1 : Int32)), (.int k)])) _
  refine XS.iand X0.here hx rfl (hb hby at_3) rfl ?_
  show Steps p.tables e below (T0.setTop (mkF m 4 #[.val (.int a), .val (.int b), .val (.int cI), .val (.int d), .val (.int w), .val (.int k), .unset, .unset, .unset, .unset, .unset, .unset, .unset, .unset, .unset, .unset, .unset, .unset, .unset, .unset] [(.int (k &&& (1 : Int32)))])) _
  refine XS.ifNo X0.here hx rfl (hb hby at_4) rfl ((if0 _ _).trans (feq hc4).1) ?_
  show Steps p.tables e below (T0.setTop (mkF m 7 #[.val (.int a), .val (.int b), .val (.int cI), .val (.int d), .val (.int w), .val (.int k), .unset, .unset, .unset, .unset, .unset, .unset, .unset, .unset, .unset, .unset, .unset, .unset, .unset, .unset] [])) _
  refine XS.iconst X0.here hx rfl (hb hby at_7) ?_
  show Steps p.tables e below (T0.setTop (mkF m 8 #[.val (.int a), .val (.int b), .val (.int cI), .val (.int d), .val (.int w), .val (.int k), .unset, .unset, .unset, .unset, .unset, .unset, .unset, .unset, .unset, .unset, .unset, .unset, .unset, .unset] [(.int (1 : Int32))])) _
  refine XS.goto X0.here hx rfl (pc0 := 8) (pc' := 12) rfl (hb hby at_8) (by decide) (by decide) ?_
  show Steps p.tables e below (T0.setTop (mkF m 12 #[.val (.int a), .val (.int b), .val (.int cI), .val (.int d), .val (.int w), .val (.int k), .unset, .unset, .unset, .unset, .unset, .unset, .unset, .unset, .unset, .unset, .unset, .unset, .unset, .unset] [(.int (1 : Int32))])) _
  refine XS.istore X0.here hx rfl (hb hby at_12) rfl (l' := #[.val (.int a), .val (.int b), .val (.int cI), .val (.int d), .val (.int w), .val (.int k), .val (.int (1 : Int32)), .unset, .unset, .unset, .unset, .unset, .unset, .unset, .unset, .unset, .unset, .unset, .unset, .unset]) rfl ?_
  show Steps p.tables e below (T0.setTop (mkF m 14 #[.val (.int a), .val (.int b), .val (.int cI), .val (.int d), .val (.int w), .val (.int k), .val (.int (1 : Int32)), .unset, .unset, .unset, .unset, .unset, .unset, .unset, .unset, .unset, .unset, .unset, .unset, .unset] [])) _
  refine XS.iload X0.here hx rfl (hb hby at_14) rfl ?_
  show Steps p.tables e below (T0.setTop (mkF m 16 #[.val (.int a), .val (.int b), .val (.int cI), .val (.int d), .val (.int w), .val (.int k), .val (.int (1 : Int32)), .unset, .unset, .unset, .unset, .unset, .unset, .unset, .unset, .unset, .unset, .unset, .unset, .unset] [(.int (1 : Int32))])) _
  refine XS.ifNo X0.here hx rfl (hb hby at_16) rfl ((if0 _ _).trans (feq (by decide : ¬ ((1 : Int32) = (0 : Int32)))).1) ?_
  show Steps p.tables e below (T0.setTop (mkF m 19 #[.val (.int a), .val (.int b), .val (.int cI), .val (.int d), .val (.int w), .val (.int k), .val (.int (1 : Int32)), .unset, .unset, .unset, .unset, .unset, .unset, .unset, .unset, .unset, .unset, .unset, .unset, .unset] [])) _
  refine XS.iloadN X0.here hx rfl (hb hby at_19) rfl ?_
  show Steps p.tables e below (T0.setTop (mkF m 20 #[.val (.int a), .val (.int b), .val (.int cI), .val (.int d), .val (.int w), .val (.int k), .val (.int (1 : Int32)), .unset, .unset, .unset, .unset, .unset, .unset, .unset, .unset, .unset, .unset, .unset, .unset, .unset] [(.int cI)])) _
  refine XS.goto X0.here hx rfl (pc0 := 20) (pc' := 24) rfl (hb hby at_20) (by decide) (by decide) ?_
  show Steps p.tables e below (T0.setTop (mkF m 24 #[.val (.int a), .val (.int b), .val (.int cI), .val (.int d), .val (.int w), .val (.int k), .val (.int (1 : Int32)), .unset, .unset, .unset, .unset, .unset, .unset, .unset, .unset, .unset, .unset, .unset, .unset, .unset] [(.int cI)])) _
  refine XS.istore X0.here hx rfl (hb hby at_24) rfl (l' := #[.val (.int a), .val (.int b), .val (.int cI), .val (.int d), .val (.int w), .val (.int k), .val (.int (1 : Int32)), .val (.int cI), .unset, .unset, .unset, .unset, .unset, .unset, .unset, .unset, .unset, .unset, .unset, .unset]) rfl ?_
  show Steps p.tables e below (T0.setTop (mkF m 26 #[.val (.int a), .val (.int b), .val (.int cI), .val (.int d), .val (.int w), .val (.int k), .val (.int (1 : Int32)), .val (.int cI), .unset, .unset, .unset, .unset, .unset, .unset, .unset, .unset, .unset, .unset, .unset, .unset] [])) _
  refine XS.iload X0.here hx rfl (hb hby at_26) rfl ?_
  show Steps p.tables e below (T0.setTop (mkF m 28 #[.val (.int a), .val (.int b), .val (.int cI), .val (.int d), .val (.int w), .val (.int k), .val (.int (1 : Int32)), .val (.int cI), .unset, .unset, .unset, .unset, .unset, .unset, .unset, .unset, .unset, .unset, .unset, .unset] [(.int (1 : Int32))])) _
  refine XS.ifNo X0.here hx rfl (hb hby at_28) rfl ((if0 _ _).trans (feq (by decide : ¬ ((1 : Int32) = (0 : Int32)))).1) ?_
  show Steps p.tables e below (T0.setTop (mkF m 31 #[.val (.int a), .val (.int b), .val (.int cI), .val (.int d), .val (.int w), .val (.int k), .val (.int (1 : Int32)), .val (.int cI), .unset, .unset, .unset, .unset, .unset, .unset, .unset, .unset, .unset, .unset, .unset, .unset] [])) _
  refine XS.iloadN X0.here hx rfl (hb hby at_31) rfl ?_
  show Steps p.tables e below (T0.setTop (mkF m 32 #[.val (.int a), .val (.int b), .val (.int cI), .val (.int d), .val (.int w), .val (.int k), .val (.int (1 : Int32)), .val (.int cI), .unset, .unset, .unset, .unset, .unset, .unset, .unset, .unset, .unset, .unset, .unset, .unset] [(.int d)])) _
  refine XS.goto X0.here hx rfl (pc0 := 32) (pc' := 36) rfl (hb hby at_32) (by decide) (by decide) ?_
  show Steps p.tables e below (T0.setTop (mkF m 36 #[.val (.int a), .val (.int b), .val (.int cI), .val (.int d), .val (.int w), .val (.int k), .val (.int (1 : Int32)), .val (.int cI), .unset, .unset, .unset, .unset, .unset, .unset, .unset, .unset, .unset, .unset, .unset, .unset] [(.int d)])) _
  refine XS.istore X0.here hx rfl (hb hby at_36) rfl (l' := #[.val (.int a), .val (.int b), .val (.int cI), .val (.int d), .val (.int w), .val (.int k), .val (.int (1 : Int32)), .val (.int cI), .val (.int d), .unset, .unset, .unset, .unset, .unset, .unset, .unset, .unset, .unset, .unset, .unset]) rfl ?_
  show Steps p.tables e below (T0.setTop (mkF m 38 #[.val (.int a), .val (.int b), .val (.int cI), .val (.int d), .val (.int w), .val (.int k), .val (.int (1 : Int32)), .val (.int cI), .val (.int d), .unset, .unset, .unset, .unset, .unset, .unset, .unset, .unset, .unset, .unset, .unset] [])) _
  refine XS.iload X0.here hx rfl (hb hby at_38) rfl ?_
  show Steps p.tables e below (T0.setTop (mkF m 40 #[.val (.int a), .val (.int b), .val (.int cI), .val (.int d), .val (.int w), .val (.int k), .val (.int (1 : Int32)), .val (.int cI), .val (.int d), .unset, .unset, .unset, .unset, .unset, .unset, .unset, .unset, .unset, .unset, .unset] [(.int (1 : Int32))])) _
  refine XS.ifNo X0.here hx rfl (hb hby at_40) rfl ((if0 _ _).trans (feq (by decide : ¬ ((1 : Int32) = (0 : Int32)))).1) ?_
  show Steps p.tables e below (T0.setTop (mkF m 43 #[.val (.int a), .val (.int b), .val (.int cI), .val (.int d), .val (.int w), .val (.int k), .val (.int (1 : Int32)), .val (.int cI), .val (.int d), .unset, .unset, .unset, .unset, .unset, .unset, .unset, .unset, .unset, .unset, .unset] [])) _
  refine XS.iloadN X0.here hx rfl (hb hby at_43) rfl ?_
  show Steps p.tables e below (T0.setTop (mkF m 44 #[.val (.int a), .val (.int b), .val (.int cI), .val (.int d), .val (.int w), .val (.int k), .val (.int (1 : Int32)), .val (.int cI), .val (.int d), .unset, .unset, .unset, .unset, .unset, .unset, .unset, .unset, .unset, .unset, .unset] [(.int a)])) _
  refine XS.goto X0.here hx rfl (pc0 := 44) (pc' := 48) rfl (hb hby at_44) (by decide) (by decide) ?_
  show Steps p.tables e below (T0.setTop (mkF m 48 #[.val (.int a), .val (.int b), .val (.int cI), .val (.int d), .val (.int w), .val (.int k), .val (.int (1 : Int32)), .val (.int cI), .val (.int d), .unset, .unset, .unset, .unset, .unset, .unset, .unset, .unset, .unset, .unset, .unset] [(.int a)])) _
  refine XS.istore X0.here hx rfl (hb hby at_48) rfl (l' := #[.val (.int a), .val (.int b), .val (.int cI), .val (.int d), .val (.int w), .val (.int k), .val (.int (1 : Int32)), .val (.int cI), .val (.int d), .val (.int a), .unset, .unset, .unset, .unset, .unset, .unset, .unset, .unset, .unset, .unset]) rfl ?_
  show Steps p.tables e below (T0.setTop (mkF m 50 #[.val (.int a), .val (.int b), .val (.int cI), .val (.int d), .val (.int w), .val (.int k), .val (.int (1 : Int32)), .val (.int cI), .val (.int d), .val (.int a), .unset, .unset, .unset, .unset, .unset, .unset, .unset, .unset, .unset, .unset] [])) _
  refine XS.iload X0.here hx rfl (hb hby at_50) rfl ?_
  show Steps p.tables e below (T0.setTop (mkF m 52 #[.val (.int a), .val (.int b), .val (.int cI), .val (.int d), .val (.int w), .val (.int k), .val (.int (1 : Int32)), .val (.int cI), .val (.int d), .val (.int a), .unset, .unset, .unset, .unset, .unset, .unset, .unset, .unset, .unset, .unset] [(.int (1 : Int32))])) _
  refine XS.ifNo X0.here hx rfl (hb hby at_52) rfl ((if0 _ _).trans (feq (by decide : ¬ ((1 : Int32) = (0 : Int32)))).1) ?_
  show Steps p.tables e below (T0.setTop (mkF m 55 #[.val (.int a), .val (.int b), .val (.int cI), .val (.int d), .val (.int w), .val (.int k), .val (.int (1 : Int32)), .val (.int cI), .val (.int d), .val (.int a), .unset, .unset, .unset, .unset, .unset, .unset, .unset, .unset, .unset, .unset] [])) _
  refine XS.iloadN X0.here hx rfl (hb hby at_55) rfl ?_
  show Steps p.tables e below (T0.setTop (mkF m 56 #[.val (.int a), .val (.int b), .val (.int cI), .val (.int d), .val (.int w), .val (.int k), .val (.int (1 : Int32)), .val (.int cI), .val (.int d), .val (.int a), .unset, .unset, .unset, .unset, .unset, .unset, .unset, .unset, .unset, .unset] [(.int b)])) _
  refine XS.goto X0.here hx rfl (pc0 := 56) (pc' := 60) rfl (hb hby at_56) (by decide) (by decide) ?_
  show Steps p.tables e below (T0.setTop (mkF m 60 #[.val (.int a), .val (.int b), .val (.int cI), .val (.int d), .val (.int w), .val (.int k), .val (.int (1 : Int32)), .val (.int cI), .val (.int d), .val (.int a), .unset, .unset, .unset, .unset, .unset, .unset, .unset, .unset, .unset, .unset] [(.int b)])) _
  refine XS.istore X0.here hx rfl (hb hby at_60) rfl (l' := #[.val (.int a), .val (.int b), .val (.int cI), .val (.int d), .val (.int w), .val (.int k), .val (.int (1 : Int32)), .val (.int cI), .val (.int d), .val (.int a), .val (.int b), .unset, .unset, .unset, .unset, .unset, .unset, .unset, .unset, .unset]) rfl ?_
  exact kt
set_option maxRecDepth 65536 in
set_option maxHeartbeats 40000000 in
theorem s1n {p : Program} {l : Launch} {e : Env} {R : Room} {s : State} {m : MethodId} {args : Array Value} {below : List Frame} {meth : Method} {c : Code} {T0 : State} {locs : List Loc} {cells slots : Nat} {Z : State} {a0 : Array Value} {h0 : Heap} (X0 : Stand p l e R s m args below meth c T0 locs cells slots) (hx : p.tables.exec = Jvm.exec) (hZ : Z.Warmed39 s.vm) (hw : ∀ d ∈ tables_1, d.before a0 Z = true) (hby : c.code = code) (hown : s.vm.findClass "com/example/quadrille/quadrille/geometry/SegmentJoinsPinLaw" = some m.cls) (e0 : T0.heap = h0) {a b cI d w k : Int32} (hc4 : (k &&& (1 : Int32)) = (0 : Int32)) :
    ∀ target, Steps p.tables e below (T0.setTop (mkF m 62 #[.val (.int a), .val (.int b), .val (.int cI), .val (.int d), .val (.int w), .val (.int k), .val (.int (0 : Int32)), .val (.int a), .val (.int b), .val (.int cI), .val (.int d), .unset, .unset, .unset, .unset, .unset, .unset, .unset, .unset, .unset] [])) target → Steps p.tables e below (T0.setTop (mkF m 0 #[.val (.int a), .val (.int b), .val (.int cI), .val (.int d), .val (.int w), .val (.int k), .unset, .unset, .unset, .unset, .unset, .unset, .unset, .unset, .unset, .unset, .unset, .unset, .unset, .unset] [])) target := by
  intro target kt
  show Steps p.tables e below (T0.setTop (mkF m 0 #[.val (.int a), .val (.int b), .val (.int cI), .val (.int d), .val (.int w), .val (.int k), .unset, .unset, .unset, .unset, .unset, .unset, .unset, .unset, .unset, .unset, .unset, .unset, .unset, .unset] [])) _
  refine XS.iload X0.here hx rfl (hb hby at_0) rfl ?_
  show Steps p.tables e below (T0.setTop (mkF m 2 #[.val (.int a), .val (.int b), .val (.int cI), .val (.int d), .val (.int w), .val (.int k), .unset, .unset, .unset, .unset, .unset, .unset, .unset, .unset, .unset, .unset, .unset, .unset, .unset, .unset] [(.int k)])) _
  refine XS.iconst X0.here hx rfl (hb hby at_2) ?_
  show Steps p.tables e below (T0.setTop (mkF m 3 #[.val (.int a), .val (.int b), .val (.int cI), .val (.int d), .val (.int w), .val (.int k), .unset, .unset, .unset, .unset, .unset, .unset, .unset, .unset, .unset, .unset, .unset, .unset, .unset, .unset] [(.int (1 : Int32)), (.int k)])) _
  refine XS.iand X0.here hx rfl (hb hby at_3) rfl ?_
  show Steps p.tables e below (T0.setTop (mkF m 4 #[.val (.int a), .val (.int b), .val (.int cI), .val (.int d), .val (.int w), .val (.int k), .unset, .unset, .unset, .unset, .unset, .unset, .unset, .unset, .unset, .unset, .unset, .unset, .unset, .unset] [(.int (k &&& (1 : Int32)))])) _
  refine XS.ifYes X0.here hx rfl (pc0 := 4) (pc' := 11) rfl (hb hby at_4) rfl ((if0 _ _).trans (teq hc4).1) (by decide) (by decide) ?_
  show Steps p.tables e below (T0.setTop (mkF m 11 #[.val (.int a), .val (.int b), .val (.int cI), .val (.int d), .val (.int w), .val (.int k), .unset, .unset, .unset, .unset, .unset, .unset, .unset, .unset, .unset, .unset, .unset, .unset, .unset, .unset] [])) _
  refine XS.iconst X0.here hx rfl (hb hby at_11) ?_
  show Steps p.tables e below (T0.setTop (mkF m 12 #[.val (.int a), .val (.int b), .val (.int cI), .val (.int d), .val (.int w), .val (.int k), .unset, .unset, .unset, .unset, .unset, .unset, .unset, .unset, .unset, .unset, .unset, .unset, .unset, .unset] [(.int (0 : Int32))])) _
  refine XS.istore X0.here hx rfl (hb hby at_12) rfl (l' := #[.val (.int a), .val (.int b), .val (.int cI), .val (.int d), .val (.int w), .val (.int k), .val (.int (0 : Int32)), .unset, .unset, .unset, .unset, .unset, .unset, .unset, .unset, .unset, .unset, .unset, .unset, .unset]) rfl ?_
  show Steps p.tables e below (T0.setTop (mkF m 14 #[.val (.int a), .val (.int b), .val (.int cI), .val (.int d), .val (.int w), .val (.int k), .val (.int (0 : Int32)), .unset, .unset, .unset, .unset, .unset, .unset, .unset, .unset, .unset, .unset, .unset, .unset, .unset] [])) _
  refine XS.iload X0.here hx rfl (hb hby at_14) rfl ?_
  show Steps p.tables e below (T0.setTop (mkF m 16 #[.val (.int a), .val (.int b), .val (.int cI), .val (.int d), .val (.int w), .val (.int k), .val (.int (0 : Int32)), .unset, .unset, .unset, .unset, .unset, .unset, .unset, .unset, .unset, .unset, .unset, .unset, .unset] [(.int (0 : Int32))])) _
  refine XS.ifYes X0.here hx rfl (pc0 := 16) (pc' := 23) rfl (hb hby at_16) rfl ((if0 _ _).trans (teq (rfl : (0 : Int32) = (0 : Int32))).1) (by decide) (by decide) ?_
  show Steps p.tables e below (T0.setTop (mkF m 23 #[.val (.int a), .val (.int b), .val (.int cI), .val (.int d), .val (.int w), .val (.int k), .val (.int (0 : Int32)), .unset, .unset, .unset, .unset, .unset, .unset, .unset, .unset, .unset, .unset, .unset, .unset, .unset] [])) _
  refine XS.iloadN X0.here hx rfl (hb hby at_23) rfl ?_
  show Steps p.tables e below (T0.setTop (mkF m 24 #[.val (.int a), .val (.int b), .val (.int cI), .val (.int d), .val (.int w), .val (.int k), .val (.int (0 : Int32)), .unset, .unset, .unset, .unset, .unset, .unset, .unset, .unset, .unset, .unset, .unset, .unset, .unset] [(.int a)])) _
  refine XS.istore X0.here hx rfl (hb hby at_24) rfl (l' := #[.val (.int a), .val (.int b), .val (.int cI), .val (.int d), .val (.int w), .val (.int k), .val (.int (0 : Int32)), .val (.int a), .unset, .unset, .unset, .unset, .unset, .unset, .unset, .unset, .unset, .unset, .unset, .unset]) rfl ?_
  show Steps p.tables e below (T0.setTop (mkF m 26 #[.val (.int a), .val (.int b), .val (.int cI), .val (.int d), .val (.int w), .val (.int k), .val (.int (0 : Int32)), .val (.int a), .unset, .unset, .unset, .unset, .unset, .unset, .unset, .unset, .unset, .unset, .unset, .unset] [])) _
  refine XS.iload X0.here hx rfl (hb hby at_26) rfl ?_
  show Steps p.tables e below (T0.setTop (mkF m 28 #[.val (.int a), .val (.int b), .val (.int cI), .val (.int d), .val (.int w), .val (.int k), .val (.int (0 : Int32)), .val (.int a), .unset, .unset, .unset, .unset, .unset, .unset, .unset, .unset, .unset, .unset, .unset, .unset] [(.int (0 : Int32))])) _
  refine XS.ifYes X0.here hx rfl (pc0 := 28) (pc' := 35) rfl (hb hby at_28) rfl ((if0 _ _).trans (teq (rfl : (0 : Int32) = (0 : Int32))).1) (by decide) (by decide) ?_
  show Steps p.tables e below (T0.setTop (mkF m 35 #[.val (.int a), .val (.int b), .val (.int cI), .val (.int d), .val (.int w), .val (.int k), .val (.int (0 : Int32)), .val (.int a), .unset, .unset, .unset, .unset, .unset, .unset, .unset, .unset, .unset, .unset, .unset, .unset] [])) _
  refine XS.iloadN X0.here hx rfl (hb hby at_35) rfl ?_
  show Steps p.tables e below (T0.setTop (mkF m 36 #[.val (.int a), .val (.int b), .val (.int cI), .val (.int d), .val (.int w), .val (.int k), .val (.int (0 : Int32)), .val (.int a), .unset, .unset, .unset, .unset, .unset, .unset, .unset, .unset, .unset, .unset, .unset, .unset] [(.int b)])) _
  refine XS.istore X0.here hx rfl (hb hby at_36) rfl (l' := #[.val (.int a), .val (.int b), .val (.int cI), .val (.int d), .val (.int w), .val (.int k), .val (.int (0 : Int32)), .val (.int a), .val (.int b), .unset, .unset, .unset, .unset, .unset, .unset, .unset, .unset, .unset, .unset, .unset]) rfl ?_
  show Steps p.tables e below (T0.setTop (mkF m 38 #[.val (.int a), .val (.int b), .val (.int cI), .val (.int d), .val (.int w), .val (.int k), .val (.int (0 : Int32)), .val (.int a), .val (.int b), .unset, .unset, .unset, .unset, .unset, .unset, .unset, .unset, .unset, .unset, .unset] [])) _
  refine XS.iload X0.here hx rfl (hb hby at_38) rfl ?_
  show Steps p.tables e below (T0.setTop (mkF m 40 #[.val (.int a), .val (.int b), .val (.int cI), .val (.int d), .val (.int w), .val (.int k), .val (.int (0 : Int32)), .val (.int a), .val (.int b), .unset, .unset, .unset, .unset, .unset, .unset, .unset, .unset, .unset, .unset, .unset] [(.int (0 : Int32))])) _
  refine XS.ifYes X0.here hx rfl (pc0 := 40) (pc' := 47) rfl (hb hby at_40) rfl ((if0 _ _).trans (teq (rfl : (0 : Int32) = (0 : Int32))).1) (by decide) (by decide) ?_
  show Steps p.tables e below (T0.setTop (mkF m 47 #[.val (.int a), .val (.int b), .val (.int cI), .val (.int d), .val (.int w), .val (.int k), .val (.int (0 : Int32)), .val (.int a), .val (.int b), .unset, .unset, .unset, .unset, .unset, .unset, .unset, .unset, .unset, .unset, .unset] [])) _
  refine XS.iloadN X0.here hx rfl (hb hby at_47) rfl ?_
  show Steps p.tables e below (T0.setTop (mkF m 48 #[.val (.int a), .val (.int b), .val (.int cI), .val (.int d), .val (.int w), .val (.int k), .val (.int (0 : Int32)), .val (.int a), .val (.int b), .unset, .unset, .unset, .unset, .unset, .unset, .unset, .unset, .unset, .unset, .unset] [(.int cI)])) _
  refine XS.istore X0.here hx rfl (hb hby at_48) rfl (l' := #[.val (.int a), .val (.int b), .val (.int cI), .val (.int d), .val (.int w), .val (.int k), .val (.int (0 : Int32)), .val (.int a), .val (.int b), .val (.int cI), .unset, .unset, .unset, .unset, .unset, .unset, .unset, .unset, .unset, .unset]) rfl ?_
  show Steps p.tables e below (T0.setTop (mkF m 50 #[.val (.int a), .val (.int b), .val (.int cI), .val (.int d), .val (.int w), .val (.int k), .val (.int (0 : Int32)), .val (.int a), .val (.int b), .val (.int cI), .unset, .unset, .unset, .unset, .unset, .unset, .unset, .unset, .unset, .unset] [])) _
  refine XS.iload X0.here hx rfl (hb hby at_50) rfl ?_
  show Steps p.tables e below (T0.setTop (mkF m 52 #[.val (.int a), .val (.int b), .val (.int cI), .val (.int d), .val (.int w), .val (.int k), .val (.int (0 : Int32)), .val (.int a), .val (.int b), .val (.int cI), .unset, .unset, .unset, .unset, .unset, .unset, .unset, .unset, .unset, .unset] [(.int (0 : Int32))])) _
  refine XS.ifYes X0.here hx rfl (pc0 := 52) (pc' := 59) rfl (hb hby at_52) rfl ((if0 _ _).trans (teq (rfl : (0 : Int32) = (0 : Int32))).1) (by decide) (by decide) ?_
  show Steps p.tables e below (T0.setTop (mkF m 59 #[.val (.int a), .val (.int b), .val (.int cI), .val (.int d), .val (.int w), .val (.int k), .val (.int (0 : Int32)), .val (.int a), .val (.int b), .val (.int cI), .unset, .unset, .unset, .unset, .unset, .unset, .unset, .unset, .unset, .unset] [])) _
  refine XS.iloadN X0.here hx rfl (hb hby at_59) rfl ?_
  show Steps p.tables e below (T0.setTop (mkF m 60 #[.val (.int a), .val (.int b), .val (.int cI), .val (.int d), .val (.int w), .val (.int k), .val (.int (0 : Int32)), .val (.int a), .val (.int b), .val (.int cI), .unset, .unset, .unset, .unset, .unset, .unset, .unset, .unset, .unset, .unset] [(.int d)])) _
  refine XS.istore X0.here hx rfl (hb hby at_60) rfl (l' := #[.val (.int a), .val (.int b), .val (.int cI), .val (.int d), .val (.int w), .val (.int k), .val (.int (0 : Int32)), .val (.int a), .val (.int b), .val (.int cI), .val (.int d), .unset, .unset, .unset, .unset, .unset, .unset, .unset, .unset, .unset]) rfl ?_
  exact kt
theorem s1 {p : Program} {l : Launch} {e : Env} {R : Room} {s : State} {m : MethodId} {args : Array Value} {below : List Frame} {meth : Method} {c : Code} {T0 : State} {locs : List Loc} {cells slots : Nat} {Z : State} {a0 : Array Value} {h0 : Heap} (X0 : Stand p l e R s m args below meth c T0 locs cells slots) (hx : p.tables.exec = Jvm.exec) (hZ : Z.Warmed39 s.vm) (hw : ∀ d ∈ tables_1, d.before a0 Z = true) (hby : c.code = code) (hown : s.vm.findClass "com/example/quadrille/quadrille/geometry/SegmentJoinsPinLaw" = some m.cls) (e0 : T0.heap = h0) {a b cI d w k : Int32} :
    ∃ (s6 r7 r8 r9 r10 : Int32), ∀ target, Steps p.tables e below (T0.setTop (mkF m 62 #[.val (.int a), .val (.int b), .val (.int cI), .val (.int d), .val (.int w), .val (.int k), .val (.int s6), .val (.int r7), .val (.int r8), .val (.int r9), .val (.int r10), .unset, .unset, .unset, .unset, .unset, .unset, .unset, .unset, .unset] [])) target → Steps p.tables e below (T0.setTop (mkF m 0 #[.val (.int a), .val (.int b), .val (.int cI), .val (.int d), .val (.int w), .val (.int k), .unset, .unset, .unset, .unset, .unset, .unset, .unset, .unset, .unset, .unset, .unset, .unset, .unset, .unset] [])) target := by
  by_cases h : (k &&& (1 : Int32)) = (0 : Int32)
  · exact ⟨_, _, _, _, _, s1n X0 hx hZ hw hby hown e0 h⟩
  · exact ⟨_, _, _, _, _, s1s X0 hx hZ hw hby hown e0 h⟩
set_option maxRecDepth 65536 in
set_option maxHeartbeats 40000000 in
theorem s3_0 {p : Program} {l : Launch} {e : Env} {R : Room} {s : State} {m : MethodId} {args : Array Value} {below : List Frame} {meth : Method} {c : Code} {T0 : State} {locs : List Loc} {cells slots : Nat} {Z : State} {a0 : Array Value} {h0 : Heap} (X0 : Stand p l e R s m args below meth c T0 locs cells slots) (hx : p.tables.exec = Jvm.exec) (hZ : Z.Warmed39 s.vm) (hw : ∀ d ∈ tables_1, d.before a0 Z = true) (hby : c.code = code) (hown : s.vm.findClass "com/example/quadrille/quadrille/geometry/SegmentJoinsPinLaw" = some m.cls) (e0 : T0.heap = h0) {g4 : Slot} {g5 : Slot} {g6 : Slot} {g7 : Slot} {g8 : Slot} {g9 : Slot} {g10 : Slot} {g15 : Slot} {g16 : Slot} {g17 : Slot} {g18 : Slot} {g19 : Slot} {a b cI d q0 q1 q2 q3 : Int32} (hc229 : ¬ (a = q0)) :
    ∀ target, Steps p.tables e below (T0.setTop (mkF m 250 #[.val (.int a), .val (.int b), .val (.int cI), .val (.int d), g4, g5, g6, g7, g8, g9, g10, .val (.int q0), .val (.int q1), .val (.int q2), .val (.int q3), g15, g16, g17, g18, g19] [])) target → Steps p.tables e below (T0.setTop (mkF m 226 #[.val (.int a), .val (.int b), .val (.int cI), .val (.int d), g4, g5, g6, g7, g8, g9, g10, .val (.int q0), .val (.int q1), .val (.int q2), .val (.int q3), g15, g16, g17, g18, g19] [])) target := by
  intro target kt
  show Steps p.tables e below (T0.setTop (mkF m 226 #[.val (.int a), .val (.int b), .val (.int cI), .val (.int d), g4, g5, g6, g7, g8, g9, g10, .val (.int q0), .val (.int q1), .val (.int q2), .val (.int q3), g15, g16, g17, g18, g19] [])) _
  refine XS.iloadN X0.here hx rfl (hb hby at_226) rfl ?_
  show Steps p.tables e below (T0.setTop (mkF m 227 #[.val (.int a), .val (.int b), .val (.int cI), .val (.int d), g4, g5, g6, g7, g8, g9, g10, .val (.int q0), .val (.int q1), .val (.int q2), .val (.int q3), g15, g16, g17, g18, g19] [(.int a)])) _
  refine XS.iload X0.here hx rfl (hb hby at_227) rfl ?_
  show Steps p.tables e below (T0.setTop (mkF m 229 #[.val (.int a), .val (.int b), .val (.int cI), .val (.int d), g4, g5, g6, g7, g8, g9, g10, .val (.int q0), .val (.int q1), .val (.int q2), .val (.int q3), g15, g16, g17, g18, g19] [(.int q0), (.int a)])) _
  refine XS.icmpYes X0.here hx rfl (pc0 := 229) (pc' := 250) rfl (hb hby at_229) rfl (feq hc229).2 (by decide) (by decide) ?_
  exact kt
set_option maxRecDepth 65536 in
set_option maxHeartbeats 40000000 in
theorem s3_1 {p : Program} {l : Launch} {e : Env} {R : Room} {s : State} {m : MethodId} {args : Array Value} {below : List Frame} {meth : Method} {c : Code} {T0 : State} {locs : List Loc} {cells slots : Nat} {Z : State} {a0 : Array Value} {h0 : Heap} (X0 : Stand p l e R s m args below meth c T0 locs cells slots) (hx : p.tables.exec = Jvm.exec) (hZ : Z.Warmed39 s.vm) (hw : ∀ d ∈ tables_1, d.before a0 Z = true) (hby : c.code = code) (hown : s.vm.findClass "com/example/quadrille/quadrille/geometry/SegmentJoinsPinLaw" = some m.cls) (e0 : T0.heap = h0) {g4 : Slot} {g5 : Slot} {g6 : Slot} {g7 : Slot} {g8 : Slot} {g9 : Slot} {g10 : Slot} {g15 : Slot} {g16 : Slot} {g17 : Slot} {g18 : Slot} {g19 : Slot} {a b cI d q0 q1 q2 q3 : Int32} (hc229 : a = q0) (hc235 : ¬ (b = q1)) :
    ∀ target, Steps p.tables e below (T0.setTop (mkF m 250 #[.val (.int a), .val (.int b), .val (.int cI), .val (.int d), g4, g5, g6, g7, g8, g9, g10, .val (.int q0), .val (.int q1), .val (.int q2), .val (.int q3), g15, g16, g17, g18, g19] [])) target → Steps p.tables e below (T0.setTop (mkF m 226 #[.val (.int a), .val (.int b), .val (.int cI), .val (.int d), g4, g5, g6, g7, g8, g9, g10, .val (.int q0), .val (.int q1), .val (.int q2), .val (.int q3), g15, g16, g17, g18, g19] [])) target := by
  intro target kt
  show Steps p.tables e below (T0.setTop (mkF m 226 #[.val (.int a), .val (.int b), .val (.int cI), .val (.int d), g4, g5, g6, g7, g8, g9, g10, .val (.int q0), .val (.int q1), .val (.int q2), .val (.int q3), g15, g16, g17, g18, g19] [])) _
  refine XS.iloadN X0.here hx rfl (hb hby at_226) rfl ?_
  show Steps p.tables e below (T0.setTop (mkF m 227 #[.val (.int a), .val (.int b), .val (.int cI), .val (.int d), g4, g5, g6, g7, g8, g9, g10, .val (.int q0), .val (.int q1), .val (.int q2), .val (.int q3), g15, g16, g17, g18, g19] [(.int a)])) _
  refine XS.iload X0.here hx rfl (hb hby at_227) rfl ?_
  show Steps p.tables e below (T0.setTop (mkF m 229 #[.val (.int a), .val (.int b), .val (.int cI), .val (.int d), g4, g5, g6, g7, g8, g9, g10, .val (.int q0), .val (.int q1), .val (.int q2), .val (.int q3), g15, g16, g17, g18, g19] [(.int q0), (.int a)])) _
  refine XS.icmpNo X0.here hx rfl (hb hby at_229) rfl (teq hc229).2 ?_
  show Steps p.tables e below (T0.setTop (mkF m 232 #[.val (.int a), .val (.int b), .val (.int cI), .val (.int d), g4, g5, g6, g7, g8, g9, g10, .val (.int q0), .val (.int q1), .val (.int q2), .val (.int q3), g15, g16, g17, g18, g19] [])) _
  refine XS.iloadN X0.here hx rfl (hb hby at_232) rfl ?_
  show Steps p.tables e below (T0.setTop (mkF m 233 #[.val (.int a), .val (.int b), .val (.int cI), .val (.int d), g4, g5, g6, g7, g8, g9, g10, .val (.int q0), .val (.int q1), .val (.int q2), .val (.int q3), g15, g16, g17, g18, g19] [(.int b)])) _
  refine XS.iload X0.here hx rfl (hb hby at_233) rfl ?_
  show Steps p.tables e below (T0.setTop (mkF m 235 #[.val (.int a), .val (.int b), .val (.int cI), .val (.int d), g4, g5, g6, g7, g8, g9, g10, .val (.int q0), .val (.int q1), .val (.int q2), .val (.int q3), g15, g16, g17, g18, g19] [(.int q1), (.int b)])) _
  refine XS.icmpYes X0.here hx rfl (pc0 := 235) (pc' := 250) rfl (hb hby at_235) rfl (feq hc235).2 (by decide) (by decide) ?_
  exact kt
set_option maxRecDepth 65536 in
set_option maxHeartbeats 40000000 in
theorem s3_2 {p : Program} {l : Launch} {e : Env} {R : Room} {s : State} {m : MethodId} {args : Array Value} {below : List Frame} {meth : Method} {c : Code} {T0 : State} {locs : List Loc} {cells slots : Nat} {Z : State} {a0 : Array Value} {h0 : Heap} (X0 : Stand p l e R s m args below meth c T0 locs cells slots) (hx : p.tables.exec = Jvm.exec) (hZ : Z.Warmed39 s.vm) (hw : ∀ d ∈ tables_1, d.before a0 Z = true) (hby : c.code = code) (hown : s.vm.findClass "com/example/quadrille/quadrille/geometry/SegmentJoinsPinLaw" = some m.cls) (e0 : T0.heap = h0) {g4 : Slot} {g5 : Slot} {g6 : Slot} {g7 : Slot} {g8 : Slot} {g9 : Slot} {g10 : Slot} {g15 : Slot} {g16 : Slot} {g17 : Slot} {g18 : Slot} {g19 : Slot} {a b cI d q0 q1 q2 q3 : Int32} (hc229 : a = q0) (hc235 : b = q1) (hc241 : ¬ (cI = q2)) :
    ∀ target, Steps p.tables e below (T0.setTop (mkF m 250 #[.val (.int a), .val (.int b), .val (.int cI), .val (.int d), g4, g5, g6, g7, g8, g9, g10, .val (.int q0), .val (.int q1), .val (.int q2), .val (.int q3), g15, g16, g17, g18, g19] [])) target → Steps p.tables e below (T0.setTop (mkF m 226 #[.val (.int a), .val (.int b), .val (.int cI), .val (.int d), g4, g5, g6, g7, g8, g9, g10, .val (.int q0), .val (.int q1), .val (.int q2), .val (.int q3), g15, g16, g17, g18, g19] [])) target := by
  intro target kt
  show Steps p.tables e below (T0.setTop (mkF m 226 #[.val (.int a), .val (.int b), .val (.int cI), .val (.int d), g4, g5, g6, g7, g8, g9, g10, .val (.int q0), .val (.int q1), .val (.int q2), .val (.int q3), g15, g16, g17, g18, g19] [])) _
  refine XS.iloadN X0.here hx rfl (hb hby at_226) rfl ?_
  show Steps p.tables e below (T0.setTop (mkF m 227 #[.val (.int a), .val (.int b), .val (.int cI), .val (.int d), g4, g5, g6, g7, g8, g9, g10, .val (.int q0), .val (.int q1), .val (.int q2), .val (.int q3), g15, g16, g17, g18, g19] [(.int a)])) _
  refine XS.iload X0.here hx rfl (hb hby at_227) rfl ?_
  show Steps p.tables e below (T0.setTop (mkF m 229 #[.val (.int a), .val (.int b), .val (.int cI), .val (.int d), g4, g5, g6, g7, g8, g9, g10, .val (.int q0), .val (.int q1), .val (.int q2), .val (.int q3), g15, g16, g17, g18, g19] [(.int q0), (.int a)])) _
  refine XS.icmpNo X0.here hx rfl (hb hby at_229) rfl (teq hc229).2 ?_
  show Steps p.tables e below (T0.setTop (mkF m 232 #[.val (.int a), .val (.int b), .val (.int cI), .val (.int d), g4, g5, g6, g7, g8, g9, g10, .val (.int q0), .val (.int q1), .val (.int q2), .val (.int q3), g15, g16, g17, g18, g19] [])) _
  refine XS.iloadN X0.here hx rfl (hb hby at_232) rfl ?_
  show Steps p.tables e below (T0.setTop (mkF m 233 #[.val (.int a), .val (.int b), .val (.int cI), .val (.int d), g4, g5, g6, g7, g8, g9, g10, .val (.int q0), .val (.int q1), .val (.int q2), .val (.int q3), g15, g16, g17, g18, g19] [(.int b)])) _
  refine XS.iload X0.here hx rfl (hb hby at_233) rfl ?_
  show Steps p.tables e below (T0.setTop (mkF m 235 #[.val (.int a), .val (.int b), .val (.int cI), .val (.int d), g4, g5, g6, g7, g8, g9, g10, .val (.int q0), .val (.int q1), .val (.int q2), .val (.int q3), g15, g16, g17, g18, g19] [(.int q1), (.int b)])) _
  refine XS.icmpNo X0.here hx rfl (hb hby at_235) rfl (teq hc235).2 ?_
  show Steps p.tables e below (T0.setTop (mkF m 238 #[.val (.int a), .val (.int b), .val (.int cI), .val (.int d), g4, g5, g6, g7, g8, g9, g10, .val (.int q0), .val (.int q1), .val (.int q2), .val (.int q3), g15, g16, g17, g18, g19] [])) _
  refine XS.iloadN X0.here hx rfl (hb hby at_238) rfl ?_
  show Steps p.tables e below (T0.setTop (mkF m 239 #[.val (.int a), .val (.int b), .val (.int cI), .val (.int d), g4, g5, g6, g7, g8, g9, g10, .val (.int q0), .val (.int q1), .val (.int q2), .val (.int q3), g15, g16, g17, g18, g19] [(.int cI)])) _
  refine XS.iload X0.here hx rfl (hb hby at_239) rfl ?_
  show Steps p.tables e below (T0.setTop (mkF m 241 #[.val (.int a), .val (.int b), .val (.int cI), .val (.int d), g4, g5, g6, g7, g8, g9, g10, .val (.int q0), .val (.int q1), .val (.int q2), .val (.int q3), g15, g16, g17, g18, g19] [(.int q2), (.int cI)])) _
  refine XS.icmpYes X0.here hx rfl (pc0 := 241) (pc' := 250) rfl (hb hby at_241) rfl (feq hc241).2 (by decide) (by decide) ?_
  exact kt
set_option maxRecDepth 65536 in
set_option maxHeartbeats 40000000 in
theorem s3_3 {p : Program} {l : Launch} {e : Env} {R : Room} {s : State} {m : MethodId} {args : Array Value} {below : List Frame} {meth : Method} {c : Code} {T0 : State} {locs : List Loc} {cells slots : Nat} {Z : State} {a0 : Array Value} {h0 : Heap} (X0 : Stand p l e R s m args below meth c T0 locs cells slots) (hx : p.tables.exec = Jvm.exec) (hZ : Z.Warmed39 s.vm) (hw : ∀ d ∈ tables_1, d.before a0 Z = true) (hby : c.code = code) (hown : s.vm.findClass "com/example/quadrille/quadrille/geometry/SegmentJoinsPinLaw" = some m.cls) (e0 : T0.heap = h0) {g4 : Slot} {g5 : Slot} {g6 : Slot} {g7 : Slot} {g8 : Slot} {g9 : Slot} {g10 : Slot} {g15 : Slot} {g16 : Slot} {g17 : Slot} {g18 : Slot} {g19 : Slot} {a b cI d q0 q1 q2 q3 : Int32} (hc229 : a = q0) (hc235 : b = q1) (hc241 : cI = q2) (hc247 : ¬ (d = q3)) :
    ∀ target, Steps p.tables e below (T0.setTop (mkF m 250 #[.val (.int a), .val (.int b), .val (.int cI), .val (.int d), g4, g5, g6, g7, g8, g9, g10, .val (.int q0), .val (.int q1), .val (.int q2), .val (.int q3), g15, g16, g17, g18, g19] [])) target → Steps p.tables e below (T0.setTop (mkF m 226 #[.val (.int a), .val (.int b), .val (.int cI), .val (.int d), g4, g5, g6, g7, g8, g9, g10, .val (.int q0), .val (.int q1), .val (.int q2), .val (.int q3), g15, g16, g17, g18, g19] [])) target := by
  intro target kt
  show Steps p.tables e below (T0.setTop (mkF m 226 #[.val (.int a), .val (.int b), .val (.int cI), .val (.int d), g4, g5, g6, g7, g8, g9, g10, .val (.int q0), .val (.int q1), .val (.int q2), .val (.int q3), g15, g16, g17, g18, g19] [])) _
  refine XS.iloadN X0.here hx rfl (hb hby at_226) rfl ?_
  show Steps p.tables e below (T0.setTop (mkF m 227 #[.val (.int a), .val (.int b), .val (.int cI), .val (.int d), g4, g5, g6, g7, g8, g9, g10, .val (.int q0), .val (.int q1), .val (.int q2), .val (.int q3), g15, g16, g17, g18, g19] [(.int a)])) _
  refine XS.iload X0.here hx rfl (hb hby at_227) rfl ?_
  show Steps p.tables e below (T0.setTop (mkF m 229 #[.val (.int a), .val (.int b), .val (.int cI), .val (.int d), g4, g5, g6, g7, g8, g9, g10, .val (.int q0), .val (.int q1), .val (.int q2), .val (.int q3), g15, g16, g17, g18, g19] [(.int q0), (.int a)])) _
  refine XS.icmpNo X0.here hx rfl (hb hby at_229) rfl (teq hc229).2 ?_
  show Steps p.tables e below (T0.setTop (mkF m 232 #[.val (.int a), .val (.int b), .val (.int cI), .val (.int d), g4, g5, g6, g7, g8, g9, g10, .val (.int q0), .val (.int q1), .val (.int q2), .val (.int q3), g15, g16, g17, g18, g19] [])) _
  refine XS.iloadN X0.here hx rfl (hb hby at_232) rfl ?_
  show Steps p.tables e below (T0.setTop (mkF m 233 #[.val (.int a), .val (.int b), .val (.int cI), .val (.int d), g4, g5, g6, g7, g8, g9, g10, .val (.int q0), .val (.int q1), .val (.int q2), .val (.int q3), g15, g16, g17, g18, g19] [(.int b)])) _
  refine XS.iload X0.here hx rfl (hb hby at_233) rfl ?_
  show Steps p.tables e below (T0.setTop (mkF m 235 #[.val (.int a), .val (.int b), .val (.int cI), .val (.int d), g4, g5, g6, g7, g8, g9, g10, .val (.int q0), .val (.int q1), .val (.int q2), .val (.int q3), g15, g16, g17, g18, g19] [(.int q1), (.int b)])) _
  refine XS.icmpNo X0.here hx rfl (hb hby at_235) rfl (teq hc235).2 ?_
  show Steps p.tables e below (T0.setTop (mkF m 238 #[.val (.int a), .val (.int b), .val (.int cI), .val (.int d), g4, g5, g6, g7, g8, g9, g10, .val (.int q0), .val (.int q1), .val (.int q2), .val (.int q3), g15, g16, g17, g18, g19] [])) _
  refine XS.iloadN X0.here hx rfl (hb hby at_238) rfl ?_
  show Steps p.tables e below (T0.setTop (mkF m 239 #[.val (.int a), .val (.int b), .val (.int cI), .val (.int d), g4, g5, g6, g7, g8, g9, g10, .val (.int q0), .val (.int q1), .val (.int q2), .val (.int q3), g15, g16, g17, g18, g19] [(.int cI)])) _
  refine XS.iload X0.here hx rfl (hb hby at_239) rfl ?_
  show Steps p.tables e below (T0.setTop (mkF m 241 #[.val (.int a), .val (.int b), .val (.int cI), .val (.int d), g4, g5, g6, g7, g8, g9, g10, .val (.int q0), .val (.int q1), .val (.int q2), .val (.int q3), g15, g16, g17, g18, g19] [(.int q2), (.int cI)])) _
  refine XS.icmpNo X0.here hx rfl (hb hby at_241) rfl (teq hc241).2 ?_
  show Steps p.tables e below (T0.setTop (mkF m 244 #[.val (.int a), .val (.int b), .val (.int cI), .val (.int d), g4, g5, g6, g7, g8, g9, g10, .val (.int q0), .val (.int q1), .val (.int q2), .val (.int q3), g15, g16, g17, g18, g19] [])) _
  refine XS.iloadN X0.here hx rfl (hb hby at_244) rfl ?_
  show Steps p.tables e below (T0.setTop (mkF m 245 #[.val (.int a), .val (.int b), .val (.int cI), .val (.int d), g4, g5, g6, g7, g8, g9, g10, .val (.int q0), .val (.int q1), .val (.int q2), .val (.int q3), g15, g16, g17, g18, g19] [(.int d)])) _
  refine XS.iload X0.here hx rfl (hb hby at_245) rfl ?_
  show Steps p.tables e below (T0.setTop (mkF m 247 #[.val (.int a), .val (.int b), .val (.int cI), .val (.int d), g4, g5, g6, g7, g8, g9, g10, .val (.int q0), .val (.int q1), .val (.int q2), .val (.int q3), g15, g16, g17, g18, g19] [(.int q3), (.int d)])) _
  refine XS.icmpNo X0.here hx rfl (hb hby at_247) rfl (feq hc247).1 ?_
  exact kt
set_option maxRecDepth 65536 in
set_option maxHeartbeats 40000000 in
theorem s3_4 {p : Program} {l : Launch} {e : Env} {R : Room} {s : State} {m : MethodId} {args : Array Value} {below : List Frame} {meth : Method} {c : Code} {T0 : State} {locs : List Loc} {cells slots : Nat} {Z : State} {a0 : Array Value} {h0 : Heap} (X0 : Stand p l e R s m args below meth c T0 locs cells slots) (hx : p.tables.exec = Jvm.exec) (hZ : Z.Warmed39 s.vm) (hw : ∀ d ∈ tables_1, d.before a0 Z = true) (hby : c.code = code) (hown : s.vm.findClass "com/example/quadrille/quadrille/geometry/SegmentJoinsPinLaw" = some m.cls) (e0 : T0.heap = h0) {g4 : Slot} {g5 : Slot} {g6 : Slot} {g7 : Slot} {g8 : Slot} {g9 : Slot} {g10 : Slot} {g15 : Slot} {g16 : Slot} {g17 : Slot} {g18 : Slot} {g19 : Slot} {a b cI d q0 q1 q2 q3 : Int32} (hc229 : a = q0) (hc235 : b = q1) (hc241 : cI = q2) (hc247 : d = q3) :
    ∀ target, Steps p.tables e below (T0.setTop (mkF m 274 #[.val (.int a), .val (.int b), .val (.int cI), .val (.int d), g4, g5, g6, g7, g8, g9, g10, .val (.int q0), .val (.int q1), .val (.int q2), .val (.int q3), g15, g16, g17, g18, g19] [])) target → Steps p.tables e below (T0.setTop (mkF m 226 #[.val (.int a), .val (.int b), .val (.int cI), .val (.int d), g4, g5, g6, g7, g8, g9, g10, .val (.int q0), .val (.int q1), .val (.int q2), .val (.int q3), g15, g16, g17, g18, g19] [])) target := by
  intro target kt
  show Steps p.tables e below (T0.setTop (mkF m 226 #[.val (.int a), .val (.int b), .val (.int cI), .val (.int d), g4, g5, g6, g7, g8, g9, g10, .val (.int q0), .val (.int q1), .val (.int q2), .val (.int q3), g15, g16, g17, g18, g19] [])) _
  refine XS.iloadN X0.here hx rfl (hb hby at_226) rfl ?_
  show Steps p.tables e below (T0.setTop (mkF m 227 #[.val (.int a), .val (.int b), .val (.int cI), .val (.int d), g4, g5, g6, g7, g8, g9, g10, .val (.int q0), .val (.int q1), .val (.int q2), .val (.int q3), g15, g16, g17, g18, g19] [(.int a)])) _
  refine XS.iload X0.here hx rfl (hb hby at_227) rfl ?_
  show Steps p.tables e below (T0.setTop (mkF m 229 #[.val (.int a), .val (.int b), .val (.int cI), .val (.int d), g4, g5, g6, g7, g8, g9, g10, .val (.int q0), .val (.int q1), .val (.int q2), .val (.int q3), g15, g16, g17, g18, g19] [(.int q0), (.int a)])) _
  refine XS.icmpNo X0.here hx rfl (hb hby at_229) rfl (teq hc229).2 ?_
  show Steps p.tables e below (T0.setTop (mkF m 232 #[.val (.int a), .val (.int b), .val (.int cI), .val (.int d), g4, g5, g6, g7, g8, g9, g10, .val (.int q0), .val (.int q1), .val (.int q2), .val (.int q3), g15, g16, g17, g18, g19] [])) _
  refine XS.iloadN X0.here hx rfl (hb hby at_232) rfl ?_
  show Steps p.tables e below (T0.setTop (mkF m 233 #[.val (.int a), .val (.int b), .val (.int cI), .val (.int d), g4, g5, g6, g7, g8, g9, g10, .val (.int q0), .val (.int q1), .val (.int q2), .val (.int q3), g15, g16, g17, g18, g19] [(.int b)])) _
  refine XS.iload X0.here hx rfl (hb hby at_233) rfl ?_
  show Steps p.tables e below (T0.setTop (mkF m 235 #[.val (.int a), .val (.int b), .val (.int cI), .val (.int d), g4, g5, g6, g7, g8, g9, g10, .val (.int q0), .val (.int q1), .val (.int q2), .val (.int q3), g15, g16, g17, g18, g19] [(.int q1), (.int b)])) _
  refine XS.icmpNo X0.here hx rfl (hb hby at_235) rfl (teq hc235).2 ?_
  show Steps p.tables e below (T0.setTop (mkF m 238 #[.val (.int a), .val (.int b), .val (.int cI), .val (.int d), g4, g5, g6, g7, g8, g9, g10, .val (.int q0), .val (.int q1), .val (.int q2), .val (.int q3), g15, g16, g17, g18, g19] [])) _
  refine XS.iloadN X0.here hx rfl (hb hby at_238) rfl ?_
  show Steps p.tables e below (T0.setTop (mkF m 239 #[.val (.int a), .val (.int b), .val (.int cI), .val (.int d), g4, g5, g6, g7, g8, g9, g10, .val (.int q0), .val (.int q1), .val (.int q2), .val (.int q3), g15, g16, g17, g18, g19] [(.int cI)])) _
  refine XS.iload X0.here hx rfl (hb hby at_239) rfl ?_
  show Steps p.tables e below (T0.setTop (mkF m 241 #[.val (.int a), .val (.int b), .val (.int cI), .val (.int d), g4, g5, g6, g7, g8, g9, g10, .val (.int q0), .val (.int q1), .val (.int q2), .val (.int q3), g15, g16, g17, g18, g19] [(.int q2), (.int cI)])) _
  refine XS.icmpNo X0.here hx rfl (hb hby at_241) rfl (teq hc241).2 ?_
  show Steps p.tables e below (T0.setTop (mkF m 244 #[.val (.int a), .val (.int b), .val (.int cI), .val (.int d), g4, g5, g6, g7, g8, g9, g10, .val (.int q0), .val (.int q1), .val (.int q2), .val (.int q3), g15, g16, g17, g18, g19] [])) _
  refine XS.iloadN X0.here hx rfl (hb hby at_244) rfl ?_
  show Steps p.tables e below (T0.setTop (mkF m 245 #[.val (.int a), .val (.int b), .val (.int cI), .val (.int d), g4, g5, g6, g7, g8, g9, g10, .val (.int q0), .val (.int q1), .val (.int q2), .val (.int q3), g15, g16, g17, g18, g19] [(.int d)])) _
  refine XS.iload X0.here hx rfl (hb hby at_245) rfl ?_
  show Steps p.tables e below (T0.setTop (mkF m 247 #[.val (.int a), .val (.int b), .val (.int cI), .val (.int d), g4, g5, g6, g7, g8, g9, g10, .val (.int q0), .val (.int q1), .val (.int q2), .val (.int q3), g15, g16, g17, g18, g19] [(.int q3), (.int d)])) _
  refine XS.icmpYes X0.here hx rfl (pc0 := 247) (pc' := 274) rfl (hb hby at_247) rfl (teq hc247).1 (by decide) (by decide) ?_
  exact kt
set_option maxRecDepth 65536 in
set_option maxHeartbeats 40000000 in
theorem s3_5 {p : Program} {l : Launch} {e : Env} {R : Room} {s : State} {m : MethodId} {args : Array Value} {below : List Frame} {meth : Method} {c : Code} {T0 : State} {locs : List Loc} {cells slots : Nat} {Z : State} {a0 : Array Value} {h0 : Heap} (X0 : Stand p l e R s m args below meth c T0 locs cells slots) (hx : p.tables.exec = Jvm.exec) (hZ : Z.Warmed39 s.vm) (hw : ∀ d ∈ tables_1, d.before a0 Z = true) (hby : c.code = code) (hown : s.vm.findClass "com/example/quadrille/quadrille/geometry/SegmentJoinsPinLaw" = some m.cls) (e0 : T0.heap = h0) {g4 : Slot} {g5 : Slot} {g6 : Slot} {g7 : Slot} {g8 : Slot} {g9 : Slot} {g10 : Slot} {g15 : Slot} {g16 : Slot} {g17 : Slot} {g18 : Slot} {g19 : Slot} {a b cI d q0 q1 q2 q3 : Int32} (hc253 : ¬ (a = q2)) :
    ∀ target, Steps p.tables e below (T0.setTop (mkF m 278 #[.val (.int a), .val (.int b), .val (.int cI), .val (.int d), g4, g5, g6, g7, g8, g9, g10, .val (.int q0), .val (.int q1), .val (.int q2), .val (.int q3), g15, g16, g17, g18, g19] [])) target → Steps p.tables e below (T0.setTop (mkF m 250 #[.val (.int a), .val (.int b), .val (.int cI), .val (.int d), g4, g5, g6, g7, g8, g9, g10, .val (.int q0), .val (.int q1), .val (.int q2), .val (.int q3), g15, g16, g17, g18, g19] [])) target := by
  intro target kt
  show Steps p.tables e below (T0.setTop (mkF m 250 #[.val (.int a), .val (.int b), .val (.int cI), .val (.int d), g4, g5, g6, g7, g8, g9, g10, .val (.int q0), .val (.int q1), .val (.int q2), .val (.int q3), g15, g16, g17, g18, g19] [])) _
  refine XS.iloadN X0.here hx rfl (hb hby at_250) rfl ?_
  show Steps p.tables e below (T0.setTop (mkF m 251 #[.val (.int a), .val (.int b), .val (.int cI), .val (.int d), g4, g5, g6, g7, g8, g9, g10, .val (.int q0), .val (.int q1), .val (.int q2), .val (.int q3), g15, g16, g17, g18, g19] [(.int a)])) _
  refine XS.iload X0.here hx rfl (hb hby at_251) rfl ?_
  show Steps p.tables e below (T0.setTop (mkF m 253 #[.val (.int a), .val (.int b), .val (.int cI), .val (.int d), g4, g5, g6, g7, g8, g9, g10, .val (.int q0), .val (.int q1), .val (.int q2), .val (.int q3), g15, g16, g17, g18, g19] [(.int q2), (.int a)])) _
  refine XS.icmpYes X0.here hx rfl (pc0 := 253) (pc' := 278) rfl (hb hby at_253) rfl (feq hc253).2 (by decide) (by decide) ?_
  exact kt
set_option maxRecDepth 65536 in
set_option maxHeartbeats 40000000 in
theorem s3_6 {p : Program} {l : Launch} {e : Env} {R : Room} {s : State} {m : MethodId} {args : Array Value} {below : List Frame} {meth : Method} {c : Code} {T0 : State} {locs : List Loc} {cells slots : Nat} {Z : State} {a0 : Array Value} {h0 : Heap} (X0 : Stand p l e R s m args below meth c T0 locs cells slots) (hx : p.tables.exec = Jvm.exec) (hZ : Z.Warmed39 s.vm) (hw : ∀ d ∈ tables_1, d.before a0 Z = true) (hby : c.code = code) (hown : s.vm.findClass "com/example/quadrille/quadrille/geometry/SegmentJoinsPinLaw" = some m.cls) (e0 : T0.heap = h0) {g4 : Slot} {g5 : Slot} {g6 : Slot} {g7 : Slot} {g8 : Slot} {g9 : Slot} {g10 : Slot} {g15 : Slot} {g16 : Slot} {g17 : Slot} {g18 : Slot} {g19 : Slot} {a b cI d q0 q1 q2 q3 : Int32} (hc253 : a = q2) (hc259 : ¬ (b = q3)) :
    ∀ target, Steps p.tables e below (T0.setTop (mkF m 278 #[.val (.int a), .val (.int b), .val (.int cI), .val (.int d), g4, g5, g6, g7, g8, g9, g10, .val (.int q0), .val (.int q1), .val (.int q2), .val (.int q3), g15, g16, g17, g18, g19] [])) target → Steps p.tables e below (T0.setTop (mkF m 250 #[.val (.int a), .val (.int b), .val (.int cI), .val (.int d), g4, g5, g6, g7, g8, g9, g10, .val (.int q0), .val (.int q1), .val (.int q2), .val (.int q3), g15, g16, g17, g18, g19] [])) target := by
  intro target kt
  show Steps p.tables e below (T0.setTop (mkF m 250 #[.val (.int a), .val (.int b), .val (.int cI), .val (.int d), g4, g5, g6, g7, g8, g9, g10, .val (.int q0), .val (.int q1), .val (.int q2), .val (.int q3), g15, g16, g17, g18, g19] [])) _
  refine XS.iloadN X0.here hx rfl (hb hby at_250) rfl ?_
  show Steps p.tables e below (T0.setTop (mkF m 251 #[.val (.int a), .val (.int b), .val (.int cI), .val (.int d), g4, g5, g6, g7, g8, g9, g10, .val (.int q0), .val (.int q1), .val (.int q2), .val (.int q3), g15, g16, g17, g18, g19] [(.int a)])) _
  refine XS.iload X0.here hx rfl (hb hby at_251) rfl ?_
  show Steps p.tables e below (T0.setTop (mkF m 253 #[.val (.int a), .val (.int b), .val (.int cI), .val (.int d), g4, g5, g6, g7, g8, g9, g10, .val (.int q0), .val (.int q1), .val (.int q2), .val (.int q3), g15, g16, g17, g18, g19] [(.int q2), (.int a)])) _
  refine XS.icmpNo X0.here hx rfl (hb hby at_253) rfl (teq hc253).2 ?_
  show Steps p.tables e below (T0.setTop (mkF m 256 #[.val (.int a), .val (.int b), .val (.int cI), .val (.int d), g4, g5, g6, g7, g8, g9, g10, .val (.int q0), .val (.int q1), .val (.int q2), .val (.int q3), g15, g16, g17, g18, g19] [])) _
  refine XS.iloadN X0.here hx rfl (hb hby at_256) rfl ?_
  show Steps p.tables e below (T0.setTop (mkF m 257 #[.val (.int a), .val (.int b), .val (.int cI), .val (.int d), g4, g5, g6, g7, g8, g9, g10, .val (.int q0), .val (.int q1), .val (.int q2), .val (.int q3), g15, g16, g17, g18, g19] [(.int b)])) _
  refine XS.iload X0.here hx rfl (hb hby at_257) rfl ?_
  show Steps p.tables e below (T0.setTop (mkF m 259 #[.val (.int a), .val (.int b), .val (.int cI), .val (.int d), g4, g5, g6, g7, g8, g9, g10, .val (.int q0), .val (.int q1), .val (.int q2), .val (.int q3), g15, g16, g17, g18, g19] [(.int q3), (.int b)])) _
  refine XS.icmpYes X0.here hx rfl (pc0 := 259) (pc' := 278) rfl (hb hby at_259) rfl (feq hc259).2 (by decide) (by decide) ?_
  exact kt
set_option maxRecDepth 65536 in
set_option maxHeartbeats 40000000 in
theorem s3_7 {p : Program} {l : Launch} {e : Env} {R : Room} {s : State} {m : MethodId} {args : Array Value} {below : List Frame} {meth : Method} {c : Code} {T0 : State} {locs : List Loc} {cells slots : Nat} {Z : State} {a0 : Array Value} {h0 : Heap} (X0 : Stand p l e R s m args below meth c T0 locs cells slots) (hx : p.tables.exec = Jvm.exec) (hZ : Z.Warmed39 s.vm) (hw : ∀ d ∈ tables_1, d.before a0 Z = true) (hby : c.code = code) (hown : s.vm.findClass "com/example/quadrille/quadrille/geometry/SegmentJoinsPinLaw" = some m.cls) (e0 : T0.heap = h0) {g4 : Slot} {g5 : Slot} {g6 : Slot} {g7 : Slot} {g8 : Slot} {g9 : Slot} {g10 : Slot} {g15 : Slot} {g16 : Slot} {g17 : Slot} {g18 : Slot} {g19 : Slot} {a b cI d q0 q1 q2 q3 : Int32} (hc253 : a = q2) (hc259 : b = q3) (hc265 : ¬ (cI = q0)) :
    ∀ target, Steps p.tables e below (T0.setTop (mkF m 278 #[.val (.int a), .val (.int b), .val (.int cI), .val (.int d), g4, g5, g6, g7, g8, g9, g10, .val (.int q0), .val (.int q1), .val (.int q2), .val (.int q3), g15, g16, g17, g18, g19] [])) target → Steps p.tables e below (T0.setTop (mkF m 250 #[.val (.int a), .val (.int b), .val (.int cI), .val (.int d), g4, g5, g6, g7, g8, g9, g10, .val (.int q0), .val (.int q1), .val (.int q2), .val (.int q3), g15, g16, g17, g18, g19] [])) target := by
  intro target kt
  show Steps p.tables e below (T0.setTop (mkF m 250 #[.val (.int a), .val (.int b), .val (.int cI), .val (.int d), g4, g5, g6, g7, g8, g9, g10, .val (.int q0), .val (.int q1), .val (.int q2), .val (.int q3), g15, g16, g17, g18, g19] [])) _
  refine XS.iloadN X0.here hx rfl (hb hby at_250) rfl ?_
  show Steps p.tables e below (T0.setTop (mkF m 251 #[.val (.int a), .val (.int b), .val (.int cI), .val (.int d), g4, g5, g6, g7, g8, g9, g10, .val (.int q0), .val (.int q1), .val (.int q2), .val (.int q3), g15, g16, g17, g18, g19] [(.int a)])) _
  refine XS.iload X0.here hx rfl (hb hby at_251) rfl ?_
  show Steps p.tables e below (T0.setTop (mkF m 253 #[.val (.int a), .val (.int b), .val (.int cI), .val (.int d), g4, g5, g6, g7, g8, g9, g10, .val (.int q0), .val (.int q1), .val (.int q2), .val (.int q3), g15, g16, g17, g18, g19] [(.int q2), (.int a)])) _
  refine XS.icmpNo X0.here hx rfl (hb hby at_253) rfl (teq hc253).2 ?_
  show Steps p.tables e below (T0.setTop (mkF m 256 #[.val (.int a), .val (.int b), .val (.int cI), .val (.int d), g4, g5, g6, g7, g8, g9, g10, .val (.int q0), .val (.int q1), .val (.int q2), .val (.int q3), g15, g16, g17, g18, g19] [])) _
  refine XS.iloadN X0.here hx rfl (hb hby at_256) rfl ?_
  show Steps p.tables e below (T0.setTop (mkF m 257 #[.val (.int a), .val (.int b), .val (.int cI), .val (.int d), g4, g5, g6, g7, g8, g9, g10, .val (.int q0), .val (.int q1), .val (.int q2), .val (.int q3), g15, g16, g17, g18, g19] [(.int b)])) _
  refine XS.iload X0.here hx rfl (hb hby at_257) rfl ?_
  show Steps p.tables e below (T0.setTop (mkF m 259 #[.val (.int a), .val (.int b), .val (.int cI), .val (.int d), g4, g5, g6, g7, g8, g9, g10, .val (.int q0), .val (.int q1), .val (.int q2), .val (.int q3), g15, g16, g17, g18, g19] [(.int q3), (.int b)])) _
  refine XS.icmpNo X0.here hx rfl (hb hby at_259) rfl (teq hc259).2 ?_
  show Steps p.tables e below (T0.setTop (mkF m 262 #[.val (.int a), .val (.int b), .val (.int cI), .val (.int d), g4, g5, g6, g7, g8, g9, g10, .val (.int q0), .val (.int q1), .val (.int q2), .val (.int q3), g15, g16, g17, g18, g19] [])) _
  refine XS.iloadN X0.here hx rfl (hb hby at_262) rfl ?_
  show Steps p.tables e below (T0.setTop (mkF m 263 #[.val (.int a), .val (.int b), .val (.int cI), .val (.int d), g4, g5, g6, g7, g8, g9, g10, .val (.int q0), .val (.int q1), .val (.int q2), .val (.int q3), g15, g16, g17, g18, g19] [(.int cI)])) _
  refine XS.iload X0.here hx rfl (hb hby at_263) rfl ?_
  show Steps p.tables e below (T0.setTop (mkF m 265 #[.val (.int a), .val (.int b), .val (.int cI), .val (.int d), g4, g5, g6, g7, g8, g9, g10, .val (.int q0), .val (.int q1), .val (.int q2), .val (.int q3), g15, g16, g17, g18, g19] [(.int q0), (.int cI)])) _
  refine XS.icmpYes X0.here hx rfl (pc0 := 265) (pc' := 278) rfl (hb hby at_265) rfl (feq hc265).2 (by decide) (by decide) ?_
  exact kt
set_option maxRecDepth 65536 in
set_option maxHeartbeats 40000000 in
theorem s3_8 {p : Program} {l : Launch} {e : Env} {R : Room} {s : State} {m : MethodId} {args : Array Value} {below : List Frame} {meth : Method} {c : Code} {T0 : State} {locs : List Loc} {cells slots : Nat} {Z : State} {a0 : Array Value} {h0 : Heap} (X0 : Stand p l e R s m args below meth c T0 locs cells slots) (hx : p.tables.exec = Jvm.exec) (hZ : Z.Warmed39 s.vm) (hw : ∀ d ∈ tables_1, d.before a0 Z = true) (hby : c.code = code) (hown : s.vm.findClass "com/example/quadrille/quadrille/geometry/SegmentJoinsPinLaw" = some m.cls) (e0 : T0.heap = h0) {g4 : Slot} {g5 : Slot} {g6 : Slot} {g7 : Slot} {g8 : Slot} {g9 : Slot} {g10 : Slot} {g15 : Slot} {g16 : Slot} {g17 : Slot} {g18 : Slot} {g19 : Slot} {a b cI d q0 q1 q2 q3 : Int32} (hc253 : a = q2) (hc259 : b = q3) (hc265 : cI = q0) (hc271 : ¬ (d = q1)) :
    ∀ target, Steps p.tables e below (T0.setTop (mkF m 278 #[.val (.int a), .val (.int b), .val (.int cI), .val (.int d), g4, g5, g6, g7, g8, g9, g10, .val (.int q0), .val (.int q1), .val (.int q2), .val (.int q3), g15, g16, g17, g18, g19] [])) target → Steps p.tables e below (T0.setTop (mkF m 250 #[.val (.int a), .val (.int b), .val (.int cI), .val (.int d), g4, g5, g6, g7, g8, g9, g10, .val (.int q0), .val (.int q1), .val (.int q2), .val (.int q3), g15, g16, g17, g18, g19] [])) target := by
  intro target kt
  show Steps p.tables e below (T0.setTop (mkF m 250 #[.val (.int a), .val (.int b), .val (.int cI), .val (.int d), g4, g5, g6, g7, g8, g9, g10, .val (.int q0), .val (.int q1), .val (.int q2), .val (.int q3), g15, g16, g17, g18, g19] [])) _
  refine XS.iloadN X0.here hx rfl (hb hby at_250) rfl ?_
  show Steps p.tables e below (T0.setTop (mkF m 251 #[.val (.int a), .val (.int b), .val (.int cI), .val (.int d), g4, g5, g6, g7, g8, g9, g10, .val (.int q0), .val (.int q1), .val (.int q2), .val (.int q3), g15, g16, g17, g18, g19] [(.int a)])) _
  refine XS.iload X0.here hx rfl (hb hby at_251) rfl ?_
  show Steps p.tables e below (T0.setTop (mkF m 253 #[.val (.int a), .val (.int b), .val (.int cI), .val (.int d), g4, g5, g6, g7, g8, g9, g10, .val (.int q0), .val (.int q1), .val (.int q2), .val (.int q3), g15, g16, g17, g18, g19] [(.int q2), (.int a)])) _
  refine XS.icmpNo X0.here hx rfl (hb hby at_253) rfl (teq hc253).2 ?_
  show Steps p.tables e below (T0.setTop (mkF m 256 #[.val (.int a), .val (.int b), .val (.int cI), .val (.int d), g4, g5, g6, g7, g8, g9, g10, .val (.int q0), .val (.int q1), .val (.int q2), .val (.int q3), g15, g16, g17, g18, g19] [])) _
  refine XS.iloadN X0.here hx rfl (hb hby at_256) rfl ?_
  show Steps p.tables e below (T0.setTop (mkF m 257 #[.val (.int a), .val (.int b), .val (.int cI), .val (.int d), g4, g5, g6, g7, g8, g9, g10, .val (.int q0), .val (.int q1), .val (.int q2), .val (.int q3), g15, g16, g17, g18, g19] [(.int b)])) _
  refine XS.iload X0.here hx rfl (hb hby at_257) rfl ?_
  show Steps p.tables e below (T0.setTop (mkF m 259 #[.val (.int a), .val (.int b), .val (.int cI), .val (.int d), g4, g5, g6, g7, g8, g9, g10, .val (.int q0), .val (.int q1), .val (.int q2), .val (.int q3), g15, g16, g17, g18, g19] [(.int q3), (.int b)])) _
  refine XS.icmpNo X0.here hx rfl (hb hby at_259) rfl (teq hc259).2 ?_
  show Steps p.tables e below (T0.setTop (mkF m 262 #[.val (.int a), .val (.int b), .val (.int cI), .val (.int d), g4, g5, g6, g7, g8, g9, g10, .val (.int q0), .val (.int q1), .val (.int q2), .val (.int q3), g15, g16, g17, g18, g19] [])) _
  refine XS.iloadN X0.here hx rfl (hb hby at_262) rfl ?_
  show Steps p.tables e below (T0.setTop (mkF m 263 #[.val (.int a), .val (.int b), .val (.int cI), .val (.int d), g4, g5, g6, g7, g8, g9, g10, .val (.int q0), .val (.int q1), .val (.int q2), .val (.int q3), g15, g16, g17, g18, g19] [(.int cI)])) _
  refine XS.iload X0.here hx rfl (hb hby at_263) rfl ?_
  show Steps p.tables e below (T0.setTop (mkF m 265 #[.val (.int a), .val (.int b), .val (.int cI), .val (.int d), g4, g5, g6, g7, g8, g9, g10, .val (.int q0), .val (.int q1), .val (.int q2), .val (.int q3), g15, g16, g17, g18, g19] [(.int q0), (.int cI)])) _
  refine XS.icmpNo X0.here hx rfl (hb hby at_265) rfl (teq hc265).2 ?_
  show Steps p.tables e below (T0.setTop (mkF m 268 #[.val (.int a), .val (.int b), .val (.int cI), .val (.int d), g4, g5, g6, g7, g8, g9, g10, .val (.int q0), .val (.int q1), .val (.int q2), .val (.int q3), g15, g16, g17, g18, g19] [])) _
  refine XS.iloadN X0.here hx rfl (hb hby at_268) rfl ?_
  show Steps p.tables e below (T0.setTop (mkF m 269 #[.val (.int a), .val (.int b), .val (.int cI), .val (.int d), g4, g5, g6, g7, g8, g9, g10, .val (.int q0), .val (.int q1), .val (.int q2), .val (.int q3), g15, g16, g17, g18, g19] [(.int d)])) _
  refine XS.iload X0.here hx rfl (hb hby at_269) rfl ?_
  show Steps p.tables e below (T0.setTop (mkF m 271 #[.val (.int a), .val (.int b), .val (.int cI), .val (.int d), g4, g5, g6, g7, g8, g9, g10, .val (.int q0), .val (.int q1), .val (.int q2), .val (.int q3), g15, g16, g17, g18, g19] [(.int q1), (.int d)])) _
  refine XS.icmpYes X0.here hx rfl (pc0 := 271) (pc' := 278) rfl (hb hby at_271) rfl (feq hc271).2 (by decide) (by decide) ?_
  exact kt
set_option maxRecDepth 65536 in
set_option maxHeartbeats 40000000 in
theorem s3_9 {p : Program} {l : Launch} {e : Env} {R : Room} {s : State} {m : MethodId} {args : Array Value} {below : List Frame} {meth : Method} {c : Code} {T0 : State} {locs : List Loc} {cells slots : Nat} {Z : State} {a0 : Array Value} {h0 : Heap} (X0 : Stand p l e R s m args below meth c T0 locs cells slots) (hx : p.tables.exec = Jvm.exec) (hZ : Z.Warmed39 s.vm) (hw : ∀ d ∈ tables_1, d.before a0 Z = true) (hby : c.code = code) (hown : s.vm.findClass "com/example/quadrille/quadrille/geometry/SegmentJoinsPinLaw" = some m.cls) (e0 : T0.heap = h0) {g4 : Slot} {g5 : Slot} {g6 : Slot} {g7 : Slot} {g8 : Slot} {g9 : Slot} {g10 : Slot} {g15 : Slot} {g16 : Slot} {g17 : Slot} {g18 : Slot} {g19 : Slot} {a b cI d q0 q1 q2 q3 : Int32} (hc253 : a = q2) (hc259 : b = q3) (hc265 : cI = q0) (hc271 : d = q1) :
    ∀ target, Steps p.tables e below (T0.setTop (mkF m 274 #[.val (.int a), .val (.int b), .val (.int cI), .val (.int d), g4, g5, g6, g7, g8, g9, g10, .val (.int q0), .val (.int q1), .val (.int q2), .val (.int q3), g15, g16, g17, g18, g19] [])) target → Steps p.tables e below (T0.setTop (mkF m 250 #[.val (.int a), .val (.int b), .val (.int cI), .val (.int d), g4, g5, g6, g7, g8, g9, g10, .val (.int q0), .val (.int q1), .val (.int q2), .val (.int q3), g15, g16, g17, g18, g19] [])) target := by
  intro target kt
  show Steps p.tables e below (T0.setTop (mkF m 250 #[.val (.int a), .val (.int b), .val (.int cI), .val (.int d), g4, g5, g6, g7, g8, g9, g10, .val (.int q0), .val (.int q1), .val (.int q2), .val (.int q3), g15, g16, g17, g18, g19] [])) _
  refine XS.iloadN X0.here hx rfl (hb hby at_250) rfl ?_
  show Steps p.tables e below (T0.setTop (mkF m 251 #[.val (.int a), .val (.int b), .val (.int cI), .val (.int d), g4, g5, g6, g7, g8, g9, g10, .val (.int q0), .val (.int q1), .val (.int q2), .val (.int q3), g15, g16, g17, g18, g19] [(.int a)])) _
  refine XS.iload X0.here hx rfl (hb hby at_251) rfl ?_
  show Steps p.tables e below (T0.setTop (mkF m 253 #[.val (.int a), .val (.int b), .val (.int cI), .val (.int d), g4, g5, g6, g7, g8, g9, g10, .val (.int q0), .val (.int q1), .val (.int q2), .val (.int q3), g15, g16, g17, g18, g19] [(.int q2), (.int a)])) _
  refine XS.icmpNo X0.here hx rfl (hb hby at_253) rfl (teq hc253).2 ?_
  show Steps p.tables e below (T0.setTop (mkF m 256 #[.val (.int a), .val (.int b), .val (.int cI), .val (.int d), g4, g5, g6, g7, g8, g9, g10, .val (.int q0), .val (.int q1), .val (.int q2), .val (.int q3), g15, g16, g17, g18, g19] [])) _
  refine XS.iloadN X0.here hx rfl (hb hby at_256) rfl ?_
  show Steps p.tables e below (T0.setTop (mkF m 257 #[.val (.int a), .val (.int b), .val (.int cI), .val (.int d), g4, g5, g6, g7, g8, g9, g10, .val (.int q0), .val (.int q1), .val (.int q2), .val (.int q3), g15, g16, g17, g18, g19] [(.int b)])) _
  refine XS.iload X0.here hx rfl (hb hby at_257) rfl ?_
  show Steps p.tables e below (T0.setTop (mkF m 259 #[.val (.int a), .val (.int b), .val (.int cI), .val (.int d), g4, g5, g6, g7, g8, g9, g10, .val (.int q0), .val (.int q1), .val (.int q2), .val (.int q3), g15, g16, g17, g18, g19] [(.int q3), (.int b)])) _
  refine XS.icmpNo X0.here hx rfl (hb hby at_259) rfl (teq hc259).2 ?_
  show Steps p.tables e below (T0.setTop (mkF m 262 #[.val (.int a), .val (.int b), .val (.int cI), .val (.int d), g4, g5, g6, g7, g8, g9, g10, .val (.int q0), .val (.int q1), .val (.int q2), .val (.int q3), g15, g16, g17, g18, g19] [])) _
  refine XS.iloadN X0.here hx rfl (hb hby at_262) rfl ?_
  show Steps p.tables e below (T0.setTop (mkF m 263 #[.val (.int a), .val (.int b), .val (.int cI), .val (.int d), g4, g5, g6, g7, g8, g9, g10, .val (.int q0), .val (.int q1), .val (.int q2), .val (.int q3), g15, g16, g17, g18, g19] [(.int cI)])) _
  refine XS.iload X0.here hx rfl (hb hby at_263) rfl ?_
  show Steps p.tables e below (T0.setTop (mkF m 265 #[.val (.int a), .val (.int b), .val (.int cI), .val (.int d), g4, g5, g6, g7, g8, g9, g10, .val (.int q0), .val (.int q1), .val (.int q2), .val (.int q3), g15, g16, g17, g18, g19] [(.int q0), (.int cI)])) _
  refine XS.icmpNo X0.here hx rfl (hb hby at_265) rfl (teq hc265).2 ?_
  show Steps p.tables e below (T0.setTop (mkF m 268 #[.val (.int a), .val (.int b), .val (.int cI), .val (.int d), g4, g5, g6, g7, g8, g9, g10, .val (.int q0), .val (.int q1), .val (.int q2), .val (.int q3), g15, g16, g17, g18, g19] [])) _
  refine XS.iloadN X0.here hx rfl (hb hby at_268) rfl ?_
  show Steps p.tables e below (T0.setTop (mkF m 269 #[.val (.int a), .val (.int b), .val (.int cI), .val (.int d), g4, g5, g6, g7, g8, g9, g10, .val (.int q0), .val (.int q1), .val (.int q2), .val (.int q3), g15, g16, g17, g18, g19] [(.int d)])) _
  refine XS.iload X0.here hx rfl (hb hby at_269) rfl ?_
  show Steps p.tables e below (T0.setTop (mkF m 271 #[.val (.int a), .val (.int b), .val (.int cI), .val (.int d), g4, g5, g6, g7, g8, g9, g10, .val (.int q0), .val (.int q1), .val (.int q2), .val (.int q3), g15, g16, g17, g18, g19] [(.int q1), (.int d)])) _
  refine XS.icmpNo X0.here hx rfl (hb hby at_271) rfl (teq hc271).2 ?_
  exact kt
set_option maxRecDepth 65536 in
set_option maxHeartbeats 40000000 in
theorem s3_x {p : Program} {l : Launch} {e : Env} {R : Room} {s : State} {m : MethodId} {args : Array Value} {below : List Frame} {meth : Method} {c : Code} {T0 : State} {locs : List Loc} {cells slots : Nat} {Z : State} {a0 : Array Value} {h0 : Heap} (X0 : Stand p l e R s m args below meth c T0 locs cells slots) (hx : p.tables.exec = Jvm.exec) (hZ : Z.Warmed39 s.vm) (hw : ∀ d ∈ tables_1, d.before a0 Z = true) (hby : c.code = code) (hown : s.vm.findClass "com/example/quadrille/quadrille/geometry/SegmentJoinsPinLaw" = some m.cls) (e0 : T0.heap = h0) {g4 : Slot} {g5 : Slot} {g6 : Slot} {g7 : Slot} {g8 : Slot} {g9 : Slot} {g10 : Slot} {g15 : Slot} {g16 : Slot} {g17 : Slot} {g18 : Slot} {g19 : Slot} {a b cI d q0 q1 q2 q3 : Int32} :
    ∀ target, Steps p.tables e below (T0.setTop (mkF m 279 #[.val (.int a), .val (.int b), .val (.int cI), .val (.int d), g4, g5, g6, g7, g8, g9, g10, .val (.int q0), .val (.int q1), .val (.int q2), .val (.int q3), g15, g16, g17, g18, g19] [(.int (1 : Int32))])) target → Steps p.tables e below (T0.setTop (mkF m 274 #[.val (.int a), .val (.int b), .val (.int cI), .val (.int d), g4, g5, g6, g7, g8, g9, g10, .val (.int q0), .val (.int q1), .val (.int q2), .val (.int q3), g15, g16, g17, g18, g19] [])) target := by
  intro target kt
  show Steps p.tables e below (T0.setTop (mkF m 274 #[.val (.int a), .val (.int b), .val (.int cI), .val (.int d), g4, g5, g6, g7, g8, g9, g10, .val (.int q0), .val (.int q1), .val (.int q2), .val (.int q3), g15, g16, g17, g18, g19] [])) _
  refine XS.iconst X0.here hx rfl (hb hby at_274) ?_
  show Steps p.tables e below (T0.setTop (mkF m 275 #[.val (.int a), .val (.int b), .val (.int cI), .val (.int d), g4, g5, g6, g7, g8, g9, g10, .val (.int q0), .val (.int q1), .val (.int q2), .val (.int q3), g15, g16, g17, g18, g19] [(.int (1 : Int32))])) _
  refine XS.goto X0.here hx rfl (pc0 := 275) (pc' := 279) rfl (hb hby at_275) (by decide) (by decide) ?_
  exact kt
set_option maxRecDepth 65536 in
set_option maxHeartbeats 40000000 in
theorem s3_y {p : Program} {l : Launch} {e : Env} {R : Room} {s : State} {m : MethodId} {args : Array Value} {below : List Frame} {meth : Method} {c : Code} {T0 : State} {locs : List Loc} {cells slots : Nat} {Z : State} {a0 : Array Value} {h0 : Heap} (X0 : Stand p l e R s m args below meth c T0 locs cells slots) (hx : p.tables.exec = Jvm.exec) (hZ : Z.Warmed39 s.vm) (hw : ∀ d ∈ tables_1, d.before a0 Z = true) (hby : c.code = code) (hown : s.vm.findClass "com/example/quadrille/quadrille/geometry/SegmentJoinsPinLaw" = some m.cls) (e0 : T0.heap = h0) {g4 : Slot} {g5 : Slot} {g6 : Slot} {g7 : Slot} {g8 : Slot} {g9 : Slot} {g10 : Slot} {g15 : Slot} {g16 : Slot} {g17 : Slot} {g18 : Slot} {g19 : Slot} {a b cI d q0 q1 q2 q3 : Int32} :
    ∀ target, Steps p.tables e below (T0.setTop (mkF m 279 #[.val (.int a), .val (.int b), .val (.int cI), .val (.int d), g4, g5, g6, g7, g8, g9, g10, .val (.int q0), .val (.int q1), .val (.int q2), .val (.int q3), g15, g16, g17, g18, g19] [(.int (0 : Int32))])) target → Steps p.tables e below (T0.setTop (mkF m 278 #[.val (.int a), .val (.int b), .val (.int cI), .val (.int d), g4, g5, g6, g7, g8, g9, g10, .val (.int q0), .val (.int q1), .val (.int q2), .val (.int q3), g15, g16, g17, g18, g19] [])) target := by
  intro target kt
  show Steps p.tables e below (T0.setTop (mkF m 278 #[.val (.int a), .val (.int b), .val (.int cI), .val (.int d), g4, g5, g6, g7, g8, g9, g10, .val (.int q0), .val (.int q1), .val (.int q2), .val (.int q3), g15, g16, g17, g18, g19] [])) _
  refine XS.iconst X0.here hx rfl (hb hby at_278) ?_
  exact kt
theorem s3 {p : Program} {l : Launch} {e : Env} {R : Room} {s : State} {m : MethodId} {args : Array Value} {below : List Frame} {meth : Method} {c : Code} {T0 : State} {locs : List Loc} {cells slots : Nat} {Z : State} {a0 : Array Value} {h0 : Heap} (X0 : Stand p l e R s m args below meth c T0 locs cells slots) (hx : p.tables.exec = Jvm.exec) (hZ : Z.Warmed39 s.vm) (hw : ∀ d ∈ tables_1, d.before a0 Z = true) (hby : c.code = code) (hown : s.vm.findClass "com/example/quadrille/quadrille/geometry/SegmentJoinsPinLaw" = some m.cls) (e0 : T0.heap = h0) {g4 : Slot} {g5 : Slot} {g6 : Slot} {g7 : Slot} {g8 : Slot} {g9 : Slot} {g10 : Slot} {g15 : Slot} {g16 : Slot} {g17 : Slot} {g18 : Slot} {g19 : Slot} {a b cI d q0 q1 q2 q3 : Int32} :
    ∀ target, Steps p.tables e below (T0.setTop (mkF m 279 #[.val (.int a), .val (.int b), .val (.int cI), .val (.int d), g4, g5, g6, g7, g8, g9, g10, .val (.int q0), .val (.int q1), .val (.int q2), .val (.int q3), g15, g16, g17, g18, g19] [(.int (own_or (own_and (a = q0) (b = q1) (cI = q2) (d = q3)) (own_and (a = q2) (b = q3) (cI = q0) (d = q1))))])) target → Steps p.tables e below (T0.setTop (mkF m 226 #[.val (.int a), .val (.int b), .val (.int cI), .val (.int d), g4, g5, g6, g7, g8, g9, g10, .val (.int q0), .val (.int q1), .val (.int q2), .val (.int q3), g15, g16, g17, g18, g19] [])) target := by
  intro target kt
  have one : (own_or (own_and (a = q0) (b = q1) (cI = q2) (d = q3)) (own_and (a = q2) (b = q3) (cI = q0) (d = q1))) = 1 → Steps p.tables e below (T0.setTop (mkF m 274 #[.val (.int a), .val (.int b), .val (.int cI), .val (.int d), g4, g5, g6, g7, g8, g9, g10, .val (.int q0), .val (.int q1), .val (.int q2), .val (.int q3), g15, g16, g17, g18, g19] [])) target := fun q => by
    refine s3_x X0 hx hZ hw hby hown e0 _ ?_
    rw [q] at kt; exact kt
  have zero : (own_or (own_and (a = q0) (b = q1) (cI = q2) (d = q3)) (own_and (a = q2) (b = q3) (cI = q0) (d = q1))) = 0 → Steps p.tables e below (T0.setTop (mkF m 278 #[.val (.int a), .val (.int b), .val (.int cI), .val (.int d), g4, g5, g6, g7, g8, g9, g10, .val (.int q0), .val (.int q1), .val (.int q2), .val (.int q3), g15, g16, g17, g18, g19] [])) target := fun q => by
    refine s3_y X0 hx hZ hw hby hown e0 _ ?_
    rw [q] at kt; exact kt
  by_cases h1 : a = q0 ∧ b = q1 ∧ cI = q2 ∧ d = q3
  · refine s3_4 X0 hx hZ hw hby hown e0 h1.1 h1.2.1 h1.2.2.1 h1.2.2.2 _ (one ?_)
    rw [own_or, own_and, if_pos h1, if_neg (by decide)]
  have g1 : Steps p.tables e below (T0.setTop (mkF m 250 #[.val (.int a), .val (.int b), .val (.int cI), .val (.int d), g4, g5, g6, g7, g8, g9, g10, .val (.int q0), .val (.int q1), .val (.int q2), .val (.int q3), g15, g16, g17, g18, g19] [])) target → Steps p.tables e below (T0.setTop (mkF m 226 #[.val (.int a), .val (.int b), .val (.int cI), .val (.int d), g4, g5, g6, g7, g8, g9, g10, .val (.int q0), .val (.int q1), .val (.int q2), .val (.int q3), g15, g16, g17, g18, g19] [])) target := fun k => by
    by_cases z1 : ¬ (a = q0)
    · exact s3_0 X0 hx hZ hw hby hown e0 z1 _ k
    replace z1 := Classical.not_not.mp z1
    by_cases z2 : ¬ (b = q1)
    · exact s3_1 X0 hx hZ hw hby hown e0 z1 z2 _ k
    replace z2 := Classical.not_not.mp z2
    by_cases z3 : ¬ (cI = q2)
    · exact s3_2 X0 hx hZ hw hby hown e0 z1 z2 z3 _ k
    replace z3 := Classical.not_not.mp z3
    · exact s3_3 X0 hx hZ hw hby hown e0 z1 z2 z3 (fun z4 => h1 ⟨z1, z2, z3, z4⟩) _ k
  refine g1 ?_
  by_cases h2 : a = q2 ∧ b = q3 ∧ cI = q0 ∧ d = q1
  · refine s3_9 X0 hx hZ hw hby hown e0 h2.1 h2.2.1 h2.2.2.1 h2.2.2.2 _ (one ?_)
    rw [own_or, own_and, own_and, if_neg h1, if_pos h2, if_pos rfl, if_neg (by decide)]
  have z : (own_or (own_and (a = q0) (b = q1) (cI = q2) (d = q3)) (own_and (a = q2) (b = q3) (cI = q0) (d = q1))) = 0 := by rw [own_or, own_and, own_and, if_neg h1, if_neg h2, if_pos rfl, if_pos rfl]
  by_cases z1 : ¬ (a = q2)
  · exact s3_5 X0 hx hZ hw hby hown e0 z1 _ (zero z)
  replace z1 := Classical.not_not.mp z1
  by_cases z2 : ¬ (b = q3)
  · exact s3_6 X0 hx hZ hw hby hown e0 z1 z2 _ (zero z)
  replace z2 := Classical.not_not.mp z2
  by_cases z3 : ¬ (cI = q0)
  · exact s3_7 X0 hx hZ hw hby hown e0 z1 z2 z3 _ (zero z)
  replace z3 := Classical.not_not.mp z3
  · exact s3_8 X0 hx hZ hw hby hown e0 z1 z2 z3 (fun z4 => h2 ⟨z1, z2, z3, z4⟩) _ (zero z)

theorem own_same {a b cI d q0 q1 q2 q3 : Int32} {a1 a2 a3 a4 b1 b2 b3 b4 : UInt64} (h1 : FP.Core.DInt a.toInt a1) (h2 : FP.Core.DInt b.toInt a2) (h3 : FP.Core.DInt cI.toInt a3) (h4 : FP.Core.DInt d.toInt a4) (k1 : FP.Core.DInt q0.toInt b1) (k2 : FP.Core.DInt q1.toInt b2) (k3 : FP.Core.DInt q2.toInt b3) (k4 : FP.Core.DInt q3.toInt b4) : (own_or (own_and (own_c a1 b1 = 0) (own_c a2 b2 = 0) (own_c a3 b3 = 0) (own_c a4 b4 = 0)) (own_and (own_c a1 b3 = 0) (own_c a2 b4 = 0) (own_c a3 b1 = 0) (own_c a4 b2 = 0))) = (own_or (own_and (a = q0) (b = q1) (cI = q2) (d = q3)) (own_and (a = q2) (b = q3) (cI = q0) (d = q1))) := by
  simp only [own_and, own_eq h1 k1, own_eq h2 k2, own_eq h3 k3, own_eq h4 k4, own_eq h1 k3, own_eq h2 k4, own_eq h3 k1, own_eq h4 k2, Int32.toInt_inj]

theorem own_pd1 : parseMethodDescriptor "(IIII)I" = some ⟨[.int, .int, .int, .int], some .int⟩ := by decide +kernel
theorem own_pd2 : parseMethodDescriptor "(III)D" = some ⟨[.int, .int, .int], some .double⟩ := by decide +kernel
theorem own_pd3 : parseMethodDescriptor "(JDDDD)V" = some ⟨[.long, .double, .double, .double, .double], none⟩ := by decide +kernel
theorem own_pd4 : parseMethodDescriptor "(DDDD)Z" = some ⟨[.double, .double, .double, .double], some .boolean⟩ := by decide +kernel
theorem ef_0 (m : MethodId) (x0 : Int32) (x1 : Int32) (x2 : Int32) (x3 : Int32) (x4 : Int32) (x5 : Int32) : entryFrame m #[(.int x0), (.int x1), (.int x2), (.int x3), (.int x4), (.int x5)] maxLocals = mkF m 0 #[.val (.int x0), .val (.int x1), .val (.int x2), .val (.int x3), .val (.int x4), .val (.int x5), .unset, .unset, .unset, .unset, .unset, .unset, .unset, .unset, .unset, .unset, .unset, .unset, .unset, .unset] [] := by first | (simp [entryFrame, mkF, argsToLocals, Value.category, maxLocals]; done) | rfl
theorem pn_0 : plainName "com/example/quadrille/quadrille/geometry/SegmentJoinsPinLaw" = true := by first | (simp [plainName, overriddenIn]; done) | decide +kernel
def Qd5 (Z : State) (a b cI d w k : Int32) (h0 : Heap) (n0 : Nat) (v : Option Value) (h : Heap) (L : List Loc) : Prop := v = some (.int 1) ∧ Fr n0 L
set_option maxRecDepth 65536 in
set_option maxHeartbeats 40000000 in
theorem rm0 (l : Launch) (Z : State) (a0 : Array Value) (hw : ∀ d ∈ tables_1, d.before a0 Z = true) (ws : List Jvm.Cond) (a b cI d w k : Int32) (h0 : Heap) (n0 : Nat) (O0 : Old Z n0 h0) :
    MetFree l x (head1 (Jvm.Cond.code x code maxLocals ret :: ws) room_1) (fun qq U => qq = #[(.int a), (.int b), (.int cI), (.int d), (.int w), (.int k)] ∧ Z.Warmed39 U.vm ∧ U.heap = h0) (fun _ _ _ _ _ => True) (fun _ UU oo UU' => ∃ vv LL, oo = .returned vv ∧ Qd5 Z a b cI d w k h0 n0 vv UU'.heap LL ∧ FrameEnd UU oo UU' LL room_1.cells room_1.slots) := by
  refine MetFree.of_bodySF (plainFor_of_name pn_0) hisR ?_
  intro p e s m args below meth c s₁ Bd hml0 hP hK
  obtain ⟨rfl, hZ, hh⟩ := hP
  have hx := Bd.exec
  have hby := Bd.bytes
  have hml : c.maxLocals = 20 := hml0
  have hown : s.vm.findClass "com/example/quadrille/quadrille/geometry/SegmentJoinsPinLaw" = some m.cls := findClass_of_methodNamed Bd.named
  have hnm := (name_of_methodNamed Bd.named Bd.method).1
  have X0 : Stand p l e room_1 s m #[(.int a), (.int b), (.int cI), (.int d), (.int w), (.int k)] below meth c s₁ [] 0 0 := Stand.of_body Bd
  have e0 : s₁.heap = h0 := by rw [← hh, Bd.state]; rfl
  have N0 := Fr.nil n0
  have pre0 : ∀ t, Steps p.tables e below (s₁.setTop (mkF m 0 #[.val (.int a), .val (.int b), .val (.int cI), .val (.int d), .val (.int w), .val (.int k), .unset, .unset, .unset, .unset, .unset, .unset, .unset, .unset, .unset, .unset, .unset, .unset, .unset, .unset] [])) t → Steps p.tables e below (s₁.setTop (entryFrame m #[(.int a), (.int b), (.int cI), (.int d), (.int w), (.int k)] maxLocals)) t := fun tt kk => castTop (ef_0 m a b cI d w k) kk
  obtain ⟨s6, r7, r8, r9, r10, st0⟩ := s1 (a := a) (b := b) (cI := cI) (d := d) (w := w) (k := k) X0 hx hZ hw hby hown e0
  obtain ⟨_, _, ⟨T1, L1, k1, n1⟩, -, X1, ⟨Lc1, hQ1, l1, y1, z1⟩, st1⟩ := Jvm.LawKit.callS X0 hx (y := (⟨"com/example/quadrille/quadrille/geometry/SegmentJoinsPinLaw", "pick", "(IIII)I"⟩ : MethodName)) hown (mvT hZ (hw _ (List.mem_of_getElem? (i := 0) rfl))) (mvT hZ (hw _ (List.mem_of_getElem? (i := 1) rfl))) (mvT hZ (hw _ (List.mem_of_getElem? (i := 2) rfl))) (mvT hZ (hw _ (List.mem_of_getElem? (i := 3) rfl))) (by decide) (backOf (W := 0) (rmP l Z a0 hw [] r7 (((k.toUInt32 >>> ((1 : Int32) &&& 31).toUInt32).toInt32) &&& (7 : Int32)) w b h0 n0) hZ (hw _ (List.mem_of_getElem? (i := 3) rfl)) (hw _ (List.mem_of_getElem? (i := 2) rfl)) (by decide) (by decide)) (g := (mkF m 74 #[.val (.int a), .val (.int b), .val (.int cI), .val (.int d), .val (.int w), .val (.int k), .val (.int s6), .val (.int r7), .val (.int r8), .val (.int r9), .val (.int r10), .unset, .unset, .unset, .unset, .unset, .unset, .unset, .unset, .unset] [(.int b), (.int w), (.int (((k.toUInt32 >>> ((1 : Int32) &&& 31).toUInt32).toInt32) &&& (7 : Int32))), (.int r7)])) rfl (by rw [hml]; rfl) (argsL := [(.int r7), (.int (((k.toUInt32 >>> ((1 : Int32) &&& 31).toUInt32).toInt32) &&& (7 : Int32))), (.int w), (.int b)]) (rest := []) (lenOf own_pd1 rfl) rfl (by show 2 * 0 + _ ≤ _; exact Nat.le_of_eq rfl) (hb hby at_74) (fun _ _ => ⟨rfl, e0, (by decide : 0 + 0 ≤ _), (by decide : 0 + 0 ≤ _)⟩)
  dsimp only [Pt.U, Pt.locs, Pt.cells, Pt.slots] at X1 l1 y1 z1 st1 hQ1
  subst l1 y1 z1
  obtain ⟨q0, rfl, N1q, e1⟩ := hQ1
  have N1 := Fr.app N0 N1q
  obtain ⟨_, _, ⟨T2, L2, k2, n2⟩, -, X2, ⟨Lc2, hQ2, l2, y2, z2⟩, st2⟩ := Jvm.LawKit.callS X1 hx (y := (⟨"com/example/quadrille/quadrille/geometry/SegmentJoinsPinLaw", "pick", "(IIII)I"⟩ : MethodName)) hown (mvT hZ (hw _ (List.mem_of_getElem? (i := 0) rfl))) (mvT hZ (hw _ (List.mem_of_getElem? (i := 1) rfl))) (mvT hZ (hw _ (List.mem_of_getElem? (i := 2) rfl))) (mvT hZ (hw _ (List.mem_of_getElem? (i := 3) rfl))) (by decide) (backOf (W := 0) (rmP l Z a0 hw [] r8 (((k.toUInt32 >>> ((4 : Int32) &&& 31).toUInt32).toInt32) &&& (7 : Int32)) w cI h0 n0) hZ (hw _ (List.mem_of_getElem? (i := 3) rfl)) (hw _ (List.mem_of_getElem? (i := 2) rfl)) (by decide) (by decide)) (g := (mkF m 91 #[.val (.int a), .val (.int b), .val (.int cI), .val (.int d), .val (.int w), .val (.int k), .val (.int s6), .val (.int r7), .val (.int r8), .val (.int r9), .val (.int r10), .val (.int q0), .unset, .unset, .unset, .unset, .unset, .unset, .unset, .unset] [(.int cI), (.int w), (.int (((k.toUInt32 >>> ((4 : Int32) &&& 31).toUInt32).toInt32) &&& (7 : Int32))), (.int r8)])) rfl (by rw [hml]; rfl) (argsL := [(.int r8), (.int (((k.toUInt32 >>> ((4 : Int32) &&& 31).toUInt32).toInt32) &&& (7 : Int32))), (.int w), (.int cI)]) (rest := []) (lenOf own_pd1 rfl) rfl (by show 2 * 0 + _ ≤ _; exact Nat.le_of_eq rfl) (hb hby at_91) (fun _ _ => ⟨rfl, e1, (by decide : 0 + 0 ≤ _), (by decide : 0 + 0 ≤ _)⟩)
  dsimp only [Pt.U, Pt.locs, Pt.cells, Pt.slots] at X2 l2 y2 z2 st2 hQ2
  subst l2 y2 z2
  obtain ⟨q1, rfl, N2q, e2⟩ := hQ2
  have N2 := Fr.app N1 N2q
  obtain ⟨_, _, ⟨T3, L3, k3, n3⟩, -, X3, ⟨Lc3, hQ3, l3, y3, z3⟩, st3⟩ := Jvm.LawKit.callS X2 hx (y := (⟨"com/example/quadrille/quadrille/geometry/SegmentJoinsPinLaw", "pick", "(IIII)I"⟩ : MethodName)) hown (mvT hZ (hw _ (List.mem_of_getElem? (i := 0) rfl))) (mvT hZ (hw _ (List.mem_of_getElem? (i := 1) rfl))) (mvT hZ (hw _ (List.mem_of_getElem? (i := 2) rfl))) (mvT hZ (hw _ (List.mem_of_getElem? (i := 3) rfl))) (by decide) (backOf (W := 0) (rmP l Z a0 hw [] r9 (((k.toUInt32 >>> ((7 : Int32) &&& 31).toUInt32).toInt32) &&& (7 : Int32)) w d h0 n0) hZ (hw _ (List.mem_of_getElem? (i := 3) rfl)) (hw _ (List.mem_of_getElem? (i := 2) rfl)) (by decide) (by decide)) (g := (mkF m 109 #[.val (.int a), .val (.int b), .val (.int cI), .val (.int d), .val (.int w), .val (.int k), .val (.int s6), .val (.int r7), .val (.int r8), .val (.int r9), .val (.int r10), .val (.int q0), .val (.int q1), .unset, .unset, .unset, .unset, .unset, .unset, .unset] [(.int d), (.int w), (.int (((k.toUInt32 >>> ((7 : Int32) &&& 31).toUInt32).toInt32) &&& (7 : Int32))), (.int r9)])) rfl (by rw [hml]; rfl) (argsL := [(.int r9), (.int (((k.toUInt32 >>> ((7 : Int32) &&& 31).toUInt32).toInt32) &&& (7 : Int32))), (.int w), (.int d)]) (rest := []) (lenOf own_pd1 rfl) rfl (by show 2 * 0 + _ ≤ _; exact Nat.le_of_eq rfl) (hb hby at_109) (fun _ _ => ⟨rfl, e2, (by decide : 0 + 0 ≤ _), (by decide : 0 + 0 ≤ _)⟩)
  dsimp only [Pt.U, Pt.locs, Pt.cells, Pt.slots] at X3 l3 y3 z3 st3 hQ3
  subst l3 y3 z3
  obtain ⟨q2, rfl, N3q, e3⟩ := hQ3
  have N3 := Fr.app N2 N3q
  obtain ⟨_, _, ⟨T4, L4, k4, n4⟩, -, X4, ⟨Lc4, hQ4, l4, y4, z4⟩, st4⟩ := Jvm.LawKit.callS X3 hx (y := (⟨"com/example/quadrille/quadrille/geometry/SegmentJoinsPinLaw", "pick", "(IIII)I"⟩ : MethodName)) hown (mvT hZ (hw _ (List.mem_of_getElem? (i := 0) rfl))) (mvT hZ (hw _ (List.mem_of_getElem? (i := 1) rfl))) (mvT hZ (hw _ (List.mem_of_getElem? (i := 2) rfl))) (mvT hZ (hw _ (List.mem_of_getElem? (i := 3) rfl))) (by decide) (backOf (W := 0) (rmP l Z a0 hw [] r10 (((k.toUInt32 >>> ((10 : Int32) &&& 31).toUInt32).toInt32) &&& (7 : Int32)) w a h0 n0) hZ (hw _ (List.mem_of_getElem? (i := 3) rfl)) (hw _ (List.mem_of_getElem? (i := 2) rfl)) (by decide) (by decide)) (g := (mkF m 127 #[.val (.int a), .val (.int b), .val (.int cI), .val (.int d), .val (.int w), .val (.int k), .val (.int s6), .val (.int r7), .val (.int r8), .val (.int r9), .val (.int r10), .val (.int q0), .val (.int q1), .val (.int q2), .unset, .unset, .unset, .unset, .unset, .unset] [(.int a), (.int w), (.int (((k.toUInt32 >>> ((10 : Int32) &&& 31).toUInt32).toInt32) &&& (7 : Int32))), (.int r10)])) rfl (by rw [hml]; rfl) (argsL := [(.int r10), (.int (((k.toUInt32 >>> ((10 : Int32) &&& 31).toUInt32).toInt32) &&& (7 : Int32))), (.int w), (.int a)]) (rest := []) (lenOf own_pd1 rfl) rfl (by show 2 * 0 + _ ≤ _; exact Nat.le_of_eq rfl) (hb hby at_127) (fun _ _ => ⟨rfl, e3, (by decide : 0 + 0 ≤ _), (by decide : 0 + 0 ≤ _)⟩)
  dsimp only [Pt.U, Pt.locs, Pt.cells, Pt.slots] at X4 l4 y4 z4 st4 hQ4
  subst l4 y4 z4
  obtain ⟨q3, rfl, N4q, e4⟩ := hQ4
  have N4 := Fr.app N3 N4q
  obtain ⟨T5, h5, X5, e5, E5, A5, D5, -, st5⟩ := newO X4 hx hZ hown (hw _ (List.mem_of_getElem? (i := 4) rfl)) (hw _ (List.mem_of_getElem? (i := 5) rfl)) (hw _ (List.mem_of_getElem? (i := 6) rfl)) e4 (g := (mkF m 140 #[.val (.int a), .val (.int b), .val (.int cI), .val (.int d), .val (.int w), .val (.int k), .val (.int s6), .val (.int r7), .val (.int r8), .val (.int r9), .val (.int r10), .val (.int q0), .val (.int q1), .val (.int q2), .val (.int q3), .val (.long ((k >>> ((21 : Int32) &&& 31)).toInt64)), .second, .unset, .unset, .unset] [])) rfl (hb hby at_140) (by decide) (by decide)
  obtain ⟨b5, q5⟩ : ∃ z, z = h0.size := ⟨_, rfl⟩
  rw [← q5] at A5 D5 st5
  have g_b5 : n0 ≤ b5 := by rw [q5]; exact (O0).1 ▸ (O0).2.1
  have O5 := Old.ext O0 E5
  have F5_id : Fld Z h5 b5 "com/example/quadrille/quadrille/geometry/Segment" "id" "J" (.long (0 : Int64)) := D5 (Or.inr (hw _ (List.mem_of_getElem? (i := 22) rfl))) (ty := .long) (by decide)
  have F5_x1 : Fld Z h5 b5 "com/example/quadrille/quadrille/geometry/Segment" "x1" "D" (.double (0 : UInt64)) := D5 (Or.inr (hw _ (List.mem_of_getElem? (i := 24) rfl))) (ty := .double) (by decide)
  have F5_y1 : Fld Z h5 b5 "com/example/quadrille/quadrille/geometry/Segment" "y1" "D" (.double (0 : UInt64)) := D5 (Or.inr (hw _ (List.mem_of_getElem? (i := 26) rfl))) (ty := .double) (by decide)
  have F5_x2 : Fld Z h5 b5 "com/example/quadrille/quadrille/geometry/Segment" "x2" "D" (.double (0 : UInt64)) := D5 (Or.inr (hw _ (List.mem_of_getElem? (i := 28) rfl))) (ty := .double) (by decide)
  have F5_y2 : Fld Z h5 b5 "com/example/quadrille/quadrille/geometry/Segment" "y2" "D" (.double (0 : UInt64)) := D5 (Or.inr (hw _ (List.mem_of_getElem? (i := 30) rfl))) (ty := .double) (by decide)
  obtain ⟨_, _, ⟨T6, L6, k6, n6⟩, -, X6, ⟨Lc6, hQ6, l6, y6, z6⟩, st6⟩ := Jvm.LawKit.callS X5 hx (y := (⟨"com/example/quadrille/quadrille/geometry/SegmentJoinsPinLaw", "toD", "(III)D"⟩ : MethodName)) hown (mvT hZ (hw _ (List.mem_of_getElem? (i := 7) rfl))) (mvT hZ (hw _ (List.mem_of_getElem? (i := 8) rfl))) (mvT hZ (hw _ (List.mem_of_getElem? (i := 2) rfl))) (mvT hZ (hw _ (List.mem_of_getElem? (i := 9) rfl))) (by decide) (backOf (W := 4) (rmD l Z a0 hw [] a k (13 : Int32) h5 n0) hZ (hw _ (List.mem_of_getElem? (i := 9) rfl)) (hw _ (List.mem_of_getElem? (i := 2) rfl)) (by decide) (by decide)) (g := (mkF m 151 #[.val (.int a), .val (.int b), .val (.int cI), .val (.int d), .val (.int w), .val (.int k), .val (.int s6), .val (.int r7), .val (.int r8), .val (.int r9), .val (.int r10), .val (.int q0), .val (.int q1), .val (.int q2), .val (.int q3), .val (.long ((k >>> ((21 : Int32) &&& 31)).toInt64)), .second, .unset, .unset, .unset] [(.int (13 : Int32)), (.int k), (.int a), (.long ((k >>> ((21 : Int32) &&& 31)).toInt64)), (.ref b5), (.ref b5)])) rfl (by rw [hml]; rfl) (argsL := [(.int a), (.int k), (.int (13 : Int32))]) (rest := [(.long ((k >>> ((21 : Int32) &&& 31)).toInt64)), (.ref b5), (.ref b5)]) (lenOf own_pd2 rfl) rfl (by show 2 * 0 + _ ≤ _; exact Nat.le_of_eq rfl) (hb hby at_151) (fun _ _ => ⟨rfl, e5, (by decide : 1 + 0 ≤ _), (by decide : 5 + 0 ≤ _)⟩)
  dsimp only [Pt.U, Pt.locs, Pt.cells, Pt.slots] at X6 l6 y6 z6 st6 hQ6
  subst l6 y6 z6
  obtain ⟨d1, rfl, N6q, e6, I_d1⟩ := hQ6
  have N6 := Fr.app N4 N6q
  obtain ⟨_, _, ⟨T7, L7, k7, n7⟩, -, X7, ⟨Lc7, hQ7, l7, y7, z7⟩, st7⟩ := Jvm.LawKit.callS X6 hx (y := (⟨"com/example/quadrille/quadrille/geometry/SegmentJoinsPinLaw", "toD", "(III)D"⟩ : MethodName)) hown (mvT hZ (hw _ (List.mem_of_getElem? (i := 7) rfl))) (mvT hZ (hw _ (List.mem_of_getElem? (i := 8) rfl))) (mvT hZ (hw _ (List.mem_of_getElem? (i := 2) rfl))) (mvT hZ (hw _ (List.mem_of_getElem? (i := 9) rfl))) (by decide) (backOf (W := 6) (rmD l Z a0 hw [] b k (14 : Int32) h5 n0) hZ (hw _ (List.mem_of_getElem? (i := 9) rfl)) (hw _ (List.mem_of_getElem? (i := 2) rfl)) (by decide) (by decide)) (g := (mkF m 159 #[.val (.int a), .val (.int b), .val (.int cI), .val (.int d), .val (.int w), .val (.int k), .val (.int s6), .val (.int r7), .val (.int r8), .val (.int r9), .val (.int r10), .val (.int q0), .val (.int q1), .val (.int q2), .val (.int q3), .val (.long ((k >>> ((21 : Int32) &&& 31)).toInt64)), .second, .unset, .unset, .unset] [(.int (14 : Int32)), (.int k), (.int b), (.double d1), (.long ((k >>> ((21 : Int32) &&& 31)).toInt64)), (.ref b5), (.ref b5)])) rfl (by rw [hml]; rfl) (argsL := [(.int b), (.int k), (.int (14 : Int32))]) (rest := [(.double d1), (.long ((k >>> ((21 : Int32) &&& 31)).toInt64)), (.ref b5), (.ref b5)]) (lenOf own_pd2 rfl) rfl (by show 2 * 0 + _ ≤ _; exact Nat.le_of_eq rfl) (hb hby at_159) (fun _ _ => ⟨rfl, e6, (by decide : 1 + 0 ≤ _), (by decide : 5 + 0 ≤ _)⟩)
  dsimp only [Pt.U, Pt.locs, Pt.cells, Pt.slots] at X7 l7 y7 z7 st7 hQ7
  subst l7 y7 z7
  obtain ⟨d2, rfl, N7q, e7, I_d2⟩ := hQ7
  have N7 := Fr.app N6 N7q
  obtain ⟨_, _, ⟨T8, L8, k8, n8⟩, -, X8, ⟨Lc8, hQ8, l8, y8, z8⟩, st8⟩ := Jvm.LawKit.callS X7 hx (y := (⟨"com/example/quadrille/quadrille/geometry/SegmentJoinsPinLaw", "toD", "(III)D"⟩ : MethodName)) hown (mvT hZ (hw _ (List.mem_of_getElem? (i := 7) rfl))) (mvT hZ (hw _ (List.mem_of_getElem? (i := 8) rfl))) (mvT hZ (hw _ (List.mem_of_getElem? (i := 2) rfl))) (mvT hZ (hw _ (List.mem_of_getElem? (i := 9) rfl))) (by decide) (backOf (W := 8) (rmD l Z a0 hw [] cI k (15 : Int32) h5 n0) hZ (hw _ (List.mem_of_getElem? (i := 9) rfl)) (hw _ (List.mem_of_getElem? (i := 2) rfl)) (by decide) (by decide)) (g := (mkF m 167 #[.val (.int a), .val (.int b), .val (.int cI), .val (.int d), .val (.int w), .val (.int k), .val (.int s6), .val (.int r7), .val (.int r8), .val (.int r9), .val (.int r10), .val (.int q0), .val (.int q1), .val (.int q2), .val (.int q3), .val (.long ((k >>> ((21 : Int32) &&& 31)).toInt64)), .second, .unset, .unset, .unset] [(.int (15 : Int32)), (.int k), (.int cI), (.double d2), (.double d1), (.long ((k >>> ((21 : Int32) &&& 31)).toInt64)), (.ref b5), (.ref b5)])) rfl (by rw [hml]; rfl) (argsL := [(.int cI), (.int k), (.int (15 : Int32))]) (rest := [(.double d2), (.double d1), (.long ((k >>> ((21 : Int32) &&& 31)).toInt64)), (.ref b5), (.ref b5)]) (lenOf own_pd2 rfl) rfl (by show 2 * 0 + _ ≤ _; exact Nat.le_of_eq rfl) (hb hby at_167) (fun _ _ => ⟨rfl, e7, (by decide : 1 + 0 ≤ _), (by decide : 5 + 0 ≤ _)⟩)
  dsimp only [Pt.U, Pt.locs, Pt.cells, Pt.slots] at X8 l8 y8 z8 st8 hQ8
  subst l8 y8 z8
  obtain ⟨d3, rfl, N8q, e8, I_d3⟩ := hQ8
  have N8 := Fr.app N7 N8q
  obtain ⟨_, _, ⟨T9, L9, k9, n9⟩, -, X9, ⟨Lc9, hQ9, l9, y9, z9⟩, st9⟩ := Jvm.LawKit.callS X8 hx (y := (⟨"com/example/quadrille/quadrille/geometry/SegmentJoinsPinLaw", "toD", "(III)D"⟩ : MethodName)) hown (mvT hZ (hw _ (List.mem_of_getElem? (i := 7) rfl))) (mvT hZ (hw _ (List.mem_of_getElem? (i := 8) rfl))) (mvT hZ (hw _ (List.mem_of_getElem? (i := 2) rfl))) (mvT hZ (hw _ (List.mem_of_getElem? (i := 9) rfl))) (by decide) (backOf (W := 10) (rmD l Z a0 hw [] d k (16 : Int32) h5 n0) hZ (hw _ (List.mem_of_getElem? (i := 9) rfl)) (hw _ (List.mem_of_getElem? (i := 2) rfl)) (by decide) (by decide)) (g := (mkF m 175 #[.val (.int a), .val (.int b), .val (.int cI), .val (.int d), .val (.int w), .val (.int k), .val (.int s6), .val (.int r7), .val (.int r8), .val (.int r9), .val (.int r10), .val (.int q0), .val (.int q1), .val (.int q2), .val (.int q3), .val (.long ((k >>> ((21 : Int32) &&& 31)).toInt64)), .second, .unset, .unset, .unset] [(.int (16 : Int32)), (.int k), (.int d), (.double d3), (.double d2), (.double d1), (.long ((k >>> ((21 : Int32) &&& 31)).toInt64)), (.ref b5), (.ref b5)])) rfl (by rw [hml]; rfl) (argsL := [(.int d), (.int k), (.int (16 : Int32))]) (rest := [(.double d3), (.double d2), (.double d1), (.long ((k >>> ((21 : Int32) &&& 31)).toInt64)), (.ref b5), (.ref b5)]) (lenOf own_pd2 rfl) rfl (by show 2 * 0 + _ ≤ _; exact Nat.le_of_eq rfl) (hb hby at_175) (fun _ _ => ⟨rfl, e8, (by decide : 1 + 0 ≤ _), (by decide : 5 + 0 ≤ _)⟩)
  dsimp only [Pt.U, Pt.locs, Pt.cells, Pt.slots] at X9 l9 y9 z9 st9 hQ9
  subst l9 y9 z9
  obtain ⟨d4, rfl, N9q, e9, I_d4⟩ := hQ9
  have N9 := Fr.app N8 N9q
  obtain ⟨_, _, ⟨T10, L10, k10, n10⟩, -, X10, ⟨Lc10, hQ10, l10, y10, z10⟩, st10⟩ := X9.specialBack hx (y := (⟨"com/example/quadrille/quadrille/geometry/Segment", "<init>", "(JDDDD)V"⟩ : MethodName)) rfl hown (mvT hZ (hw _ (List.mem_of_getElem? (i := 10) rfl))) (mvT hZ (hw _ (List.mem_of_getElem? (i := 11) rfl))) (mvT hZ (hw _ (List.mem_of_getElem? (i := 12) rfl))) (by decide) (backOf (W := 1) (rmS l Z a0 hw [] b5 ((k >>> ((21 : Int32) &&& 31)).toInt64) d1 d2 d3 d4 h5 n0 O5 g_b5 A5 F5_id F5_x1 F5_y1 F5_x2 F5_y2) hZ (hw _ (List.mem_of_getElem? (i := 12) rfl)) (hw _ (List.mem_of_getElem? (i := 6) rfl)) (by decide) (by decide)) (g := (mkF m 178 #[.val (.int a), .val (.int b), .val (.int cI), .val (.int d), .val (.int w), .val (.int k), .val (.int s6), .val (.int r7), .val (.int r8), .val (.int r9), .val (.int r10), .val (.int q0), .val (.int q1), .val (.int q2), .val (.int q3), .val (.long ((k >>> ((21 : Int32) &&& 31)).toInt64)), .second, .unset, .unset, .unset] [(.double d4), (.double d3), (.double d2), (.double d1), (.long ((k >>> ((21 : Int32) &&& 31)).toInt64)), (.ref b5), (.ref b5)])) rfl (by rw [hml]; rfl) (Steps.refl _) (a := b5) (argsL := [(.long ((k >>> ((21 : Int32) &&& 31)).toInt64)), (.double d1), (.double d2), (.double d3), (.double d4)]) (rest := [(.ref b5)]) (lenOf own_pd3 rfl) rfl (by show 2 * 0 + _ ≤ _; exact Nat.le_of_eq rfl) (hb hby at_178) (fun _ _ => ⟨rfl, e9, (by decide : 1 + 0 ≤ _), (by decide : 5 + 0 ≤ _)⟩)
  dsimp only [Pt.U, Pt.locs, Pt.cells, Pt.slots] at X10 l10 y10 z10 st10 hQ10
  subst l10 y10 z10
  obtain ⟨rfl, N10q, KK10, f10_0, f10_1, f10_2, f10_3⟩ := hQ10
  have N10 := Fr.app N9 N10q
  have O10 := Old.keep O5 KK10 (allS g_b5 all0)
  obtain ⟨_, _, ⟨T11, L11, k11, n11⟩, -, X11, ⟨Lc11, hQ11, l11, y11, z11⟩, st11⟩ := Jvm.LawKit.callS X10 hx (y := (⟨"com/example/quadrille/quadrille/geometry/SegmentJoinsPinLaw", "toD", "(III)D"⟩ : MethodName)) hown (mvT hZ (hw _ (List.mem_of_getElem? (i := 7) rfl))) (mvT hZ (hw _ (List.mem_of_getElem? (i := 8) rfl))) (mvT hZ (hw _ (List.mem_of_getElem? (i := 2) rfl))) (mvT hZ (hw _ (List.mem_of_getElem? (i := 9) rfl))) (by decide) (backOf (W := 1) (rmD l Z a0 hw [] q0 k (17 : Int32) T10.heap n0) hZ (hw _ (List.mem_of_getElem? (i := 9) rfl)) (hw _ (List.mem_of_getElem? (i := 2) rfl)) (by decide) (by decide)) (g := (mkF m 191 #[.val (.int a), .val (.int b), .val (.int cI), .val (.int d), .val (.int w), .val (.int k), .val (.int s6), .val (.int r7), .val (.int r8), .val (.int r9), .val (.int r10), .val (.int q0), .val (.int q1), .val (.int q2), .val (.int q3), .val (.long ((k >>> ((21 : Int32) &&& 31)).toInt64)), .second, .val (.ref b5), .unset, .unset] [(.int (17 : Int32)), (.int k), (.int q0), (.ref b5)])) rfl (by rw [hml]; rfl) (argsL := [(.int q0), (.int k), (.int (17 : Int32))]) (rest := [(.ref b5)]) (lenOf own_pd2 rfl) rfl (by show 2 * 0 + _ ≤ _; exact Nat.le_of_eq rfl) (hb hby at_191) (fun _ _ => ⟨rfl, rfl, (by decide : 1 + 0 ≤ _), (by decide : 5 + 0 ≤ _)⟩)
  dsimp only [Pt.U, Pt.locs, Pt.cells, Pt.slots] at X11 l11 y11 z11 st11 hQ11
  subst l11 y11 z11
  obtain ⟨f1, rfl, N11q, e11, I_f1⟩ := hQ11
  have N11 := Fr.app N10 N11q
  obtain ⟨_, _, ⟨T12, L12, k12, n12⟩, -, X12, ⟨Lc12, hQ12, l12, y12, z12⟩, st12⟩ := Jvm.LawKit.callS X11 hx (y := (⟨"com/example/quadrille/quadrille/geometry/SegmentJoinsPinLaw", "toD", "(III)D"⟩ : MethodName)) hown (mvT hZ (hw _ (List.mem_of_getElem? (i := 7) rfl))) (mvT hZ (hw _ (List.mem_of_getElem? (i := 8) rfl))) (mvT hZ (hw _ (List.mem_of_getElem? (i := 2) rfl))) (mvT hZ (hw _ (List.mem_of_getElem? (i := 9) rfl))) (by decide) (backOf (W := 3) (rmD l Z a0 hw [] q1 k (18 : Int32) T10.heap n0) hZ (hw _ (List.mem_of_getElem? (i := 9) rfl)) (hw _ (List.mem_of_getElem? (i := 2) rfl)) (by decide) (by decide)) (g := (mkF m 200 #[.val (.int a), .val (.int b), .val (.int cI), .val (.int d), .val (.int w), .val (.int k), .val (.int s6), .val (.int r7), .val (.int r8), .val (.int r9), .val (.int r10), .val (.int q0), .val (.int q1), .val (.int q2), .val (.int q3), .val (.long ((k >>> ((21 : Int32) &&& 31)).toInt64)), .second, .val (.ref b5), .unset, .unset] [(.int (18 : Int32)), (.int k), (.int q1), (.double f1), (.ref b5)])) rfl (by rw [hml]; rfl) (argsL := [(.int q1), (.int k), (.int (18 : Int32))]) (rest := [(.double f1), (.ref b5)]) (lenOf own_pd2 rfl) rfl (by show 2 * 0 + _ ≤ _; exact Nat.le_of_eq rfl) (hb hby at_200) (fun _ _ => ⟨rfl, e11, (by decide : 1 + 0 ≤ _), (by decide : 5 + 0 ≤ _)⟩)
  dsimp only [Pt.U, Pt.locs, Pt.cells, Pt.slots] at X12 l12 y12 z12 st12 hQ12
  subst l12 y12 z12
  obtain ⟨f2, rfl, N12q, e12, I_f2⟩ := hQ12
  have N12 := Fr.app N11 N12q
  obtain ⟨_, _, ⟨T13, L13, k13, n13⟩, -, X13, ⟨Lc13, hQ13, l13, y13, z13⟩, st13⟩ := Jvm.LawKit.callS X12 hx (y := (⟨"com/example/quadrille/quadrille/geometry/SegmentJoinsPinLaw", "toD", "(III)D"⟩ : MethodName)) hown (mvT hZ (hw _ (List.mem_of_getElem? (i := 7) rfl))) (mvT hZ (hw _ (List.mem_of_getElem? (i := 8) rfl))) (mvT hZ (hw _ (List.mem_of_getElem? (i := 2) rfl))) (mvT hZ (hw _ (List.mem_of_getElem? (i := 9) rfl))) (by decide) (backOf (W := 5) (rmD l Z a0 hw [] q2 k (19 : Int32) T10.heap n0) hZ (hw _ (List.mem_of_getElem? (i := 9) rfl)) (hw _ (List.mem_of_getElem? (i := 2) rfl)) (by decide) (by decide)) (g := (mkF m 209 #[.val (.int a), .val (.int b), .val (.int cI), .val (.int d), .val (.int w), .val (.int k), .val (.int s6), .val (.int r7), .val (.int r8), .val (.int r9), .val (.int r10), .val (.int q0), .val (.int q1), .val (.int q2), .val (.int q3), .val (.long ((k >>> ((21 : Int32) &&& 31)).toInt64)), .second, .val (.ref b5), .unset, .unset] [(.int (19 : Int32)), (.int k), (.int q2), (.double f2), (.double f1), (.ref b5)])) rfl (by rw [hml]; rfl) (argsL := [(.int q2), (.int k), (.int (19 : Int32))]) (rest := [(.double f2), (.double f1), (.ref b5)]) (lenOf own_pd2 rfl) rfl (by show 2 * 0 + _ ≤ _; exact Nat.le_of_eq rfl) (hb hby at_209) (fun _ _ => ⟨rfl, e12, (by decide : 1 + 0 ≤ _), (by decide : 5 + 0 ≤ _)⟩)
  dsimp only [Pt.U, Pt.locs, Pt.cells, Pt.slots] at X13 l13 y13 z13 st13 hQ13
  subst l13 y13 z13
  obtain ⟨f3, rfl, N13q, e13, I_f3⟩ := hQ13
  have N13 := Fr.app N12 N13q
  obtain ⟨_, _, ⟨T14, L14, k14, n14⟩, -, X14, ⟨Lc14, hQ14, l14, y14, z14⟩, st14⟩ := Jvm.LawKit.callS X13 hx (y := (⟨"com/example/quadrille/quadrille/geometry/SegmentJoinsPinLaw", "toD", "(III)D"⟩ : MethodName)) hown (mvT hZ (hw _ (List.mem_of_getElem? (i := 7) rfl))) (mvT hZ (hw _ (List.mem_of_getElem? (i := 8) rfl))) (mvT hZ (hw _ (List.mem_of_getElem? (i := 2) rfl))) (mvT hZ (hw _ (List.mem_of_getElem? (i := 9) rfl))) (by decide) (backOf (W := 7) (rmD l Z a0 hw [] q3 k (20 : Int32) T10.heap n0) hZ (hw _ (List.mem_of_getElem? (i := 9) rfl)) (hw _ (List.mem_of_getElem? (i := 2) rfl)) (by decide) (by decide)) (g := (mkF m 218 #[.val (.int a), .val (.int b), .val (.int cI), .val (.int d), .val (.int w), .val (.int k), .val (.int s6), .val (.int r7), .val (.int r8), .val (.int r9), .val (.int r10), .val (.int q0), .val (.int q1), .val (.int q2), .val (.int q3), .val (.long ((k >>> ((21 : Int32) &&& 31)).toInt64)), .second, .val (.ref b5), .unset, .unset] [(.int (20 : Int32)), (.int k), (.int q3), (.double f3), (.double f2), (.double f1), (.ref b5)])) rfl (by rw [hml]; rfl) (argsL := [(.int q3), (.int k), (.int (20 : Int32))]) (rest := [(.double f3), (.double f2), (.double f1), (.ref b5)]) (lenOf own_pd2 rfl) rfl (by show 2 * 0 + _ ≤ _; exact Nat.le_of_eq rfl) (hb hby at_218) (fun _ _ => ⟨rfl, e13, (by decide : 1 + 0 ≤ _), (by decide : 5 + 0 ≤ _)⟩)
  dsimp only [Pt.U, Pt.locs, Pt.cells, Pt.slots] at X14 l14 y14 z14 st14 hQ14
  subst l14 y14 z14
  obtain ⟨f4, rfl, N14q, e14, I_f4⟩ := hQ14
  have N14 := Fr.app N13 N14q
  obtain ⟨cq15, kq15, q15a, q15b, q15c⟩ := isOf hZ e14 (A5.keep KK10)
  obtain ⟨_, _, ⟨T15, L15, k15, n15⟩, -, X15, ⟨Lc15, hQ15, l15, y15, z15⟩, st15⟩ := X14.virtualBack hx (y := (⟨"com/example/quadrille/quadrille/geometry/Segment", "joins", "(DDDD)Z"⟩ : MethodName)) (z := (⟨"com/example/quadrille/quadrille/geometry/Segment", "joins", "(DDDD)Z"⟩ : MethodName)) hown (mvT hZ (hw _ (List.mem_of_getElem? (i := 31) rfl))) (mvT hZ (hw _ (List.mem_of_getElem? (i := 32) rfl))) (notFace_of_selects (args := #[]) (mvT hZ (hw _ (List.mem_of_getElem? (i := 34) rfl)))) (mvT hZ (hw _ (List.mem_of_getElem? (i := 34) rfl))) (mvT hZ (hw _ (List.mem_of_getElem? (i := 33) rfl))) (by decide) (backOf (W := 0) (rmJ l Z a0 hw [] b5 d1 d2 d3 d4 f1 f2 f3 f4 T10.heap n0 f10_0 f10_1 f10_2 f10_3) hZ (hw _ (List.mem_of_getElem? (i := 35) rfl)) (hw _ (List.mem_of_getElem? (i := 6) rfl)) (by decide) (by decide)) q15a q15c (g := (mkF m 221 #[.val (.int a), .val (.int b), .val (.int cI), .val (.int d), .val (.int w), .val (.int k), .val (.int s6), .val (.int r7), .val (.int r8), .val (.int r9), .val (.int r10), .val (.int q0), .val (.int q1), .val (.int q2), .val (.int q3), .val (.long ((k >>> ((21 : Int32) &&& 31)).toInt64)), .second, .val (.ref b5), .unset, .unset] [(.double f4), (.double f3), (.double f2), (.double f1), (.ref b5)])) rfl (by rw [hml]; rfl) (Steps.refl _) (argsL := [(.double f1), (.double f2), (.double f3), (.double f4)]) (rest := []) (lenOf own_pd4 rfl) rfl (by show 2 * 0 + _ ≤ _; exact Nat.le_of_eq rfl) (hb hby at_221) (fun _ _ => ⟨rfl, e14, (by decide : 1 + 0 ≤ _), (by decide : 5 + 0 ≤ _)⟩)
  dsimp only [Pt.U, Pt.locs, Pt.cells, Pt.slots] at X15 l15 y15 z15 st15 hQ15
  subst l15 y15 z15
  obtain ⟨rfl, N15q, e15⟩ := hQ15
  have N15 := Fr.app N14 N15q
  obtain ⟨fs, hr, hrun, hended, hW, hsame⟩ := X15.leave (v := some (.int (1 : Int32))) (fun h => by rw [Bd.returns] at h; cases h)
  refine ⟨_, _, pre0 _ ?_, hrun, hended, _, _, rfl, ?_, ⟨_, rfl⟩, hW, hsame.mono (by decide) (by decide)⟩
  · show Steps p.tables e below (s₁.setTop (mkF m 0 #[.val (.int a), .val (.int b), .val (.int cI), .val (.int d), .val (.int w), .val (.int k), .unset, .unset, .unset, .unset, .unset, .unset, .unset, .unset, .unset, .unset, .unset, .unset, .unset, .unset] [])) _
    refine st0 _ ?_
    show Steps p.tables e below (s₁.setTop (mkF m 62 #[.val (.int a), .val (.int b), .val (.int cI), .val (.int d), .val (.int w), .val (.int k), .val (.int s6), .val (.int r7), .val (.int r8), .val (.int r9), .val (.int r10), .unset, .unset, .unset, .unset, .unset, .unset, .unset, .unset, .unset] [])) _
    refine XS.iload X0.here hx rfl (hb hby at_62) rfl ?_
    show Steps p.tables e below (s₁.setTop (mkF m 64 #[.val (.int a), .val (.int b), .val (.int cI), .val (.int d), .val (.int w), .val (.int k), .val (.int s6), .val (.int r7), .val (.int r8), .val (.int r9), .val (.int r10), .unset, .unset, .unset, .unset, .unset, .unset, .unset, .unset, .unset] [(.int r7)])) _
    refine XS.iload X0.here hx rfl (hb hby at_64) rfl ?_
    show Steps p.tables e below (s₁.setTop (mkF m 66 #[.val (.int a), .val (.int b), .val (.int cI), .val (.int d), .val (.int w), .val (.int k), .val (.int s6), .val (.int r7), .val (.int r8), .val (.int r9), .val (.int r10), .unset, .unset, .unset, .unset, .unset, .unset, .unset, .unset, .unset] [(.int k), (.int r7)])) _
    refine XS.iconst X0.here hx rfl (hb hby at_66) ?_
    show Steps p.tables e below (s₁.setTop (mkF m 67 #[.val (.int a), .val (.int b), .val (.int cI), .val (.int d), .val (.int w), .val (.int k), .val (.int s6), .val (.int r7), .val (.int r8), .val (.int r9), .val (.int r10), .unset, .unset, .unset, .unset, .unset, .unset, .unset, .unset, .unset] [(.int (1 : Int32)), (.int k), (.int r7)])) _
    refine XS.iushr X0.here hx rfl (hb hby at_67) rfl ?_
    show Steps p.tables e below (s₁.setTop (mkF m 68 #[.val (.int a), .val (.int b), .val (.int cI), .val (.int d), .val (.int w), .val (.int k), .val (.int s6), .val (.int r7), .val (.int r8), .val (.int r9), .val (.int r10), .unset, .unset, .unset, .unset, .unset, .unset, .unset, .unset, .unset] [(.int ((k.toUInt32 >>> ((1 : Int32) &&& 31).toUInt32).toInt32)), (.int r7)])) _
    refine XS.bipush X0.here hx rfl (hb hby at_68) ?_
    show Steps p.tables e below (s₁.setTop (mkF m 70 #[.val (.int a), .val (.int b), .val (.int cI), .val (.int d), .val (.int w), .val (.int k), .val (.int s6), .val (.int r7), .val (.int r8), .val (.int r9), .val (.int r10), .unset, .unset, .unset, .unset, .unset, .unset, .unset, .unset, .unset] [(.int (7 : Int32)), (.int ((k.toUInt32 >>> ((1 : Int32) &&& 31).toUInt32).toInt32)), (.int r7)])) _
    refine XS.iand X0.here hx rfl (hb hby at_70) rfl ?_
    show Steps p.tables e below (s₁.setTop (mkF m 71 #[.val (.int a), .val (.int b), .val (.int cI), .val (.int d), .val (.int w), .val (.int k), .val (.int s6), .val (.int r7), .val (.int r8), .val (.int r9), .val (.int r10), .unset, .unset, .unset, .unset, .unset, .unset, .unset, .unset, .unset] [(.int (((k.toUInt32 >>> ((1 : Int32) &&& 31).toUInt32).toInt32) &&& (7 : Int32))), (.int r7)])) _
    refine XS.iload X0.here hx rfl (hb hby at_71) rfl ?_
    show Steps p.tables e below (s₁.setTop (mkF m 73 #[.val (.int a), .val (.int b), .val (.int cI), .val (.int d), .val (.int w), .val (.int k), .val (.int s6), .val (.int r7), .val (.int r8), .val (.int r9), .val (.int r10), .unset, .unset, .unset, .unset, .unset, .unset, .unset, .unset, .unset] [(.int w), (.int (((k.toUInt32 >>> ((1 : Int32) &&& 31).toUInt32).toInt32) &&& (7 : Int32))), (.int r7)])) _
    refine XS.iloadN X0.here hx rfl (hb hby at_73) rfl ?_
    show Steps p.tables e below (s₁.setTop (mkF m 74 #[.val (.int a), .val (.int b), .val (.int cI), .val (.int d), .val (.int w), .val (.int k), .val (.int s6), .val (.int r7), .val (.int r8), .val (.int r9), .val (.int r10), .unset, .unset, .unset, .unset, .unset, .unset, .unset, .unset, .unset] [(.int b), (.int w), (.int (((k.toUInt32 >>> ((1 : Int32) &&& 31).toUInt32).toInt32) &&& (7 : Int32))), (.int r7)])) _
    refine st1 _ ?_
    show Steps p.tables e below (T1.setTop (mkF m 77 #[.val (.int a), .val (.int b), .val (.int cI), .val (.int d), .val (.int w), .val (.int k), .val (.int s6), .val (.int r7), .val (.int r8), .val (.int r9), .val (.int r10), .unset, .unset, .unset, .unset, .unset, .unset, .unset, .unset, .unset] [(.int q0)])) _
    refine XS.istore X1.here hx rfl (hb hby at_77) rfl (l' := #[.val (.int a), .val (.int b), .val (.int cI), .val (.int d), .val (.int w), .val (.int k), .val (.int s6), .val (.int r7), .val (.int r8), .val (.int r9), .val (.int r10), .val (.int q0), .unset, .unset, .unset, .unset, .unset, .unset, .unset, .unset]) rfl ?_
    show Steps p.tables e below (T1.setTop (mkF m 79 #[.val (.int a), .val (.int b), .val (.int cI), .val (.int d), .val (.int w), .val (.int k), .val (.int s6), .val (.int r7), .val (.int r8), .val (.int r9), .val (.int r10), .val (.int q0), .unset, .unset, .unset, .unset, .unset, .unset, .unset, .unset] [])) _
    refine XS.iload X1.here hx rfl (hb hby at_79) rfl ?_
    show Steps p.tables e below (T1.setTop (mkF m 81 #[.val (.int a), .val (.int b), .val (.int cI), .val (.int d), .val (.int w), .val (.int k), .val (.int s6), .val (.int r7), .val (.int r8), .val (.int r9), .val (.int r10), .val (.int q0), .unset, .unset, .unset, .unset, .unset, .unset, .unset, .unset] [(.int r8)])) _
    refine XS.iload X1.here hx rfl (hb hby at_81) rfl ?_
    show Steps p.tables e below (T1.setTop (mkF m 83 #[.val (.int a), .val (.int b), .val (.int cI), .val (.int d), .val (.int w), .val (.int k), .val (.int s6), .val (.int r7), .val (.int r8), .val (.int r9), .val (.int r10), .val (.int q0), .unset, .unset, .unset, .unset, .unset, .unset, .unset, .unset] [(.int k), (.int r8)])) _
    refine XS.iconst X1.here hx rfl (hb hby at_83) ?_
    show Steps p.tables e below (T1.setTop (mkF m 84 #[.val (.int a), .val (.int b), .val (.int cI), .val (.int d), .val (.int w), .val (.int k), .val (.int s6), .val (.int r7), .val (.int r8), .val (.int r9), .val (.int r10), .val (.int q0), .unset, .unset, .unset, .unset, .unset, .unset, .unset, .unset] [(.int (4 : Int32)), (.int k), (.int r8)])) _
    refine XS.iushr X1.here hx rfl (hb hby at_84) rfl ?_
    show Steps p.tables e below (T1.setTop (mkF m 85 #[.val (.int a), .val (.int b), .val (.int cI), .val (.int d), .val (.int w), .val (.int k), .val (.int s6), .val (.int r7), .val (.int r8), .val (.int r9), .val (.int r10), .val (.int q0), .unset, .unset, .unset, .unset, .unset, .unset, .unset, .unset] [(.int ((k.toUInt32 >>> ((4 : Int32) &&& 31).toUInt32).toInt32)), (.int r8)])) _
    refine XS.bipush X1.here hx rfl (hb hby at_85) ?_
    show Steps p.tables e below (T1.setTop (mkF m 87 #[.val (.int a), .val (.int b), .val (.int cI), .val (.int d), .val (.int w), .val (.int k), .val (.int s6), .val (.int r7), .val (.int r8), .val (.int r9), .val (.int r10), .val (.int q0), .unset, .unset, .unset, .unset, .unset, .unset, .unset, .unset] [(.int (7 : Int32)), (.int ((k.toUInt32 >>> ((4 : Int32) &&& 31).toUInt32).toInt32)), (.int r8)])) _
    refine XS.iand X1.here hx rfl (hb hby at_87) rfl ?_
    show Steps p.tables e below (T1.setTop (mkF m 88 #[.val (.int a), .val (.int b), .val (.int cI), .val (.int d), .val (.int w), .val (.int k), .val (.int s6), .val (.int r7), .val (.int r8), .val (.int r9), .val (.int r10), .val (.int q0), .unset, .unset, .unset, .unset, .unset, .unset, .unset, .unset] [(.int (((k.toUInt32 >>> ((4 : Int32) &&& 31).toUInt32).toInt32) &&& (7 : Int32))), (.int r8)])) _
    refine XS.iload X1.here hx rfl (hb hby at_88) rfl ?_
    show Steps p.tables e below (T1.setTop (mkF m 90 #[.val (.int a), .val (.int b), .val (.int cI), .val (.int d), .val (.int w), .val (.int k), .val (.int s6), .val (.int r7), .val (.int r8), .val (.int r9), .val (.int r10), .val (.int q0), .unset, .unset, .unset, .unset, .unset, .unset, .unset, .unset] [(.int w), (.int (((k.toUInt32 >>> ((4 : Int32) &&& 31).toUInt32).toInt32) &&& (7 : Int32))), (.int r8)])) _
    refine XS.iloadN X1.here hx rfl (hb hby at_90) rfl ?_
    show Steps p.tables e below (T1.setTop (mkF m 91 #[.val (.int a), .val (.int b), .val (.int cI), .val (.int d), .val (.int w), .val (.int k), .val (.int s6), .val (.int r7), .val (.int r8), .val (.int r9), .val (.int r10), .val (.int q0), .unset, .unset, .unset, .unset, .unset, .unset, .unset, .unset] [(.int cI), (.int w), (.int (((k.toUInt32 >>> ((4 : Int32) &&& 31).toUInt32).toInt32) &&& (7 : Int32))), (.int r8)])) _
    refine st2 _ ?_
    show Steps p.tables e below (T2.setTop (mkF m 94 #[.val (.int a), .val (.int b), .val (.int cI), .val (.int d), .val (.int w), .val (.int k), .val (.int s6), .val (.int r7), .val (.int r8), .val (.int r9), .val (.int r10), .val (.int q0), .unset, .unset, .unset, .unset, .unset, .unset, .unset, .unset] [(.int q1)])) _
    refine XS.istore X2.here hx rfl (hb hby at_94) rfl (l' := #[.val (.int a), .val (.int b), .val (.int cI), .val (.int d), .val (.int w), .val (.int k), .val (.int s6), .val (.int r7), .val (.int r8), .val (.int r9), .val (.int r10), .val (.int q0), .val (.int q1), .unset, .unset, .unset, .unset, .unset, .unset, .unset]) rfl ?_
    show Steps p.tables e below (T2.setTop (mkF m 96 #[.val (.int a), .val (.int b), .val (.int cI), .val (.int d), .val (.int w), .val (.int k), .val (.int s6), .val (.int r7), .val (.int r8), .val (.int r9), .val (.int r10), .val (.int q0), .val (.int q1), .unset, .unset, .unset, .unset, .unset, .unset, .unset] [])) _
    refine XS.iload X2.here hx rfl (hb hby at_96) rfl ?_
    show Steps p.tables e below (T2.setTop (mkF m 98 #[.val (.int a), .val (.int b), .val (.int cI), .val (.int d), .val (.int w), .val (.int k), .val (.int s6), .val (.int r7), .val (.int r8), .val (.int r9), .val (.int r10), .val (.int q0), .val (.int q1), .unset, .unset, .unset, .unset, .unset, .unset, .unset] [(.int r9)])) _
    refine XS.iload X2.here hx rfl (hb hby at_98) rfl ?_
    show Steps p.tables e below (T2.setTop (mkF m 100 #[.val (.int a), .val (.int b), .val (.int cI), .val (.int d), .val (.int w), .val (.int k), .val (.int s6), .val (.int r7), .val (.int r8), .val (.int r9), .val (.int r10), .val (.int q0), .val (.int q1), .unset, .unset, .unset, .unset, .unset, .unset, .unset] [(.int k), (.int r9)])) _
    refine XS.bipush X2.here hx rfl (hb hby at_100) ?_
    show Steps p.tables e below (T2.setTop (mkF m 102 #[.val (.int a), .val (.int b), .val (.int cI), .val (.int d), .val (.int w), .val (.int k), .val (.int s6), .val (.int r7), .val (.int r8), .val (.int r9), .val (.int r10), .val (.int q0), .val (.int q1), .unset, .unset, .unset, .unset, .unset, .unset, .unset] [(.int (7 : Int32)), (.int k), (.int r9)])) _
    refine XS.iushr X2.here hx rfl (hb hby at_102) rfl ?_
    show Steps p.tables e below (T2.setTop (mkF m 103 #[.val (.int a), .val (.int b), .val (.int cI), .val (.int d), .val (.int w), .val (.int k), .val (.int s6), .val (.int r7), .val (.int r8), .val (.int r9), .val (.int r10), .val (.int q0), .val (.int q1), .unset, .unset, .unset, .unset, .unset, .unset, .unset] [(.int ((k.toUInt32 >>> ((7 : Int32) &&& 31).toUInt32).toInt32)), (.int r9)])) _
    refine XS.bipush X2.here hx rfl (hb hby at_103) ?_
    show Steps p.tables e below (T2.setTop (mkF m 105 #[.val (.int a), .val (.int b), .val (.int cI), .val (.int d), .val (.int w), .val (.int k), .val (.int s6), .val (.int r7), .val (.int r8), .val (.int r9), .val (.int r10), .val (.int q0), .val (.int q1), .unset, .unset, .unset, .unset, .unset, .unset, .unset] [(.int (7 : Int32)), (.int ((k.toUInt32 >>> ((7 : Int32) &&& 31).toUInt32).toInt32)), (.int r9)])) _
    refine XS.iand X2.here hx rfl (hb hby at_105) rfl ?_
    show Steps p.tables e below (T2.setTop (mkF m 106 #[.val (.int a), .val (.int b), .val (.int cI), .val (.int d), .val (.int w), .val (.int k), .val (.int s6), .val (.int r7), .val (.int r8), .val (.int r9), .val (.int r10), .val (.int q0), .val (.int q1), .unset, .unset, .unset, .unset, .unset, .unset, .unset] [(.int (((k.toUInt32 >>> ((7 : Int32) &&& 31).toUInt32).toInt32) &&& (7 : Int32))), (.int r9)])) _
    refine XS.iload X2.here hx rfl (hb hby at_106) rfl ?_
    show Steps p.tables e below (T2.setTop (mkF m 108 #[.val (.int a), .val (.int b), .val (.int cI), .val (.int d), .val (.int w), .val (.int k), .val (.int s6), .val (.int r7), .val (.int r8), .val (.int r9), .val (.int r10), .val (.int q0), .val (.int q1), .unset, .unset, .unset, .unset, .unset, .unset, .unset] [(.int w), (.int (((k.toUInt32 >>> ((7 : Int32) &&& 31).toUInt32).toInt32) &&& (7 : Int32))), (.int r9)])) _
    refine XS.iloadN X2.here hx rfl (hb hby at_108) rfl ?_
    show Steps p.tables e below (T2.setTop (mkF m 109 #[.val (.int a), .val (.int b), .val (.int cI), .val (.int d), .val (.int w), .val (.int k), .val (.int s6), .val (.int r7), .val (.int r8), .val (.int r9), .val (.int r10), .val (.int q0), .val (.int q1), .unset, .unset, .unset, .unset, .unset, .unset, .unset] [(.int d), (.int w), (.int (((k.toUInt32 >>> ((7 : Int32) &&& 31).toUInt32).toInt32) &&& (7 : Int32))), (.int r9)])) _
    refine st3 _ ?_
    show Steps p.tables e below (T3.setTop (mkF m 112 #[.val (.int a), .val (.int b), .val (.int cI), .val (.int d), .val (.int w), .val (.int k), .val (.int s6), .val (.int r7), .val (.int r8), .val (.int r9), .val (.int r10), .val (.int q0), .val (.int q1), .unset, .unset, .unset, .unset, .unset, .unset, .unset] [(.int q2)])) _
    refine XS.istore X3.here hx rfl (hb hby at_112) rfl (l' := #[.val (.int a), .val (.int b), .val (.int cI), .val (.int d), .val (.int w), .val (.int k), .val (.int s6), .val (.int r7), .val (.int r8), .val (.int r9), .val (.int r10), .val (.int q0), .val (.int q1), .val (.int q2), .unset, .unset, .unset, .unset, .unset, .unset]) rfl ?_
    show Steps p.tables e below (T3.setTop (mkF m 114 #[.val (.int a), .val (.int b), .val (.int cI), .val (.int d), .val (.int w), .val (.int k), .val (.int s6), .val (.int r7), .val (.int r8), .val (.int r9), .val (.int r10), .val (.int q0), .val (.int q1), .val (.int q2), .unset, .unset, .unset, .unset, .unset, .unset] [])) _
    refine XS.iload X3.here hx rfl (hb hby at_114) rfl ?_
    show Steps p.tables e below (T3.setTop (mkF m 116 #[.val (.int a), .val (.int b), .val (.int cI), .val (.int d), .val (.int w), .val (.int k), .val (.int s6), .val (.int r7), .val (.int r8), .val (.int r9), .val (.int r10), .val (.int q0), .val (.int q1), .val (.int q2), .unset, .unset, .unset, .unset, .unset, .unset] [(.int r10)])) _
    refine XS.iload X3.here hx rfl (hb hby at_116) rfl ?_
    show Steps p.tables e below (T3.setTop (mkF m 118 #[.val (.int a), .val (.int b), .val (.int cI), .val (.int d), .val (.int w), .val (.int k), .val (.int s6), .val (.int r7), .val (.int r8), .val (.int r9), .val (.int r10), .val (.int q0), .val (.int q1), .val (.int q2), .unset, .unset, .unset, .unset, .unset, .unset] [(.int k), (.int r10)])) _
    refine XS.bipush X3.here hx rfl (hb hby at_118) ?_
    show Steps p.tables e below (T3.setTop (mkF m 120 #[.val (.int a), .val (.int b), .val (.int cI), .val (.int d), .val (.int w), .val (.int k), .val (.int s6), .val (.int r7), .val (.int r8), .val (.int r9), .val (.int r10), .val (.int q0), .val (.int q1), .val (.int q2), .unset, .unset, .unset, .unset, .unset, .unset] [(.int (10 : Int32)), (.int k), (.int r10)])) _
    refine XS.iushr X3.here hx rfl (hb hby at_120) rfl ?_
    show Steps p.tables e below (T3.setTop (mkF m 121 #[.val (.int a), .val (.int b), .val (.int cI), .val (.int d), .val (.int w), .val (.int k), .val (.int s6), .val (.int r7), .val (.int r8), .val (.int r9), .val (.int r10), .val (.int q0), .val (.int q1), .val (.int q2), .unset, .unset, .unset, .unset, .unset, .unset] [(.int ((k.toUInt32 >>> ((10 : Int32) &&& 31).toUInt32).toInt32)), (.int r10)])) _
    refine XS.bipush X3.here hx rfl (hb hby at_121) ?_
    show Steps p.tables e below (T3.setTop (mkF m 123 #[.val (.int a), .val (.int b), .val (.int cI), .val (.int d), .val (.int w), .val (.int k), .val (.int s6), .val (.int r7), .val (.int r8), .val (.int r9), .val (.int r10), .val (.int q0), .val (.int q1), .val (.int q2), .unset, .unset, .unset, .unset, .unset, .unset] [(.int (7 : Int32)), (.int ((k.toUInt32 >>> ((10 : Int32) &&& 31).toUInt32).toInt32)), (.int r10)])) _
    refine XS.iand X3.here hx rfl (hb hby at_123) rfl ?_
    show Steps p.tables e below (T3.setTop (mkF m 124 #[.val (.int a), .val (.int b), .val (.int cI), .val (.int d), .val (.int w), .val (.int k), .val (.int s6), .val (.int r7), .val (.int r8), .val (.int r9), .val (.int r10), .val (.int q0), .val (.int q1), .val (.int q2), .unset, .unset, .unset, .unset, .unset, .unset] [(.int (((k.toUInt32 >>> ((10 : Int32) &&& 31).toUInt32).toInt32) &&& (7 : Int32))), (.int r10)])) _
    refine XS.iload X3.here hx rfl (hb hby at_124) rfl ?_
    show Steps p.tables e below (T3.setTop (mkF m 126 #[.val (.int a), .val (.int b), .val (.int cI), .val (.int d), .val (.int w), .val (.int k), .val (.int s6), .val (.int r7), .val (.int r8), .val (.int r9), .val (.int r10), .val (.int q0), .val (.int q1), .val (.int q2), .unset, .unset, .unset, .unset, .unset, .unset] [(.int w), (.int (((k.toUInt32 >>> ((10 : Int32) &&& 31).toUInt32).toInt32) &&& (7 : Int32))), (.int r10)])) _
    refine XS.iloadN X3.here hx rfl (hb hby at_126) rfl ?_
    show Steps p.tables e below (T3.setTop (mkF m 127 #[.val (.int a), .val (.int b), .val (.int cI), .val (.int d), .val (.int w), .val (.int k), .val (.int s6), .val (.int r7), .val (.int r8), .val (.int r9), .val (.int r10), .val (.int q0), .val (.int q1), .val (.int q2), .unset, .unset, .unset, .unset, .unset, .unset] [(.int a), (.int w), (.int (((k.toUInt32 >>> ((10 : Int32) &&& 31).toUInt32).toInt32) &&& (7 : Int32))), (.int r10)])) _
    refine st4 _ ?_
    show Steps p.tables e below (T4.setTop (mkF m 130 #[.val (.int a), .val (.int b), .val (.int cI), .val (.int d), .val (.int w), .val (.int k), .val (.int s6), .val (.int r7), .val (.int r8), .val (.int r9), .val (.int r10), .val (.int q0), .val (.int q1), .val (.int q2), .unset, .unset, .unset, .unset, .unset, .unset] [(.int q3)])) _
    refine XS.istore X4.here hx rfl (hb hby at_130) rfl (l' := #[.val (.int a), .val (.int b), .val (.int cI), .val (.int d), .val (.int w), .val (.int k), .val (.int s6), .val (.int r7), .val (.int r8), .val (.int r9), .val (.int r10), .val (.int q0), .val (.int q1), .val (.int q2), .val (.int q3), .unset, .unset, .unset, .unset, .unset]) rfl ?_
    show Steps p.tables e below (T4.setTop (mkF m 132 #[.val (.int a), .val (.int b), .val (.int cI), .val (.int d), .val (.int w), .val (.int k), .val (.int s6), .val (.int r7), .val (.int r8), .val (.int r9), .val (.int r10), .val (.int q0), .val (.int q1), .val (.int q2), .val (.int q3), .unset, .unset, .unset, .unset, .unset] [])) _
    refine XS.iload X4.here hx rfl (hb hby at_132) rfl ?_
    show Steps p.tables e below (T4.setTop (mkF m 134 #[.val (.int a), .val (.int b), .val (.int cI), .val (.int d), .val (.int w), .val (.int k), .val (.int s6), .val (.int r7), .val (.int r8), .val (.int r9), .val (.int r10), .val (.int q0), .val (.int q1), .val (.int q2), .val (.int q3), .unset, .unset, .unset, .unset, .unset] [(.int k)])) _
    refine XS.bipush X4.here hx rfl (hb hby at_134) ?_
    show Steps p.tables e below (T4.setTop (mkF m 136 #[.val (.int a), .val (.int b), .val (.int cI), .val (.int d), .val (.int w), .val (.int k), .val (.int s6), .val (.int r7), .val (.int r8), .val (.int r9), .val (.int r10), .val (.int q0), .val (.int q1), .val (.int q2), .val (.int q3), .unset, .unset, .unset, .unset, .unset] [(.int (21 : Int32)), (.int k)])) _
    refine XS.ishr X4.here hx rfl (hb hby at_136) rfl ?_
    show Steps p.tables e below (T4.setTop (mkF m 137 #[.val (.int a), .val (.int b), .val (.int cI), .val (.int d), .val (.int w), .val (.int k), .val (.int s6), .val (.int r7), .val (.int r8), .val (.int r9), .val (.int r10), .val (.int q0), .val (.int q1), .val (.int q2), .val (.int q3), .unset, .unset, .unset, .unset, .unset] [(.int (k >>> ((21 : Int32) &&& 31)))])) _
    refine XS.i2l X4.here hx rfl (hb hby at_137) rfl ?_
    show Steps p.tables e below (T4.setTop (mkF m 138 #[.val (.int a), .val (.int b), .val (.int cI), .val (.int d), .val (.int w), .val (.int k), .val (.int s6), .val (.int r7), .val (.int r8), .val (.int r9), .val (.int r10), .val (.int q0), .val (.int q1), .val (.int q2), .val (.int q3), .unset, .unset, .unset, .unset, .unset] [(.long ((k >>> ((21 : Int32) &&& 31)).toInt64))])) _
    refine XS.lstore X4.here hx rfl (hb hby at_138) rfl (l' := #[.val (.int a), .val (.int b), .val (.int cI), .val (.int d), .val (.int w), .val (.int k), .val (.int s6), .val (.int r7), .val (.int r8), .val (.int r9), .val (.int r10), .val (.int q0), .val (.int q1), .val (.int q2), .val (.int q3), .val (.long ((k >>> ((21 : Int32) &&& 31)).toInt64)), .second, .unset, .unset, .unset]) rfl ?_
    show Steps p.tables e below (T4.setTop (mkF m 140 #[.val (.int a), .val (.int b), .val (.int cI), .val (.int d), .val (.int w), .val (.int k), .val (.int s6), .val (.int r7), .val (.int r8), .val (.int r9), .val (.int r10), .val (.int q0), .val (.int q1), .val (.int q2), .val (.int q3), .val (.long ((k >>> ((21 : Int32) &&& 31)).toInt64)), .second, .unset, .unset, .unset] [])) _
    refine st5 _ ?_
    show Steps p.tables e below (T5.setTop (mkF m 143 #[.val (.int a), .val (.int b), .val (.int cI), .val (.int d), .val (.int w), .val (.int k), .val (.int s6), .val (.int r7), .val (.int r8), .val (.int r9), .val (.int r10), .val (.int q0), .val (.int q1), .val (.int q2), .val (.int q3), .val (.long ((k >>> ((21 : Int32) &&& 31)).toInt64)), .second, .unset, .unset, .unset] [(.ref b5)])) _
    refine XS.dup X5.here hx rfl (hb hby at_143) rfl rfl ?_
    show Steps p.tables e below (T5.setTop (mkF m 144 #[.val (.int a), .val (.int b), .val (.int cI), .val (.int d), .val (.int w), .val (.int k), .val (.int s6), .val (.int r7), .val (.int r8), .val (.int r9), .val (.int r10), .val (.int q0), .val (.int q1), .val (.int q2), .val (.int q3), .val (.long ((k >>> ((21 : Int32) &&& 31)).toInt64)), .second, .unset, .unset, .unset] [(.ref b5), (.ref b5)])) _
    refine XS.lload X5.here hx rfl (hb hby at_144) rfl ?_
    show Steps p.tables e below (T5.setTop (mkF m 146 #[.val (.int a), .val (.int b), .val (.int cI), .val (.int d), .val (.int w), .val (.int k), .val (.int s6), .val (.int r7), .val (.int r8), .val (.int r9), .val (.int r10), .val (.int q0), .val (.int q1), .val (.int q2), .val (.int q3), .val (.long ((k >>> ((21 : Int32) &&& 31)).toInt64)), .second, .unset, .unset, .unset] [(.long ((k >>> ((21 : Int32) &&& 31)).toInt64)), (.ref b5), (.ref b5)])) _
    refine XS.iloadN X5.here hx rfl (hb hby at_146) rfl ?_
    show Steps p.tables e below (T5.setTop (mkF m 147 #[.val (.int a), .val (.int b), .val (.int cI), .val (.int d), .val (.int w), .val (.int k), .val (.int s6), .val (.int r7), .val (.int r8), .val (.int r9), .val (.int r10), .val (.int q0), .val (.int q1), .val (.int q2), .val (.int q3), .val (.long ((k >>> ((21 : Int32) &&& 31)).toInt64)), .second, .unset, .unset, .unset] [(.int a), (.long ((k >>> ((21 : Int32) &&& 31)).toInt64)), (.ref b5), (.ref b5)])) _
    refine XS.iload X5.here hx rfl (hb hby at_147) rfl ?_
    show Steps p.tables e below (T5.setTop (mkF m 149 #[.val (.int a), .val (.int b), .val (.int cI), .val (.int d), .val (.int w), .val (.int k), .val (.int s6), .val (.int r7), .val (.int r8), .val (.int r9), .val (.int r10), .val (.int q0), .val (.int q1), .val (.int q2), .val (.int q3), .val (.long ((k >>> ((21 : Int32) &&& 31)).toInt64)), .second, .unset, .unset, .unset] [(.int k), (.int a), (.long ((k >>> ((21 : Int32) &&& 31)).toInt64)), (.ref b5), (.ref b5)])) _
    refine XS.bipush X5.here hx rfl (hb hby at_149) ?_
    show Steps p.tables e below (T5.setTop (mkF m 151 #[.val (.int a), .val (.int b), .val (.int cI), .val (.int d), .val (.int w), .val (.int k), .val (.int s6), .val (.int r7), .val (.int r8), .val (.int r9), .val (.int r10), .val (.int q0), .val (.int q1), .val (.int q2), .val (.int q3), .val (.long ((k >>> ((21 : Int32) &&& 31)).toInt64)), .second, .unset, .unset, .unset] [(.int (13 : Int32)), (.int k), (.int a), (.long ((k >>> ((21 : Int32) &&& 31)).toInt64)), (.ref b5), (.ref b5)])) _
    refine st6 _ ?_
    show Steps p.tables e below (T6.setTop (mkF m 154 #[.val (.int a), .val (.int b), .val (.int cI), .val (.int d), .val (.int w), .val (.int k), .val (.int s6), .val (.int r7), .val (.int r8), .val (.int r9), .val (.int r10), .val (.int q0), .val (.int q1), .val (.int q2), .val (.int q3), .val (.long ((k >>> ((21 : Int32) &&& 31)).toInt64)), .second, .unset, .unset, .unset] [(.double d1), (.long ((k >>> ((21 : Int32) &&& 31)).toInt64)), (.ref b5), (.ref b5)])) _
    refine XS.iloadN X6.here hx rfl (hb hby at_154) rfl ?_
    show Steps p.tables e below (T6.setTop (mkF m 155 #[.val (.int a), .val (.int b), .val (.int cI), .val (.int d), .val (.int w), .val (.int k), .val (.int s6), .val (.int r7), .val (.int r8), .val (.int r9), .val (.int r10), .val (.int q0), .val (.int q1), .val (.int q2), .val (.int q3), .val (.long ((k >>> ((21 : Int32) &&& 31)).toInt64)), .second, .unset, .unset, .unset] [(.int b), (.double d1), (.long ((k >>> ((21 : Int32) &&& 31)).toInt64)), (.ref b5), (.ref b5)])) _
    refine XS.iload X6.here hx rfl (hb hby at_155) rfl ?_
    show Steps p.tables e below (T6.setTop (mkF m 157 #[.val (.int a), .val (.int b), .val (.int cI), .val (.int d), .val (.int w), .val (.int k), .val (.int s6), .val (.int r7), .val (.int r8), .val (.int r9), .val (.int r10), .val (.int q0), .val (.int q1), .val (.int q2), .val (.int q3), .val (.long ((k >>> ((21 : Int32) &&& 31)).toInt64)), .second, .unset, .unset, .unset] [(.int k), (.int b), (.double d1), (.long ((k >>> ((21 : Int32) &&& 31)).toInt64)), (.ref b5), (.ref b5)])) _
    refine XS.bipush X6.here hx rfl (hb hby at_157) ?_
    show Steps p.tables e below (T6.setTop (mkF m 159 #[.val (.int a), .val (.int b), .val (.int cI), .val (.int d), .val (.int w), .val (.int k), .val (.int s6), .val (.int r7), .val (.int r8), .val (.int r9), .val (.int r10), .val (.int q0), .val (.int q1), .val (.int q2), .val (.int q3), .val (.long ((k >>> ((21 : Int32) &&& 31)).toInt64)), .second, .unset, .unset, .unset] [(.int (14 : Int32)), (.int k), (.int b), (.double d1), (.long ((k >>> ((21 : Int32) &&& 31)).toInt64)), (.ref b5), (.ref b5)])) _
    refine st7 _ ?_
    show Steps p.tables e below (T7.setTop (mkF m 162 #[.val (.int a), .val (.int b), .val (.int cI), .val (.int d), .val (.int w), .val (.int k), .val (.int s6), .val (.int r7), .val (.int r8), .val (.int r9), .val (.int r10), .val (.int q0), .val (.int q1), .val (.int q2), .val (.int q3), .val (.long ((k >>> ((21 : Int32) &&& 31)).toInt64)), .second, .unset, .unset, .unset] [(.double d2), (.double d1), (.long ((k >>> ((21 : Int32) &&& 31)).toInt64)), (.ref b5), (.ref b5)])) _
    refine XS.iloadN X7.here hx rfl (hb hby at_162) rfl ?_
    show Steps p.tables e below (T7.setTop (mkF m 163 #[.val (.int a), .val (.int b), .val (.int cI), .val (.int d), .val (.int w), .val (.int k), .val (.int s6), .val (.int r7), .val (.int r8), .val (.int r9), .val (.int r10), .val (.int q0), .val (.int q1), .val (.int q2), .val (.int q3), .val (.long ((k >>> ((21 : Int32) &&& 31)).toInt64)), .second, .unset, .unset, .unset] [(.int cI), (.double d2), (.double d1), (.long ((k >>> ((21 : Int32) &&& 31)).toInt64)), (.ref b5), (.ref b5)])) _
    refine XS.iload X7.here hx rfl (hb hby at_163) rfl ?_
    show Steps p.tables e below (T7.setTop (mkF m 165 #[.val (.int a), .val (.int b), .val (.int cI), .val (.int d), .val (.int w), .val (.int k), .val (.int s6), .val (.int r7), .val (.int r8), .val (.int r9), .val (.int r10), .val (.int q0), .val (.int q1), .val (.int q2), .val (.int q3), .val (.long ((k >>> ((21 : Int32) &&& 31)).toInt64)), .second, .unset, .unset, .unset] [(.int k), (.int cI), (.double d2), (.double d1), (.long ((k >>> ((21 : Int32) &&& 31)).toInt64)), (.ref b5), (.ref b5)])) _
    refine XS.bipush X7.here hx rfl (hb hby at_165) ?_
    show Steps p.tables e below (T7.setTop (mkF m 167 #[.val (.int a), .val (.int b), .val (.int cI), .val (.int d), .val (.int w), .val (.int k), .val (.int s6), .val (.int r7), .val (.int r8), .val (.int r9), .val (.int r10), .val (.int q0), .val (.int q1), .val (.int q2), .val (.int q3), .val (.long ((k >>> ((21 : Int32) &&& 31)).toInt64)), .second, .unset, .unset, .unset] [(.int (15 : Int32)), (.int k), (.int cI), (.double d2), (.double d1), (.long ((k >>> ((21 : Int32) &&& 31)).toInt64)), (.ref b5), (.ref b5)])) _
    refine st8 _ ?_
    show Steps p.tables e below (T8.setTop (mkF m 170 #[.val (.int a), .val (.int b), .val (.int cI), .val (.int d), .val (.int w), .val (.int k), .val (.int s6), .val (.int r7), .val (.int r8), .val (.int r9), .val (.int r10), .val (.int q0), .val (.int q1), .val (.int q2), .val (.int q3), .val (.long ((k >>> ((21 : Int32) &&& 31)).toInt64)), .second, .unset, .unset, .unset] [(.double d3), (.double d2), (.double d1), (.long ((k >>> ((21 : Int32) &&& 31)).toInt64)), (.ref b5), (.ref b5)])) _
    refine XS.iloadN X8.here hx rfl (hb hby at_170) rfl ?_
    show Steps p.tables e below (T8.setTop (mkF m 171 #[.val (.int a), .val (.int b), .val (.int cI), .val (.int d), .val (.int w), .val (.int k), .val (.int s6), .val (.int r7), .val (.int r8), .val (.int r9), .val (.int r10), .val (.int q0), .val (.int q1), .val (.int q2), .val (.int q3), .val (.long ((k >>> ((21 : Int32) &&& 31)).toInt64)), .second, .unset, .unset, .unset] [(.int d), (.double d3), (.double d2), (.double d1), (.long ((k >>> ((21 : Int32) &&& 31)).toInt64)), (.ref b5), (.ref b5)])) _
    refine XS.iload X8.here hx rfl (hb hby at_171) rfl ?_
    show Steps p.tables e below (T8.setTop (mkF m 173 #[.val (.int a), .val (.int b), .val (.int cI), .val (.int d), .val (.int w), .val (.int k), .val (.int s6), .val (.int r7), .val (.int r8), .val (.int r9), .val (.int r10), .val (.int q0), .val (.int q1), .val (.int q2), .val (.int q3), .val (.long ((k >>> ((21 : Int32) &&& 31)).toInt64)), .second, .unset, .unset, .unset] [(.int k), (.int d), (.double d3), (.double d2), (.double d1), (.long ((k >>> ((21 : Int32) &&& 31)).toInt64)), (.ref b5), (.ref b5)])) _
    refine XS.bipush X8.here hx rfl (hb hby at_173) ?_
    show Steps p.tables e below (T8.setTop (mkF m 175 #[.val (.int a), .val (.int b), .val (.int cI), .val (.int d), .val (.int w), .val (.int k), .val (.int s6), .val (.int r7), .val (.int r8), .val (.int r9), .val (.int r10), .val (.int q0), .val (.int q1), .val (.int q2), .val (.int q3), .val (.long ((k >>> ((21 : Int32) &&& 31)).toInt64)), .second, .unset, .unset, .unset] [(.int (16 : Int32)), (.int k), (.int d), (.double d3), (.double d2), (.double d1), (.long ((k >>> ((21 : Int32) &&& 31)).toInt64)), (.ref b5), (.ref b5)])) _
    refine st9 _ ?_
    show Steps p.tables e below (T9.setTop (mkF m 178 #[.val (.int a), .val (.int b), .val (.int cI), .val (.int d), .val (.int w), .val (.int k), .val (.int s6), .val (.int r7), .val (.int r8), .val (.int r9), .val (.int r10), .val (.int q0), .val (.int q1), .val (.int q2), .val (.int q3), .val (.long ((k >>> ((21 : Int32) &&& 31)).toInt64)), .second, .unset, .unset, .unset] [(.double d4), (.double d3), (.double d2), (.double d1), (.long ((k >>> ((21 : Int32) &&& 31)).toInt64)), (.ref b5), (.ref b5)])) _
    refine st10.trans ?_
    show Steps p.tables e below (T10.setTop (mkF m 181 #[.val (.int a), .val (.int b), .val (.int cI), .val (.int d), .val (.int w), .val (.int k), .val (.int s6), .val (.int r7), .val (.int r8), .val (.int r9), .val (.int r10), .val (.int q0), .val (.int q1), .val (.int q2), .val (.int q3), .val (.long ((k >>> ((21 : Int32) &&& 31)).toInt64)), .second, .unset, .unset, .unset] [(.ref b5)])) _
    refine XS.astore X10.here hx rfl (hb hby at_181) rfl rfl (l' := #[.val (.int a), .val (.int b), .val (.int cI), .val (.int d), .val (.int w), .val (.int k), .val (.int s6), .val (.int r7), .val (.int r8), .val (.int r9), .val (.int r10), .val (.int q0), .val (.int q1), .val (.int q2), .val (.int q3), .val (.long ((k >>> ((21 : Int32) &&& 31)).toInt64)), .second, .val (.ref b5), .unset, .unset]) rfl ?_
    show Steps p.tables e below (T10.setTop (mkF m 183 #[.val (.int a), .val (.int b), .val (.int cI), .val (.int d), .val (.int w), .val (.int k), .val (.int s6), .val (.int r7), .val (.int r8), .val (.int r9), .val (.int r10), .val (.int q0), .val (.int q1), .val (.int q2), .val (.int q3), .val (.long ((k >>> ((21 : Int32) &&& 31)).toInt64)), .second, .val (.ref b5), .unset, .unset] [])) _
    refine XS.aload X10.here hx rfl (hb hby at_183) rfl rfl ?_
    show Steps p.tables e below (T10.setTop (mkF m 185 #[.val (.int a), .val (.int b), .val (.int cI), .val (.int d), .val (.int w), .val (.int k), .val (.int s6), .val (.int r7), .val (.int r8), .val (.int r9), .val (.int r10), .val (.int q0), .val (.int q1), .val (.int q2), .val (.int q3), .val (.long ((k >>> ((21 : Int32) &&& 31)).toInt64)), .second, .val (.ref b5), .unset, .unset] [(.ref b5)])) _
    refine XS.iload X10.here hx rfl (hb hby at_185) rfl ?_
    show Steps p.tables e below (T10.setTop (mkF m 187 #[.val (.int a), .val (.int b), .val (.int cI), .val (.int d), .val (.int w), .val (.int k), .val (.int s6), .val (.int r7), .val (.int r8), .val (.int r9), .val (.int r10), .val (.int q0), .val (.int q1), .val (.int q2), .val (.int q3), .val (.long ((k >>> ((21 : Int32) &&& 31)).toInt64)), .second, .val (.ref b5), .unset, .unset] [(.int q0), (.ref b5)])) _
    refine XS.iload X10.here hx rfl (hb hby at_187) rfl ?_
    show Steps p.tables e below (T10.setTop (mkF m 189 #[.val (.int a), .val (.int b), .val (.int cI), .val (.int d), .val (.int w), .val (.int k), .val (.int s6), .val (.int r7), .val (.int r8), .val (.int r9), .val (.int r10), .val (.int q0), .val (.int q1), .val (.int q2), .val (.int q3), .val (.long ((k >>> ((21 : Int32) &&& 31)).toInt64)), .second, .val (.ref b5), .unset, .unset] [(.int k), (.int q0), (.ref b5)])) _
    refine XS.bipush X10.here hx rfl (hb hby at_189) ?_
    show Steps p.tables e below (T10.setTop (mkF m 191 #[.val (.int a), .val (.int b), .val (.int cI), .val (.int d), .val (.int w), .val (.int k), .val (.int s6), .val (.int r7), .val (.int r8), .val (.int r9), .val (.int r10), .val (.int q0), .val (.int q1), .val (.int q2), .val (.int q3), .val (.long ((k >>> ((21 : Int32) &&& 31)).toInt64)), .second, .val (.ref b5), .unset, .unset] [(.int (17 : Int32)), (.int k), (.int q0), (.ref b5)])) _
    refine st11 _ ?_
    show Steps p.tables e below (T11.setTop (mkF m 194 #[.val (.int a), .val (.int b), .val (.int cI), .val (.int d), .val (.int w), .val (.int k), .val (.int s6), .val (.int r7), .val (.int r8), .val (.int r9), .val (.int r10), .val (.int q0), .val (.int q1), .val (.int q2), .val (.int q3), .val (.long ((k >>> ((21 : Int32) &&& 31)).toInt64)), .second, .val (.ref b5), .unset, .unset] [(.double f1), (.ref b5)])) _
    refine XS.iload X11.here hx rfl (hb hby at_194) rfl ?_
    show Steps p.tables e below (T11.setTop (mkF m 196 #[.val (.int a), .val (.int b), .val (.int cI), .val (.int d), .val (.int w), .val (.int k), .val (.int s6), .val (.int r7), .val (.int r8), .val (.int r9), .val (.int r10), .val (.int q0), .val (.int q1), .val (.int q2), .val (.int q3), .val (.long ((k >>> ((21 : Int32) &&& 31)).toInt64)), .second, .val (.ref b5), .unset, .unset] [(.int q1), (.double f1), (.ref b5)])) _
    refine XS.iload X11.here hx rfl (hb hby at_196) rfl ?_
    show Steps p.tables e below (T11.setTop (mkF m 198 #[.val (.int a), .val (.int b), .val (.int cI), .val (.int d), .val (.int w), .val (.int k), .val (.int s6), .val (.int r7), .val (.int r8), .val (.int r9), .val (.int r10), .val (.int q0), .val (.int q1), .val (.int q2), .val (.int q3), .val (.long ((k >>> ((21 : Int32) &&& 31)).toInt64)), .second, .val (.ref b5), .unset, .unset] [(.int k), (.int q1), (.double f1), (.ref b5)])) _
    refine XS.bipush X11.here hx rfl (hb hby at_198) ?_
    show Steps p.tables e below (T11.setTop (mkF m 200 #[.val (.int a), .val (.int b), .val (.int cI), .val (.int d), .val (.int w), .val (.int k), .val (.int s6), .val (.int r7), .val (.int r8), .val (.int r9), .val (.int r10), .val (.int q0), .val (.int q1), .val (.int q2), .val (.int q3), .val (.long ((k >>> ((21 : Int32) &&& 31)).toInt64)), .second, .val (.ref b5), .unset, .unset] [(.int (18 : Int32)), (.int k), (.int q1), (.double f1), (.ref b5)])) _
    refine st12 _ ?_
    show Steps p.tables e below (T12.setTop (mkF m 203 #[.val (.int a), .val (.int b), .val (.int cI), .val (.int d), .val (.int w), .val (.int k), .val (.int s6), .val (.int r7), .val (.int r8), .val (.int r9), .val (.int r10), .val (.int q0), .val (.int q1), .val (.int q2), .val (.int q3), .val (.long ((k >>> ((21 : Int32) &&& 31)).toInt64)), .second, .val (.ref b5), .unset, .unset] [(.double f2), (.double f1), (.ref b5)])) _
    refine XS.iload X12.here hx rfl (hb hby at_203) rfl ?_
    show Steps p.tables e below (T12.setTop (mkF m 205 #[.val (.int a), .val (.int b), .val (.int cI), .val (.int d), .val (.int w), .val (.int k), .val (.int s6), .val (.int r7), .val (.int r8), .val (.int r9), .val (.int r10), .val (.int q0), .val (.int q1), .val (.int q2), .val (.int q3), .val (.long ((k >>> ((21 : Int32) &&& 31)).toInt64)), .second, .val (.ref b5), .unset, .unset] [(.int q2), (.double f2), (.double f1), (.ref b5)])) _
    refine XS.iload X12.here hx rfl (hb hby at_205) rfl ?_
    show Steps p.tables e below (T12.setTop (mkF m 207 #[.val (.int a), .val (.int b), .val (.int cI), .val (.int d), .val (.int w), .val (.int k), .val (.int s6), .val (.int r7), .val (.int r8), .val (.int r9), .val (.int r10), .val (.int q0), .val (.int q1), .val (.int q2), .val (.int q3), .val (.long ((k >>> ((21 : Int32) &&& 31)).toInt64)), .second, .val (.ref b5), .unset, .unset] [(.int k), (.int q2), (.double f2), (.double f1), (.ref b5)])) _
    refine XS.bipush X12.here hx rfl (hb hby at_207) ?_
    show Steps p.tables e below (T12.setTop (mkF m 209 #[.val (.int a), .val (.int b), .val (.int cI), .val (.int d), .val (.int w), .val (.int k), .val (.int s6), .val (.int r7), .val (.int r8), .val (.int r9), .val (.int r10), .val (.int q0), .val (.int q1), .val (.int q2), .val (.int q3), .val (.long ((k >>> ((21 : Int32) &&& 31)).toInt64)), .second, .val (.ref b5), .unset, .unset] [(.int (19 : Int32)), (.int k), (.int q2), (.double f2), (.double f1), (.ref b5)])) _
    refine st13 _ ?_
    show Steps p.tables e below (T13.setTop (mkF m 212 #[.val (.int a), .val (.int b), .val (.int cI), .val (.int d), .val (.int w), .val (.int k), .val (.int s6), .val (.int r7), .val (.int r8), .val (.int r9), .val (.int r10), .val (.int q0), .val (.int q1), .val (.int q2), .val (.int q3), .val (.long ((k >>> ((21 : Int32) &&& 31)).toInt64)), .second, .val (.ref b5), .unset, .unset] [(.double f3), (.double f2), (.double f1), (.ref b5)])) _
    refine XS.iload X13.here hx rfl (hb hby at_212) rfl ?_
    show Steps p.tables e below (T13.setTop (mkF m 214 #[.val (.int a), .val (.int b), .val (.int cI), .val (.int d), .val (.int w), .val (.int k), .val (.int s6), .val (.int r7), .val (.int r8), .val (.int r9), .val (.int r10), .val (.int q0), .val (.int q1), .val (.int q2), .val (.int q3), .val (.long ((k >>> ((21 : Int32) &&& 31)).toInt64)), .second, .val (.ref b5), .unset, .unset] [(.int q3), (.double f3), (.double f2), (.double f1), (.ref b5)])) _
    refine XS.iload X13.here hx rfl (hb hby at_214) rfl ?_
    show Steps p.tables e below (T13.setTop (mkF m 216 #[.val (.int a), .val (.int b), .val (.int cI), .val (.int d), .val (.int w), .val (.int k), .val (.int s6), .val (.int r7), .val (.int r8), .val (.int r9), .val (.int r10), .val (.int q0), .val (.int q1), .val (.int q2), .val (.int q3), .val (.long ((k >>> ((21 : Int32) &&& 31)).toInt64)), .second, .val (.ref b5), .unset, .unset] [(.int k), (.int q3), (.double f3), (.double f2), (.double f1), (.ref b5)])) _
    refine XS.bipush X13.here hx rfl (hb hby at_216) ?_
    show Steps p.tables e below (T13.setTop (mkF m 218 #[.val (.int a), .val (.int b), .val (.int cI), .val (.int d), .val (.int w), .val (.int k), .val (.int s6), .val (.int r7), .val (.int r8), .val (.int r9), .val (.int r10), .val (.int q0), .val (.int q1), .val (.int q2), .val (.int q3), .val (.long ((k >>> ((21 : Int32) &&& 31)).toInt64)), .second, .val (.ref b5), .unset, .unset] [(.int (20 : Int32)), (.int k), (.int q3), (.double f3), (.double f2), (.double f1), (.ref b5)])) _
    refine st14 _ ?_
    show Steps p.tables e below (T14.setTop (mkF m 221 #[.val (.int a), .val (.int b), .val (.int cI), .val (.int d), .val (.int w), .val (.int k), .val (.int s6), .val (.int r7), .val (.int r8), .val (.int r9), .val (.int r10), .val (.int q0), .val (.int q1), .val (.int q2), .val (.int q3), .val (.long ((k >>> ((21 : Int32) &&& 31)).toInt64)), .second, .val (.ref b5), .unset, .unset] [(.double f4), (.double f3), (.double f2), (.double f1), (.ref b5)])) _
    refine st15.trans ?_
    show Steps p.tables e below (T15.setTop (mkF m 224 #[.val (.int a), .val (.int b), .val (.int cI), .val (.int d), .val (.int w), .val (.int k), .val (.int s6), .val (.int r7), .val (.int r8), .val (.int r9), .val (.int r10), .val (.int q0), .val (.int q1), .val (.int q2), .val (.int q3), .val (.long ((k >>> ((21 : Int32) &&& 31)).toInt64)), .second, .val (.ref b5), .unset, .unset] [(.int (own_or (own_and (own_c d1 f1 = 0) (own_c d2 f2 = 0) (own_c d3 f3 = 0) (own_c d4 f4 = 0)) (own_and (own_c d1 f3 = 0) (own_c d2 f4 = 0) (own_c d3 f1 = 0) (own_c d4 f2 = 0))))])) _
    refine XS.istore X15.here hx rfl (hb hby at_224) rfl (l' := #[.val (.int a), .val (.int b), .val (.int cI), .val (.int d), .val (.int w), .val (.int k), .val (.int s6), .val (.int r7), .val (.int r8), .val (.int r9), .val (.int r10), .val (.int q0), .val (.int q1), .val (.int q2), .val (.int q3), .val (.long ((k >>> ((21 : Int32) &&& 31)).toInt64)), .second, .val (.ref b5), .val (.int (own_or (own_and (own_c d1 f1 = 0) (own_c d2 f2 = 0) (own_c d3 f3 = 0) (own_c d4 f4 = 0)) (own_and (own_c d1 f3 = 0) (own_c d2 f4 = 0) (own_c d3 f1 = 0) (own_c d4 f2 = 0)))), .unset]) rfl ?_
    show Steps p.tables e below (T15.setTop (mkF m 226 #[.val (.int a), .val (.int b), .val (.int cI), .val (.int d), .val (.int w), .val (.int k), .val (.int s6), .val (.int r7), .val (.int r8), .val (.int r9), .val (.int r10), .val (.int q0), .val (.int q1), .val (.int q2), .val (.int q3), .val (.long ((k >>> ((21 : Int32) &&& 31)).toInt64)), .second, .val (.ref b5), .val (.int (own_or (own_and (own_c d1 f1 = 0) (own_c d2 f2 = 0) (own_c d3 f3 = 0) (own_c d4 f4 = 0)) (own_and (own_c d1 f3 = 0) (own_c d2 f4 = 0) (own_c d3 f1 = 0) (own_c d4 f2 = 0)))), .unset] [])) _
    refine s3 X15 hx hZ hw hby hown e15 _ ?_
    show Steps p.tables e below (T15.setTop (mkF m 279 #[.val (.int a), .val (.int b), .val (.int cI), .val (.int d), .val (.int w), .val (.int k), .val (.int s6), .val (.int r7), .val (.int r8), .val (.int r9), .val (.int r10), .val (.int q0), .val (.int q1), .val (.int q2), .val (.int q3), .val (.long ((k >>> ((21 : Int32) &&& 31)).toInt64)), .second, .val (.ref b5), .val (.int (own_or (own_and (own_c d1 f1 = 0) (own_c d2 f2 = 0) (own_c d3 f3 = 0) (own_c d4 f4 = 0)) (own_and (own_c d1 f3 = 0) (own_c d2 f4 = 0) (own_c d3 f1 = 0) (own_c d4 f2 = 0)))), .unset] [(.int (own_or (own_and (a = q0) (b = q1) (cI = q2) (d = q3)) (own_and (a = q2) (b = q3) (cI = q0) (d = q1))))])) _
    refine XS.istore X15.here hx rfl (hb hby at_279) rfl (l' := #[.val (.int a), .val (.int b), .val (.int cI), .val (.int d), .val (.int w), .val (.int k), .val (.int s6), .val (.int r7), .val (.int r8), .val (.int r9), .val (.int r10), .val (.int q0), .val (.int q1), .val (.int q2), .val (.int q3), .val (.long ((k >>> ((21 : Int32) &&& 31)).toInt64)), .second, .val (.ref b5), .val (.int (own_or (own_and (own_c d1 f1 = 0) (own_c d2 f2 = 0) (own_c d3 f3 = 0) (own_c d4 f4 = 0)) (own_and (own_c d1 f3 = 0) (own_c d2 f4 = 0) (own_c d3 f1 = 0) (own_c d4 f2 = 0)))), .val (.int (own_or (own_and (a = q0) (b = q1) (cI = q2) (d = q3)) (own_and (a = q2) (b = q3) (cI = q0) (d = q1))))]) rfl ?_
    show Steps p.tables e below (T15.setTop (mkF m 281 #[.val (.int a), .val (.int b), .val (.int cI), .val (.int d), .val (.int w), .val (.int k), .val (.int s6), .val (.int r7), .val (.int r8), .val (.int r9), .val (.int r10), .val (.int q0), .val (.int q1), .val (.int q2), .val (.int q3), .val (.long ((k >>> ((21 : Int32) &&& 31)).toInt64)), .second, .val (.ref b5), .val (.int (own_or (own_and (own_c d1 f1 = 0) (own_c d2 f2 = 0) (own_c d3 f3 = 0) (own_c d4 f4 = 0)) (own_and (own_c d1 f3 = 0) (own_c d2 f4 = 0) (own_c d3 f1 = 0) (own_c d4 f2 = 0)))), .val (.int (own_or (own_and (a = q0) (b = q1) (cI = q2) (d = q3)) (own_and (a = q2) (b = q3) (cI = q0) (d = q1))))] [])) _
    refine XS.iload X15.here hx rfl (hb hby at_281) rfl ?_
    show Steps p.tables e below (T15.setTop (mkF m 283 #[.val (.int a), .val (.int b), .val (.int cI), .val (.int d), .val (.int w), .val (.int k), .val (.int s6), .val (.int r7), .val (.int r8), .val (.int r9), .val (.int r10), .val (.int q0), .val (.int q1), .val (.int q2), .val (.int q3), .val (.long ((k >>> ((21 : Int32) &&& 31)).toInt64)), .second, .val (.ref b5), .val (.int (own_or (own_and (own_c d1 f1 = 0) (own_c d2 f2 = 0) (own_c d3 f3 = 0) (own_c d4 f4 = 0)) (own_and (own_c d1 f3 = 0) (own_c d2 f4 = 0) (own_c d3 f1 = 0) (own_c d4 f2 = 0)))), .val (.int (own_or (own_and (a = q0) (b = q1) (cI = q2) (d = q3)) (own_and (a = q2) (b = q3) (cI = q0) (d = q1))))] [(.int (own_or (own_and (own_c d1 f1 = 0) (own_c d2 f2 = 0) (own_c d3 f3 = 0) (own_c d4 f4 = 0)) (own_and (own_c d1 f3 = 0) (own_c d2 f4 = 0) (own_c d3 f1 = 0) (own_c d4 f2 = 0))))])) _
    refine XS.iload X15.here hx rfl (hb hby at_283) rfl ?_
    show Steps p.tables e below (T15.setTop (mkF m 285 #[.val (.int a), .val (.int b), .val (.int cI), .val (.int d), .val (.int w), .val (.int k), .val (.int s6), .val (.int r7), .val (.int r8), .val (.int r9), .val (.int r10), .val (.int q0), .val (.int q1), .val (.int q2), .val (.int q3), .val (.long ((k >>> ((21 : Int32) &&& 31)).toInt64)), .second, .val (.ref b5), .val (.int (own_or (own_and (own_c d1 f1 = 0) (own_c d2 f2 = 0) (own_c d3 f3 = 0) (own_c d4 f4 = 0)) (own_and (own_c d1 f3 = 0) (own_c d2 f4 = 0) (own_c d3 f1 = 0) (own_c d4 f2 = 0)))), .val (.int (own_or (own_and (a = q0) (b = q1) (cI = q2) (d = q3)) (own_and (a = q2) (b = q3) (cI = q0) (d = q1))))] [(.int (own_or (own_and (a = q0) (b = q1) (cI = q2) (d = q3)) (own_and (a = q2) (b = q3) (cI = q0) (d = q1)))), (.int (own_or (own_and (own_c d1 f1 = 0) (own_c d2 f2 = 0) (own_c d3 f3 = 0) (own_c d4 f4 = 0)) (own_and (own_c d1 f3 = 0) (own_c d2 f4 = 0) (own_c d3 f1 = 0) (own_c d4 f2 = 0))))])) _
    refine XS.icmpNo X15.here hx rfl (hb hby at_285) rfl (teq (own_same I_d1 I_d2 I_d3 I_d4 I_f1 I_f2 I_f3 I_f4 : (own_or (own_and (own_c d1 f1 = 0) (own_c d2 f2 = 0) (own_c d3 f3 = 0) (own_c d4 f4 = 0)) (own_and (own_c d1 f3 = 0) (own_c d2 f4 = 0) (own_c d3 f1 = 0) (own_c d4 f2 = 0))) = (own_or (own_and (a = q0) (b = q1) (cI = q2) (d = q3)) (own_and (a = q2) (b = q3) (cI = q0) (d = q1))))).2 ?_
    show Steps p.tables e below (T15.setTop (mkF m 288 #[.val (.int a), .val (.int b), .val (.int cI), .val (.int d), .val (.int w), .val (.int k), .val (.int s6), .val (.int r7), .val (.int r8), .val (.int r9), .val (.int r10), .val (.int q0), .val (.int q1), .val (.int q2), .val (.int q3), .val (.long ((k >>> ((21 : Int32) &&& 31)).toInt64)), .second, .val (.ref b5), .val (.int (own_or (own_and (own_c d1 f1 = 0) (own_c d2 f2 = 0) (own_c d3 f3 = 0) (own_c d4 f4 = 0)) (own_and (own_c d1 f3 = 0) (own_c d2 f4 = 0) (own_c d3 f1 = 0) (own_c d4 f2 = 0)))), .val (.int (own_or (own_and (a = q0) (b = q1) (cI = q2) (d = q3)) (own_and (a = q2) (b = q3) (cI = q0) (d = q1))))] [])) _
    refine XS.iconst X15.here hx rfl (hb hby at_288) ?_
    show Steps p.tables e below (T15.setTop (mkF m 289 #[.val (.int a), .val (.int b), .val (.int cI), .val (.int d), .val (.int w), .val (.int k), .val (.int s6), .val (.int r7), .val (.int r8), .val (.int r9), .val (.int r10), .val (.int q0), .val (.int q1), .val (.int q2), .val (.int q3), .val (.long ((k >>> ((21 : Int32) &&& 31)).toInt64)), .second, .val (.ref b5), .val (.int (own_or (own_and (own_c d1 f1 = 0) (own_c d2 f2 = 0) (own_c d3 f3 = 0) (own_c d4 f4 = 0)) (own_and (own_c d1 f3 = 0) (own_c d2 f4 = 0) (own_c d3 f1 = 0) (own_c d4 f2 = 0)))), .val (.int (own_or (own_and (a = q0) (b = q1) (cI = q2) (d = q3)) (own_and (a = q2) (b = q3) (cI = q0) (d = q1))))] [(.int (1 : Int32))])) _
    refine XS.goto X15.here hx rfl (pc0 := 289) (pc' := 293) rfl (hb hby at_289) (by decide) (by decide) ?_
    show Steps p.tables e below (T15.setTop (mkF m 293 #[.val (.int a), .val (.int b), .val (.int cI), .val (.int d), .val (.int w), .val (.int k), .val (.int s6), .val (.int r7), .val (.int r8), .val (.int r9), .val (.int r10), .val (.int q0), .val (.int q1), .val (.int q2), .val (.int q3), .val (.long ((k >>> ((21 : Int32) &&& 31)).toInt64)), .second, .val (.ref b5), .val (.int (own_or (own_and (own_c d1 f1 = 0) (own_c d2 f2 = 0) (own_c d3 f3 = 0) (own_c d4 f4 = 0)) (own_and (own_c d1 f3 = 0) (own_c d2 f4 = 0) (own_c d3 f1 = 0) (own_c d4 f2 = 0)))), .val (.int (own_or (own_and (a = q0) (b = q1) (cI = q2) (d = q3)) (own_and (a = q2) (b = q3) (cI = q0) (d = q1))))] [(.int (1 : Int32))])) _
    exact retN X15 hx (t := .boolean) Bd.returns (by simp) (hb hby at_293) hr
  · show Qd5 Z a b cI d w k h0 n0 _ T15.heap _
    rw [e15]
    exact ⟨rfl, N15⟩
set_option maxRecDepth 65536 in
set_option maxHeartbeats 40000000 in
theorem comes_1 {Post : Tables → Env → Array Value → State → Outcome → State → Prop} (hpost : ∀ tb e args s v u, (limb_1_1.after args s (.returned v) u = true ∧ limb_1_2.after args s (.returned v) u = true ∧ True) → FrameEnd s (.returned v) u (Jvm.fieldLocs frame_1_writes args s ++ Jvm.arrayLocs frame_1_arrays args s ++ Jvm.staticLocs frame_1_statics s) 16 128 → Post tb e args s (.returned v) u) :
    ArmFor flags0 classFile x code maxLocals ret World_1 tables_1 room_1 Calls_1 rest_1 Pre_1 Post := by
  intro l hfl _ _ p e ha hc hk s m args below hf hA hF happ hP
  obtain ⟨hcalls, hrest, hpre⟩ := hP
  obtain ⟨-, -, -, hnamed, -, -, -, hat⟩ := (Spec.applies_iff hf).mp happ
  obtain ⟨hg, hn⟩ := and_e (Cond.before_iff.mp (show (Jvm.Cond.and given_1 narrow_1).before args s = true from hpre))
  obtain ⟨gc, hg⟩ := and_e hg
  obtain ⟨g0, hg⟩ := and_e hg
  obtain ⟨g1, hg⟩ := and_e hg
  obtain ⟨g2, hg⟩ := and_e hg
  obtain ⟨g3, hg⟩ := and_e hg
  obtain ⟨g4, hg⟩ := and_e hg
  have g5 := hg
  obtain ⟨w0, w1, w2, w3, w4, w5, rfl⟩ : ∃ w0 w1 w2 w3 w4 w5 : Value, args = #[w0, w1, w2, w3, w4, w5] := by
    have hs : args.size = 6 := by simpa [Cond.value, given_1] using gc
    obtain ⟨L⟩ := args
    match L, hs with
    | [w0, w1, w2, w3, w4, w5], _ => exact ⟨w0, w1, w2, w3, w4, w5, rfl⟩
  have hw := fun d (hd : d ∈ tables_1) => atoms_spec (ws := Jvm.Cond.code x code maxLocals ret :: tables_1) hat d (List.mem_cons_of_mem _ hd)
  obtain ⟨i0, ei0⟩ := is_v g0
  obtain rfl : w0 = (.int i0) := Option.some.inj ei0
  obtain ⟨i1, ei1⟩ := is_v g1
  obtain rfl : w1 = (.int i1) := Option.some.inj ei1
  obtain ⟨i2, ei2⟩ := is_v g2
  obtain rfl : w2 = (.int i2) := Option.some.inj ei2
  obtain ⟨i3, ei3⟩ := is_v g3
  obtain rfl : w3 = (.int i3) := Option.some.inj ei3
  obtain ⟨i4, ei4⟩ := is_v g4
  obtain rfl : w4 = (.int i4) := Option.some.inj ei4
  obtain ⟨i5, ei5⟩ := is_v g5
  obtain rfl : w5 = (.int i5) := Option.some.inj ei5
  obtain ⟨n, o, h1, h2, h3, _, L, rfl, ⟨rfl, N⟩, hq⟩ := rm0 l s _ hw tables_1 i0 i1 i2 i3 i4 i5 s.heap s.heap.size (Old.start s) p e ha hc hk s m _ below hf ((Spec.applies_iff_loose hf).mp happ).1 ⟨rfl, State.Warmed39.refl s, rfl⟩ trivial
  refine ⟨n, _, h1, h2, h3, hpost _ _ _ _ _ _ ⟨Cond.after_iff.mpr rfl, Cond.after_iff.mpr (eq_i res_at (Term.int_eval (1)) rfl), trivial⟩ ⟨hq.1, hq.2.1, (hq.2.2.sift fun y hy => Or.inr (N y hy)).mono (by decide) (by decide)⟩⟩
theorem main_1_1 : Claimed_1_1 := comes_1 fun _ _ _ _ _ _ h hF => ⟨h.1, hF⟩
theorem main_1_2 : Claimed_1_2 := comes_1 fun _ _ _ _ _ _ h hF => ⟨h.2.1, hF⟩
end Jvm.Pilot.@@N@@
namespace Jvm.Pilot.@@N@@
open Jvm Jvm.ClassFile Sem Op Lib Jvm.Free Jvm.Stand Jvm.Pilot.@@N@@.Jvm.D
/-! MADE BY PROGRAM (witnessworld.py) out of the Statement's table words and the real class files: 10 classes; the members and pool entries that the words name. The judged class is class 1, her method 3. -/
namespace start1
open Jvm.ClassFile
def u (s : String) : CpInfo := .utf8 (stringToUtf16 s)
/-- a pool by its gaps: so many unusable entries, then the entry; so many at the end -/
def gap : Nat → List CpInfo → List CpInfo
  | 0, r => r
  | n + 1, r => .unusable :: gap n r
def poolList (es : List (Nat × CpInfo)) (last : Nat) : List CpInfo := es.foldr (fun e r => gap e.1 (e.2 :: r)) (gap last [])
def pool (es : List (Nat × CpInfo)) (last : Nat) : Array CpInfo := ⟨poolList es last⟩
def fileOf (pool : Array CpInfo) (this : Nat) (attrs : Array Attribute := #[]) (ms : Array MethodInfo := #[]) (fl : Nat := 33) (sup : Nat := 0) (ifs : Array Nat := #[]) (fds : Array FieldInfo := #[]) : ClassFile where
  minorVersion := 0
  majorVersion := 65
  constantPool := pool
  accessFlags := fl
  thisClass := this
  superClass := sup
  interfaces := ifs
  fields := fds
  methods := ms
  attributes := attrs
def plain (name : String) (sup : Option ClassId) : Class where
  name := name
  kind := .ordinary
  loader := none
  accessFlags := 33
  super := sup
  interfaces := #[]
  cf := none
  fields := #[]
  methods := #[]
  instanceTypes := #[]
  staticTypes := #[]
  resolved := #[]
  callSites := []
  init := .initialized
  statics := none
  mirror := none

def pool0 : Array CpInfo := pool [(5, u "<init>"), (0, u "()V"), (1, .class_ 10), (1, u "java/lang/Object")] 113

def k0c0 : Code := { maxStack := 0, maxLocals := 1, code := object_method_1_code, exceptionTable := #[], attributes := #[] }
def k0m0 : Method := { name := "<init>", desc := "()V", sig := { parameters := [], returnType := none }, accessFlags := 1, code := some k0c0 }
/-- java/lang/Object -/
def k0 : Class := { plain "java/lang/Object" none with
  accessFlags := 33
  interfaces := #[]
  cf := some (fileOf pool0 8 #[] #[{ accessFlags := 1, nameIndex := 5, descriptorIndex := 6, attributes := #[] }] 33 0 #[] #[])
  fields := #[]
  methods := #[k0m0]
  instanceTypes := #[]
  staticTypes := #[]
  resolved := Array.replicate 124 none
  statics := none }

def pool1 : Array CpInfo := pool [(2, .class_ 4), (1, u "java/lang/Object"), (0, u "<init>"), (0, u "()V"), (0, .double 9223372036854775808), (1, .methodref 10 11), (0, .class_ 12), (0, .nameAndType 13 14), (0, u "com/example/quadrille/quadrille/geometry/SegmentJoinsPinLaw"), (0, u "pick"), (0, u "(IIII)I"), (0, .class_ 16), (0, u "com/example/quadrille/quadrille/geometry/Segment"), (0, .methodref 10 18), (0, .nameAndType 19 20), (0, u "toD"), (0, u "(III)D"), (0, .methodref 15 22), (0, .nameAndType 5 23), (0, u "(JDDDD)V"), (0, .methodref 15 25), (0, .nameAndType 26 27), (0, u "joins"), (0, u "(DDDD)Z"), (3, u "law"), (0, u "(IIIIII)Z")] 2

def k1m0 : Method := { name := "<init>", desc := "()V", sig := { parameters := [], returnType := none }, accessFlags := 1, code := none }
def k1c1 : Code := { maxStack := 2, maxLocals := 3, code := method_2_code, exceptionTable := #[], attributes := #[] }
def k1m1 : Method := { name := "toD", desc := "(III)D", sig := { parameters := [.int, .int, .int], returnType := some .double }, accessFlags := 10, code := some k1c1 }
def k1c2 : Code := { maxStack := 2, maxLocals := 4, code := method_3_code, exceptionTable := #[], attributes := #[] }
def k1m2 : Method := { name := "pick", desc := "(IIII)I", sig := { parameters := [.int, .int, .int, .int], returnType := some .int }, accessFlags := 10, code := some k1c2 }
def k1c3 : Code := { maxStack := 13, maxLocals := 20, code := code, exceptionTable := #[], attributes := #[] }
def k1m3 : Method := { name := "law", desc := "(IIIIII)Z", sig := { parameters := [.int, .int, .int, .int, .int, .int], returnType := some .boolean }, accessFlags := 9, code := some k1c3 }
/-- com/example/quadrille/quadrille/geometry/SegmentJoinsPinLaw -/
def k1 : Class := { plain "com/example/quadrille/quadrille/geometry/SegmentJoinsPinLaw" (some 0) with
  accessFlags := 49
  interfaces := #[]
  cf := some (fileOf pool1 10 #[] #[{ accessFlags := 1, nameIndex := 5, descriptorIndex := 6, attributes := #[] }, { accessFlags := 10, nameIndex := 19, descriptorIndex := 20, attributes := #[] }, { accessFlags := 10, nameIndex := 13, descriptorIndex := 14, attributes := #[] }, { accessFlags := 9, nameIndex := 31, descriptorIndex := 32, attributes := #[] }] 49 2 #[] #[])
  fields := #[]
  methods := #[k1m0, k1m1, k1m2, k1m3]
  instanceTypes := #[]
  staticTypes := #[]
  resolved := Array.replicate 35 none
  statics := none }

def pool2 : Array CpInfo := pool [(1, .methodref 2 3), (0, .class_ 4), (0, .nameAndType 5 6), (0, u "java/lang/Object"), (0, u "<init>"), (0, u "()V"), (0, .class_ 8), (0, u "java/lang/Record")] 13

def k2c0 : Code := { maxStack := 1, maxLocals := 1, code := jdk_30_method_1_code, exceptionTable := #[], attributes := #[] }
def k2m0 : Method := { name := "<init>", desc := "()V", sig := { parameters := [], returnType := none }, accessFlags := 4, code := some k2c0 }
/-- java/lang/Record -/
def k2 : Class := { plain "java/lang/Record" (some 0) with
  accessFlags := 1057
  interfaces := #[]
  cf := some (fileOf pool2 7 #[] #[{ accessFlags := 4, nameIndex := 5, descriptorIndex := 6, attributes := #[] }] 1057 2 #[] #[])
  fields := #[]
  methods := #[k2m0]
  instanceTypes := #[]
  staticTypes := #[]
  resolved := Array.replicate 22 none
  statics := none }

def pool3 : Array CpInfo := pool [(1, .methodref 2 3), (0, .class_ 4), (0, .nameAndType 5 6), (0, u "java/lang/Record"), (0, u "<init>"), (0, u "()V"), (0, .fieldref 8 9), (0, .class_ 10), (0, .nameAndType 11 12), (0, u "com/example/quadrille/quadrille/geometry/Segment"), (0, u "id"), (0, u "J"), (0, .fieldref 8 14), (0, .nameAndType 15 16), (0, u "x1"), (0, u "D"), (0, .fieldref 8 18), (0, .nameAndType 19 16), (0, u "y1"), (0, .fieldref 8 21), (0, .nameAndType 22 16), (0, u "x2"), (0, .fieldref 8 24), (0, .nameAndType 25 16), (0, u "y2"), (2, u "joins"), (0, u "(DDDD)Z"), (12, u "(JDDDD)V")] 35

def k3c0 : Code := { maxStack := 3, maxLocals := 11, code := prog_26_method_1_code, exceptionTable := #[], attributes := #[] }
def k3m0 : Method := { name := "<init>", desc := "(JDDDD)V", sig := { parameters := [.long, .double, .double, .double, .double], returnType := none }, accessFlags := 1, code := some k3c0 }
def k3c1 : Code := { maxStack := 4, maxLocals := 11, code := prog_26_method_3_code, exceptionTable := #[], attributes := #[] }
def k3m1 : Method := { name := "joins", desc := "(DDDD)Z", sig := { parameters := [.double, .double, .double, .double], returnType := some .boolean }, accessFlags := 1, code := some k3c1 }
/-- com/example/quadrille/quadrille/geometry/Segment -/
def k3 : Class := { plain "com/example/quadrille/quadrille/geometry/Segment" (some 2) with
  accessFlags := 49
  interfaces := #[]
  cf := some (fileOf pool3 8 #[] #[{ accessFlags := 1, nameIndex := 5, descriptorIndex := 42, attributes := #[] }, { accessFlags := 1, nameIndex := 28, descriptorIndex := 29, attributes := #[] }] 49 2 #[] #[{ accessFlags := 18, nameIndex := 11, descriptorIndex := 12, attributes := #[] }, { accessFlags := 18, nameIndex := 15, descriptorIndex := 16, attributes := #[] }, { accessFlags := 18, nameIndex := 19, descriptorIndex := 16, attributes := #[] }, { accessFlags := 18, nameIndex := 22, descriptorIndex := 16, attributes := #[] }, { accessFlags := 18, nameIndex := 25, descriptorIndex := 16, attributes := #[] }])
  fields := #[{ name := "id", type := .long, accessFlags := 18, slot := 0, constantValue := 0 }, { name := "x1", type := .double, accessFlags := 18, slot := 1, constantValue := 0 }, { name := "y1", type := .double, accessFlags := 18, slot := 2, constantValue := 0 }, { name := "x2", type := .double, accessFlags := 18, slot := 3, constantValue := 0 }, { name := "y2", type := .double, accessFlags := 18, slot := 4, constantValue := 0 }]
  methods := #[k3m0, k3m1]
  instanceTypes := #[.long, .double, .double, .double, .double]
  staticTypes := #[]
  resolved := Array.replicate 78 none
  statics := none }

def pool4 : Array CpInfo := pool [(1, u "java/lang/Cloneable"), (0, .class_ 1), (0, u "java/lang/Object"), (0, .class_ 3)] 3

/-- java/lang/Cloneable -/
def k4 : Class := { plain "java/lang/Cloneable" (some 0) with
  accessFlags := 1537
  interfaces := #[]
  cf := some (fileOf pool4 2 #[] #[] 1537 4 #[] #[])
  fields := #[]
  methods := #[]
  instanceTypes := #[]
  staticTypes := #[]
  resolved := Array.replicate 8 none
  statics := none }

def pool5 : Array CpInfo := pool [(1, u "java/io/Serializable"), (0, .class_ 1), (0, u "java/lang/Object"), (0, .class_ 3)] 3

/-- java/io/Serializable -/
def k5 : Class := { plain "java/io/Serializable" (some 0) with
  accessFlags := 1537
  interfaces := #[]
  cf := some (fileOf pool5 2 #[] #[] 1537 4 #[] #[])
  fields := #[]
  methods := #[]
  instanceTypes := #[]
  staticTypes := #[]
  resolved := Array.replicate 8 none
  statics := none }

/-- the primitive byte -/
def k6 : Class := { plain "byte" none with kind := .primitive 'B', accessFlags := 0x411 }
/-- [B -/
def k7 : Class := { plain "[B" (some 0) with kind := .array 6 .byte, interfaces := #[4, 5], accessFlags := 1041 }

/-- the primitive int -/
def k8 : Class := { plain "int" none with kind := .primitive 'I', accessFlags := 0x411 }
/-- [I -/
def k9 : Class := { plain "[I" (some 0) with kind := .array 8 .int, interfaces := #[4, 5], accessFlags := 1041 }

def heap : Heap := #[]
def classes : Array Class := #[k0, k1, k2, k3, k4, k5, k6, k7, k8, k9]
def interned : List (Array UInt16 × Addr) := []
def slotsUsed : Nat := 0
def theMethod : MethodId := ⟨1, 3⟩
def args0 : Array Value := #[.int 0, .int 1, .int 2, .int 3, .int 4, .int 5]
def aboutOver (below : List Frame) : State where
  vm := { classes := classes, interned := interned.toArray }
  heap := heap
  slotsUsed := slotsUsed
  threads := #[{ frames := .invoking theMethod args0 :: below }]
def below0 : List Frame := [.native { method := ⟨0, 0⟩, args := #[] }]
def about1 : State := aboutOver below0
def p0 : Program := .bare "" "" ""
def e0 : Env := launch0.env 0 0 0
theorem w_frames : about1.frames = Frame.invoking theMethod args0 :: below0 := rfl
set_option maxRecDepth 65536 in
theorem w_args : argsFit about1.vm theMethod args0 = true := by decide +kernel
set_option maxRecDepth 65536 in
theorem w_heap : heapFits about1 = true := by decide +kernel
set_option maxRecDepth 65536 in
theorem w_runnable : about1.curStatus? = some .runnable := by decide +kernel
set_option maxRecDepth 65536 in
theorem w_alone : about1.alone = true := by decide +kernel
set_option maxRecDepth 65536 in
theorem w_named : about1.methodNamed? x = some theMethod := by decide +kernel
set_option maxRecDepth 65536 in
theorem w_hears : about1.hears theMethod below0 = true := by decide +kernel
set_option maxRecDepth 65536 in
theorem w_ripe : about1.ripe theMethod args0 below0 = true := by decide +kernel
theorem w_running : about1.status = .running := rfl
set_option maxRecDepth 65536 in
theorem w_room : about1.hasRoom e0.platform room_1 = true :=
  launch0.hasRoom_least _ room_1 (by decide +kernel) (by decide +kernel) (by decide +kernel) (by decide +kernel) (by decide +kernel) (by decide +kernel)
theorem allAtoms_all (ts : List Jvm.Cond) (a : Array Jvm.Value) (st : Jvm.State) : (allAtoms ts).before a st = ts.all (fun c => c.before a st) := by
  induction ts with
  | nil => rfl
  | cons c t ih =>
    show (Jvm.Cond.and c (allAtoms t)).before a st = _
    rw [Jvm.Cond.before_and, ih, List.all_cons]
def words1 : List Jvm.Cond := Jvm.Cond.code x code maxLocals ret :: tables_1
/-- a 'code' word, met by the world's own term for the bytes: nothing is compared byte by byte -/
theorem code_word {y : MethodName} {bytes : ByteArray} {mx : Nat} {rt : Option FieldType} {a : Array Value} {s : State} {m : MethodId} {meth : Method} {c : Code} (h1 : s.methodNamed? y = some m) (h2 : s.vm.method? m = some meth) (h3 : meth.code = some c) (h4 : c.code = bytes)
    (h5 : (c.maxLocals == mx && c.exceptionTable.isEmpty && decide (c.maxStack ≤ mostOperands) && decide (meth.sig.returnType = rt) && !meth.locks && decide (parseMethodDescriptor y.desc = some meth.sig)) = true) : (Jvm.Cond.code y bytes mx rt).before a s = true := by
  simp only [Bool.and_eq_true, beq_iff_eq, Bool.not_eq_true', decide_eq_true_eq] at h5
  obtain ⟨⟨⟨⟨⟨g1, g2⟩, g3⟩, g4⟩, g5⟩, g6⟩ := h5
  simp [Cond.before, Cond.holds, Cond.value, h1, h2, h3, h4, g1, g2, g3, g4, g5, g6]
def isCode : Jvm.Cond → Bool
  | .code _ _ _ _ => true
  | _ => false
theorem all_split {L : List Jvm.Cond} {P : Jvm.Cond → Bool} (h1 : L.all (fun c => isCode c || P c) = true) (h2 : ∀ c ∈ L.filter isCode, P c = true) : L.all P = true := by
  refine List.all_eq_true.mpr fun c hc => ?_
  have h := List.all_eq_true.mp h1 c hc
  rcases Bool.eq_false_or_eq_true (isCode c) with hi | hi
  · exact h2 c (List.mem_filter.mpr ⟨hc, hi⟩)
  · simpa [hi] using h
set_option maxRecDepth 65536 in
theorem w_c0 : (Jvm.Cond.code x code maxLocals ret).before args0 about1 = true := code_word (m := ⟨1, 3⟩) (meth := k1m3) (c := k1c3) (by decide +kernel) rfl rfl rfl (by decide +kernel)
set_option maxRecDepth 65536 in
theorem w_c1 : (Jvm.Cond.code ({ cls := "com/example/quadrille/quadrille/geometry/SegmentJoinsPinLaw", name := "pick", desc := "(IIII)I" } : Jvm.MethodName) method_3_code (4 : Nat) (Option.some Jvm.ClassFile.FieldType.int)).before args0 about1 = true := code_word (m := ⟨1, 2⟩) (meth := k1m2) (c := k1c2) (by decide +kernel) rfl rfl rfl (by decide +kernel)
set_option maxRecDepth 65536 in
theorem w_c2 : (Jvm.Cond.code ({ cls := "com/example/quadrille/quadrille/geometry/SegmentJoinsPinLaw", name := "toD", desc := "(III)D" } : Jvm.MethodName) method_2_code (3 : Nat) (Option.some Jvm.ClassFile.FieldType.double)).before args0 about1 = true := code_word (m := ⟨1, 1⟩) (meth := k1m1) (c := k1c1) (by decide +kernel) rfl rfl rfl (by decide +kernel)
set_option maxRecDepth 65536 in
theorem w_c3 : (Jvm.Cond.code ({ cls := "com/example/quadrille/quadrille/geometry/Segment", name := "<init>", desc := "(JDDDD)V" } : Jvm.MethodName) prog_26_method_1_code (11 : Nat) (Option.none : Option Jvm.ClassFile.FieldType)).before args0 about1 = true := code_word (m := ⟨3, 0⟩) (meth := k3m0) (c := k3c0) (by decide +kernel) rfl rfl rfl (by decide +kernel)
set_option maxRecDepth 65536 in
theorem w_c4 : (Jvm.Cond.code ({ cls := "java/lang/Record", name := "<init>", desc := "()V" } : Jvm.MethodName) jdk_30_method_1_code (1 : Nat) (Option.none : Option Jvm.ClassFile.FieldType)).before args0 about1 = true := code_word (m := ⟨2, 0⟩) (meth := k2m0) (c := k2c0) (by decide +kernel) rfl rfl rfl (by decide +kernel)
set_option maxRecDepth 65536 in
theorem w_c5 : (Jvm.Cond.code ({ cls := "java/lang/Object", name := "<init>", desc := "()V" } : Jvm.MethodName) object_method_1_code (1 : Nat) (Option.none : Option Jvm.ClassFile.FieldType)).before args0 about1 = true := code_word (m := ⟨0, 0⟩) (meth := k0m0) (c := k0c0) (by decide +kernel) rfl rfl rfl (by decide +kernel)
set_option maxRecDepth 65536 in
theorem w_c6 : (Jvm.Cond.code ({ cls := "com/example/quadrille/quadrille/geometry/Segment", name := "joins", desc := "(DDDD)Z" } : Jvm.MethodName) prog_26_method_3_code (11 : Nat) (Option.some Jvm.ClassFile.FieldType.boolean)).before args0 about1 = true := code_word (m := ⟨3, 1⟩) (meth := k3m1) (c := k3c1) (by decide +kernel) rfl rfl rfl (by decide +kernel)
def codes1 : List Jvm.Cond := [Jvm.Cond.code x code maxLocals ret, Jvm.Cond.code ({ cls := "com/example/quadrille/quadrille/geometry/SegmentJoinsPinLaw", name := "pick", desc := "(IIII)I" } : Jvm.MethodName) method_3_code (4 : Nat) (Option.some Jvm.ClassFile.FieldType.int), Jvm.Cond.code ({ cls := "com/example/quadrille/quadrille/geometry/SegmentJoinsPinLaw", name := "toD", desc := "(III)D" } : Jvm.MethodName) method_2_code (3 : Nat) (Option.some Jvm.ClassFile.FieldType.double), Jvm.Cond.code ({ cls := "com/example/quadrille/quadrille/geometry/Segment", name := "<init>", desc := "(JDDDD)V" } : Jvm.MethodName) prog_26_method_1_code (11 : Nat) (Option.none : Option Jvm.ClassFile.FieldType), Jvm.Cond.code ({ cls := "java/lang/Record", name := "<init>", desc := "()V" } : Jvm.MethodName) jdk_30_method_1_code (1 : Nat) (Option.none : Option Jvm.ClassFile.FieldType), Jvm.Cond.code ({ cls := "java/lang/Object", name := "<init>", desc := "()V" } : Jvm.MethodName) object_method_1_code (1 : Nat) (Option.none : Option Jvm.ClassFile.FieldType), Jvm.Cond.code ({ cls := "com/example/quadrille/quadrille/geometry/Segment", name := "joins", desc := "(DDDD)Z" } : Jvm.MethodName) prog_26_method_3_code (11 : Nat) (Option.some Jvm.ClassFile.FieldType.boolean)]
set_option maxRecDepth 65536 in
theorem codes_eq : words1.filter isCode = codes1 := rfl
theorem w_codes : ∀ c ∈ words1.filter isCode, c.before args0 about1 = true := by
  rw [codes_eq]
  intro c hc
  simp only [codes1, List.mem_cons, List.not_mem_nil, or_false] at hc
  rcases hc with rfl | rfl | rfl | rfl | rfl | rfl | rfl
  · exact w_c0
  · exact w_c1
  · exact w_c2
  · exact w_c3
  · exact w_c4
  · exact w_c5
  · exact w_c6
set_option maxRecDepth 65536 in
theorem w_t1 : (words1.take 24).all (fun c => isCode c || c.before args0 about1) = true := by decide +kernel
set_option maxRecDepth 65536 in
theorem w_t2 : (words1.drop 24).all (fun c => isCode c || c.before args0 about1) = true := by decide +kernel
theorem w_tables : (allAtoms (Jvm.Cond.code x code maxLocals ret :: tables_1)).before args0 about1 = true := by
  rw [allAtoms_all]
  show words1.all (fun c => c.before args0 about1) = true
  refine all_split ?_ w_codes
  rw [← List.take_append_drop 24 words1, List.all_append, w_t1, w_t2]
  rfl
set_option maxRecDepth 65536 in
theorem w_case : (Jvm.Cond.and given_1 narrow_1).before args0 about1 = true := by decide +kernel
theorem w_applies : (headSpec (Jvm.Cond.code x code maxLocals ret :: tables_1) room_1).applies x e0.platform about1 = true :=
  (Spec.applies_iff w_frames).mpr ⟨w_running, w_runnable, w_alone, w_named, w_hears, w_ripe, w_room, w_tables⟩
theorem atStart : AtStart classFile x code maxLocals ret World_1 tables_1 room_1 Calls_1 rest_1 Pre_1 launch0 p0 e0 about1 theMethod args0 below0 :=
  ⟨lists_1, trivial, launch0.admits_env _ _ _, launch0.least_env, fairChoices_fair.cas, fairChoices_fair.clock, w_frames, w_args, w_heap, w_applies, trivial, trivial, w_case⟩
end start1
theorem witness_1 : WitnessClaimed_1 := ⟨start1.p0, start1.e0, start1.about1, start1.theMethod, start1.args0, start1.below0, start1.atStart⟩
end Jvm.Pilot.@@N@@
