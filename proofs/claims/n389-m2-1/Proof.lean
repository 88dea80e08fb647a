import JvmDerived
import JvmDerived.Pilot.@@N@@Statement
import JvmDerived.Pilot.@@N@@Code
set_option linter.unusedVariables false
set_option linter.unusedSimpArgs false
@@BLOCK:LamKit.lean.txt@@
namespace Jvm.RoadKit
open Sem ClassFile Op Lib Jvm.Stand Jvm.Free Jvm.LawKit
section New
variable {p : Program} {l : Launch} {e : Env} {R : Room} {s : State} {m : MethodId} {args : Array Value} {below : List Frame} {meth : Method} {c : Code} {T : State} {locs : List Loc} {cells slots : Nat}
theorem retI (X : Stand p l e R s m args below meth c T locs cells slots) (hx : p.tables.exec = Jvm.exec) {pc : Nat} {Ls : Array Slot} {z : Int32} {rest : List Value} (hret : meth.sig.returnType = some .int) (hd : decode c.code pc = .ok (.ireturn, 1)) {fs : List Frame}
    (hl : ∀ (f : JFrame) (acts : List Action), f.method = m → f.locked = none → f.entered = [] → (doReturn e (T.setTop f) acts (some (.int z))).1 = T.setFrames fs) : Steps p.tables e below (T.setTop (mkF m pc Ls (.int z :: rest))) (T.setFrames fs) := by
  have hm' : T.vm.method? m = some meth := X.method'
  have hn : narrow .int (.int z) = .int z := rfl
  show Steps p.tables e below (T.setTop { method := m, pc := pc, locals := Ls, stack := _ :: rest, locked := none }) _
  jvm_step X.here [X.here.top, hx, hd, hm', hret, hn]
  first | (intro acts; rw [hl _ acts rfl rfl rfl]) | rw [hl _ _ rfl rfl rfl]
  exact Steps.refl _
end New
end Jvm.RoadKit
namespace Jvm.Pilot.@@N@@
open Jvm Jvm.ClassFile Sem Op Lib Jvm.Free Jvm.Stand Jvm.LawKit Jvm.RoadKit Bundle Jvm.Pilot.@@N@@.Jvm.D


theorem own_dloadN {tb : Tables} [Ours tb] {e : Env} {below : List Frame} {T target : State} {m : MethodId} {c : Code} {g : JFrame} (h : At T m c below) (hx : tb.exec = Jvm.exec) (hg : g.method = m) {k : Fin 4} {v : UInt64} (hd : decode c.code g.pc = .ok (.dload_n k, 1)) (hl : g.locals[k.val]? = some (.val (.double v)))
    (hr : Steps tb e below (T.setTop { g with pc := g.pc + 1, stack := .double v :: g.stack }) target) : Steps tb e below (T.setTop g) target := by
  subst hg
  jvm_step h [h.top, hx, hd, hl]
  exact hr
theorem own_dload {tb : Tables} [Ours tb] {e : Env} {below : List Frame} {T target : State} {m : MethodId} {c : Code} {g : JFrame} (h : At T m c below) (hx : tb.exec = Jvm.exec) (hg : g.method = m) {k : Nat} {v : UInt64} (hd : decode c.code g.pc = .ok (.dload k, 2)) (hl : g.locals[k]? = some (.val (.double v)))
    (hr : Steps tb e below (T.setTop { g with pc := g.pc + 2, stack := .double v :: g.stack }) target) : Steps tb e below (T.setTop g) target := by
  subst hg
  jvm_step h [h.top, hx, hd, hl]
  exact hr
theorem own_dstoreN {tb : Tables} [Ours tb] {e : Env} {below : List Frame} {T target : State} {m : MethodId} {c : Code} {g : JFrame} (h : At T m c below) (hx : tb.exec = Jvm.exec) (hg : g.method = m) {k : Fin 4} {v : UInt64} {rest : List Value} {l' : Array Slot} (hd : decode c.code g.pc = .ok (.dstore_n k, 1)) (hs : g.stack = .double v :: rest) (hl : storeLocals g.locals k.val (.double v) = some l')
    (hr : Steps tb e below (T.setTop { g with pc := g.pc + 1, stack := rest, locals := l' }) target) : Steps tb e below (T.setTop g) target := by
  subst hg
  jvm_step h [h.top, hx, hd, hs, hl]
  exact hr
theorem own_dstore {tb : Tables} [Ours tb] {e : Env} {below : List Frame} {T target : State} {m : MethodId} {c : Code} {g : JFrame} (h : At T m c below) (hx : tb.exec = Jvm.exec) (hg : g.method = m) {k : Nat} {v : UInt64} {rest : List Value} {l' : Array Slot} (hd : decode c.code g.pc = .ok (.dstore k, 2)) (hs : g.stack = .double v :: rest) (hl : storeLocals g.locals k (.double v) = some l')
    (hr : Steps tb e below (T.setTop { g with pc := g.pc + 2, stack := rest, locals := l' }) target) : Steps tb e below (T.setTop g) target := by
  subst hg
  jvm_step h [h.top, hx, hd, hs, hl]
  exact hr
theorem own_dcmp {tb : Tables} [Ours tb] {e : Env} {below : List Frame} {T target : State} {m : MethodId} {c : Code} {g : JFrame} (h : At T m c below) (hx : tb.exec = Jvm.exec) (hg : g.method = m) {x y : UInt64} {rest : List Value} {op : CmpOp} (hd : decode c.code g.pc = .ok (.dcmp op, 1)) (hs : g.stack = .double y :: .double x :: rest)
    (hr : Steps tb e below (T.setTop { g with pc := g.pc + 1, stack := .int (cmpValue (FP.dcmp x y) op) :: rest }) target) : Steps tb e below (T.setTop g) target := by
  subst hg
  jvm_step h [h.top, hx, hd, hs]
  exact hr
theorem own_floadN {tb : Tables} [Ours tb] {e : Env} {below : List Frame} {T target : State} {m : MethodId} {c : Code} {g : JFrame} (h : At T m c below) (hx : tb.exec = Jvm.exec) (hg : g.method = m) {k : Fin 4} {v : UInt32} (hd : decode c.code g.pc = .ok (.fload_n k, 1)) (hl : g.locals[k.val]? = some (.val (.float v)))
    (hr : Steps tb e below (T.setTop { g with pc := g.pc + 1, stack := .float v :: g.stack }) target) : Steps tb e below (T.setTop g) target := by
  subst hg
  jvm_step h [h.top, hx, hd, hl]
  exact hr
theorem own_fload {tb : Tables} [Ours tb] {e : Env} {below : List Frame} {T target : State} {m : MethodId} {c : Code} {g : JFrame} (h : At T m c below) (hx : tb.exec = Jvm.exec) (hg : g.method = m) {k : Nat} {v : UInt32} (hd : decode c.code g.pc = .ok (.fload k, 2)) (hl : g.locals[k]? = some (.val (.float v)))
    (hr : Steps tb e below (T.setTop { g with pc := g.pc + 2, stack := .float v :: g.stack }) target) : Steps tb e below (T.setTop g) target := by
  subst hg
  jvm_step h [h.top, hx, hd, hl]
  exact hr
theorem own_fstoreN {tb : Tables} [Ours tb] {e : Env} {below : List Frame} {T target : State} {m : MethodId} {c : Code} {g : JFrame} (h : At T m c below) (hx : tb.exec = Jvm.exec) (hg : g.method = m) {k : Fin 4} {v : UInt32} {rest : List Value} {l' : Array Slot} (hd : decode c.code g.pc = .ok (.fstore_n k, 1)) (hs : g.stack = .float v :: rest) (hl : storeLocals g.locals k.val (.float v) = some l')
    (hr : Steps tb e below (T.setTop { g with pc := g.pc + 1, stack := rest, locals := l' }) target) : Steps tb e below (T.setTop g) target := by
  subst hg
  jvm_step h [h.top, hx, hd, hs, hl]
  exact hr
theorem own_fstore {tb : Tables} [Ours tb] {e : Env} {below : List Frame} {T target : State} {m : MethodId} {c : Code} {g : JFrame} (h : At T m c below) (hx : tb.exec = Jvm.exec) (hg : g.method = m) {k : Nat} {v : UInt32} {rest : List Value} {l' : Array Slot} (hd : decode c.code g.pc = .ok (.fstore k, 2)) (hs : g.stack = .float v :: rest) (hl : storeLocals g.locals k (.float v) = some l')
    (hr : Steps tb e below (T.setTop { g with pc := g.pc + 2, stack := rest, locals := l' }) target) : Steps tb e below (T.setTop g) target := by
  subst hg
  jvm_step h [h.top, hx, hd, hs, hl]
  exact hr
theorem own_fcmp {tb : Tables} [Ours tb] {e : Env} {below : List Frame} {T target : State} {m : MethodId} {c : Code} {g : JFrame} (h : At T m c below) (hx : tb.exec = Jvm.exec) (hg : g.method = m) {x y : UInt32} {rest : List Value} {op : CmpOp} (hd : decode c.code g.pc = .ok (.fcmp op, 1)) (hs : g.stack = .float y :: .float x :: rest)
    (hr : Steps tb e below (T.setTop { g with pc := g.pc + 1, stack := .int (cmpValue (FP.fcmp x y) op) :: rest }) target) : Steps tb e below (T.setTop g) target := by
  subst hg
  jvm_step h [h.top, hx, hd, hs]
  exact hr
theorem own_i2d {tb : Tables} [Ours tb] {e : Env} {below : List Frame} {T target : State} {m : MethodId} {c : Code} {g : JFrame} (h : At T m c below) (hx : tb.exec = Jvm.exec) (hg : g.method = m) {x : Int32} {rest : List Value} (hd : decode c.code g.pc = .ok (.i2d, 1)) (hs : g.stack = .int x :: rest)
    (hr : Steps tb e below (T.setTop { g with pc := g.pc + 1, stack := .double (FP.i2d x) :: rest }) target) : Steps tb e below (T.setTop g) target := by
  subst hg
  jvm_step h [h.top, hx, hd, hs]
  exact hr
theorem own_l2d {tb : Tables} [Ours tb] {e : Env} {below : List Frame} {T target : State} {m : MethodId} {c : Code} {g : JFrame} (h : At T m c below) (hx : tb.exec = Jvm.exec) (hg : g.method = m) {x : Int64} {rest : List Value} (hd : decode c.code g.pc = .ok (.l2d, 1)) (hs : g.stack = .long x :: rest)
    (hr : Steps tb e below (T.setTop { g with pc := g.pc + 1, stack := .double (FP.l2d x) :: rest }) target) : Steps tb e below (T.setTop g) target := by
  subst hg
  jvm_step h [h.top, hx, hd, hs]
  exact hr
theorem own_fconst {tb : Tables} [Ours tb] {e : Env} {below : List Frame} {T target : State} {m : MethodId} {c : Code} {g : JFrame} (h : At T m c below) (hx : tb.exec = Jvm.exec) (hg : g.method = m) (hd : decode c.code g.pc = .ok (.fconst 0, 1))
    (hr : Steps tb e below (T.setTop { g with pc := g.pc + 1, stack := .float 0 :: g.stack }) target) : Steps tb e below (T.setTop g) target := by
  subst hg
  jvm_step h [h.top, hx, hd]
  exact hr

open Jvm.FP in
theorem own_lam {Z s : State} {a0 : Array Value} {y : MethodName} {m : MethodId} {pc index : Nat} {σ : Lambda.Shape} (hZ : Z.Warmed39 s.vm) (w : (Jvm.Cond.lambdaSite y pc index σ).before a0 Z = true) (hcap : σ.captured = []) (hn : s.methodNamed? y = some m) : ∃ (k : Class) (i0 p0 : Nat) (a : Addr), s.vm.classes[m.cls]? = some k ∧ (k.callSites.find? fun y => y.1 == m.idx && y.2.1 == pc) = some (i0, p0, .constant a) := by
  obtain ⟨cK, one, hat⟩ := Cond.lambdaSite_spec w
  obtain ⟨m', kS, cfS, i0, p0, lk, hm', hkS, -, -, -, hfind, -, -, hlk⟩ := State.lambdaAt?_spec hat
  obtain ⟨k', hk', he'⟩ := hZ.alike.2.2 _ _ hkS
  have hmm : m' = m := by
    have h2 : s.methodNamed? y = Z.methodNamed? y := State.methodNamed?_setVm (s := Z) hZ.alike y
    rw [h2] at hn
    exact Option.some.inj (hm'.symm.trans hn)
  subst hmm
  rcases hlk with ⟨a, cell, rfl, -⟩ | ⟨-, -, h⟩
  · exact ⟨k', i0, p0, a, hk', by rw [he']; exact hfind⟩
  · exact absurd hcap h
def own_max (x y : Int64) : Int64 := if lcmpW x y < 0 then y else x
theorem own_max_gt {x y : Int64} (h : (0 : Int32) < lcmpW y x) : own_max x y = y := by
  rw [own_max, if_pos ((lw_lt x y).mpr ((lw_gt y x).mp h))]
theorem own_max_le {x y : Int64} (h : ¬ (0 : Int32) < lcmpW y x) : own_max x y = x := by
  rw [own_max, if_neg fun q => h ((lw_gt y x).mpr ((lw_lt x y).mp q))]
theorem own_f {p : Int64} (h : ¬ lcmpW (p &&& (9007199254740991 : Int64)) (0 : Int64) = 0) : ¬ lcmpW (p &&& (9007199254740991 : Int64)) (1 : Int64) < 0 ∧ lcmpW (p &&& (9007199254740991 : Int64)) (9007199254740992 : Int64) < 0 := by
  have h1 := c_maskL p 9007199254740991 53 (by decide) (by decide)
  rw [lw_lt, lw_lt, Int64.lt_iff_toInt_lt, Int64.lt_iff_toInt_lt]
  have h0 : ¬ (p &&& (9007199254740991 : Int64)).toInt = 0 := fun q => h ((lw_eq _ _).mpr (Int64.toInt_inj.mp q))
  have e1 : (1 : Int64).toInt = 1 := rfl
  have e2 : (9007199254740992 : Int64).toInt = 9007199254740992 := rfl
  rw [e1, e2]
  omega

theorem d4_0 : decode jdk_71_method_1_code 0 = .ok (.aload_n 0, 1) := by decide +kernel
theorem d4_1 : decode jdk_71_method_1_code 1 = .ok (.invokespecial 1, 3) := by decide +kernel
theorem d4_4 : decode jdk_71_method_1_code 4 = .ok (.return_, 1) := by decide +kernel
theorem ef_4 (m : MethodId) (x0 : Addr) : entryFrame m #[(.ref x0)] 1 = mkF m 0 #[.val (.ref x0)] [] := by first | (simp [entryFrame, mkF, argsToLocals, Value.category]; done) | rfl
theorem pn_4 : plainName "java/util/AbstractMap" = true := by first | (simp [plainName, overriddenIn]; done) | decide +kernel
def Qd0 (Z : State) (a : Addr) (h0 : Heap) (n0 : Nat) (v : Option Value) (h : Heap) (L : List Loc) : Prop := v = none ∧ Fr n0 L ∧ h = h0
set_option maxRecDepth 65536 in
set_option maxHeartbeats 40000000 in
theorem rmAM (l : Launch) (Z : State) (a0 : Array Value) (hw : ∀ d ∈ tables_1, d.before a0 Z = true) (ws : List Jvm.Cond) (a : Addr) (h0 : Heap) (n0 : Nat) :
    MetFree l (⟨"java/util/AbstractMap", "<init>", "()V"⟩ : MethodName) (head1 (Jvm.Cond.code (⟨"java/util/AbstractMap", "<init>", "()V"⟩ : MethodName) jdk_71_method_1_code 1 none :: ws) ({ frames := 1, cells := 0, slots := 0, locals := 12 } : Room)) (fun qq U => qq = #[(.ref a)] ∧ Z.Warmed39 U.vm ∧ U.heap = h0) (fun _ _ _ _ _ => True) (fun _ UU oo UU' => ∃ vv LL, oo = .returned vv ∧ Qd0 Z a h0 n0 vv UU'.heap LL ∧ FrameEnd UU oo UU' LL ({ frames := 1, cells := 0, slots := 0, locals := 12 } : Room).cells ({ frames := 1, cells := 0, slots := 0, locals := 12 } : Room).slots) := by
  refine MetFree.of_bodySF (plainFor_of_name pn_4) hisR ?_
  intro p e s m args below meth c s₁ Bd hml0 hP hK
  obtain ⟨rfl, hZ, hh⟩ := hP
  have hx := Bd.exec
  have hby := Bd.bytes
  have hml : c.maxLocals = 1 := hml0
  have hown : s.vm.findClass "java/util/AbstractMap" = some m.cls := findClass_of_methodNamed Bd.named
  have hnm := (name_of_methodNamed Bd.named Bd.method).1
  have X0 : Stand p l e ({ frames := 1, cells := 0, slots := 0, locals := 12 } : Room) s m #[(.ref a)] below meth c s₁ [] 0 0 := Stand.of_body Bd
  have e0 : s₁.heap = h0 := by rw [← hh, Bd.state]; rfl
  have N0 := Fr.nil n0
  have pre0 : ∀ t, Steps p.tables e below (s₁.setTop (mkF m 0 #[.val (.ref a)] [])) t → Steps p.tables e below (s₁.setTop (entryFrame m #[(.ref a)] 1)) t := fun t k => castTop (ef_4 m a) k
  obtain ⟨T1, X1, e1, st1⟩ := initO X0 hx hZ hown (hw _ (List.mem_of_getElem? (i := 22) rfl)) (hw _ (List.mem_of_getElem? (i := 8) rfl)) (hw _ (List.mem_of_getElem? (i := 9) rfl)) e0 (g := (mkF m 1 #[.val (.ref a)] [(.ref a)])) rfl (by rw [hml]; rfl) rfl (hb hby d4_1) (by decide) (W := 0) (by show 2 * 0 + _ ≤ _; exact Nat.le_of_eq rfl) (by decide)
  obtain ⟨fs, hr, hrun, hended, hW, hsame⟩ := X1.leave (v := none) (fun _ => rfl)
  refine ⟨_, _, pre0 _ ?_, hrun, hended, _, _, rfl, ?_, ⟨_, rfl⟩, hW, hsame.mono (by decide) (by decide)⟩
  · show Steps p.tables e below (s₁.setTop (mkF m 0 #[.val (.ref a)] [])) _
    refine XS.aloadN X0.here hx rfl (hb hby d4_0) rfl rfl ?_
    show Steps p.tables e below (s₁.setTop (mkF m 1 #[.val (.ref a)] [(.ref a)])) _
    refine st1 _ ?_
    show Steps p.tables e below (T1.setTop (mkF m 4 #[.val (.ref a)] [])) _
    exact X1.returnOut hx Bd.returns (hb hby d4_4) hr
  · show Qd0 Z a h0 n0 _ T1.heap _
    rw [e1]
    exact ⟨rfl, N0, rfl⟩
theorem d8_0 : decode jdk_22_method_1_code 0 = .ok (.aload_n 0, 1) := by decide +kernel
theorem d8_1 : decode jdk_22_method_1_code 1 = .ok (.invokespecial 1, 3) := by decide +kernel
theorem d8_4 : decode jdk_22_method_1_code 4 = .ok (.return_, 1) := by decide +kernel
theorem ef_8 (m : MethodId) (x0 : Addr) : entryFrame m #[(.ref x0)] 1 = mkF m 0 #[.val (.ref x0)] [] := by first | (simp [entryFrame, mkF, argsToLocals, Value.category]; done) | rfl
theorem pn_8 : plainName "java/util/AbstractCollection" = true := by first | (simp [plainName, overriddenIn]; done) | decide +kernel
set_option maxRecDepth 65536 in
set_option maxHeartbeats 40000000 in
theorem rmAC (l : Launch) (Z : State) (a0 : Array Value) (hw : ∀ d ∈ tables_1, d.before a0 Z = true) (ws : List Jvm.Cond) (a : Addr) (h0 : Heap) (n0 : Nat) :
    MetFree l (⟨"java/util/AbstractCollection", "<init>", "()V"⟩ : MethodName) (head1 (Jvm.Cond.code (⟨"java/util/AbstractCollection", "<init>", "()V"⟩ : MethodName) jdk_22_method_1_code 1 none :: ws) ({ frames := 1, cells := 0, slots := 0, locals := 12 } : Room)) (fun qq U => qq = #[(.ref a)] ∧ Z.Warmed39 U.vm ∧ U.heap = h0) (fun _ _ _ _ _ => True) (fun _ UU oo UU' => ∃ vv LL, oo = .returned vv ∧ Qd0 Z a h0 n0 vv UU'.heap LL ∧ FrameEnd UU oo UU' LL ({ frames := 1, cells := 0, slots := 0, locals := 12 } : Room).cells ({ frames := 1, cells := 0, slots := 0, locals := 12 } : Room).slots) := by
  refine MetFree.of_bodySF (plainFor_of_name pn_8) hisR ?_
  intro p e s m args below meth c s₁ Bd hml0 hP hK
  obtain ⟨rfl, hZ, hh⟩ := hP
  have hx := Bd.exec
  have hby := Bd.bytes
  have hml : c.maxLocals = 1 := hml0
  have hown : s.vm.findClass "java/util/AbstractCollection" = some m.cls := findClass_of_methodNamed Bd.named
  have hnm := (name_of_methodNamed Bd.named Bd.method).1
  have X0 : Stand p l e ({ frames := 1, cells := 0, slots := 0, locals := 12 } : Room) s m #[(.ref a)] below meth c s₁ [] 0 0 := Stand.of_body Bd
  have e0 : s₁.heap = h0 := by rw [← hh, Bd.state]; rfl
  have N0 := Fr.nil n0
  have pre0 : ∀ t, Steps p.tables e below (s₁.setTop (mkF m 0 #[.val (.ref a)] [])) t → Steps p.tables e below (s₁.setTop (entryFrame m #[(.ref a)] 1)) t := fun t k => castTop (ef_8 m a) k
  obtain ⟨T1, X1, e1, st1⟩ := initO X0 hx hZ hown (hw _ (List.mem_of_getElem? (i := 55) rfl)) (hw _ (List.mem_of_getElem? (i := 8) rfl)) (hw _ (List.mem_of_getElem? (i := 9) rfl)) e0 (g := (mkF m 1 #[.val (.ref a)] [(.ref a)])) rfl (by rw [hml]; rfl) rfl (hb hby d8_1) (by decide) (W := 0) (by show 2 * 0 + _ ≤ _; exact Nat.le_of_eq rfl) (by decide)
  obtain ⟨fs, hr, hrun, hended, hW, hsame⟩ := X1.leave (v := none) (fun _ => rfl)
  refine ⟨_, _, pre0 _ ?_, hrun, hended, _, _, rfl, ?_, ⟨_, rfl⟩, hW, hsame.mono (by decide) (by decide)⟩
  · show Steps p.tables e below (s₁.setTop (mkF m 0 #[.val (.ref a)] [])) _
    refine XS.aloadN X0.here hx rfl (hb hby d8_0) rfl rfl ?_
    show Steps p.tables e below (s₁.setTop (mkF m 1 #[.val (.ref a)] [(.ref a)])) _
    refine st1 _ ?_
    show Steps p.tables e below (T1.setTop (mkF m 4 #[.val (.ref a)] [])) _
    exact X1.returnOut hx Bd.returns (hb hby d8_4) hr
  · show Qd0 Z a h0 n0 _ T1.heap _
    rw [e1]
    exact ⟨rfl, N0, rfl⟩
theorem d7_0 : decode jdk_91_method_1_code 0 = .ok (.aload_n 0, 1) := by decide +kernel
theorem d7_1 : decode jdk_91_method_1_code 1 = .ok (.invokespecial 1, 3) := by decide +kernel
theorem own_pd0 : parseMethodDescriptor "()V" = some ⟨[], none⟩ := by decide +kernel
theorem d7_4 : decode jdk_91_method_1_code 4 = .ok (.return_, 1) := by decide +kernel
theorem ef_7 (m : MethodId) (x0 : Addr) : entryFrame m #[(.ref x0)] 1 = mkF m 0 #[.val (.ref x0)] [] := by first | (simp [entryFrame, mkF, argsToLocals, Value.category]; done) | rfl
theorem pn_7 : plainName "java/util/AbstractSet" = true := by first | (simp [plainName, overriddenIn]; done) | decide +kernel
set_option maxRecDepth 65536 in
set_option maxHeartbeats 40000000 in
theorem rmAS (l : Launch) (Z : State) (a0 : Array Value) (hw : ∀ d ∈ tables_1, d.before a0 Z = true) (ws : List Jvm.Cond) (a : Addr) (h0 : Heap) (n0 : Nat) :
    MetFree l (⟨"java/util/AbstractSet", "<init>", "()V"⟩ : MethodName) (head1 (Jvm.Cond.code (⟨"java/util/AbstractSet", "<init>", "()V"⟩ : MethodName) jdk_91_method_1_code 1 none :: ws) ({ frames := 2, cells := 0, slots := 0, locals := 24 } : Room)) (fun qq U => qq = #[(.ref a)] ∧ Z.Warmed39 U.vm ∧ U.heap = h0) (fun _ _ _ _ _ => True) (fun _ UU oo UU' => ∃ vv LL, oo = .returned vv ∧ Qd0 Z a h0 n0 vv UU'.heap LL ∧ FrameEnd UU oo UU' LL ({ frames := 2, cells := 0, slots := 0, locals := 24 } : Room).cells ({ frames := 2, cells := 0, slots := 0, locals := 24 } : Room).slots) := by
  refine MetFree.of_bodySF (plainFor_of_name pn_7) hisR ?_
  intro p e s m args below meth c s₁ Bd hml0 hP hK
  obtain ⟨rfl, hZ, hh⟩ := hP
  have hx := Bd.exec
  have hby := Bd.bytes
  have hml : c.maxLocals = 1 := hml0
  have hown : s.vm.findClass "java/util/AbstractSet" = some m.cls := findClass_of_methodNamed Bd.named
  have hnm := (name_of_methodNamed Bd.named Bd.method).1
  have X0 : Stand p l e ({ frames := 2, cells := 0, slots := 0, locals := 24 } : Room) s m #[(.ref a)] below meth c s₁ [] 0 0 := Stand.of_body Bd
  have e0 : s₁.heap = h0 := by rw [← hh, Bd.state]; rfl
  have N0 := Fr.nil n0
  have pre0 : ∀ t, Steps p.tables e below (s₁.setTop (mkF m 0 #[.val (.ref a)] [])) t → Steps p.tables e below (s₁.setTop (entryFrame m #[(.ref a)] 1)) t := fun t k => castTop (ef_7 m a) k
  obtain ⟨_, _, ⟨T1, L1, k1, n1⟩, -, X1, ⟨Lc1, hQ1, l1, y1, z1⟩, st1⟩ := X0.specialBack hx (y := (⟨"java/util/AbstractCollection", "<init>", "()V"⟩ : MethodName)) rfl hown (mvT hZ (hw _ (List.mem_of_getElem? (i := 49) rfl))) (mvT hZ (hw _ (List.mem_of_getElem? (i := 50) rfl))) (mvT hZ (hw _ (List.mem_of_getElem? (i := 54) rfl))) (by decide) (backOf (W := 0) (rmAC l Z a0 hw [] a h0 n0) hZ (hw _ (List.mem_of_getElem? (i := 54) rfl)) (hw _ (List.mem_of_getElem? (i := 53) rfl)) (by decide) (by decide)) (g := (mkF m 1 #[.val (.ref a)] [(.ref a)])) rfl (by rw [hml]; rfl) (Steps.refl _) (a := a) (argsL := []) (rest := []) (lenOf own_pd0 rfl) rfl (by show 2 * 0 + _ ≤ _; exact Nat.le_of_eq rfl) (hb hby d7_1) (fun _ _ => ⟨rfl, e0, (by decide : 0 + 0 ≤ _), (by decide : 0 + 0 ≤ _)⟩)
  dsimp only [Pt.U, Pt.locs, Pt.cells, Pt.slots] at X1 l1 y1 z1 st1 hQ1
  subst l1 y1 z1
  obtain ⟨rfl, N1q, e1⟩ := hQ1
  have N1 := Fr.app N0 N1q
  obtain ⟨fs, hr, hrun, hended, hW, hsame⟩ := X1.leave (v := none) (fun _ => rfl)
  refine ⟨_, _, pre0 _ ?_, hrun, hended, _, _, rfl, ?_, ⟨_, rfl⟩, hW, hsame.mono (by decide) (by decide)⟩
  · show Steps p.tables e below (s₁.setTop (mkF m 0 #[.val (.ref a)] [])) _
    refine XS.aloadN X0.here hx rfl (hb hby d7_0) rfl rfl ?_
    show Steps p.tables e below (s₁.setTop (mkF m 1 #[.val (.ref a)] [(.ref a)])) _
    refine st1.trans ?_
    show Steps p.tables e below (T1.setTop (mkF m 4 #[.val (.ref a)] [])) _
    exact X1.returnOut hx Bd.returns (hb hby d7_4) hr
  · show Qd0 Z a h0 n0 _ T1.heap _
    rw [e1]
    exact ⟨rfl, N1, rfl⟩
theorem d3_0 : decode jdk_69_method_7_code 0 = .ok (.aload_n 0, 1) := by decide +kernel
theorem d3_1 : decode jdk_69_method_7_code 1 = .ok (.invokespecial 43, 3) := by decide +kernel
theorem d3_4 : decode jdk_69_method_7_code 4 = .ok (.aload_n 0, 1) := by decide +kernel
theorem d3_5 : decode jdk_69_method_7_code 5 = .ok (.ldc 92, 2) := by decide +kernel
theorem d3_7 : decode jdk_69_method_7_code 7 = .ok (.putfield 81, 3) := by decide +kernel
theorem d3_10 : decode jdk_69_method_7_code 10 = .ok (.return_, 1) := by decide +kernel
theorem ef_3 (m : MethodId) (x0 : Addr) : entryFrame m #[(.ref x0)] 1 = mkF m 0 #[.val (.ref x0)] [] := by first | (simp [entryFrame, mkF, argsToLocals, Value.category]; done) | rfl
theorem pn_3 : plainName "java/util/HashMap" = true := by first | (simp [plainName, overriddenIn]; done) | decide +kernel
def Qd1 (Z : State) (a : Addr) (h0 : Heap) (n0 : Nat) (v : Option Value) (h : Heap) (L : List Loc) : Prop := v = none ∧ Fr n0 L ∧ Keep h0 h [a]
set_option maxRecDepth 65536 in
set_option maxHeartbeats 40000000 in
theorem rmHM (l : Launch) (Z : State) (a0 : Array Value) (hw : ∀ d ∈ tables_1, d.before a0 Z = true) (ws : List Jvm.Cond) (a : Addr) (h0 : Heap) (n0 : Nat) (O0 : Old Z n0 h0) (g_a : n0 ≤ a) (E_a : Exa Z h0 a "java/util/HashMap") (F_loadFactor : Fld Z h0 a "java/util/HashMap" "loadFactor" "F" (.float (0 : UInt32))) :
    MetFree l (⟨"java/util/HashMap", "<init>", "()V"⟩ : MethodName) (head1 (Jvm.Cond.code (⟨"java/util/HashMap", "<init>", "()V"⟩ : MethodName) jdk_69_method_7_code 1 none :: ws) ({ frames := 2, cells := 0, slots := 0, locals := 24 } : Room)) (fun qq U => qq = #[(.ref a)] ∧ Z.Warmed39 U.vm ∧ U.heap = h0) (fun _ _ _ _ _ => True) (fun _ UU oo UU' => ∃ vv LL, oo = .returned vv ∧ Qd1 Z a h0 n0 vv UU'.heap LL ∧ FrameEnd UU oo UU' LL ({ frames := 2, cells := 0, slots := 0, locals := 24 } : Room).cells ({ frames := 2, cells := 0, slots := 0, locals := 24 } : Room).slots) := by
  refine MetFree.of_bodySF (plainFor_of_name pn_3) hisR ?_
  intro p e s m args below meth c s₁ Bd hml0 hP hK
  obtain ⟨rfl, hZ, hh⟩ := hP
  have hx := Bd.exec
  have hby := Bd.bytes
  have hml : c.maxLocals = 1 := hml0
  have hown : s.vm.findClass "java/util/HashMap" = some m.cls := findClass_of_methodNamed Bd.named
  have hnm := (name_of_methodNamed Bd.named Bd.method).1
  have X0 : Stand p l e ({ frames := 2, cells := 0, slots := 0, locals := 24 } : Room) s m #[(.ref a)] below meth c s₁ [] 0 0 := Stand.of_body Bd
  have e0 : s₁.heap = h0 := by rw [← hh, Bd.state]; rfl
  have N0 := Fr.nil n0
  have pre0 : ∀ t, Steps p.tables e below (s₁.setTop (mkF m 0 #[.val (.ref a)] [])) t → Steps p.tables e below (s₁.setTop (entryFrame m #[(.ref a)] 1)) t := fun t k => castTop (ef_3 m a) k
  obtain ⟨_, _, ⟨T1, L1, k1, n1⟩, -, X1, ⟨Lc1, hQ1, l1, y1, z1⟩, st1⟩ := X0.specialBack hx (y := (⟨"java/util/AbstractMap", "<init>", "()V"⟩ : MethodName)) rfl hown (mvT hZ (hw _ (List.mem_of_getElem? (i := 16) rfl))) (mvT hZ (hw _ (List.mem_of_getElem? (i := 17) rfl))) (mvT hZ (hw _ (List.mem_of_getElem? (i := 21) rfl))) (by decide) (backOf (W := 0) (rmAM l Z a0 hw [] a h0 n0) hZ (hw _ (List.mem_of_getElem? (i := 21) rfl)) (hw _ (List.mem_of_getElem? (i := 20) rfl)) (by decide) (by decide)) (g := (mkF m 1 #[.val (.ref a)] [(.ref a)])) rfl (by rw [hml]; rfl) (Steps.refl _) (a := a) (argsL := []) (rest := []) (lenOf own_pd0 rfl) rfl (by show 2 * 0 + _ ≤ _; exact Nat.le_of_eq rfl) (hb hby d3_1) (fun _ _ => ⟨rfl, e0, (by decide : 0 + 0 ≤ _), (by decide : 0 + 0 ≤ _)⟩)
  dsimp only [Pt.U, Pt.locs, Pt.cells, Pt.slots] at X1 l1 y1 z1 st1 hQ1
  subst l1 y1 z1
  obtain ⟨rfl, N1q, e1⟩ := hQ1
  have N1 := Fr.app N0 N1q
  obtain ⟨T2, h2, X2, e2, W2, st2⟩ := putF X1 hx hZ hown (host := "") (Or.inl (hw _ (List.mem_of_getElem? (i := 24) rfl))) Via.refl e1 F_loadFactor E_a (Or.inr ⟨(hw _ (List.mem_of_getElem? (i := 25) rfl)), rfl, hnm⟩) (hw _ (List.mem_of_getElem? (i := 11) rfl)) (ty := .float) (by decide) rfl rfl (g := (mkF m 7 #[.val (.ref a)] [(.float (1061158912 : UInt32)), (.ref a)])) rfl rfl (hb hby d3_7)
  have Fw2 := Fld.same W2 F_loadFactor
  have N2 := Fr.snoc X2 N1 g_a
  have O2 := Old.wr O0 W2 g_a
  have K2 := Keep.wr (Keep.refl h0 [a]) W2 (Or.inl (List.mem_of_getElem? (i := 0) rfl))
  obtain ⟨fs, hr, hrun, hended, hW, hsame⟩ := X2.leave (v := none) (fun _ => rfl)
  refine ⟨_, _, pre0 _ ?_, hrun, hended, _, _, rfl, ?_, ⟨_, rfl⟩, hW, hsame.mono (by decide) (by decide)⟩
  · show Steps p.tables e below (s₁.setTop (mkF m 0 #[.val (.ref a)] [])) _
    refine XS.aloadN X0.here hx rfl (hb hby d3_0) rfl rfl ?_
    show Steps p.tables e below (s₁.setTop (mkF m 1 #[.val (.ref a)] [(.ref a)])) _
    refine st1.trans ?_
    show Steps p.tables e below (T1.setTop (mkF m 4 #[.val (.ref a)] [])) _
    refine XS.aloadN X1.here hx rfl (hb hby d3_4) rfl rfl ?_
    show Steps p.tables e below (T1.setTop (mkF m 5 #[.val (.ref a)] [(.ref a)])) _
    refine X1.ldcFloatC hx hown (mvT hZ (hw _ (List.mem_of_getElem? (i := 23) rfl))) (g := (mkF m 5 #[.val (.ref a)] [(.ref a)])) rfl (hb hby d3_5) _ ?_
    show Steps p.tables e below (T1.setTop (mkF m 7 #[.val (.ref a)] [(.float (1061158912 : UInt32)), (.ref a)])) _
    refine st2 _ ?_
    show Steps p.tables e below (T2.setTop (mkF m 10 #[.val (.ref a)] [])) _
    exact X2.returnOut hx Bd.returns (hb hby d3_10) hr
  · show Qd1 Z a h0 n0 _ T2.heap _
    rw [e2]
    exact ⟨rfl, N2, K2⟩
theorem d11_0 : decode jdk_118_method_6_code 0 = .ok (.fload_n 0, 1) := by decide +kernel
theorem d11_1 : decode jdk_118_method_6_code 1 = .ok (.fload_n 0, 1) := by decide +kernel
theorem d11_2 : decode jdk_118_method_6_code 2 = .ok (.fcmp .l, 1) := by decide +kernel
theorem d11_3 : decode jdk_118_method_6_code 3 = .ok (.ifCond .eq 7, 3) := by decide +kernel
theorem d11_10 : decode jdk_118_method_6_code 10 = .ok (.iconst 0, 1) := by decide +kernel
theorem d11_11 : decode jdk_118_method_6_code 11 = .ok (.ireturn, 1) := by decide +kernel
theorem ef_11 (m : MethodId) (x0 : UInt32) : entryFrame m #[(.float x0)] 1 = mkF m 0 #[.val (.float x0)] [] := by first | (simp [entryFrame, mkF, argsToLocals, Value.category]; done) | rfl
theorem pn_11 : plainFor (⟨"java/lang/Float", "isNaN", "(F)Z"⟩ : MethodName) = true := by decide +kernel
def Qd2 (Z : State) (h0 : Heap) (n0 : Nat) (v : Option Value) (h : Heap) (L : List Loc) : Prop := v = some (.int 0) ∧ Fr n0 L ∧ h = h0
set_option maxRecDepth 65536 in
set_option maxHeartbeats 40000000 in
theorem rmNaN (l : Launch) (Z : State) (a0 : Array Value) (hw : ∀ d ∈ tables_1, d.before a0 Z = true) (ws : List Jvm.Cond) (h0 : Heap) (n0 : Nat) :
    MetFree l (⟨"java/lang/Float", "isNaN", "(F)Z"⟩ : MethodName) (head1 (Jvm.Cond.code (⟨"java/lang/Float", "isNaN", "(F)Z"⟩ : MethodName) jdk_118_method_6_code 1 (some .boolean) :: ws) ({ frames := 0, cells := 0, slots := 0, locals := 0 } : Room)) (fun qq U => qq = #[(.float (1061158912 : UInt32))] ∧ Z.Warmed39 U.vm ∧ U.heap = h0) (fun _ _ _ _ _ => True) (fun _ UU oo UU' => ∃ vv LL, oo = .returned vv ∧ Qd2 Z h0 n0 vv UU'.heap LL ∧ FrameEnd UU oo UU' LL ({ frames := 0, cells := 0, slots := 0, locals := 0 } : Room).cells ({ frames := 0, cells := 0, slots := 0, locals := 0 } : Room).slots) := by
  refine MetFree.of_bodySF pn_11 hisR ?_
  intro p e s m args below meth c s₁ Bd hml0 hP hK
  obtain ⟨rfl, hZ, hh⟩ := hP
  have hx := Bd.exec
  have hby := Bd.bytes
  have hml : c.maxLocals = 1 := hml0
  have hown : s.vm.findClass "java/lang/Float" = some m.cls := findClass_of_methodNamed Bd.named
  have hnm := (name_of_methodNamed Bd.named Bd.method).1
  have X0 : Stand p l e ({ frames := 0, cells := 0, slots := 0, locals := 0 } : Room) s m #[(.float (1061158912 : UInt32))] below meth c s₁ [] 0 0 := Stand.of_body Bd
  have e0 : s₁.heap = h0 := by rw [← hh, Bd.state]; rfl
  have N0 := Fr.nil n0
  have pre0 : ∀ t, Steps p.tables e below (s₁.setTop (mkF m 0 #[.val (.float (1061158912 : UInt32))] [])) t → Steps p.tables e below (s₁.setTop (entryFrame m #[(.float (1061158912 : UInt32))] 1)) t := fun t k => castTop (ef_11 m (1061158912 : UInt32)) k
  obtain ⟨fs, hr, hrun, hended, hW, hsame⟩ := X0.leave (v := some (.int (0 : Int32))) (fun h => by rw [Bd.returns] at h; cases h)
  refine ⟨_, _, pre0 _ ?_, hrun, hended, _, _, rfl, ?_, ⟨_, rfl⟩, hW, hsame.mono (by decide) (by decide)⟩
  · show Steps p.tables e below (s₁.setTop (mkF m 0 #[.val (.float (1061158912 : UInt32))] [])) _
    refine own_floadN X0.here hx rfl (hb hby d11_0) rfl ?_
    show Steps p.tables e below (s₁.setTop (mkF m 1 #[.val (.float (1061158912 : UInt32))] [(.float (1061158912 : UInt32))])) _
    refine own_floadN X0.here hx rfl (hb hby d11_1) rfl ?_
    show Steps p.tables e below (s₁.setTop (mkF m 2 #[.val (.float (1061158912 : UInt32))] [(.float (1061158912 : UInt32)), (.float (1061158912 : UInt32))])) _
    refine own_fcmp X0.here hx rfl (hb hby d11_2) rfl ?_
    show Steps p.tables e below (s₁.setTop (mkF m 3 #[.val (.float (1061158912 : UInt32))] [(.int (cmpValue (FP.fcmp (1061158912 : UInt32) (1061158912 : UInt32)) .l))])) _
    refine XS.ifYes X0.here hx rfl (pc0 := 3) (pc' := 10) rfl (hb hby d11_3) rfl ((if0 _ _).trans (teq (by decide +kernel : (cmpValue (FP.fcmp (1061158912 : UInt32) (1061158912 : UInt32)) .l) = (0 : Int32))).1) (by decide) (by decide) ?_
    show Steps p.tables e below (s₁.setTop (mkF m 10 #[.val (.float (1061158912 : UInt32))] [])) _
    refine XS.iconst X0.here hx rfl (hb hby d11_10) ?_
    show Steps p.tables e below (s₁.setTop (mkF m 11 #[.val (.float (1061158912 : UInt32))] [(.int (0 : Int32))])) _
    exact retN X0 hx (t := .boolean) Bd.returns (by simp) (hb hby d11_11) hr
  · show Qd2 Z h0 n0 _ s₁.heap _
    rw [e0]
    exact ⟨rfl, N0, rfl⟩
theorem d13_0 : decode jdk_33_method_47_code 0 = .ok (.iload_n 0, 1) := by decide +kernel
theorem d13_1 : decode jdk_33_method_47_code 1 = .ok (.ifCond .gt 14, 3) := by decide +kernel
theorem d13_15 : decode jdk_33_method_47_code 15 = .ok (.bipush 31, 2) := by decide +kernel
theorem d13_17 : decode jdk_33_method_47_code 17 = .ok (.istore_n 1, 1) := by decide +kernel
theorem d13_18 : decode jdk_33_method_47_code 18 = .ok (.iload_n 0, 1) := by decide +kernel
theorem d13_19 : decode jdk_33_method_47_code 19 = .ok (.ldc_w 264, 3) := by decide +kernel
theorem d13_22 : decode jdk_33_method_47_code 22 = .ok (.if_icmp .lt 11, 3) := by decide +kernel
theorem d13_33 : decode jdk_33_method_47_code 33 = .ok (.iload_n 0, 1) := by decide +kernel
theorem d13_34 : decode jdk_33_method_47_code 34 = .ok (.sipush 256, 3) := by decide +kernel
theorem d13_37 : decode jdk_33_method_47_code 37 = .ok (.if_icmp .lt 11, 3) := by decide +kernel
theorem d13_48 : decode jdk_33_method_47_code 48 = .ok (.iload_n 0, 1) := by decide +kernel
theorem d13_49 : decode jdk_33_method_47_code 49 = .ok (.bipush 16, 2) := by decide +kernel
theorem d13_51 : decode jdk_33_method_47_code 51 = .ok (.if_icmp .lt 10, 3) := by decide +kernel
theorem d13_61 : decode jdk_33_method_47_code 61 = .ok (.iload_n 0, 1) := by decide +kernel
theorem d13_62 : decode jdk_33_method_47_code 62 = .ok (.iconst 4, 1) := by decide +kernel
theorem d13_63 : decode jdk_33_method_47_code 63 = .ok (.if_icmp .lt 10, 3) := by decide +kernel
theorem d13_66 : decode jdk_33_method_47_code 66 = .ok (.iinc 1 (-2), 3) := by decide +kernel
theorem d13_69 : decode jdk_33_method_47_code 69 = .ok (.iload_n 0, 1) := by decide +kernel
theorem d13_70 : decode jdk_33_method_47_code 70 = .ok (.iconst 2, 1) := by decide +kernel
theorem d13_71 : decode jdk_33_method_47_code 71 = .ok (.iushr, 1) := by decide +kernel
theorem d13_72 : decode jdk_33_method_47_code 72 = .ok (.istore_n 0, 1) := by decide +kernel
theorem d13_73 : decode jdk_33_method_47_code 73 = .ok (.iload_n 1, 1) := by decide +kernel
theorem d13_74 : decode jdk_33_method_47_code 74 = .ok (.iload_n 0, 1) := by decide +kernel
theorem d13_75 : decode jdk_33_method_47_code 75 = .ok (.iconst 1, 1) := by decide +kernel
theorem d13_76 : decode jdk_33_method_47_code 76 = .ok (.iushr, 1) := by decide +kernel
theorem d13_77 : decode jdk_33_method_47_code 77 = .ok (.isub, 1) := by decide +kernel
theorem d13_78 : decode jdk_33_method_47_code 78 = .ok (.ireturn, 1) := by decide +kernel
theorem ef_13 (m : MethodId) (x0 : Int32) : entryFrame m #[(.int x0)] 2 = mkF m 0 #[.val (.int x0), .unset] [] := by first | (simp [entryFrame, mkF, argsToLocals, Value.category]; done) | rfl
theorem pn_13 : plainName "java/lang/Integer" = true := by first | (simp [plainName, overriddenIn]; done) | decide +kernel
def Qd3 (Z : State) (h0 : Heap) (n0 : Nat) (v : Option Value) (h : Heap) (L : List Loc) : Prop := v = some (.int 28) ∧ Fr n0 L ∧ h = h0
set_option maxRecDepth 65536 in
set_option maxHeartbeats 40000000 in
theorem rmNLZ (l : Launch) (Z : State) (a0 : Array Value) (hw : ∀ d ∈ tables_1, d.before a0 Z = true) (ws : List Jvm.Cond) (h0 : Heap) (n0 : Nat) :
    MetFree l (⟨"java/lang/Integer", "numberOfLeadingZeros", "(I)I"⟩ : MethodName) (head1 (Jvm.Cond.code (⟨"java/lang/Integer", "numberOfLeadingZeros", "(I)I"⟩ : MethodName) jdk_33_method_47_code 2 (some .int) :: ws) ({ frames := 0, cells := 0, slots := 0, locals := 0 } : Room)) (fun qq U => qq = #[(.int ((16 : Int32) - (1 : Int32)))] ∧ Z.Warmed39 U.vm ∧ U.heap = h0) (fun _ _ _ _ _ => True) (fun _ UU oo UU' => ∃ vv LL, oo = .returned vv ∧ Qd3 Z h0 n0 vv UU'.heap LL ∧ FrameEnd UU oo UU' LL ({ frames := 0, cells := 0, slots := 0, locals := 0 } : Room).cells ({ frames := 0, cells := 0, slots := 0, locals := 0 } : Room).slots) := by
  refine MetFree.of_bodySF (plainFor_of_name pn_13) hisR ?_
  intro p e s m args below meth c s₁ Bd hml0 hP hK
  obtain ⟨rfl, hZ, hh⟩ := hP
  have hx := Bd.exec
  have hby := Bd.bytes
  have hml : c.maxLocals = 2 := hml0
  have hown : s.vm.findClass "java/lang/Integer" = some m.cls := findClass_of_methodNamed Bd.named
  have hnm := (name_of_methodNamed Bd.named Bd.method).1
  have X0 : Stand p l e ({ frames := 0, cells := 0, slots := 0, locals := 0 } : Room) s m #[(.int ((16 : Int32) - (1 : Int32)))] below meth c s₁ [] 0 0 := Stand.of_body Bd
  have e0 : s₁.heap = h0 := by rw [← hh, Bd.state]; rfl
  have N0 := Fr.nil n0
  have pre0 : ∀ t, Steps p.tables e below (s₁.setTop (mkF m 0 #[.val (.int ((16 : Int32) - (1 : Int32))), .unset] [])) t → Steps p.tables e below (s₁.setTop (entryFrame m #[(.int ((16 : Int32) - (1 : Int32)))] 2)) t := fun t k => castTop (ef_13 m ((16 : Int32) - (1 : Int32))) k
  obtain ⟨fs, hr, hrun, hended, hW, hsame⟩ := X0.leave (v := some (.int (((31 : Int32) + (-2 : Int32)) - ((((((16 : Int32) - (1 : Int32)).toUInt32 >>> ((2 : Int32) &&& 31).toUInt32).toInt32).toUInt32 >>> ((1 : Int32) &&& 31).toUInt32).toInt32)))) (fun h => by rw [Bd.returns] at h; cases h)
  refine ⟨_, _, pre0 _ ?_, hrun, hended, _, _, rfl, ?_, ⟨_, rfl⟩, hW, hsame.mono (by decide) (by decide)⟩
  · show Steps p.tables e below (s₁.setTop (mkF m 0 #[.val (.int ((16 : Int32) - (1 : Int32))), .unset] [])) _
    refine XS.iloadN X0.here hx rfl (hb hby d13_0) rfl ?_
    show Steps p.tables e below (s₁.setTop (mkF m 1 #[.val (.int ((16 : Int32) - (1 : Int32))), .unset] [(.int ((16 : Int32) - (1 : Int32)))])) _
    refine XS.ifYes X0.here hx rfl (pc0 := 1) (pc' := 15) rfl (hb hby d13_1) rfl ((if0 _ _).trans (tlt (by decide : (0 : Int32) < ((16 : Int32) - (1 : Int32)))).2.2.1) (by decide) (by decide) ?_
    show Steps p.tables e below (s₁.setTop (mkF m 15 #[.val (.int ((16 : Int32) - (1 : Int32))), .unset] [])) _
    refine XS.bipush X0.here hx rfl (hb hby d13_15) ?_
    show Steps p.tables e below (s₁.setTop (mkF m 17 #[.val (.int ((16 : Int32) - (1 : Int32))), .unset] [(.int (31 : Int32))])) _
    refine XS.istoreN X0.here hx rfl (hb hby d13_17) rfl (l' := #[.val (.int ((16 : Int32) - (1 : Int32))), .val (.int (31 : Int32))]) rfl ?_
    show Steps p.tables e below (s₁.setTop (mkF m 18 #[.val (.int ((16 : Int32) - (1 : Int32))), .val (.int (31 : Int32))] [])) _
    refine XS.iloadN X0.here hx rfl (hb hby d13_18) rfl ?_
    show Steps p.tables e below (s₁.setTop (mkF m 19 #[.val (.int ((16 : Int32) - (1 : Int32))), .val (.int (31 : Int32))] [(.int ((16 : Int32) - (1 : Int32)))])) _
    refine X0.ldcwInt hx hown (mvT hZ (hw _ (List.mem_of_getElem? (i := 82) rfl))) (g := (mkF m 19 #[.val (.int ((16 : Int32) - (1 : Int32))), .val (.int (31 : Int32))] [(.int ((16 : Int32) - (1 : Int32)))])) rfl (hb hby d13_19) _ ?_
    show Steps p.tables e below (s₁.setTop (mkF m 22 #[.val (.int ((16 : Int32) - (1 : Int32))), .val (.int (31 : Int32))] [(.int (65536 : Int32)), (.int ((16 : Int32) - (1 : Int32)))])) _
    refine XS.icmpYes X0.here hx rfl (pc0 := 22) (pc' := 33) rfl (hb hby d13_22) rfl (tlt (by decide : ((16 : Int32) - (1 : Int32)) < (65536 : Int32))).1 (by decide) (by decide) ?_
    show Steps p.tables e below (s₁.setTop (mkF m 33 #[.val (.int ((16 : Int32) - (1 : Int32))), .val (.int (31 : Int32))] [])) _
    refine XS.iloadN X0.here hx rfl (hb hby d13_33) rfl ?_
    show Steps p.tables e below (s₁.setTop (mkF m 34 #[.val (.int ((16 : Int32) - (1 : Int32))), .val (.int (31 : Int32))] [(.int ((16 : Int32) - (1 : Int32)))])) _
    refine XS.sipush X0.here hx rfl (hb hby d13_34) ?_
    show Steps p.tables e below (s₁.setTop (mkF m 37 #[.val (.int ((16 : Int32) - (1 : Int32))), .val (.int (31 : Int32))] [(.int (256 : Int32)), (.int ((16 : Int32) - (1 : Int32)))])) _
    refine XS.icmpYes X0.here hx rfl (pc0 := 37) (pc' := 48) rfl (hb hby d13_37) rfl (tlt (by decide : ((16 : Int32) - (1 : Int32)) < (256 : Int32))).1 (by decide) (by decide) ?_
    show Steps p.tables e below (s₁.setTop (mkF m 48 #[.val (.int ((16 : Int32) - (1 : Int32))), .val (.int (31 : Int32))] [])) _
    refine XS.iloadN X0.here hx rfl (hb hby d13_48) rfl ?_
    show Steps p.tables e below (s₁.setTop (mkF m 49 #[.val (.int ((16 : Int32) - (1 : Int32))), .val (.int (31 : Int32))] [(.int ((16 : Int32) - (1 : Int32)))])) _
    refine XS.bipush X0.here hx rfl (hb hby d13_49) ?_
    show Steps p.tables e below (s₁.setTop (mkF m 51 #[.val (.int ((16 : Int32) - (1 : Int32))), .val (.int (31 : Int32))] [(.int (16 : Int32)), (.int ((16 : Int32) - (1 : Int32)))])) _
    refine XS.icmpYes X0.here hx rfl (pc0 := 51) (pc' := 61) rfl (hb hby d13_51) rfl (tlt (by decide : ((16 : Int32) - (1 : Int32)) < (16 : Int32))).1 (by decide) (by decide) ?_
    show Steps p.tables e below (s₁.setTop (mkF m 61 #[.val (.int ((16 : Int32) - (1 : Int32))), .val (.int (31 : Int32))] [])) _
    refine XS.iloadN X0.here hx rfl (hb hby d13_61) rfl ?_
    show Steps p.tables e below (s₁.setTop (mkF m 62 #[.val (.int ((16 : Int32) - (1 : Int32))), .val (.int (31 : Int32))] [(.int ((16 : Int32) - (1 : Int32)))])) _
    refine XS.iconst X0.here hx rfl (hb hby d13_62) ?_
    show Steps p.tables e below (s₁.setTop (mkF m 63 #[.val (.int ((16 : Int32) - (1 : Int32))), .val (.int (31 : Int32))] [(.int (4 : Int32)), (.int ((16 : Int32) - (1 : Int32)))])) _
    refine XS.icmpNo X0.here hx rfl (hb hby d13_63) rfl (flt (by decide : ¬ (((16 : Int32) - (1 : Int32)) < (4 : Int32)))).1 ?_
    show Steps p.tables e below (s₁.setTop (mkF m 66 #[.val (.int ((16 : Int32) - (1 : Int32))), .val (.int (31 : Int32))] [])) _
    refine XS.iinc X0.here hx rfl (hb hby d13_66) rfl (l' := #[.val (.int ((16 : Int32) - (1 : Int32))), .val (.int ((31 : Int32) + (-2 : Int32)))]) rfl ?_
    show Steps p.tables e below (s₁.setTop (mkF m 69 #[.val (.int ((16 : Int32) - (1 : Int32))), .val (.int ((31 : Int32) + (-2 : Int32)))] [])) _
    refine XS.iloadN X0.here hx rfl (hb hby d13_69) rfl ?_
    show Steps p.tables e below (s₁.setTop (mkF m 70 #[.val (.int ((16 : Int32) - (1 : Int32))), .val (.int ((31 : Int32) + (-2 : Int32)))] [(.int ((16 : Int32) - (1 : Int32)))])) _
    refine XS.iconst X0.here hx rfl (hb hby d13_70) ?_
    show Steps p.tables e below (s₁.setTop (mkF m 71 #[.val (.int ((16 : Int32) - (1 : Int32))), .val (.int ((31 : Int32) + (-2 : Int32)))] [(.int (2 : Int32)), (.int ((16 : Int32) - (1 : Int32)))])) _
    refine XS.iushr X0.here hx rfl (hb hby d13_71) rfl ?_
    show Steps p.tables e below (s₁.setTop (mkF m 72 #[.val (.int ((16 : Int32) - (1 : Int32))), .val (.int ((31 : Int32) + (-2 : Int32)))] [(.int ((((16 : Int32) - (1 : Int32)).toUInt32 >>> ((2 : Int32) &&& 31).toUInt32).toInt32))])) _
    refine XS.istoreN X0.here hx rfl (hb hby d13_72) rfl (l' := #[.val (.int ((((16 : Int32) - (1 : Int32)).toUInt32 >>> ((2 : Int32) &&& 31).toUInt32).toInt32)), .val (.int ((31 : Int32) + (-2 : Int32)))]) rfl ?_
    show Steps p.tables e below (s₁.setTop (mkF m 73 #[.val (.int ((((16 : Int32) - (1 : Int32)).toUInt32 >>> ((2 : Int32) &&& 31).toUInt32).toInt32)), .val (.int ((31 : Int32) + (-2 : Int32)))] [])) _
    refine XS.iloadN X0.here hx rfl (hb hby d13_73) rfl ?_
    show Steps p.tables e below (s₁.setTop (mkF m 74 #[.val (.int ((((16 : Int32) - (1 : Int32)).toUInt32 >>> ((2 : Int32) &&& 31).toUInt32).toInt32)), .val (.int ((31 : Int32) + (-2 : Int32)))] [(.int ((31 : Int32) + (-2 : Int32)))])) _
    refine XS.iloadN X0.here hx rfl (hb hby d13_74) rfl ?_
    show Steps p.tables e below (s₁.setTop (mkF m 75 #[.val (.int ((((16 : Int32) - (1 : Int32)).toUInt32 >>> ((2 : Int32) &&& 31).toUInt32).toInt32)), .val (.int ((31 : Int32) + (-2 : Int32)))] [(.int ((((16 : Int32) - (1 : Int32)).toUInt32 >>> ((2 : Int32) &&& 31).toUInt32).toInt32)), (.int ((31 : Int32) + (-2 : Int32)))])) _
    refine XS.iconst X0.here hx rfl (hb hby d13_75) ?_
    show Steps p.tables e below (s₁.setTop (mkF m 76 #[.val (.int ((((16 : Int32) - (1 : Int32)).toUInt32 >>> ((2 : Int32) &&& 31).toUInt32).toInt32)), .val (.int ((31 : Int32) + (-2 : Int32)))] [(.int (1 : Int32)), (.int ((((16 : Int32) - (1 : Int32)).toUInt32 >>> ((2 : Int32) &&& 31).toUInt32).toInt32)), (.int ((31 : Int32) + (-2 : Int32)))])) _
    refine XS.iushr X0.here hx rfl (hb hby d13_76) rfl ?_
    show Steps p.tables e below (s₁.setTop (mkF m 77 #[.val (.int ((((16 : Int32) - (1 : Int32)).toUInt32 >>> ((2 : Int32) &&& 31).toUInt32).toInt32)), .val (.int ((31 : Int32) + (-2 : Int32)))] [(.int ((((((16 : Int32) - (1 : Int32)).toUInt32 >>> ((2 : Int32) &&& 31).toUInt32).toInt32).toUInt32 >>> ((1 : Int32) &&& 31).toUInt32).toInt32)), (.int ((31 : Int32) + (-2 : Int32)))])) _
    refine XS.isub X0.here hx rfl (hb hby d13_77) rfl ?_
    show Steps p.tables e below (s₁.setTop (mkF m 78 #[.val (.int ((((16 : Int32) - (1 : Int32)).toUInt32 >>> ((2 : Int32) &&& 31).toUInt32).toInt32)), .val (.int ((31 : Int32) + (-2 : Int32)))] [(.int (((31 : Int32) + (-2 : Int32)) - ((((((16 : Int32) - (1 : Int32)).toUInt32 >>> ((2 : Int32) &&& 31).toUInt32).toInt32).toUInt32 >>> ((1 : Int32) &&& 31).toUInt32).toInt32)))])) _
    exact retI X0 hx Bd.returns (hb hby d13_78) hr
  · show Qd3 Z h0 n0 _ s₁.heap _
    rw [e0]
    exact ⟨by decide, N0, rfl⟩
theorem d12_0 : decode jdk_69_method_4_code 0 = .ok (.iconst (-1), 1) := by decide +kernel
theorem d12_1 : decode jdk_69_method_4_code 1 = .ok (.iload_n 0, 1) := by decide +kernel
theorem d12_2 : decode jdk_69_method_4_code 2 = .ok (.iconst 1, 1) := by decide +kernel
theorem d12_3 : decode jdk_69_method_4_code 3 = .ok (.isub, 1) := by decide +kernel
theorem d12_4 : decode jdk_69_method_4_code 4 = .ok (.invokestatic 34, 3) := by decide +kernel
theorem own_pd1 : parseMethodDescriptor "(I)I" = some ⟨[.int], some .int⟩ := by decide +kernel
theorem d12_7 : decode jdk_69_method_4_code 7 = .ok (.iushr, 1) := by decide +kernel
theorem d12_8 : decode jdk_69_method_4_code 8 = .ok (.istore_n 1, 1) := by decide +kernel
theorem d12_9 : decode jdk_69_method_4_code 9 = .ok (.iload_n 1, 1) := by decide +kernel
theorem d12_10 : decode jdk_69_method_4_code 10 = .ok (.ifCond .ge 7, 3) := by decide +kernel
theorem d12_17 : decode jdk_69_method_4_code 17 = .ok (.iload_n 1, 1) := by decide +kernel
theorem d12_18 : decode jdk_69_method_4_code 18 = .ok (.ldc 42, 2) := by decide +kernel
theorem d12_20 : decode jdk_69_method_4_code 20 = .ok (.if_icmp .lt 8, 3) := by decide +kernel
theorem d12_28 : decode jdk_69_method_4_code 28 = .ok (.iload_n 1, 1) := by decide +kernel
theorem d12_29 : decode jdk_69_method_4_code 29 = .ok (.iconst 1, 1) := by decide +kernel
theorem d12_30 : decode jdk_69_method_4_code 30 = .ok (.iadd, 1) := by decide +kernel
theorem d12_31 : decode jdk_69_method_4_code 31 = .ok (.ireturn, 1) := by decide +kernel
theorem ef_12 (m : MethodId) (x0 : Int32) : entryFrame m #[(.int x0)] 2 = mkF m 0 #[.val (.int x0), .unset] [] := by first | (simp [entryFrame, mkF, argsToLocals, Value.category]; done) | rfl
theorem pn_12 : plainName "java/util/HashMap" = true := by first | (simp [plainName, overriddenIn]; done) | decide +kernel
def Qd4 (Z : State) (h0 : Heap) (n0 : Nat) (v : Option Value) (h : Heap) (L : List Loc) : Prop := v = some (.int 16) ∧ Fr n0 L ∧ h = h0
set_option maxRecDepth 65536 in
set_option maxHeartbeats 40000000 in
theorem rmTS (l : Launch) (Z : State) (a0 : Array Value) (hw : ∀ d ∈ tables_1, d.before a0 Z = true) (ws : List Jvm.Cond) (h0 : Heap) (n0 : Nat) :
    MetFree l (⟨"java/util/HashMap", "tableSizeFor", "(I)I"⟩ : MethodName) (head1 (Jvm.Cond.code (⟨"java/util/HashMap", "tableSizeFor", "(I)I"⟩ : MethodName) jdk_69_method_4_code 2 (some .int) :: ws) ({ frames := 1, cells := 0, slots := 0, locals := 14 } : Room)) (fun qq U => qq = #[(.int (16 : Int32))] ∧ Z.Warmed39 U.vm ∧ U.heap = h0) (fun _ _ _ _ _ => True) (fun _ UU oo UU' => ∃ vv LL, oo = .returned vv ∧ Qd4 Z h0 n0 vv UU'.heap LL ∧ FrameEnd UU oo UU' LL ({ frames := 1, cells := 0, slots := 0, locals := 14 } : Room).cells ({ frames := 1, cells := 0, slots := 0, locals := 14 } : Room).slots) := by
  refine MetFree.of_bodySF (plainFor_of_name pn_12) hisR ?_
  intro p e s m args below meth c s₁ Bd hml0 hP hK
  obtain ⟨rfl, hZ, hh⟩ := hP
  have hx := Bd.exec
  have hby := Bd.bytes
  have hml : c.maxLocals = 2 := hml0
  have hown : s.vm.findClass "java/util/HashMap" = some m.cls := findClass_of_methodNamed Bd.named
  have hnm := (name_of_methodNamed Bd.named Bd.method).1
  have X0 : Stand p l e ({ frames := 1, cells := 0, slots := 0, locals := 14 } : Room) s m #[(.int (16 : Int32))] below meth c s₁ [] 0 0 := Stand.of_body Bd
  have e0 : s₁.heap = h0 := by rw [← hh, Bd.state]; rfl
  have N0 := Fr.nil n0
  have pre0 : ∀ t, Steps p.tables e below (s₁.setTop (mkF m 0 #[.val (.int (16 : Int32)), .unset] [])) t → Steps p.tables e below (s₁.setTop (entryFrame m #[(.int (16 : Int32))] 2)) t := fun t k => castTop (ef_12 m (16 : Int32)) k
  obtain ⟨_, _, ⟨T1, L1, k1, n1⟩, -, X1, ⟨Lc1, hQ1, l1, y1, z1⟩, st1⟩ := Jvm.LawKit.callS X0 hx (y := (⟨"java/lang/Integer", "numberOfLeadingZeros", "(I)I"⟩ : MethodName)) hown (mvT hZ (hw _ (List.mem_of_getElem? (i := 78) rfl))) (mvT hZ (hw _ (List.mem_of_getElem? (i := 79) rfl))) (mvT hZ (hw _ (List.mem_of_getElem? (i := 80) rfl))) (mvT hZ (hw _ (List.mem_of_getElem? (i := 81) rfl))) (by decide) (backOf (W := 1) (rmNLZ l Z a0 hw [] h0 n0) hZ (hw _ (List.mem_of_getElem? (i := 81) rfl)) (hw _ (List.mem_of_getElem? (i := 80) rfl)) (by decide) (by decide)) (g := (mkF m 4 #[.val (.int (16 : Int32)), .unset] [(.int ((16 : Int32) - (1 : Int32))), (.int (-1 : Int32))])) rfl (by rw [hml]; rfl) (argsL := [(.int ((16 : Int32) - (1 : Int32)))]) (rest := [(.int (-1 : Int32))]) (lenOf own_pd1 rfl) rfl (by show 2 * 0 + _ ≤ _; exact Nat.le_of_eq rfl) (hb hby d12_4) (fun _ _ => ⟨rfl, e0, (by decide : 0 + 0 ≤ _), (by decide : 0 + 0 ≤ _)⟩)
  dsimp only [Pt.U, Pt.locs, Pt.cells, Pt.slots] at X1 l1 y1 z1 st1 hQ1
  subst l1 y1 z1
  obtain ⟨rfl, N1q, e1⟩ := hQ1
  have N1 := Fr.app N0 N1q
  obtain ⟨fs, hr, hrun, hended, hW, hsame⟩ := X1.leave (v := some (.int ((((-1 : Int32).toUInt32 >>> ((28 : Int32) &&& 31).toUInt32).toInt32) + (1 : Int32)))) (fun h => by rw [Bd.returns] at h; cases h)
  refine ⟨_, _, pre0 _ ?_, hrun, hended, _, _, rfl, ?_, ⟨_, rfl⟩, hW, hsame.mono (by decide) (by decide)⟩
  · show Steps p.tables e below (s₁.setTop (mkF m 0 #[.val (.int (16 : Int32)), .unset] [])) _
    refine XS.iconst X0.here hx rfl (hb hby d12_0) ?_
    show Steps p.tables e below (s₁.setTop (mkF m 1 #[.val (.int (16 : Int32)), .unset] [(.int (-1 : Int32))])) _
    refine XS.iloadN X0.here hx rfl (hb hby d12_1) rfl ?_
    show Steps p.tables e below (s₁.setTop (mkF m 2 #[.val (.int (16 : Int32)), .unset] [(.int (16 : Int32)), (.int (-1 : Int32))])) _
    refine XS.iconst X0.here hx rfl (hb hby d12_2) ?_
    show Steps p.tables e below (s₁.setTop (mkF m 3 #[.val (.int (16 : Int32)), .unset] [(.int (1 : Int32)), (.int (16 : Int32)), (.int (-1 : Int32))])) _
    refine XS.isub X0.here hx rfl (hb hby d12_3) rfl ?_
    show Steps p.tables e below (s₁.setTop (mkF m 4 #[.val (.int (16 : Int32)), .unset] [(.int ((16 : Int32) - (1 : Int32))), (.int (-1 : Int32))])) _
    refine st1 _ ?_
    show Steps p.tables e below (T1.setTop (mkF m 7 #[.val (.int (16 : Int32)), .unset] [(.int (28 : Int32)), (.int (-1 : Int32))])) _
    refine XS.iushr X1.here hx rfl (hb hby d12_7) rfl ?_
    show Steps p.tables e below (T1.setTop (mkF m 8 #[.val (.int (16 : Int32)), .unset] [(.int (((-1 : Int32).toUInt32 >>> ((28 : Int32) &&& 31).toUInt32).toInt32))])) _
    refine XS.istoreN X1.here hx rfl (hb hby d12_8) rfl (l' := #[.val (.int (16 : Int32)), .val (.int (((-1 : Int32).toUInt32 >>> ((28 : Int32) &&& 31).toUInt32).toInt32))]) rfl ?_
    show Steps p.tables e below (T1.setTop (mkF m 9 #[.val (.int (16 : Int32)), .val (.int (((-1 : Int32).toUInt32 >>> ((28 : Int32) &&& 31).toUInt32).toInt32))] [])) _
    refine XS.iloadN X1.here hx rfl (hb hby d12_9) rfl ?_
    show Steps p.tables e below (T1.setTop (mkF m 10 #[.val (.int (16 : Int32)), .val (.int (((-1 : Int32).toUInt32 >>> ((28 : Int32) &&& 31).toUInt32).toInt32))] [(.int (((-1 : Int32).toUInt32 >>> ((28 : Int32) &&& 31).toUInt32).toInt32))])) _
    refine XS.ifYes X1.here hx rfl (pc0 := 10) (pc' := 17) rfl (hb hby d12_10) rfl ((if0 _ _).trans (flt (by decide : ¬ ((((-1 : Int32).toUInt32 >>> ((28 : Int32) &&& 31).toUInt32).toInt32) < (0 : Int32)))).2.1) (by decide) (by decide) ?_
    show Steps p.tables e below (T1.setTop (mkF m 17 #[.val (.int (16 : Int32)), .val (.int (((-1 : Int32).toUInt32 >>> ((28 : Int32) &&& 31).toUInt32).toInt32))] [])) _
    refine XS.iloadN X1.here hx rfl (hb hby d12_17) rfl ?_
    show Steps p.tables e below (T1.setTop (mkF m 18 #[.val (.int (16 : Int32)), .val (.int (((-1 : Int32).toUInt32 >>> ((28 : Int32) &&& 31).toUInt32).toInt32))] [(.int (((-1 : Int32).toUInt32 >>> ((28 : Int32) &&& 31).toUInt32).toInt32))])) _
    refine X1.ldcInt hx hown (mvT hZ (hw _ (List.mem_of_getElem? (i := 69) rfl))) (g := (mkF m 18 #[.val (.int (16 : Int32)), .val (.int (((-1 : Int32).toUInt32 >>> ((28 : Int32) &&& 31).toUInt32).toInt32))] [(.int (((-1 : Int32).toUInt32 >>> ((28 : Int32) &&& 31).toUInt32).toInt32))])) rfl (hb hby d12_18) _ ?_
    show Steps p.tables e below (T1.setTop (mkF m 20 #[.val (.int (16 : Int32)), .val (.int (((-1 : Int32).toUInt32 >>> ((28 : Int32) &&& 31).toUInt32).toInt32))] [(.int (1073741824 : Int32)), (.int (((-1 : Int32).toUInt32 >>> ((28 : Int32) &&& 31).toUInt32).toInt32))])) _
    refine XS.icmpYes X1.here hx rfl (pc0 := 20) (pc' := 28) rfl (hb hby d12_20) rfl (tlt (by decide : (((-1 : Int32).toUInt32 >>> ((28 : Int32) &&& 31).toUInt32).toInt32) < (1073741824 : Int32))).1 (by decide) (by decide) ?_
    show Steps p.tables e below (T1.setTop (mkF m 28 #[.val (.int (16 : Int32)), .val (.int (((-1 : Int32).toUInt32 >>> ((28 : Int32) &&& 31).toUInt32).toInt32))] [])) _
    refine XS.iloadN X1.here hx rfl (hb hby d12_28) rfl ?_
    show Steps p.tables e below (T1.setTop (mkF m 29 #[.val (.int (16 : Int32)), .val (.int (((-1 : Int32).toUInt32 >>> ((28 : Int32) &&& 31).toUInt32).toInt32))] [(.int (((-1 : Int32).toUInt32 >>> ((28 : Int32) &&& 31).toUInt32).toInt32))])) _
    refine XS.iconst X1.here hx rfl (hb hby d12_29) ?_
    show Steps p.tables e below (T1.setTop (mkF m 30 #[.val (.int (16 : Int32)), .val (.int (((-1 : Int32).toUInt32 >>> ((28 : Int32) &&& 31).toUInt32).toInt32))] [(.int (1 : Int32)), (.int (((-1 : Int32).toUInt32 >>> ((28 : Int32) &&& 31).toUInt32).toInt32))])) _
    refine XS.iadd X1.here hx rfl (hb hby d12_30) rfl ?_
    show Steps p.tables e below (T1.setTop (mkF m 31 #[.val (.int (16 : Int32)), .val (.int (((-1 : Int32).toUInt32 >>> ((28 : Int32) &&& 31).toUInt32).toInt32))] [(.int ((((-1 : Int32).toUInt32 >>> ((28 : Int32) &&& 31).toUInt32).toInt32) + (1 : Int32)))])) _
    exact retI X1 hx Bd.returns (hb hby d12_31) hr
  · show Qd4 Z h0 n0 _ T1.heap _
    rw [e1]
    exact ⟨by decide, N1, rfl⟩
theorem d10_0 : decode jdk_69_method_5_code 0 = .ok (.aload_n 0, 1) := by decide +kernel
theorem d10_1 : decode jdk_69_method_5_code 1 = .ok (.invokespecial 43, 3) := by decide +kernel
theorem d10_4 : decode jdk_69_method_5_code 4 = .ok (.iload_n 1, 1) := by decide +kernel
theorem d10_5 : decode jdk_69_method_5_code 5 = .ok (.ifCond .ge 30, 3) := by decide +kernel
theorem d10_35 : decode jdk_69_method_5_code 35 = .ok (.iload_n 1, 1) := by decide +kernel
theorem d10_36 : decode jdk_69_method_5_code 36 = .ok (.ldc 42, 2) := by decide +kernel
theorem d10_38 : decode jdk_69_method_5_code 38 = .ok (.if_icmp .le 6, 3) := by decide +kernel
theorem d10_44 : decode jdk_69_method_5_code 44 = .ok (.fload_n 2, 1) := by decide +kernel
theorem d10_45 : decode jdk_69_method_5_code 45 = .ok (.fconst 0, 1) := by decide +kernel
theorem d10_46 : decode jdk_69_method_5_code 46 = .ok (.fcmp .g, 1) := by decide +kernel
theorem d10_47 : decode jdk_69_method_5_code 47 = .ok (.ifCond .le 10, 3) := by decide +kernel
theorem d10_50 : decode jdk_69_method_5_code 50 = .ok (.fload_n 2, 1) := by decide +kernel
theorem d10_51 : decode jdk_69_method_5_code 51 = .ok (.invokestatic 70, 3) := by decide +kernel
theorem own_pd2 : parseMethodDescriptor "(F)Z" = some ⟨[.float], some .boolean⟩ := by decide +kernel
theorem d10_54 : decode jdk_69_method_5_code 54 = .ok (.ifCond .eq 30, 3) := by decide +kernel
theorem d10_84 : decode jdk_69_method_5_code 84 = .ok (.aload_n 0, 1) := by decide +kernel
theorem d10_85 : decode jdk_69_method_5_code 85 = .ok (.fload_n 2, 1) := by decide +kernel
theorem d10_86 : decode jdk_69_method_5_code 86 = .ok (.putfield 81, 3) := by decide +kernel
theorem d10_89 : decode jdk_69_method_5_code 89 = .ok (.aload_n 0, 1) := by decide +kernel
theorem d10_90 : decode jdk_69_method_5_code 90 = .ok (.iload_n 1, 1) := by decide +kernel
theorem d10_91 : decode jdk_69_method_5_code 91 = .ok (.invokestatic 85, 3) := by decide +kernel
theorem d10_94 : decode jdk_69_method_5_code 94 = .ok (.putfield 88, 3) := by decide +kernel
theorem d10_97 : decode jdk_69_method_5_code 97 = .ok (.return_, 1) := by decide +kernel
theorem ef_10 (m : MethodId) (x0 : Addr) (x1 : Int32) (x2 : UInt32) : entryFrame m #[(.ref x0), (.int x1), (.float x2)] 3 = mkF m 0 #[.val (.ref x0), .val (.int x1), .val (.float x2)] [] := by first | (simp [entryFrame, mkF, argsToLocals, Value.category]; done) | rfl
theorem pn_10 : plainName "java/util/HashMap" = true := by first | (simp [plainName, overriddenIn]; done) | decide +kernel
set_option maxRecDepth 65536 in
set_option maxHeartbeats 40000000 in
theorem rmHIF (l : Launch) (Z : State) (a0 : Array Value) (hw : ∀ d ∈ tables_1, d.before a0 Z = true) (ws : List Jvm.Cond) (a : Addr) (h0 : Heap) (n0 : Nat) (O0 : Old Z n0 h0) (g_a : n0 ≤ a) (E_a : Exa Z h0 a "java/util/LinkedHashMap") (F_loadFactor : Fld Z h0 a "java/util/HashMap" "loadFactor" "F" (.float (0 : UInt32))) (F_threshold : Fld Z h0 a "java/util/HashMap" "threshold" "I" (.int (0 : Int32))) :
    MetFree l (⟨"java/util/HashMap", "<init>", "(IF)V"⟩ : MethodName) (head1 (Jvm.Cond.code (⟨"java/util/HashMap", "<init>", "(IF)V"⟩ : MethodName) jdk_69_method_5_code 3 none :: ws) ({ frames := 2, cells := 0, slots := 0, locals := 28 } : Room)) (fun qq U => qq = #[(.ref a), (.int (16 : Int32)), (.float (1061158912 : UInt32))] ∧ Z.Warmed39 U.vm ∧ U.heap = h0) (fun _ _ _ _ _ => True) (fun _ UU oo UU' => ∃ vv LL, oo = .returned vv ∧ Qd1 Z a h0 n0 vv UU'.heap LL ∧ FrameEnd UU oo UU' LL ({ frames := 2, cells := 0, slots := 0, locals := 28 } : Room).cells ({ frames := 2, cells := 0, slots := 0, locals := 28 } : Room).slots) := by
  refine MetFree.of_bodySF (plainFor_of_name pn_10) hisR ?_
  intro p e s m args below meth c s₁ Bd hml0 hP hK
  obtain ⟨rfl, hZ, hh⟩ := hP
  have hx := Bd.exec
  have hby := Bd.bytes
  have hml : c.maxLocals = 3 := hml0
  have hown : s.vm.findClass "java/util/HashMap" = some m.cls := findClass_of_methodNamed Bd.named
  have hnm := (name_of_methodNamed Bd.named Bd.method).1
  have X0 : Stand p l e ({ frames := 2, cells := 0, slots := 0, locals := 28 } : Room) s m #[(.ref a), (.int (16 : Int32)), (.float (1061158912 : UInt32))] below meth c s₁ [] 0 0 := Stand.of_body Bd
  have e0 : s₁.heap = h0 := by rw [← hh, Bd.state]; rfl
  have N0 := Fr.nil n0
  have pre0 : ∀ t, Steps p.tables e below (s₁.setTop (mkF m 0 #[.val (.ref a), .val (.int (16 : Int32)), .val (.float (1061158912 : UInt32))] [])) t → Steps p.tables e below (s₁.setTop (entryFrame m #[(.ref a), (.int (16 : Int32)), (.float (1061158912 : UInt32))] 3)) t := fun t k => castTop (ef_10 m a (16 : Int32) (1061158912 : UInt32)) k
  obtain ⟨_, _, ⟨T1, L1, k1, n1⟩, -, X1, ⟨Lc1, hQ1, l1, y1, z1⟩, st1⟩ := X0.specialBack hx (y := (⟨"java/util/AbstractMap", "<init>", "()V"⟩ : MethodName)) rfl hown (mvT hZ (hw _ (List.mem_of_getElem? (i := 16) rfl))) (mvT hZ (hw _ (List.mem_of_getElem? (i := 17) rfl))) (mvT hZ (hw _ (List.mem_of_getElem? (i := 21) rfl))) (by decide) (backOf (W := 0) (rmAM l Z a0 hw [] a h0 n0) hZ (hw _ (List.mem_of_getElem? (i := 21) rfl)) (hw _ (List.mem_of_getElem? (i := 20) rfl)) (by decide) (by decide)) (g := (mkF m 1 #[.val (.ref a), .val (.int (16 : Int32)), .val (.float (1061158912 : UInt32))] [(.ref a)])) rfl (by rw [hml]; rfl) (Steps.refl _) (a := a) (argsL := []) (rest := []) (lenOf own_pd0 rfl) rfl (by show 2 * 0 + _ ≤ _; exact Nat.le_of_eq rfl) (hb hby d10_1) (fun _ _ => ⟨rfl, e0, (by decide : 0 + 0 ≤ _), (by decide : 0 + 0 ≤ _)⟩)
  dsimp only [Pt.U, Pt.locs, Pt.cells, Pt.slots] at X1 l1 y1 z1 st1 hQ1
  subst l1 y1 z1
  obtain ⟨rfl, N1q, e1⟩ := hQ1
  have N1 := Fr.app N0 N1q
  obtain ⟨_, _, ⟨T2, L2, k2, n2⟩, -, X2, ⟨Lc2, hQ2, l2, y2, z2⟩, st2⟩ := Jvm.LawKit.callS X1 hx (y := (⟨"java/lang/Float", "isNaN", "(F)Z"⟩ : MethodName)) hown (mvT hZ (hw _ (List.mem_of_getElem? (i := 70) rfl))) (mvT hZ (hw _ (List.mem_of_getElem? (i := 71) rfl))) (mvT hZ (hw _ (List.mem_of_getElem? (i := 72) rfl))) (mvT hZ (hw _ (List.mem_of_getElem? (i := 73) rfl))) (by decide) (backOf (W := 0) (rmNaN l Z a0 hw [] h0 n0) hZ (hw _ (List.mem_of_getElem? (i := 73) rfl)) (hw _ (List.mem_of_getElem? (i := 72) rfl)) (by decide) (by decide)) (g := (mkF m 51 #[.val (.ref a), .val (.int (16 : Int32)), .val (.float (1061158912 : UInt32))] [(.float (1061158912 : UInt32))])) rfl (by rw [hml]; rfl) (argsL := [(.float (1061158912 : UInt32))]) (rest := []) (lenOf own_pd2 rfl) rfl (by show 2 * 0 + _ ≤ _; exact Nat.le_of_eq rfl) (hb hby d10_51) (fun _ _ => ⟨rfl, e1, (by decide : 0 + 0 ≤ _), (by decide : 0 + 0 ≤ _)⟩)
  dsimp only [Pt.U, Pt.locs, Pt.cells, Pt.slots] at X2 l2 y2 z2 st2 hQ2
  subst l2 y2 z2
  obtain ⟨rfl, N2q, e2⟩ := hQ2
  have N2 := Fr.app N1 N2q
  obtain ⟨T3, h3, X3, e3, W3, st3⟩ := putF X2 hx hZ hown (host := "") (Or.inl (hw _ (List.mem_of_getElem? (i := 24) rfl))) Via.refl e2 F_loadFactor E_a (Or.inr ⟨(hw _ (List.mem_of_getElem? (i := 74) rfl)), rfl, hnm⟩) (hw _ (List.mem_of_getElem? (i := 57) rfl)) (ty := .float) (by decide) rfl rfl (g := (mkF m 86 #[.val (.ref a), .val (.int (16 : Int32)), .val (.float (1061158912 : UInt32))] [(.float (1061158912 : UInt32)), (.ref a)])) rfl rfl (hb hby d10_86)
  have Fw3 := Fld.same W3 F_loadFactor
  have N3 := Fr.snoc X3 N2 g_a
  have O3 := Old.wr O0 W3 g_a
  have K3 := Keep.wr (Keep.refl h0 [a]) W3 (Or.inl (List.mem_of_getElem? (i := 0) rfl))
  obtain ⟨_, _, ⟨T4, L4, k4, n4⟩, -, X4, ⟨Lc4, hQ4, l4, y4, z4⟩, st4⟩ := Jvm.LawKit.callS X3 hx (y := (⟨"java/util/HashMap", "tableSizeFor", "(I)I"⟩ : MethodName)) hown (mvT hZ (hw _ (List.mem_of_getElem? (i := 75) rfl))) (mvT hZ (hw _ (List.mem_of_getElem? (i := 76) rfl))) (mvT hZ (hw _ (List.mem_of_getElem? (i := 12) rfl))) (mvT hZ (hw _ (List.mem_of_getElem? (i := 77) rfl))) (by decide) (backOf (W := 1) (rmTS l Z a0 hw [] h3 n0) hZ (hw _ (List.mem_of_getElem? (i := 77) rfl)) (hw _ (List.mem_of_getElem? (i := 12) rfl)) (by decide) (by decide)) (g := (mkF m 91 #[.val (.ref a), .val (.int (16 : Int32)), .val (.float (1061158912 : UInt32))] [(.int (16 : Int32)), (.ref a)])) rfl (by rw [hml]; rfl) (argsL := [(.int (16 : Int32))]) (rest := [(.ref a)]) (lenOf own_pd1 rfl) rfl (by show 2 * 0 + _ ≤ _; exact Nat.le_of_eq rfl) (hb hby d10_91) (fun _ _ => ⟨rfl, e3, (by decide : 0 + 0 ≤ _), (by decide : 0 + 0 ≤ _)⟩)
  dsimp only [Pt.U, Pt.locs, Pt.cells, Pt.slots] at X4 l4 y4 z4 st4 hQ4
  subst l4 y4 z4
  obtain ⟨rfl, N4q, e4⟩ := hQ4
  have N4 := Fr.app N3 N4q
  have c5 := (Fld.other W3 F_threshold (Or.inr (slot_ne (a0 := a0) (Or.inl (hw _ (List.mem_of_getElem? (i := 84) rfl))) (Or.inr (hw _ (List.mem_of_getElem? (i := 74) rfl))) (by decide) (t := .int) (t' := .float) (by decide) (by decide))))
  obtain ⟨T6, h6, X6, e6, W6, st6⟩ := putF X4 hx hZ hown (host := "") (Or.inl (hw _ (List.mem_of_getElem? (i := 83) rfl))) Via.refl e4 c5 (Exa.wr W3 E_a) (Or.inl (hw _ (List.mem_of_getElem? (i := 84) rfl))) (hw _ (List.mem_of_getElem? (i := 57) rfl)) (ty := .int) (by decide) rfl rfl (g := (mkF m 94 #[.val (.ref a), .val (.int (16 : Int32)), .val (.float (1061158912 : UInt32))] [(.int (16 : Int32)), (.ref a)])) rfl rfl (hb hby d10_94)
  have Fw6 := Fld.same W6 c5
  have N6 := Fr.snoc X6 N4 g_a
  have O6 := Old.wr O3 W6 g_a
  have K6 := Keep.wr K3 W6 (Or.inl (List.mem_of_getElem? (i := 0) rfl))
  obtain ⟨fs, hr, hrun, hended, hW, hsame⟩ := X6.leave (v := none) (fun _ => rfl)
  refine ⟨_, _, pre0 _ ?_, hrun, hended, _, _, rfl, ?_, ⟨_, rfl⟩, hW, hsame.mono (by decide) (by decide)⟩
  · show Steps p.tables e below (s₁.setTop (mkF m 0 #[.val (.ref a), .val (.int (16 : Int32)), .val (.float (1061158912 : UInt32))] [])) _
    refine XS.aloadN X0.here hx rfl (hb hby d10_0) rfl rfl ?_
    show Steps p.tables e below (s₁.setTop (mkF m 1 #[.val (.ref a), .val (.int (16 : Int32)), .val (.float (1061158912 : UInt32))] [(.ref a)])) _
    refine st1.trans ?_
    show Steps p.tables e below (T1.setTop (mkF m 4 #[.val (.ref a), .val (.int (16 : Int32)), .val (.float (1061158912 : UInt32))] [])) _
    refine XS.iloadN X1.here hx rfl (hb hby d10_4) rfl ?_
    show Steps p.tables e below (T1.setTop (mkF m 5 #[.val (.ref a), .val (.int (16 : Int32)), .val (.float (1061158912 : UInt32))] [(.int (16 : Int32))])) _
    refine XS.ifYes X1.here hx rfl (pc0 := 5) (pc' := 35) rfl (hb hby d10_5) rfl ((if0 _ _).trans (flt (by decide : ¬ ((16 : Int32) < (0 : Int32)))).2.1) (by decide) (by decide) ?_
    show Steps p.tables e below (T1.setTop (mkF m 35 #[.val (.ref a), .val (.int (16 : Int32)), .val (.float (1061158912 : UInt32))] [])) _
    refine XS.iloadN X1.here hx rfl (hb hby d10_35) rfl ?_
    show Steps p.tables e below (T1.setTop (mkF m 36 #[.val (.ref a), .val (.int (16 : Int32)), .val (.float (1061158912 : UInt32))] [(.int (16 : Int32))])) _
    refine X1.ldcInt hx hown (mvT hZ (hw _ (List.mem_of_getElem? (i := 69) rfl))) (g := (mkF m 36 #[.val (.ref a), .val (.int (16 : Int32)), .val (.float (1061158912 : UInt32))] [(.int (16 : Int32))])) rfl (hb hby d10_36) _ ?_
    show Steps p.tables e below (T1.setTop (mkF m 38 #[.val (.ref a), .val (.int (16 : Int32)), .val (.float (1061158912 : UInt32))] [(.int (1073741824 : Int32)), (.int (16 : Int32))])) _
    refine XS.icmpYes X1.here hx rfl (pc0 := 38) (pc' := 44) rfl (hb hby d10_38) rfl (flt (by decide : ¬ ((1073741824 : Int32) < (16 : Int32)))).2.2.2 (by decide) (by decide) ?_
    show Steps p.tables e below (T1.setTop (mkF m 44 #[.val (.ref a), .val (.int (16 : Int32)), .val (.float (1061158912 : UInt32))] [])) _
    refine own_floadN X1.here hx rfl (hb hby d10_44) rfl ?_
    show Steps p.tables e below (T1.setTop (mkF m 45 #[.val (.ref a), .val (.int (16 : Int32)), .val (.float (1061158912 : UInt32))] [(.float (1061158912 : UInt32))])) _
    refine own_fconst X1.here hx rfl (hb hby d10_45) ?_
    show Steps p.tables e below (T1.setTop (mkF m 46 #[.val (.ref a), .val (.int (16 : Int32)), .val (.float (1061158912 : UInt32))] [(.float (0 : UInt32)), (.float (1061158912 : UInt32))])) _
    refine own_fcmp X1.here hx rfl (hb hby d10_46) rfl ?_
    show Steps p.tables e below (T1.setTop (mkF m 47 #[.val (.ref a), .val (.int (16 : Int32)), .val (.float (1061158912 : UInt32))] [(.int (cmpValue (FP.fcmp (1061158912 : UInt32) (0 : UInt32)) .g))])) _
    refine XS.ifNo X1.here hx rfl (hb hby d10_47) rfl ((if0 _ _).trans (tlt (by decide +kernel : (0 : Int32) < (cmpValue (FP.fcmp (1061158912 : UInt32) (0 : UInt32)) .g))).2.2.2) ?_
    show Steps p.tables e below (T1.setTop (mkF m 50 #[.val (.ref a), .val (.int (16 : Int32)), .val (.float (1061158912 : UInt32))] [])) _
    refine own_floadN X1.here hx rfl (hb hby d10_50) rfl ?_
    show Steps p.tables e below (T1.setTop (mkF m 51 #[.val (.ref a), .val (.int (16 : Int32)), .val (.float (1061158912 : UInt32))] [(.float (1061158912 : UInt32))])) _
    refine st2 _ ?_
    show Steps p.tables e below (T2.setTop (mkF m 54 #[.val (.ref a), .val (.int (16 : Int32)), .val (.float (1061158912 : UInt32))] [(.int (0 : Int32))])) _
    refine XS.ifYes X2.here hx rfl (pc0 := 54) (pc' := 84) rfl (hb hby d10_54) rfl ((if0 _ _).trans (teq (by decide : (0 : Int32) = (0 : Int32))).1) (by decide) (by decide) ?_
    show Steps p.tables e below (T2.setTop (mkF m 84 #[.val (.ref a), .val (.int (16 : Int32)), .val (.float (1061158912 : UInt32))] [])) _
    refine XS.aloadN X2.here hx rfl (hb hby d10_84) rfl rfl ?_
    show Steps p.tables e below (T2.setTop (mkF m 85 #[.val (.ref a), .val (.int (16 : Int32)), .val (.float (1061158912 : UInt32))] [(.ref a)])) _
    refine own_floadN X2.here hx rfl (hb hby d10_85) rfl ?_
    show Steps p.tables e below (T2.setTop (mkF m 86 #[.val (.ref a), .val (.int (16 : Int32)), .val (.float (1061158912 : UInt32))] [(.float (1061158912 : UInt32)), (.ref a)])) _
    refine st3 _ ?_
    show Steps p.tables e below (T3.setTop (mkF m 89 #[.val (.ref a), .val (.int (16 : Int32)), .val (.float (1061158912 : UInt32))] [])) _
    refine XS.aloadN X3.here hx rfl (hb hby d10_89) rfl rfl ?_
    show Steps p.tables e below (T3.setTop (mkF m 90 #[.val (.ref a), .val (.int (16 : Int32)), .val (.float (1061158912 : UInt32))] [(.ref a)])) _
    refine XS.iloadN X3.here hx rfl (hb hby d10_90) rfl ?_
    show Steps p.tables e below (T3.setTop (mkF m 91 #[.val (.ref a), .val (.int (16 : Int32)), .val (.float (1061158912 : UInt32))] [(.int (16 : Int32)), (.ref a)])) _
    refine st4 _ ?_
    show Steps p.tables e below (T4.setTop (mkF m 94 #[.val (.ref a), .val (.int (16 : Int32)), .val (.float (1061158912 : UInt32))] [(.int (16 : Int32)), (.ref a)])) _
    refine st6 _ ?_
    show Steps p.tables e below (T6.setTop (mkF m 97 #[.val (.ref a), .val (.int (16 : Int32)), .val (.float (1061158912 : UInt32))] [])) _
    exact X6.returnOut hx Bd.returns (hb hby d10_97) hr
  · show Qd1 Z a h0 n0 _ T6.heap _
    rw [e6]
    exact ⟨rfl, N6, K6⟩
def Qd5 (Z : State) (a : Addr) (h0 : Heap) (n0 : Nat) (v : Option Value) (h : Heap) (L : List Loc) : Prop := v = none ∧ Fr n0 L ∧ Keep h0 h [a] ∧ Fld Z h a "java/util/LinkedHashMap" "putMode" "I" (.int (0 : Int32)) ∧ Fld Z h a "java/util/LinkedHashMap" "accessOrder" "Z" (.int (0 : Int32))
set_option maxRecDepth 65536 in
set_option maxHeartbeats 40000000 in
theorem rmHIFx (l : Launch) (Z : State) (a0 : Array Value) (hw : ∀ d ∈ tables_1, d.before a0 Z = true) (ws : List Jvm.Cond) (a : Addr) (h0 : Heap) (n0 : Nat) (O0 : Old Z n0 h0) (g_a : n0 ≤ a) (E_a : Exa Z h0 a "java/util/LinkedHashMap") (F_loadFactor : Fld Z h0 a "java/util/HashMap" "loadFactor" "F" (.float (0 : UInt32))) (F_threshold : Fld Z h0 a "java/util/HashMap" "threshold" "I" (.int (0 : Int32))) (F_putMode : Fld Z h0 a "java/util/LinkedHashMap" "putMode" "I" (.int (0 : Int32))) (F_accessOrder : Fld Z h0 a "java/util/LinkedHashMap" "accessOrder" "Z" (.int (0 : Int32))) :
    MetFree l (⟨"java/util/HashMap", "<init>", "(IF)V"⟩ : MethodName) (head1 (Jvm.Cond.code (⟨"java/util/HashMap", "<init>", "(IF)V"⟩ : MethodName) jdk_69_method_5_code 3 none :: ws) ({ frames := 2, cells := 0, slots := 0, locals := 28 } : Room)) (fun qq U => qq = #[(.ref a), (.int (16 : Int32)), (.float (1061158912 : UInt32))] ∧ Z.Warmed39 U.vm ∧ U.heap = h0) (fun _ _ _ _ _ => True) (fun _ UU oo UU' => ∃ vv LL, oo = .returned vv ∧ Qd5 Z a h0 n0 vv UU'.heap LL ∧ FrameEnd UU oo UU' LL ({ frames := 2, cells := 0, slots := 0, locals := 28 } : Room).cells ({ frames := 2, cells := 0, slots := 0, locals := 28 } : Room).slots) := by
  refine MetFree.of_bodySF (plainFor_of_name pn_10) hisR ?_
  intro p e s m args below meth c s₁ Bd hml0 hP hK
  obtain ⟨rfl, hZ, hh⟩ := hP
  have hx := Bd.exec
  have hby := Bd.bytes
  have hml : c.maxLocals = 3 := hml0
  have hown : s.vm.findClass "java/util/HashMap" = some m.cls := findClass_of_methodNamed Bd.named
  have hnm := (name_of_methodNamed Bd.named Bd.method).1
  have X0 : Stand p l e ({ frames := 2, cells := 0, slots := 0, locals := 28 } : Room) s m #[(.ref a), (.int (16 : Int32)), (.float (1061158912 : UInt32))] below meth c s₁ [] 0 0 := Stand.of_body Bd
  have e0 : s₁.heap = h0 := by rw [← hh, Bd.state]; rfl
  have N0 := Fr.nil n0
  have pre0 : ∀ t, Steps p.tables e below (s₁.setTop (mkF m 0 #[.val (.ref a), .val (.int (16 : Int32)), .val (.float (1061158912 : UInt32))] [])) t → Steps p.tables e below (s₁.setTop (entryFrame m #[(.ref a), (.int (16 : Int32)), (.float (1061158912 : UInt32))] 3)) t := fun t k => castTop (ef_10 m a (16 : Int32) (1061158912 : UInt32)) k
  obtain ⟨_, _, ⟨T1, L1, k1, n1⟩, -, X1, ⟨Lc1, hQ1, l1, y1, z1⟩, st1⟩ := X0.specialBack hx (y := (⟨"java/util/AbstractMap", "<init>", "()V"⟩ : MethodName)) rfl hown (mvT hZ (hw _ (List.mem_of_getElem? (i := 16) rfl))) (mvT hZ (hw _ (List.mem_of_getElem? (i := 17) rfl))) (mvT hZ (hw _ (List.mem_of_getElem? (i := 21) rfl))) (by decide) (backOf (W := 0) (rmAM l Z a0 hw [] a h0 n0) hZ (hw _ (List.mem_of_getElem? (i := 21) rfl)) (hw _ (List.mem_of_getElem? (i := 20) rfl)) (by decide) (by decide)) (g := (mkF m 1 #[.val (.ref a), .val (.int (16 : Int32)), .val (.float (1061158912 : UInt32))] [(.ref a)])) rfl (by rw [hml]; rfl) (Steps.refl _) (a := a) (argsL := []) (rest := []) (lenOf own_pd0 rfl) rfl (by show 2 * 0 + _ ≤ _; exact Nat.le_of_eq rfl) (hb hby d10_1) (fun _ _ => ⟨rfl, e0, (by decide : 0 + 0 ≤ _), (by decide : 0 + 0 ≤ _)⟩)
  dsimp only [Pt.U, Pt.locs, Pt.cells, Pt.slots] at X1 l1 y1 z1 st1 hQ1
  subst l1 y1 z1
  obtain ⟨rfl, N1q, e1⟩ := hQ1
  have N1 := Fr.app N0 N1q
  obtain ⟨_, _, ⟨T2, L2, k2, n2⟩, -, X2, ⟨Lc2, hQ2, l2, y2, z2⟩, st2⟩ := Jvm.LawKit.callS X1 hx (y := (⟨"java/lang/Float", "isNaN", "(F)Z"⟩ : MethodName)) hown (mvT hZ (hw _ (List.mem_of_getElem? (i := 70) rfl))) (mvT hZ (hw _ (List.mem_of_getElem? (i := 71) rfl))) (mvT hZ (hw _ (List.mem_of_getElem? (i := 72) rfl))) (mvT hZ (hw _ (List.mem_of_getElem? (i := 73) rfl))) (by decide) (backOf (W := 0) (rmNaN l Z a0 hw [] h0 n0) hZ (hw _ (List.mem_of_getElem? (i := 73) rfl)) (hw _ (List.mem_of_getElem? (i := 72) rfl)) (by decide) (by decide)) (g := (mkF m 51 #[.val (.ref a), .val (.int (16 : Int32)), .val (.float (1061158912 : UInt32))] [(.float (1061158912 : UInt32))])) rfl (by rw [hml]; rfl) (argsL := [(.float (1061158912 : UInt32))]) (rest := []) (lenOf own_pd2 rfl) rfl (by show 2 * 0 + _ ≤ _; exact Nat.le_of_eq rfl) (hb hby d10_51) (fun _ _ => ⟨rfl, e1, (by decide : 0 + 0 ≤ _), (by decide : 0 + 0 ≤ _)⟩)
  dsimp only [Pt.U, Pt.locs, Pt.cells, Pt.slots] at X2 l2 y2 z2 st2 hQ2
  subst l2 y2 z2
  obtain ⟨rfl, N2q, e2⟩ := hQ2
  have N2 := Fr.app N1 N2q
  obtain ⟨T3, h3, X3, e3, W3, st3⟩ := putF X2 hx hZ hown (host := "") (Or.inl (hw _ (List.mem_of_getElem? (i := 24) rfl))) Via.refl e2 F_loadFactor E_a (Or.inr ⟨(hw _ (List.mem_of_getElem? (i := 74) rfl)), rfl, hnm⟩) (hw _ (List.mem_of_getElem? (i := 57) rfl)) (ty := .float) (by decide) rfl rfl (g := (mkF m 86 #[.val (.ref a), .val (.int (16 : Int32)), .val (.float (1061158912 : UInt32))] [(.float (1061158912 : UInt32)), (.ref a)])) rfl rfl (hb hby d10_86)
  have Fw3 := Fld.same W3 F_loadFactor
  have N3 := Fr.snoc X3 N2 g_a
  have O3 := Old.wr O0 W3 g_a
  have K3 := Keep.wr (Keep.refl h0 [a]) W3 (Or.inl (List.mem_of_getElem? (i := 0) rfl))
  obtain ⟨_, _, ⟨T4, L4, k4, n4⟩, -, X4, ⟨Lc4, hQ4, l4, y4, z4⟩, st4⟩ := Jvm.LawKit.callS X3 hx (y := (⟨"java/util/HashMap", "tableSizeFor", "(I)I"⟩ : MethodName)) hown (mvT hZ (hw _ (List.mem_of_getElem? (i := 75) rfl))) (mvT hZ (hw _ (List.mem_of_getElem? (i := 76) rfl))) (mvT hZ (hw _ (List.mem_of_getElem? (i := 12) rfl))) (mvT hZ (hw _ (List.mem_of_getElem? (i := 77) rfl))) (by decide) (backOf (W := 1) (rmTS l Z a0 hw [] h3 n0) hZ (hw _ (List.mem_of_getElem? (i := 77) rfl)) (hw _ (List.mem_of_getElem? (i := 12) rfl)) (by decide) (by decide)) (g := (mkF m 91 #[.val (.ref a), .val (.int (16 : Int32)), .val (.float (1061158912 : UInt32))] [(.int (16 : Int32)), (.ref a)])) rfl (by rw [hml]; rfl) (argsL := [(.int (16 : Int32))]) (rest := [(.ref a)]) (lenOf own_pd1 rfl) rfl (by show 2 * 0 + _ ≤ _; exact Nat.le_of_eq rfl) (hb hby d10_91) (fun _ _ => ⟨rfl, e3, (by decide : 0 + 0 ≤ _), (by decide : 0 + 0 ≤ _)⟩)
  dsimp only [Pt.U, Pt.locs, Pt.cells, Pt.slots] at X4 l4 y4 z4 st4 hQ4
  subst l4 y4 z4
  obtain ⟨rfl, N4q, e4⟩ := hQ4
  have N4 := Fr.app N3 N4q
  have c5 := (Fld.other W3 F_threshold (Or.inr (slot_ne (a0 := a0) (Or.inl (hw _ (List.mem_of_getElem? (i := 84) rfl))) (Or.inr (hw _ (List.mem_of_getElem? (i := 74) rfl))) (by decide) (t := .int) (t' := .float) (by decide) (by decide))))
  obtain ⟨T6, h6, X6, e6, W6, st6⟩ := putF X4 hx hZ hown (host := "") (Or.inl (hw _ (List.mem_of_getElem? (i := 83) rfl))) Via.refl e4 c5 (Exa.wr W3 E_a) (Or.inl (hw _ (List.mem_of_getElem? (i := 84) rfl))) (hw _ (List.mem_of_getElem? (i := 57) rfl)) (ty := .int) (by decide) rfl rfl (g := (mkF m 94 #[.val (.ref a), .val (.int (16 : Int32)), .val (.float (1061158912 : UInt32))] [(.int (16 : Int32)), (.ref a)])) rfl rfl (hb hby d10_94)
  have Fw6 := Fld.same W6 c5
  have N6 := Fr.snoc X6 N4 g_a
  have O6 := Old.wr O3 W6 g_a
  have K6 := Keep.wr K3 W6 (Or.inl (List.mem_of_getElem? (i := 0) rfl))
  have c7 := (Fld.other W6 (Fld.other W3 F_putMode (Or.inr (slot_ne (a0 := a0) (Or.inl (hw _ (List.mem_of_getElem? (i := 86) rfl))) (Or.inr (hw _ (List.mem_of_getElem? (i := 74) rfl))) (by decide) (t := .int) (t' := .float) (by decide) (by decide)))) (Or.inr (slot_ne (a0 := a0) (Or.inl (hw _ (List.mem_of_getElem? (i := 86) rfl))) (Or.inl (hw _ (List.mem_of_getElem? (i := 84) rfl))) (by decide) (t := .int) (t' := .int) (by decide) (by decide))))
  have c8 := (Fld.other W6 (Fld.other W3 F_accessOrder (Or.inr (slot_ne (a0 := a0) (Or.inr (hw _ (List.mem_of_getElem? (i := 88) rfl))) (Or.inr (hw _ (List.mem_of_getElem? (i := 74) rfl))) (by decide) (t := .boolean) (t' := .float) (by decide) (by decide)))) (Or.inr (slot_ne (a0 := a0) (Or.inr (hw _ (List.mem_of_getElem? (i := 88) rfl))) (Or.inl (hw _ (List.mem_of_getElem? (i := 84) rfl))) (by decide) (t := .boolean) (t' := .int) (by decide) (by decide))))
  obtain ⟨fs, hr, hrun, hended, hW, hsame⟩ := X6.leave (v := none) (fun _ => rfl)
  refine ⟨_, _, pre0 _ ?_, hrun, hended, _, _, rfl, ?_, ⟨_, rfl⟩, hW, hsame.mono (by decide) (by decide)⟩
  · show Steps p.tables e below (s₁.setTop (mkF m 0 #[.val (.ref a), .val (.int (16 : Int32)), .val (.float (1061158912 : UInt32))] [])) _
    refine XS.aloadN X0.here hx rfl (hb hby d10_0) rfl rfl ?_
    show Steps p.tables e below (s₁.setTop (mkF m 1 #[.val (.ref a), .val (.int (16 : Int32)), .val (.float (1061158912 : UInt32))] [(.ref a)])) _
    refine st1.trans ?_
    show Steps p.tables e below (T1.setTop (mkF m 4 #[.val (.ref a), .val (.int (16 : Int32)), .val (.float (1061158912 : UInt32))] [])) _
    refine XS.iloadN X1.here hx rfl (hb hby d10_4) rfl ?_
    show Steps p.tables e below (T1.setTop (mkF m 5 #[.val (.ref a), .val (.int (16 : Int32)), .val (.float (1061158912 : UInt32))] [(.int (16 : Int32))])) _
    refine XS.ifYes X1.here hx rfl (pc0 := 5) (pc' := 35) rfl (hb hby d10_5) rfl ((if0 _ _).trans (flt (by decide : ¬ ((16 : Int32) < (0 : Int32)))).2.1) (by decide) (by decide) ?_
    show Steps p.tables e below (T1.setTop (mkF m 35 #[.val (.ref a), .val (.int (16 : Int32)), .val (.float (1061158912 : UInt32))] [])) _
    refine XS.iloadN X1.here hx rfl (hb hby d10_35) rfl ?_
    show Steps p.tables e below (T1.setTop (mkF m 36 #[.val (.ref a), .val (.int (16 : Int32)), .val (.float (1061158912 : UInt32))] [(.int (16 : Int32))])) _
    refine X1.ldcInt hx hown (mvT hZ (hw _ (List.mem_of_getElem? (i := 69) rfl))) (g := (mkF m 36 #[.val (.ref a), .val (.int (16 : Int32)), .val (.float (1061158912 : UInt32))] [(.int (16 : Int32))])) rfl (hb hby d10_36) _ ?_
    show Steps p.tables e below (T1.setTop (mkF m 38 #[.val (.ref a), .val (.int (16 : Int32)), .val (.float (1061158912 : UInt32))] [(.int (1073741824 : Int32)), (.int (16 : Int32))])) _
    refine XS.icmpYes X1.here hx rfl (pc0 := 38) (pc' := 44) rfl (hb hby d10_38) rfl (flt (by decide : ¬ ((1073741824 : Int32) < (16 : Int32)))).2.2.2 (by decide) (by decide) ?_
    show Steps p.tables e below (T1.setTop (mkF m 44 #[.val (.ref a), .val (.int (16 : Int32)), .val (.float (1061158912 : UInt32))] [])) _
    refine own_floadN X1.here hx rfl (hb hby d10_44) rfl ?_
    show Steps p.tables e below (T1.setTop (mkF m 45 #[.val (.ref a), .val (.int (16 : Int32)), .val (.float (1061158912 : UInt32))] [(.float (1061158912 : UInt32))])) _
    refine own_fconst X1.here hx rfl (hb hby d10_45) ?_
    show Steps p.tables e below (T1.setTop (mkF m 46 #[.val (.ref a), .val (.int (16 : Int32)), .val (.float (1061158912 : UInt32))] [(.float (0 : UInt32)), (.float (1061158912 : UInt32))])) _
    refine own_fcmp X1.here hx rfl (hb hby d10_46) rfl ?_
    show Steps p.tables e below (T1.setTop (mkF m 47 #[.val (.ref a), .val (.int (16 : Int32)), .val (.float (1061158912 : UInt32))] [(.int (cmpValue (FP.fcmp (1061158912 : UInt32) (0 : UInt32)) .g))])) _
    refine XS.ifNo X1.here hx rfl (hb hby d10_47) rfl ((if0 _ _).trans (tlt (by decide +kernel : (0 : Int32) < (cmpValue (FP.fcmp (1061158912 : UInt32) (0 : UInt32)) .g))).2.2.2) ?_
    show Steps p.tables e below (T1.setTop (mkF m 50 #[.val (.ref a), .val (.int (16 : Int32)), .val (.float (1061158912 : UInt32))] [])) _
    refine own_floadN X1.here hx rfl (hb hby d10_50) rfl ?_
    show Steps p.tables e below (T1.setTop (mkF m 51 #[.val (.ref a), .val (.int (16 : Int32)), .val (.float (1061158912 : UInt32))] [(.float (1061158912 : UInt32))])) _
    refine st2 _ ?_
    show Steps p.tables e below (T2.setTop (mkF m 54 #[.val (.ref a), .val (.int (16 : Int32)), .val (.float (1061158912 : UInt32))] [(.int (0 : Int32))])) _
    refine XS.ifYes X2.here hx rfl (pc0 := 54) (pc' := 84) rfl (hb hby d10_54) rfl ((if0 _ _).trans (teq (by decide : (0 : Int32) = (0 : Int32))).1) (by decide) (by decide) ?_
    show Steps p.tables e below (T2.setTop (mkF m 84 #[.val (.ref a), .val (.int (16 : Int32)), .val (.float (1061158912 : UInt32))] [])) _
    refine XS.aloadN X2.here hx rfl (hb hby d10_84) rfl rfl ?_
    show Steps p.tables e below (T2.setTop (mkF m 85 #[.val (.ref a), .val (.int (16 : Int32)), .val (.float (1061158912 : UInt32))] [(.ref a)])) _
    refine own_floadN X2.here hx rfl (hb hby d10_85) rfl ?_
    show Steps p.tables e below (T2.setTop (mkF m 86 #[.val (.ref a), .val (.int (16 : Int32)), .val (.float (1061158912 : UInt32))] [(.float (1061158912 : UInt32)), (.ref a)])) _
    refine st3 _ ?_
    show Steps p.tables e below (T3.setTop (mkF m 89 #[.val (.ref a), .val (.int (16 : Int32)), .val (.float (1061158912 : UInt32))] [])) _
    refine XS.aloadN X3.here hx rfl (hb hby d10_89) rfl rfl ?_
    show Steps p.tables e below (T3.setTop (mkF m 90 #[.val (.ref a), .val (.int (16 : Int32)), .val (.float (1061158912 : UInt32))] [(.ref a)])) _
    refine XS.iloadN X3.here hx rfl (hb hby d10_90) rfl ?_
    show Steps p.tables e below (T3.setTop (mkF m 91 #[.val (.ref a), .val (.int (16 : Int32)), .val (.float (1061158912 : UInt32))] [(.int (16 : Int32)), (.ref a)])) _
    refine st4 _ ?_
    show Steps p.tables e below (T4.setTop (mkF m 94 #[.val (.ref a), .val (.int (16 : Int32)), .val (.float (1061158912 : UInt32))] [(.int (16 : Int32)), (.ref a)])) _
    refine st6 _ ?_
    show Steps p.tables e below (T6.setTop (mkF m 97 #[.val (.ref a), .val (.int (16 : Int32)), .val (.float (1061158912 : UInt32))] [])) _
    exact X6.returnOut hx Bd.returns (hb hby d10_97) hr
  · show Qd5 Z a h0 n0 _ T6.heap _
    rw [e6]
    exact ⟨rfl, N6, K6, c7, c8⟩
theorem d9_0 : decode jdk_94_method_14_code 0 = .ok (.aload_n 0, 1) := by decide +kernel
theorem d9_1 : decode jdk_94_method_14_code 1 = .ok (.iload_n 1, 1) := by decide +kernel
theorem d9_2 : decode jdk_94_method_14_code 2 = .ok (.fload_n 2, 1) := by decide +kernel
theorem d9_3 : decode jdk_94_method_14_code 3 = .ok (.invokespecial 81, 3) := by decide +kernel
theorem own_pd3 : parseMethodDescriptor "(IF)V" = some ⟨[.int, .float], none⟩ := by decide +kernel
theorem d9_6 : decode jdk_94_method_14_code 6 = .ok (.aload_n 0, 1) := by decide +kernel
theorem d9_7 : decode jdk_94_method_14_code 7 = .ok (.iconst 0, 1) := by decide +kernel
theorem d9_8 : decode jdk_94_method_14_code 8 = .ok (.putfield 1, 3) := by decide +kernel
theorem d9_11 : decode jdk_94_method_14_code 11 = .ok (.aload_n 0, 1) := by decide +kernel
theorem d9_12 : decode jdk_94_method_14_code 12 = .ok (.iconst 0, 1) := by decide +kernel
theorem d9_13 : decode jdk_94_method_14_code 13 = .ok (.putfield 64, 3) := by decide +kernel
theorem d9_16 : decode jdk_94_method_14_code 16 = .ok (.return_, 1) := by decide +kernel
theorem ef_9 (m : MethodId) (x0 : Addr) (x1 : Int32) (x2 : UInt32) : entryFrame m #[(.ref x0), (.int x1), (.float x2)] 3 = mkF m 0 #[.val (.ref x0), .val (.int x1), .val (.float x2)] [] := by first | (simp [entryFrame, mkF, argsToLocals, Value.category]; done) | rfl
theorem pn_9 : plainName "java/util/LinkedHashMap" = true := by first | (simp [plainName, overriddenIn]; done) | decide +kernel
set_option maxRecDepth 65536 in
set_option maxHeartbeats 40000000 in
theorem rmLHM (l : Launch) (Z : State) (a0 : Array Value) (hw : ∀ d ∈ tables_1, d.before a0 Z = true) (ws : List Jvm.Cond) (a : Addr) (h0 : Heap) (n0 : Nat) (O0 : Old Z n0 h0) (g_a : n0 ≤ a) (E_a : Exa Z h0 a "java/util/LinkedHashMap") (F_loadFactor : Fld Z h0 a "java/util/HashMap" "loadFactor" "F" (.float (0 : UInt32))) (F_threshold : Fld Z h0 a "java/util/HashMap" "threshold" "I" (.int (0 : Int32))) (F_putMode : Fld Z h0 a "java/util/LinkedHashMap" "putMode" "I" (.int (0 : Int32))) (F_accessOrder : Fld Z h0 a "java/util/LinkedHashMap" "accessOrder" "Z" (.int (0 : Int32))) :
    MetFree l (⟨"java/util/LinkedHashMap", "<init>", "(IF)V"⟩ : MethodName) (head1 (Jvm.Cond.code (⟨"java/util/LinkedHashMap", "<init>", "(IF)V"⟩ : MethodName) jdk_94_method_14_code 3 none :: ws) ({ frames := 3, cells := 0, slots := 0, locals := 42 } : Room)) (fun qq U => qq = #[(.ref a), (.int (16 : Int32)), (.float (1061158912 : UInt32))] ∧ Z.Warmed39 U.vm ∧ U.heap = h0) (fun _ _ _ _ _ => True) (fun _ UU oo UU' => ∃ vv LL, oo = .returned vv ∧ Qd1 Z a h0 n0 vv UU'.heap LL ∧ FrameEnd UU oo UU' LL ({ frames := 3, cells := 0, slots := 0, locals := 42 } : Room).cells ({ frames := 3, cells := 0, slots := 0, locals := 42 } : Room).slots) := by
  refine MetFree.of_bodySF (plainFor_of_name pn_9) hisR ?_
  intro p e s m args below meth c s₁ Bd hml0 hP hK
  obtain ⟨rfl, hZ, hh⟩ := hP
  have hx := Bd.exec
  have hby := Bd.bytes
  have hml : c.maxLocals = 3 := hml0
  have hown : s.vm.findClass "java/util/LinkedHashMap" = some m.cls := findClass_of_methodNamed Bd.named
  have hnm := (name_of_methodNamed Bd.named Bd.method).1
  have X0 : Stand p l e ({ frames := 3, cells := 0, slots := 0, locals := 42 } : Room) s m #[(.ref a), (.int (16 : Int32)), (.float (1061158912 : UInt32))] below meth c s₁ [] 0 0 := Stand.of_body Bd
  have e0 : s₁.heap = h0 := by rw [← hh, Bd.state]; rfl
  have N0 := Fr.nil n0
  have pre0 : ∀ t, Steps p.tables e below (s₁.setTop (mkF m 0 #[.val (.ref a), .val (.int (16 : Int32)), .val (.float (1061158912 : UInt32))] [])) t → Steps p.tables e below (s₁.setTop (entryFrame m #[(.ref a), (.int (16 : Int32)), (.float (1061158912 : UInt32))] 3)) t := fun t k => castTop (ef_9 m a (16 : Int32) (1061158912 : UInt32)) k
  obtain ⟨_, _, ⟨T1, L1, k1, n1⟩, -, X1, ⟨Lc1, hQ1, l1, y1, z1⟩, st1⟩ := X0.specialBack hx (y := (⟨"java/util/HashMap", "<init>", "(IF)V"⟩ : MethodName)) rfl hown (mvT hZ (hw _ (List.mem_of_getElem? (i := 63) rfl))) (mvT hZ (hw _ (List.mem_of_getElem? (i := 64) rfl))) (mvT hZ (hw _ (List.mem_of_getElem? (i := 67) rfl))) (by decide) (backOf (W := 0) (rmHIFx l Z a0 hw [] a h0 n0 O0 g_a E_a F_loadFactor F_threshold F_putMode F_accessOrder) hZ (hw _ (List.mem_of_getElem? (i := 67) rfl)) (hw _ (List.mem_of_getElem? (i := 12) rfl)) (by decide) (by decide)) (g := (mkF m 3 #[.val (.ref a), .val (.int (16 : Int32)), .val (.float (1061158912 : UInt32))] [(.float (1061158912 : UInt32)), (.int (16 : Int32)), (.ref a)])) rfl (by rw [hml]; rfl) (Steps.refl _) (a := a) (argsL := [(.int (16 : Int32)), (.float (1061158912 : UInt32))]) (rest := []) (lenOf own_pd3 rfl) rfl (by show 2 * 0 + _ ≤ _; exact Nat.le_of_eq rfl) (hb hby d9_3) (fun _ _ => ⟨rfl, e0, (by decide : 0 + 0 ≤ _), (by decide : 0 + 0 ≤ _)⟩)
  dsimp only [Pt.U, Pt.locs, Pt.cells, Pt.slots] at X1 l1 y1 z1 st1 hQ1
  subst l1 y1 z1
  obtain ⟨rfl, N1q, KK1, f1_0, f1_1⟩ := hQ1
  have N1 := Fr.app N0 N1q
  have O1 := Old.keep O0 KK1 (allS g_a all0)
  have K1 := Keep.trans (Keep.refl h0 [a]) KK1 (allS (Or.inl (List.mem_of_getElem? (i := 0) rfl)) all0)
  obtain ⟨T2, h2, X2, e2, W2, st2⟩ := putF X1 hx hZ hown (host := "") (Or.inl (hw _ (List.mem_of_getElem? (i := 85) rfl))) Via.refl rfl f1_0 (E_a.keep KK1) (Or.inl (hw _ (List.mem_of_getElem? (i := 86) rfl))) (hw _ (List.mem_of_getElem? (i := 57) rfl)) (ty := .int) (by decide) rfl rfl (g := (mkF m 8 #[.val (.ref a), .val (.int (16 : Int32)), .val (.float (1061158912 : UInt32))] [(.int (0 : Int32)), (.ref a)])) rfl rfl (hb hby d9_8)
  have Fw2 := Fld.same W2 f1_0
  have N2 := Fr.snoc X2 N1 g_a
  have O2 := Old.wr O1 W2 g_a
  have K2 := Keep.wr K1 W2 (Or.inl (List.mem_of_getElem? (i := 0) rfl))
  have c3 := (Fld.other W2 f1_1 (Or.inr (slot_ne (a0 := a0) (Or.inr (hw _ (List.mem_of_getElem? (i := 88) rfl))) (Or.inl (hw _ (List.mem_of_getElem? (i := 86) rfl))) (by decide) (t := .boolean) (t' := .int) (by decide) (by decide))))
  obtain ⟨T4, h4, X4, e4, W4, st4⟩ := putFN X2 hx hZ hown (hw _ (List.mem_of_getElem? (i := 87) rfl)) Via.refl e2 c3 (Exa.wr W2 (E_a.keep KK1)) (Or.inr ⟨(hw _ (List.mem_of_getElem? (i := 88) rfl)), rfl, hnm⟩) (hw _ (List.mem_of_getElem? (i := 57) rfl)) (ty := .boolean) (v' := (.int (0 : Int32))) (by decide) rfl rfl (g := (mkF m 13 #[.val (.ref a), .val (.int (16 : Int32)), .val (.float (1061158912 : UInt32))] [(.int (0 : Int32)), (.ref a)])) rfl rfl (hb hby d9_13)
  have Fw4 := Fld.same W4 c3
  have N4 := Fr.snoc X4 N2 g_a
  have O4 := Old.wr O2 W4 g_a
  have K4 := Keep.wr K2 W4 (Or.inl (List.mem_of_getElem? (i := 0) rfl))
  obtain ⟨fs, hr, hrun, hended, hW, hsame⟩ := X4.leave (v := none) (fun _ => rfl)
  refine ⟨_, _, pre0 _ ?_, hrun, hended, _, _, rfl, ?_, ⟨_, rfl⟩, hW, hsame.mono (by decide) (by decide)⟩
  · show Steps p.tables e below (s₁.setTop (mkF m 0 #[.val (.ref a), .val (.int (16 : Int32)), .val (.float (1061158912 : UInt32))] [])) _
    refine XS.aloadN X0.here hx rfl (hb hby d9_0) rfl rfl ?_
    show Steps p.tables e below (s₁.setTop (mkF m 1 #[.val (.ref a), .val (.int (16 : Int32)), .val (.float (1061158912 : UInt32))] [(.ref a)])) _
    refine XS.iloadN X0.here hx rfl (hb hby d9_1) rfl ?_
    show Steps p.tables e below (s₁.setTop (mkF m 2 #[.val (.ref a), .val (.int (16 : Int32)), .val (.float (1061158912 : UInt32))] [(.int (16 : Int32)), (.ref a)])) _
    refine own_floadN X0.here hx rfl (hb hby d9_2) rfl ?_
    show Steps p.tables e below (s₁.setTop (mkF m 3 #[.val (.ref a), .val (.int (16 : Int32)), .val (.float (1061158912 : UInt32))] [(.float (1061158912 : UInt32)), (.int (16 : Int32)), (.ref a)])) _
    refine st1.trans ?_
    show Steps p.tables e below (T1.setTop (mkF m 6 #[.val (.ref a), .val (.int (16 : Int32)), .val (.float (1061158912 : UInt32))] [])) _
    refine XS.aloadN X1.here hx rfl (hb hby d9_6) rfl rfl ?_
    show Steps p.tables e below (T1.setTop (mkF m 7 #[.val (.ref a), .val (.int (16 : Int32)), .val (.float (1061158912 : UInt32))] [(.ref a)])) _
    refine XS.iconst X1.here hx rfl (hb hby d9_7) ?_
    show Steps p.tables e below (T1.setTop (mkF m 8 #[.val (.ref a), .val (.int (16 : Int32)), .val (.float (1061158912 : UInt32))] [(.int (0 : Int32)), (.ref a)])) _
    refine st2 _ ?_
    show Steps p.tables e below (T2.setTop (mkF m 11 #[.val (.ref a), .val (.int (16 : Int32)), .val (.float (1061158912 : UInt32))] [])) _
    refine XS.aloadN X2.here hx rfl (hb hby d9_11) rfl rfl ?_
    show Steps p.tables e below (T2.setTop (mkF m 12 #[.val (.ref a), .val (.int (16 : Int32)), .val (.float (1061158912 : UInt32))] [(.ref a)])) _
    refine XS.iconst X2.here hx rfl (hb hby d9_12) ?_
    show Steps p.tables e below (T2.setTop (mkF m 13 #[.val (.ref a), .val (.int (16 : Int32)), .val (.float (1061158912 : UInt32))] [(.int (0 : Int32)), (.ref a)])) _
    refine st4 _ ?_
    show Steps p.tables e below (T4.setTop (mkF m 16 #[.val (.ref a), .val (.int (16 : Int32)), .val (.float (1061158912 : UInt32))] [])) _
    exact X4.returnOut hx Bd.returns (hb hby d9_16) hr
  · show Qd1 Z a h0 n0 _ T4.heap _
    rw [e4]
    exact ⟨rfl, N4, K4⟩
theorem d6_0 : decode jdk_93_method_5_code 0 = .ok (.aload_n 0, 1) := by decide +kernel
theorem d6_1 : decode jdk_93_method_5_code 1 = .ok (.invokespecial 1, 3) := by decide +kernel
theorem d6_4 : decode jdk_93_method_5_code 4 = .ok (.aload_n 0, 1) := by decide +kernel
theorem d6_5 : decode jdk_93_method_5_code 5 = .ok (.new 42, 3) := by decide +kernel
theorem d6_8 : decode jdk_93_method_5_code 8 = .ok (.dup, 1) := by decide +kernel
theorem d6_9 : decode jdk_93_method_5_code 9 = .ok (.iload_n 1, 1) := by decide +kernel
theorem d6_10 : decode jdk_93_method_5_code 10 = .ok (.fload_n 2, 1) := by decide +kernel
theorem d6_11 : decode jdk_93_method_5_code 11 = .ok (.invokespecial 44, 3) := by decide +kernel
theorem d6_14 : decode jdk_93_method_5_code 14 = .ok (.putfield 10, 3) := by decide +kernel
theorem d6_17 : decode jdk_93_method_5_code 17 = .ok (.return_, 1) := by decide +kernel
theorem ef_6 (m : MethodId) (x0 : Addr) (x1 : Int32) (x2 : UInt32) (x3 : Int32) : entryFrame m #[(.ref x0), (.int x1), (.float x2), (.int x3)] 4 = mkF m 0 #[.val (.ref x0), .val (.int x1), .val (.float x2), .val (.int x3)] [] := by first | (simp [entryFrame, mkF, argsToLocals, Value.category]; done) | rfl
theorem pn_6 : plainName "java/util/HashSet" = true := by first | (simp [plainName, overriddenIn]; done) | decide +kernel
set_option maxRecDepth 65536 in
set_option maxHeartbeats 40000000 in
theorem rmHS (l : Launch) (Z : State) (a0 : Array Value) (hw : ∀ d ∈ tables_1, d.before a0 Z = true) (ws : List Jvm.Cond) (a : Addr) (h0 : Heap) (n0 : Nat) (O0 : Old Z n0 h0) (g_a : n0 ≤ a) (E_a : Exa Z h0 a "java/util/LinkedHashSet") (F_map : Fld Z h0 a "java/util/HashSet" "map" "Ljava/util/HashMap;" .null) :
    MetFree l (⟨"java/util/HashSet", "<init>", "(IFZ)V"⟩ : MethodName) (head1 (Jvm.Cond.code (⟨"java/util/HashSet", "<init>", "(IFZ)V"⟩ : MethodName) jdk_93_method_5_code 4 none :: ws) ({ frames := 4, cells := 1, slots := 12, locals := 58 } : Room)) (fun qq U => qq = #[(.ref a), (.int (16 : Int32)), (.float (1061158912 : UInt32)), (.int (1 : Int32))] ∧ Z.Warmed39 U.vm ∧ U.heap = h0) (fun _ _ _ _ _ => True) (fun _ UU oo UU' => ∃ vv LL, oo = .returned vv ∧ Qd1 Z a h0 n0 vv UU'.heap LL ∧ FrameEnd UU oo UU' LL ({ frames := 4, cells := 1, slots := 12, locals := 58 } : Room).cells ({ frames := 4, cells := 1, slots := 12, locals := 58 } : Room).slots) := by
  refine MetFree.of_bodySF (plainFor_of_name pn_6) hisR ?_
  intro p e s m args below meth c s₁ Bd hml0 hP hK
  obtain ⟨rfl, hZ, hh⟩ := hP
  have hx := Bd.exec
  have hby := Bd.bytes
  have hml : c.maxLocals = 4 := hml0
  have hown : s.vm.findClass "java/util/HashSet" = some m.cls := findClass_of_methodNamed Bd.named
  have hnm := (name_of_methodNamed Bd.named Bd.method).1
  have X0 : Stand p l e ({ frames := 4, cells := 1, slots := 12, locals := 58 } : Room) s m #[(.ref a), (.int (16 : Int32)), (.float (1061158912 : UInt32)), (.int (1 : Int32))] below meth c s₁ [] 0 0 := Stand.of_body Bd
  have e0 : s₁.heap = h0 := by rw [← hh, Bd.state]; rfl
  have N0 := Fr.nil n0
  have pre0 : ∀ t, Steps p.tables e below (s₁.setTop (mkF m 0 #[.val (.ref a), .val (.int (16 : Int32)), .val (.float (1061158912 : UInt32)), .val (.int (1 : Int32))] [])) t → Steps p.tables e below (s₁.setTop (entryFrame m #[(.ref a), (.int (16 : Int32)), (.float (1061158912 : UInt32)), (.int (1 : Int32))] 4)) t := fun t k => castTop (ef_6 m a (16 : Int32) (1061158912 : UInt32) (1 : Int32)) k
  obtain ⟨_, _, ⟨T1, L1, k1, n1⟩, -, X1, ⟨Lc1, hQ1, l1, y1, z1⟩, st1⟩ := X0.specialBack hx (y := (⟨"java/util/AbstractSet", "<init>", "()V"⟩ : MethodName)) rfl hown (mvT hZ (hw _ (List.mem_of_getElem? (i := 43) rfl))) (mvT hZ (hw _ (List.mem_of_getElem? (i := 44) rfl))) (mvT hZ (hw _ (List.mem_of_getElem? (i := 48) rfl))) (by decide) (backOf (W := 0) (rmAS l Z a0 hw [] a h0 n0) hZ (hw _ (List.mem_of_getElem? (i := 48) rfl)) (hw _ (List.mem_of_getElem? (i := 47) rfl)) (by decide) (by decide)) (g := (mkF m 1 #[.val (.ref a), .val (.int (16 : Int32)), .val (.float (1061158912 : UInt32)), .val (.int (1 : Int32))] [(.ref a)])) rfl (by rw [hml]; rfl) (Steps.refl _) (a := a) (argsL := []) (rest := []) (lenOf own_pd0 rfl) rfl (by show 2 * 0 + _ ≤ _; exact Nat.le_of_eq rfl) (hb hby d6_1) (fun _ _ => ⟨rfl, e0, (by decide : 0 + 0 ≤ _), (by decide : 0 + 0 ≤ _)⟩)
  dsimp only [Pt.U, Pt.locs, Pt.cells, Pt.slots] at X1 l1 y1 z1 st1 hQ1
  subst l1 y1 z1
  obtain ⟨rfl, N1q, e1⟩ := hQ1
  have N1 := Fr.app N0 N1q
  obtain ⟨T2, h2, X2, e2, E2, A2, D2, -, st2⟩ := newO X1 hx hZ hown (hw _ (List.mem_of_getElem? (i := 56) rfl)) (hw _ (List.mem_of_getElem? (i := 57) rfl)) (hw _ (List.mem_of_getElem? (i := 58) rfl)) e1 (g := (mkF m 5 #[.val (.ref a), .val (.int (16 : Int32)), .val (.float (1061158912 : UInt32)), .val (.int (1 : Int32))] [(.ref a)])) rfl (hb hby d6_5) (by decide) (by decide)
  obtain ⟨b2, q2⟩ : ∃ z, z = h0.size := ⟨_, rfl⟩
  rw [← q2] at A2 D2 st2
  have g_b2 : n0 ≤ b2 := by rw [q2]; exact (O0).1 ▸ (O0).2.1
  have ne_a_b2 : a ≠ b2 := by rw [q2]; exact Nat.ne_of_lt E_a.lt
  have sz_b2 : h0.size ≤ b2 := by rw [q2]; exact ((Keep.refl h0 [a])).1
  have O2 := Old.ext O0 E2
  have K2 := Keep.ext (Keep.refl h0 [a]) E2
  have F2_loadFactor : Fld Z h2 b2 "java/util/HashMap" "loadFactor" "F" (.float (0 : UInt32)) := D2 (Or.inr (hw _ (List.mem_of_getElem? (i := 74) rfl))) (ty := .float) (by decide)
  have F2_threshold : Fld Z h2 b2 "java/util/HashMap" "threshold" "I" (.int (0 : Int32)) := D2 (Or.inl (hw _ (List.mem_of_getElem? (i := 84) rfl))) (ty := .int) (by decide)
  have F2_putMode : Fld Z h2 b2 "java/util/LinkedHashMap" "putMode" "I" (.int (0 : Int32)) := D2 (Or.inl (hw _ (List.mem_of_getElem? (i := 86) rfl))) (ty := .int) (by decide)
  have F2_accessOrder : Fld Z h2 b2 "java/util/LinkedHashMap" "accessOrder" "Z" (.int (0 : Int32)) := D2 (Or.inr (hw _ (List.mem_of_getElem? (i := 88) rfl))) (ty := .boolean) (by decide)
  obtain ⟨_, _, ⟨T3, L3, k3, n3⟩, -, X3, ⟨Lc3, hQ3, l3, y3, z3⟩, st3⟩ := X2.specialBack hx (y := (⟨"java/util/LinkedHashMap", "<init>", "(IF)V"⟩ : MethodName)) rfl hown (mvT hZ (hw _ (List.mem_of_getElem? (i := 59) rfl))) (mvT hZ (hw _ (List.mem_of_getElem? (i := 60) rfl))) (mvT hZ (hw _ (List.mem_of_getElem? (i := 62) rfl))) (by decide) (backOf (W := 2) (rmLHM l Z a0 hw [] b2 h2 n0 O2 g_b2 A2 F2_loadFactor F2_threshold F2_putMode F2_accessOrder) hZ (hw _ (List.mem_of_getElem? (i := 62) rfl)) (hw _ (List.mem_of_getElem? (i := 58) rfl)) (by decide) (by decide)) (g := (mkF m 11 #[.val (.ref a), .val (.int (16 : Int32)), .val (.float (1061158912 : UInt32)), .val (.int (1 : Int32))] [(.float (1061158912 : UInt32)), (.int (16 : Int32)), (.ref b2), (.ref b2), (.ref a)])) rfl (by rw [hml]; rfl) (Steps.refl _) (a := b2) (argsL := [(.int (16 : Int32)), (.float (1061158912 : UInt32))]) (rest := [(.ref b2), (.ref a)]) (lenOf own_pd3 rfl) rfl (by show 2 * 0 + _ ≤ _; exact Nat.le_of_eq rfl) (hb hby d6_11) (fun _ _ => ⟨rfl, e2, (by decide : 1 + 0 ≤ _), (by decide : 12 + 0 ≤ _)⟩)
  dsimp only [Pt.U, Pt.locs, Pt.cells, Pt.slots] at X3 l3 y3 z3 st3 hQ3
  subst l3 y3 z3
  obtain ⟨rfl, N3q, KK3⟩ := hQ3
  have N3 := Fr.app N1 N3q
  have O3 := Old.keep O2 KK3 (allS g_b2 all0)
  have K3 := Keep.trans K2 KK3 (allS (Or.inr sz_b2) all0)
  obtain ⟨T4, h4, X4, e4, W4, st4⟩ := putF X3 hx hZ hown (host := "") (Or.inl (hw _ (List.mem_of_getElem? (i := 89) rfl))) Via.refl rfl ((Fld.ext E2 F_map).keep KK3 (ninS ne_a_b2 nin0)) ((Exa.ext E2 E_a).keep KK3) (Or.inl (hw _ (List.mem_of_getElem? (i := 90) rfl))) (hw _ (List.mem_of_getElem? (i := 31) rfl)) (ty := (.object "java/util/HashMap")) (by decide) rfl rfl (g := (mkF m 14 #[.val (.ref a), .val (.int (16 : Int32)), .val (.float (1061158912 : UInt32)), .val (.int (1 : Int32))] [(.ref b2), (.ref a)])) rfl rfl (hb hby d6_14)
  have Fw4 := Fld.same W4 ((Fld.ext E2 F_map).keep KK3 (ninS ne_a_b2 nin0))
  have N4 := Fr.snoc X4 N3 g_a
  have O4 := Old.wr O3 W4 g_a
  have K4 := Keep.wr K3 W4 (Or.inl (List.mem_of_getElem? (i := 0) rfl))
  obtain ⟨fs, hr, hrun, hended, hW, hsame⟩ := X4.leave (v := none) (fun _ => rfl)
  refine ⟨_, _, pre0 _ ?_, hrun, hended, _, _, rfl, ?_, ⟨_, rfl⟩, hW, hsame.mono (by decide) (by decide)⟩
  · show Steps p.tables e below (s₁.setTop (mkF m 0 #[.val (.ref a), .val (.int (16 : Int32)), .val (.float (1061158912 : UInt32)), .val (.int (1 : Int32))] [])) _
    refine XS.aloadN X0.here hx rfl (hb hby d6_0) rfl rfl ?_
    show Steps p.tables e below (s₁.setTop (mkF m 1 #[.val (.ref a), .val (.int (16 : Int32)), .val (.float (1061158912 : UInt32)), .val (.int (1 : Int32))] [(.ref a)])) _
    refine st1.trans ?_
    show Steps p.tables e below (T1.setTop (mkF m 4 #[.val (.ref a), .val (.int (16 : Int32)), .val (.float (1061158912 : UInt32)), .val (.int (1 : Int32))] [])) _
    refine XS.aloadN X1.here hx rfl (hb hby d6_4) rfl rfl ?_
    show Steps p.tables e below (T1.setTop (mkF m 5 #[.val (.ref a), .val (.int (16 : Int32)), .val (.float (1061158912 : UInt32)), .val (.int (1 : Int32))] [(.ref a)])) _
    refine st2 _ ?_
    show Steps p.tables e below (T2.setTop (mkF m 8 #[.val (.ref a), .val (.int (16 : Int32)), .val (.float (1061158912 : UInt32)), .val (.int (1 : Int32))] [(.ref b2), (.ref a)])) _
    refine XS.dup X2.here hx rfl (hb hby d6_8) rfl rfl ?_
    show Steps p.tables e below (T2.setTop (mkF m 9 #[.val (.ref a), .val (.int (16 : Int32)), .val (.float (1061158912 : UInt32)), .val (.int (1 : Int32))] [(.ref b2), (.ref b2), (.ref a)])) _
    refine XS.iloadN X2.here hx rfl (hb hby d6_9) rfl ?_
    show Steps p.tables e below (T2.setTop (mkF m 10 #[.val (.ref a), .val (.int (16 : Int32)), .val (.float (1061158912 : UInt32)), .val (.int (1 : Int32))] [(.int (16 : Int32)), (.ref b2), (.ref b2), (.ref a)])) _
    refine own_floadN X2.here hx rfl (hb hby d6_10) rfl ?_
    show Steps p.tables e below (T2.setTop (mkF m 11 #[.val (.ref a), .val (.int (16 : Int32)), .val (.float (1061158912 : UInt32)), .val (.int (1 : Int32))] [(.float (1061158912 : UInt32)), (.int (16 : Int32)), (.ref b2), (.ref b2), (.ref a)])) _
    refine st3.trans ?_
    show Steps p.tables e below (T3.setTop (mkF m 14 #[.val (.ref a), .val (.int (16 : Int32)), .val (.float (1061158912 : UInt32)), .val (.int (1 : Int32))] [(.ref b2), (.ref a)])) _
    refine st4 _ ?_
    show Steps p.tables e below (T4.setTop (mkF m 17 #[.val (.ref a), .val (.int (16 : Int32)), .val (.float (1061158912 : UInt32)), .val (.int (1 : Int32))] [])) _
    exact X4.returnOut hx Bd.returns (hb hby d6_17) hr
  · show Qd1 Z a h0 n0 _ T4.heap _
    rw [e4]
    exact ⟨rfl, N4, K4⟩
theorem d5_0 : decode jdk_2620_method_3_code 0 = .ok (.aload_n 0, 1) := by decide +kernel
theorem d5_1 : decode jdk_2620_method_3_code 1 = .ok (.bipush 16, 2) := by decide +kernel
theorem d5_3 : decode jdk_2620_method_3_code 3 = .ok (.ldc 7, 2) := by decide +kernel
theorem d5_5 : decode jdk_2620_method_3_code 5 = .ok (.iconst 1, 1) := by decide +kernel
theorem d5_6 : decode jdk_2620_method_3_code 6 = .ok (.invokespecial 1, 3) := by decide +kernel
theorem own_pd4 : parseMethodDescriptor "(IFZ)V" = some ⟨[.int, .float, .boolean], none⟩ := by decide +kernel
theorem d5_9 : decode jdk_2620_method_3_code 9 = .ok (.return_, 1) := by decide +kernel
theorem ef_5 (m : MethodId) (x0 : Addr) : entryFrame m #[(.ref x0)] 1 = mkF m 0 #[.val (.ref x0)] [] := by first | (simp [entryFrame, mkF, argsToLocals, Value.category]; done) | rfl
theorem pn_5 : plainName "java/util/LinkedHashSet" = true := by first | (simp [plainName, overriddenIn]; done) | decide +kernel
set_option maxRecDepth 65536 in
set_option maxHeartbeats 40000000 in
theorem rmLHS (l : Launch) (Z : State) (a0 : Array Value) (hw : ∀ d ∈ tables_1, d.before a0 Z = true) (ws : List Jvm.Cond) (a : Addr) (h0 : Heap) (n0 : Nat) (O0 : Old Z n0 h0) (g_a : n0 ≤ a) (E_a : Exa Z h0 a "java/util/LinkedHashSet") (F_map : Fld Z h0 a "java/util/HashSet" "map" "Ljava/util/HashMap;" .null) :
    MetFree l (⟨"java/util/LinkedHashSet", "<init>", "()V"⟩ : MethodName) (head1 (Jvm.Cond.code (⟨"java/util/LinkedHashSet", "<init>", "()V"⟩ : MethodName) jdk_2620_method_3_code 1 none :: ws) ({ frames := 5, cells := 1, slots := 12, locals := 73 } : Room)) (fun qq U => qq = #[(.ref a)] ∧ Z.Warmed39 U.vm ∧ U.heap = h0) (fun _ _ _ _ _ => True) (fun _ UU oo UU' => ∃ vv LL, oo = .returned vv ∧ Qd1 Z a h0 n0 vv UU'.heap LL ∧ FrameEnd UU oo UU' LL ({ frames := 5, cells := 1, slots := 12, locals := 73 } : Room).cells ({ frames := 5, cells := 1, slots := 12, locals := 73 } : Room).slots) := by
  refine MetFree.of_bodySF (plainFor_of_name pn_5) hisR ?_
  intro p e s m args below meth c s₁ Bd hml0 hP hK
  obtain ⟨rfl, hZ, hh⟩ := hP
  have hx := Bd.exec
  have hby := Bd.bytes
  have hml : c.maxLocals = 1 := hml0
  have hown : s.vm.findClass "java/util/LinkedHashSet" = some m.cls := findClass_of_methodNamed Bd.named
  have hnm := (name_of_methodNamed Bd.named Bd.method).1
  have X0 : Stand p l e ({ frames := 5, cells := 1, slots := 12, locals := 73 } : Room) s m #[(.ref a)] below meth c s₁ [] 0 0 := Stand.of_body Bd
  have e0 : s₁.heap = h0 := by rw [← hh, Bd.state]; rfl
  have N0 := Fr.nil n0
  have pre0 : ∀ t, Steps p.tables e below (s₁.setTop (mkF m 0 #[.val (.ref a)] [])) t → Steps p.tables e below (s₁.setTop (entryFrame m #[(.ref a)] 1)) t := fun t k => castTop (ef_5 m a) k
  obtain ⟨_, _, ⟨T1, L1, k1, n1⟩, -, X1, ⟨Lc1, hQ1, l1, y1, z1⟩, st1⟩ := X0.specialBack hx (y := (⟨"java/util/HashSet", "<init>", "(IFZ)V"⟩ : MethodName)) rfl hown (mvT hZ (hw _ (List.mem_of_getElem? (i := 37) rfl))) (mvT hZ (hw _ (List.mem_of_getElem? (i := 38) rfl))) (mvT hZ (hw _ (List.mem_of_getElem? (i := 42) rfl))) (by decide) (backOf (W := 0) (rmHS l Z a0 hw [] a h0 n0 O0 g_a E_a F_map) hZ (hw _ (List.mem_of_getElem? (i := 42) rfl)) (hw _ (List.mem_of_getElem? (i := 41) rfl)) (by decide) (by decide)) (g := (mkF m 6 #[.val (.ref a)] [(.int (1 : Int32)), (.float (1061158912 : UInt32)), (.int (16 : Int32)), (.ref a)])) rfl (by rw [hml]; rfl) (Steps.refl _) (a := a) (argsL := [(.int (16 : Int32)), (.float (1061158912 : UInt32)), (.int (1 : Int32))]) (rest := []) (lenOf own_pd4 rfl) rfl (by show 2 * 0 + _ ≤ _; exact Nat.le_of_eq rfl) (hb hby d5_6) (fun _ _ => ⟨rfl, e0, (by decide : 0 + 1 ≤ _), (by decide : 0 + 12 ≤ _)⟩)
  dsimp only [Pt.U, Pt.locs, Pt.cells, Pt.slots] at X1 l1 y1 z1 st1 hQ1
  subst l1 y1 z1
  obtain ⟨rfl, N1q, KK1⟩ := hQ1
  have N1 := Fr.app N0 N1q
  have O1 := Old.keep O0 KK1 (allS g_a all0)
  have K1 := Keep.trans (Keep.refl h0 [a]) KK1 (allS (Or.inl (List.mem_of_getElem? (i := 0) rfl)) all0)
  obtain ⟨fs, hr, hrun, hended, hW, hsame⟩ := X1.leave (v := none) (fun _ => rfl)
  refine ⟨_, _, pre0 _ ?_, hrun, hended, _, _, rfl, ?_, ⟨_, rfl⟩, hW, hsame.mono (by decide) (by decide)⟩
  · show Steps p.tables e below (s₁.setTop (mkF m 0 #[.val (.ref a)] [])) _
    refine XS.aloadN X0.here hx rfl (hb hby d5_0) rfl rfl ?_
    show Steps p.tables e below (s₁.setTop (mkF m 1 #[.val (.ref a)] [(.ref a)])) _
    refine XS.bipush X0.here hx rfl (hb hby d5_1) ?_
    show Steps p.tables e below (s₁.setTop (mkF m 3 #[.val (.ref a)] [(.int (16 : Int32)), (.ref a)])) _
    refine X0.ldcFloatC hx hown (mvT hZ (hw _ (List.mem_of_getElem? (i := 36) rfl))) (g := (mkF m 3 #[.val (.ref a)] [(.int (16 : Int32)), (.ref a)])) rfl (hb hby d5_3) _ ?_
    show Steps p.tables e below (s₁.setTop (mkF m 5 #[.val (.ref a)] [(.float (1061158912 : UInt32)), (.int (16 : Int32)), (.ref a)])) _
    refine XS.iconst X0.here hx rfl (hb hby d5_5) ?_
    show Steps p.tables e below (s₁.setTop (mkF m 6 #[.val (.ref a)] [(.int (1 : Int32)), (.float (1061158912 : UInt32)), (.int (16 : Int32)), (.ref a)])) _
    refine st1.trans ?_
    show Steps p.tables e below (T1.setTop (mkF m 9 #[.val (.ref a)] [])) _
    exact X1.returnOut hx Bd.returns (hb hby d5_9) hr
  · show Qd1 Z a h0 n0 _ T1.heap _
    exact ⟨rfl, N1, K1⟩
theorem d1_0 : decode prog_1_method_1_code 0 = .ok (.aload_n 0, 1) := by decide +kernel
theorem d1_1 : decode prog_1_method_1_code 1 = .ok (.invokespecial 1, 3) := by decide +kernel
theorem d1_4 : decode prog_1_method_1_code 4 = .ok (.aload_n 0, 1) := by decide +kernel
theorem d1_5 : decode prog_1_method_1_code 5 = .ok (.new 7, 3) := by decide +kernel
theorem d1_8 : decode prog_1_method_1_code 8 = .ok (.dup, 1) := by decide +kernel
theorem d1_9 : decode prog_1_method_1_code 9 = .ok (.invokespecial 9, 3) := by decide +kernel
theorem d1_12 : decode prog_1_method_1_code 12 = .ok (.putfield 10, 3) := by decide +kernel
theorem d1_15 : decode prog_1_method_1_code 15 = .ok (.aload_n 0, 1) := by decide +kernel
theorem d1_16 : decode prog_1_method_1_code 16 = .ok (.new 7, 3) := by decide +kernel
theorem d1_19 : decode prog_1_method_1_code 19 = .ok (.dup, 1) := by decide +kernel
theorem d1_20 : decode prog_1_method_1_code 20 = .ok (.invokespecial 9, 3) := by decide +kernel
theorem d1_23 : decode prog_1_method_1_code 23 = .ok (.putfield 16, 3) := by decide +kernel
theorem d1_26 : decode prog_1_method_1_code 26 = .ok (.aload_n 0, 1) := by decide +kernel
theorem d1_27 : decode prog_1_method_1_code 27 = .ok (.new 19, 3) := by decide +kernel
theorem d1_30 : decode prog_1_method_1_code 30 = .ok (.dup, 1) := by decide +kernel
theorem d1_31 : decode prog_1_method_1_code 31 = .ok (.invokespecial 21, 3) := by decide +kernel
theorem d1_34 : decode prog_1_method_1_code 34 = .ok (.putfield 22, 3) := by decide +kernel
theorem d1_37 : decode prog_1_method_1_code 37 = .ok (.aload_n 0, 1) := by decide +kernel
theorem d1_38 : decode prog_1_method_1_code 38 = .ok (.invokedynamic 26, 5) := by decide +kernel
theorem d1_43 : decode prog_1_method_1_code 43 = .ok (.putfield 30, 3) := by decide +kernel
theorem d1_46 : decode prog_1_method_1_code 46 = .ok (.lload_n 1, 1) := by decide +kernel
theorem d1_47 : decode prog_1_method_1_code 47 = .ok (.lconst 1, 1) := by decide +kernel
theorem d1_48 : decode prog_1_method_1_code 48 = .ok (.lcmp, 1) := by decide +kernel
theorem d1_49 : decode prog_1_method_1_code 49 = .ok (.ifCond .lt 11, 3) := by decide +kernel
theorem d1_52 : decode prog_1_method_1_code 52 = .ok (.lload_n 1, 1) := by decide +kernel
theorem d1_53 : decode prog_1_method_1_code 53 = .ok (.ldc2_w 34, 3) := by decide +kernel
theorem d1_56 : decode prog_1_method_1_code 56 = .ok (.lcmp, 1) := by decide +kernel
theorem d1_57 : decode prog_1_method_1_code 57 = .ok (.ifCond .lt 17, 3) := by decide +kernel
theorem d1_74 : decode prog_1_method_1_code 74 = .ok (.aload_n 0, 1) := by decide +kernel
theorem d1_75 : decode prog_1_method_1_code 75 = .ok (.lload_n 1, 1) := by decide +kernel
theorem d1_76 : decode prog_1_method_1_code 76 = .ok (.putfield 45, 3) := by decide +kernel
theorem d1_79 : decode prog_1_method_1_code 79 = .ok (.return_, 1) := by decide +kernel
theorem ef_1 (m : MethodId) (x0 : Addr) (x1 : Int64) : entryFrame m #[(.ref x0), (.long x1)] 3 = mkF m 0 #[.val (.ref x0), .val (.long x1), .second] [] := by first | (simp [entryFrame, mkF, argsToLocals, Value.category]; done) | rfl
theorem pn_1 : plainName "com/example/riverside/riverside/Arbiter" = true := by first | (simp [plainName, overriddenIn]; done) | decide +kernel
def Qd6 (Z : State) (a : Addr) (f : Int64) (h0 : Heap) (n0 : Nat) (v : Option Value) (h : Heap) (L : List Loc) : Prop := v = none ∧ Fr n0 L ∧ Keep h0 h [a] ∧ Fld Z h a "com/example/riverside/riverside/Arbiter" "nextFence" "J" (.long f)
set_option maxRecDepth 65536 in
set_option maxHeartbeats 40000000 in
theorem rmAR (l : Launch) (Z : State) (a0 : Array Value) (hw : ∀ d ∈ tables_1, d.before a0 Z = true) (ws : List Jvm.Cond) (a : Addr) (f : Int64) (h0 : Heap) (n0 : Nat) (O0 : Old Z n0 h0) (g_a : n0 ≤ a) (E_a : Exa Z h0 a "com/example/riverside/riverside/Arbiter") (F_keys : Fld Z h0 a "com/example/riverside/riverside/Arbiter" "keys" "Ljava/util/Map;" .null) (F_openKeys : Fld Z h0 a "com/example/riverside/riverside/Arbiter" "openKeys" "Ljava/util/Map;" .null) (F_blocked : Fld Z h0 a "com/example/riverside/riverside/Arbiter" "blocked" "Ljava/util/Set;" .null) (F_fenceLimit : Fld Z h0 a "com/example/riverside/riverside/Arbiter" "fenceLimit" "Ljava/util/function/LongSupplier;" .null) (F_nextFence : Fld Z h0 a "com/example/riverside/riverside/Arbiter" "nextFence" "J" (.long (0 : Int64))) (hc49 : ¬ ((lcmpW f (1 : Int64)) < (0 : Int32))) (hc57 : (lcmpW f (9007199254740992 : Int64)) < (0 : Int32)) :
    MetFree l (⟨"com/example/riverside/riverside/Arbiter", "<init>", "(J)V"⟩ : MethodName) (head1 (Jvm.Cond.code (⟨"com/example/riverside/riverside/Arbiter", "<init>", "(J)V"⟩ : MethodName) prog_1_method_1_code 3 none :: ws) ({ frames := 6, cells := 4, slots := 29, locals := 3073 } : Room)) (fun qq U => qq = #[(.ref a), (.long f)] ∧ Z.Warmed39 U.vm ∧ U.heap = h0) (fun _ _ _ _ _ => True) (fun _ UU oo UU' => ∃ vv LL, oo = .returned vv ∧ Qd6 Z a f h0 n0 vv UU'.heap LL ∧ FrameEnd UU oo UU' LL ({ frames := 6, cells := 4, slots := 29, locals := 3073 } : Room).cells ({ frames := 6, cells := 4, slots := 29, locals := 3073 } : Room).slots) := by
  refine MetFree.of_bodySF (plainFor_of_name pn_1) hisR ?_
  intro p e s m args below meth c s₁ Bd hml0 hP hK
  obtain ⟨rfl, hZ, hh⟩ := hP
  have hx := Bd.exec
  have hby := Bd.bytes
  have hml : c.maxLocals = 3 := hml0
  have hown : s.vm.findClass "com/example/riverside/riverside/Arbiter" = some m.cls := findClass_of_methodNamed Bd.named
  have hnm := (name_of_methodNamed Bd.named Bd.method).1
  have X0 : Stand p l e ({ frames := 6, cells := 4, slots := 29, locals := 3073 } : Room) s m #[(.ref a), (.long f)] below meth c s₁ [] 0 0 := Stand.of_body Bd
  have e0 : s₁.heap = h0 := by rw [← hh, Bd.state]; rfl
  have N0 := Fr.nil n0
  have pre0 : ∀ t, Steps p.tables e below (s₁.setTop (mkF m 0 #[.val (.ref a), .val (.long f), .second] [])) t → Steps p.tables e below (s₁.setTop (entryFrame m #[(.ref a), (.long f)] 3)) t := fun t k => castTop (ef_1 m a f) k
  obtain ⟨T1, X1, e1, st1⟩ := initO X0 hx hZ hown (hw _ (List.mem_of_getElem? (i := 7) rfl)) (hw _ (List.mem_of_getElem? (i := 8) rfl)) (hw _ (List.mem_of_getElem? (i := 9) rfl)) e0 (g := (mkF m 1 #[.val (.ref a), .val (.long f), .second] [(.ref a)])) rfl (by rw [hml]; rfl) rfl (hb hby d1_1) (by decide) (W := 0) (by show 2 * 0 + _ ≤ _; exact Nat.le_of_eq rfl) (by decide)
  obtain ⟨T2, h2, X2, e2, E2, A2, D2, -, st2⟩ := newO X1 hx hZ hown (hw _ (List.mem_of_getElem? (i := 10) rfl)) (hw _ (List.mem_of_getElem? (i := 11) rfl)) (hw _ (List.mem_of_getElem? (i := 12) rfl)) e1 (g := (mkF m 5 #[.val (.ref a), .val (.long f), .second] [(.ref a)])) rfl (hb hby d1_5) (by decide) (by decide)
  obtain ⟨b2, q2⟩ : ∃ z, z = h0.size := ⟨_, rfl⟩
  rw [← q2] at A2 D2 st2
  have g_b2 : n0 ≤ b2 := by rw [q2]; exact (O0).1 ▸ (O0).2.1
  have ne_a_b2 : a ≠ b2 := by rw [q2]; exact Nat.ne_of_lt E_a.lt
  have sz_b2 : h0.size ≤ b2 := by rw [q2]; exact ((Keep.refl h0 [a])).1
  have O2 := Old.ext O0 E2
  have K2 := Keep.ext (Keep.refl h0 [a]) E2
  have F2_loadFactor : Fld Z h2 b2 "java/util/HashMap" "loadFactor" "F" (.float (0 : UInt32)) := D2 (Or.inr (hw _ (List.mem_of_getElem? (i := 25) rfl))) (ty := .float) (by decide)
  obtain ⟨_, _, ⟨T3, L3, k3, n3⟩, -, X3, ⟨Lc3, hQ3, l3, y3, z3⟩, st3⟩ := X2.specialBack hx (y := (⟨"java/util/HashMap", "<init>", "()V"⟩ : MethodName)) rfl hown (mvT hZ (hw _ (List.mem_of_getElem? (i := 13) rfl))) (mvT hZ (hw _ (List.mem_of_getElem? (i := 14) rfl))) (mvT hZ (hw _ (List.mem_of_getElem? (i := 15) rfl))) (by decide) (backOf (W := 2) (rmHM l Z a0 hw [] b2 h2 n0 O2 g_b2 A2 F2_loadFactor) hZ (hw _ (List.mem_of_getElem? (i := 15) rfl)) (hw _ (List.mem_of_getElem? (i := 12) rfl)) (by decide) (by decide)) (g := (mkF m 9 #[.val (.ref a), .val (.long f), .second] [(.ref b2), (.ref b2), (.ref a)])) rfl (by rw [hml]; rfl) (Steps.refl _) (a := b2) (argsL := []) (rest := [(.ref b2), (.ref a)]) (lenOf own_pd0 rfl) rfl (by show 2 * 0 + _ ≤ _; exact Nat.le_of_eq rfl) (hb hby d1_9) (fun _ _ => ⟨rfl, e2, (by decide : 1 + 0 ≤ _), (by decide : 8 + 0 ≤ _)⟩)
  dsimp only [Pt.U, Pt.locs, Pt.cells, Pt.slots] at X3 l3 y3 z3 st3 hQ3
  subst l3 y3 z3
  obtain ⟨rfl, N3q, KK3⟩ := hQ3
  have N3 := Fr.app N0 N3q
  have O3 := Old.keep O2 KK3 (allS g_b2 all0)
  have K3 := Keep.trans K2 KK3 (allS (Or.inr sz_b2) all0)
  obtain ⟨T4, h4, X4, e4, W4, st4⟩ := putF X3 hx hZ hown (host := "") (Or.inl (hw _ (List.mem_of_getElem? (i := 26) rfl))) Via.refl rfl ((Fld.ext E2 F_keys).keep KK3 (ninS ne_a_b2 nin0)) ((Exa.ext E2 E_a).keep KK3) (Or.inr ⟨(hw _ (List.mem_of_getElem? (i := 27) rfl)), rfl, hnm⟩) (hw _ (List.mem_of_getElem? (i := 2) rfl)) (ty := (.object "java/util/Map")) (by decide) rfl rfl (g := (mkF m 12 #[.val (.ref a), .val (.long f), .second] [(.ref b2), (.ref a)])) rfl rfl (hb hby d1_12)
  have Fw4 := Fld.same W4 ((Fld.ext E2 F_keys).keep KK3 (ninS ne_a_b2 nin0))
  have N4 := Fr.snoc X4 N3 g_a
  have O4 := Old.wr O3 W4 g_a
  have K4 := Keep.wr K3 W4 (Or.inl (List.mem_of_getElem? (i := 0) rfl))
  obtain ⟨T5, h5, X5, e5, E5, A5, D5, -, st5⟩ := newO X4 hx hZ hown (hw _ (List.mem_of_getElem? (i := 10) rfl)) (hw _ (List.mem_of_getElem? (i := 11) rfl)) (hw _ (List.mem_of_getElem? (i := 12) rfl)) e4 (g := (mkF m 16 #[.val (.ref a), .val (.long f), .second] [(.ref a)])) rfl (hb hby d1_16) (by decide) (by decide)
  obtain ⟨b5, q5⟩ : ∃ z, z = h4.size := ⟨_, rfl⟩
  rw [← q5] at A5 D5 st5
  have g_b5 : n0 ≤ b5 := by rw [q5]; exact (O4).1 ▸ (O4).2.1
  have ne_a_b5 : a ≠ b5 := by rw [q5]; exact Nat.ne_of_lt (Exa.wr W4 ((Exa.ext E2 E_a).keep KK3)).lt
  have ne_b2_b5 : b2 ≠ b5 := by rw [q5]; exact Nat.ne_of_lt (Exa.wr W4 (A2.keep KK3)).lt
  have sz_b5 : h0.size ≤ b5 := by rw [q5]; exact (K4).1
  have O5 := Old.ext O4 E5
  have K5 := Keep.ext K4 E5
  have F5_loadFactor : Fld Z h5 b5 "java/util/HashMap" "loadFactor" "F" (.float (0 : UInt32)) := D5 (Or.inr (hw _ (List.mem_of_getElem? (i := 25) rfl))) (ty := .float) (by decide)
  obtain ⟨_, _, ⟨T6, L6, k6, n6⟩, -, X6, ⟨Lc6, hQ6, l6, y6, z6⟩, st6⟩ := X5.specialBack hx (y := (⟨"java/util/HashMap", "<init>", "()V"⟩ : MethodName)) rfl hown (mvT hZ (hw _ (List.mem_of_getElem? (i := 13) rfl))) (mvT hZ (hw _ (List.mem_of_getElem? (i := 14) rfl))) (mvT hZ (hw _ (List.mem_of_getElem? (i := 15) rfl))) (by decide) (backOf (W := 2) (rmHM l Z a0 hw [] b5 h5 n0 O5 g_b5 A5 F5_loadFactor) hZ (hw _ (List.mem_of_getElem? (i := 15) rfl)) (hw _ (List.mem_of_getElem? (i := 12) rfl)) (by decide) (by decide)) (g := (mkF m 20 #[.val (.ref a), .val (.long f), .second] [(.ref b5), (.ref b5), (.ref a)])) rfl (by rw [hml]; rfl) (Steps.refl _) (a := b5) (argsL := []) (rest := [(.ref b5), (.ref a)]) (lenOf own_pd0 rfl) rfl (by show 2 * 0 + _ ≤ _; exact Nat.le_of_eq rfl) (hb hby d1_20) (fun _ _ => ⟨rfl, e5, (by decide : 2 + 0 ≤ _), (by decide : 16 + 0 ≤ _)⟩)
  dsimp only [Pt.U, Pt.locs, Pt.cells, Pt.slots] at X6 l6 y6 z6 st6 hQ6
  subst l6 y6 z6
  obtain ⟨rfl, N6q, KK6⟩ := hQ6
  have N6 := Fr.app N4 N6q
  have O6 := Old.keep O5 KK6 (allS g_b5 all0)
  have K6 := Keep.trans K5 KK6 (allS (Or.inr sz_b5) all0)
  have c7 := ((Fld.ext E5 (Fld.other W4 ((Fld.ext E2 F_openKeys).keep KK3 (ninS ne_a_b2 nin0)) (Or.inr (slot_ne (a0 := a0) (Or.inr (hw _ (List.mem_of_getElem? (i := 29) rfl))) (Or.inr (hw _ (List.mem_of_getElem? (i := 27) rfl))) (by decide) (t := (.object "java/util/Map")) (t' := (.object "java/util/Map")) (by decide) (by decide))))).keep KK6 (ninS ne_a_b5 nin0))
  have c8 := ((Exa.ext E5 (Exa.wr W4 ((Exa.ext E2 E_a).keep KK3))).keep KK6)
  obtain ⟨T9, h9, X9, e9, W9, st9⟩ := putF X6 hx hZ hown (host := "") (Or.inl (hw _ (List.mem_of_getElem? (i := 28) rfl))) Via.refl rfl c7 c8 (Or.inr ⟨(hw _ (List.mem_of_getElem? (i := 29) rfl)), rfl, hnm⟩) (hw _ (List.mem_of_getElem? (i := 2) rfl)) (ty := (.object "java/util/Map")) (by decide) rfl rfl (g := (mkF m 23 #[.val (.ref a), .val (.long f), .second] [(.ref b5), (.ref a)])) rfl rfl (hb hby d1_23)
  have Fw9 := Fld.same W9 c7
  have N9 := Fr.snoc X9 N6 g_a
  have O9 := Old.wr O6 W9 g_a
  have K9 := Keep.wr K6 W9 (Or.inl (List.mem_of_getElem? (i := 0) rfl))
  have c10 := (Exa.wr W9 ((Exa.ext E5 (Exa.wr W4 (A2.keep KK3))).keep KK6))
  obtain ⟨T11, h11, X11, e11, E11, A11, D11, -, st11⟩ := newO X9 hx hZ hown (hw _ (List.mem_of_getElem? (i := 30) rfl)) (hw _ (List.mem_of_getElem? (i := 31) rfl)) (hw _ (List.mem_of_getElem? (i := 32) rfl)) e9 (g := (mkF m 27 #[.val (.ref a), .val (.long f), .second] [(.ref a)])) rfl (hb hby d1_27) (by decide) (by decide)
  obtain ⟨b11, q11⟩ : ∃ z, z = h9.size := ⟨_, rfl⟩
  rw [← q11] at A11 D11 st11
  have g_b11 : n0 ≤ b11 := by rw [q11]; exact (O9).1 ▸ (O9).2.1
  have ne_a_b11 : a ≠ b11 := by rw [q11]; exact Nat.ne_of_lt (Exa.wr W9 c8).lt
  have ne_b2_b11 : b2 ≠ b11 := by rw [q11]; exact Nat.ne_of_lt c10.lt
  have ne_b5_b11 : b5 ≠ b11 := by rw [q11]; exact Nat.ne_of_lt (Exa.wr W9 (A5.keep KK6)).lt
  have sz_b11 : h0.size ≤ b11 := by rw [q11]; exact (K9).1
  have O11 := Old.ext O9 E11
  have K11 := Keep.ext K9 E11
  have F11_map : Fld Z h11 b11 "java/util/HashSet" "map" "Ljava/util/HashMap;" .null := D11 (Or.inl (hw _ (List.mem_of_getElem? (i := 90) rfl))) (ty := (.object "java/util/HashMap")) (by decide)
  obtain ⟨_, _, ⟨T12, L12, k12, n12⟩, -, X12, ⟨Lc12, hQ12, l12, y12, z12⟩, st12⟩ := X11.specialBack hx (y := (⟨"java/util/LinkedHashSet", "<init>", "()V"⟩ : MethodName)) rfl hown (mvT hZ (hw _ (List.mem_of_getElem? (i := 33) rfl))) (mvT hZ (hw _ (List.mem_of_getElem? (i := 34) rfl))) (mvT hZ (hw _ (List.mem_of_getElem? (i := 35) rfl))) (by decide) (backOf (W := 2) (rmLHS l Z a0 hw [] b11 h11 n0 O11 g_b11 A11 F11_map) hZ (hw _ (List.mem_of_getElem? (i := 35) rfl)) (hw _ (List.mem_of_getElem? (i := 32) rfl)) (by decide) (by decide)) (g := (mkF m 31 #[.val (.ref a), .val (.long f), .second] [(.ref b11), (.ref b11), (.ref a)])) rfl (by rw [hml]; rfl) (Steps.refl _) (a := b11) (argsL := []) (rest := [(.ref b11), (.ref a)]) (lenOf own_pd0 rfl) rfl (by show 2 * 0 + _ ≤ _; exact Nat.le_of_eq rfl) (hb hby d1_31) (fun _ _ => ⟨rfl, e11, (by decide : 3 + 1 ≤ _), (by decide : 17 + 12 ≤ _)⟩)
  dsimp only [Pt.U, Pt.locs, Pt.cells, Pt.slots] at X12 l12 y12 z12 st12 hQ12
  subst l12 y12 z12
  obtain ⟨rfl, N12q, KK12⟩ := hQ12
  have N12 := Fr.app N9 N12q
  have O12 := Old.keep O11 KK12 (allS g_b11 all0)
  have K12 := Keep.trans K11 KK12 (allS (Or.inr sz_b11) all0)
  have c13 := ((Fld.ext E11 (Fld.other W9 ((Fld.ext E5 (Fld.other W4 ((Fld.ext E2 F_blocked).keep KK3 (ninS ne_a_b2 nin0)) (Or.inr (slot_ne (a0 := a0) (Or.inr (hw _ (List.mem_of_getElem? (i := 92) rfl))) (Or.inr (hw _ (List.mem_of_getElem? (i := 27) rfl))) (by decide) (t := (.object "java/util/Set")) (t' := (.object "java/util/Map")) (by decide) (by decide))))).keep KK6 (ninS ne_a_b5 nin0)) (Or.inr (slot_ne (a0 := a0) (Or.inr (hw _ (List.mem_of_getElem? (i := 92) rfl))) (Or.inr (hw _ (List.mem_of_getElem? (i := 29) rfl))) (by decide) (t := (.object "java/util/Set")) (t' := (.object "java/util/Map")) (by decide) (by decide))))).keep KK12 (ninS ne_a_b11 nin0))
  obtain ⟨T14, h14, X14, e14, W14, st14⟩ := putF X12 hx hZ hown (host := "") (Or.inl (hw _ (List.mem_of_getElem? (i := 91) rfl))) Via.refl rfl c13 ((Exa.ext E11 (Exa.wr W9 c8)).keep KK12) (Or.inr ⟨(hw _ (List.mem_of_getElem? (i := 92) rfl)), rfl, hnm⟩) (hw _ (List.mem_of_getElem? (i := 2) rfl)) (ty := (.object "java/util/Set")) (by decide) rfl rfl (g := (mkF m 34 #[.val (.ref a), .val (.long f), .second] [(.ref b11), (.ref a)])) rfl rfl (hb hby d1_34)
  have Fw14 := Fld.same W14 c13
  have N14 := Fr.snoc X14 N12 g_a
  have O14 := Old.wr O12 W14 g_a
  have K14 := Keep.wr K12 W14 (Or.inl (List.mem_of_getElem? (i := 0) rfl))
  obtain ⟨kL, iL, pL, aL, hkL, hfL⟩ := own_lam hZ (hw _ (List.mem_of_getElem? (i := 93) rfl)) rfl Bd.named
  have c15 := (Fld.other W14 ((Fld.ext E11 (Fld.other W9 ((Fld.ext E5 (Fld.other W4 ((Fld.ext E2 F_fenceLimit).keep KK3 (ninS ne_a_b2 nin0)) (Or.inr (slot_ne (a0 := a0) (Or.inl (hw _ (List.mem_of_getElem? (i := 97) rfl))) (Or.inr (hw _ (List.mem_of_getElem? (i := 27) rfl))) (by decide) (t := (.object "java/util/function/LongSupplier")) (t' := (.object "java/util/Map")) (by decide) (by decide))))).keep KK6 (ninS ne_a_b5 nin0)) (Or.inr (slot_ne (a0 := a0) (Or.inl (hw _ (List.mem_of_getElem? (i := 97) rfl))) (Or.inr (hw _ (List.mem_of_getElem? (i := 29) rfl))) (by decide) (t := (.object "java/util/function/LongSupplier")) (t' := (.object "java/util/Map")) (by decide) (by decide))))).keep KK12 (ninS ne_a_b11 nin0)) (Or.inr (slot_ne (a0 := a0) (Or.inl (hw _ (List.mem_of_getElem? (i := 97) rfl))) (Or.inr (hw _ (List.mem_of_getElem? (i := 92) rfl))) (by decide) (t := (.object "java/util/function/LongSupplier")) (t' := (.object "java/util/Set")) (by decide) (by decide))))
  obtain ⟨T16, h16, X16, e16, W16, st16⟩ := putF X14 hx hZ hown (host := "") (Or.inl (hw _ (List.mem_of_getElem? (i := 96) rfl))) Via.refl e14 c15 (Exa.wr W14 ((Exa.ext E11 (Exa.wr W9 c8)).keep KK12)) (Or.inl (hw _ (List.mem_of_getElem? (i := 97) rfl))) (hw _ (List.mem_of_getElem? (i := 2) rfl)) (ty := (.object "java/util/function/LongSupplier")) (by decide) rfl rfl (g := (mkF m 43 #[.val (.ref a), .val (.long f), .second] [(.ref aL), (.ref a)])) rfl rfl (hb hby d1_43)
  have Fw16 := Fld.same W16 c15
  have N16 := Fr.snoc X16 N14 g_a
  have O16 := Old.wr O14 W16 g_a
  have K16 := Keep.wr K14 W16 (Or.inl (List.mem_of_getElem? (i := 0) rfl))
  have c17 := (Fld.other W16 (Fld.other W14 ((Fld.ext E11 (Fld.other W9 ((Fld.ext E5 (Fld.other W4 ((Fld.ext E2 F_nextFence).keep KK3 (ninS ne_a_b2 nin0)) (Or.inr (slot_ne (a0 := a0) (Or.inl (hw _ (List.mem_of_getElem? (i := 100) rfl))) (Or.inr (hw _ (List.mem_of_getElem? (i := 27) rfl))) (by decide) (t := .long) (t' := (.object "java/util/Map")) (by decide) (by decide))))).keep KK6 (ninS ne_a_b5 nin0)) (Or.inr (slot_ne (a0 := a0) (Or.inl (hw _ (List.mem_of_getElem? (i := 100) rfl))) (Or.inr (hw _ (List.mem_of_getElem? (i := 29) rfl))) (by decide) (t := .long) (t' := (.object "java/util/Map")) (by decide) (by decide))))).keep KK12 (ninS ne_a_b11 nin0)) (Or.inr (slot_ne (a0 := a0) (Or.inl (hw _ (List.mem_of_getElem? (i := 100) rfl))) (Or.inr (hw _ (List.mem_of_getElem? (i := 92) rfl))) (by decide) (t := .long) (t' := (.object "java/util/Set")) (by decide) (by decide)))) (Or.inr (slot_ne (a0 := a0) (Or.inl (hw _ (List.mem_of_getElem? (i := 100) rfl))) (Or.inl (hw _ (List.mem_of_getElem? (i := 97) rfl))) (by decide) (t := .long) (t' := (.object "java/util/function/LongSupplier")) (by decide) (by decide))))
  have c18 := (Exa.wr W16 (Exa.wr W14 ((Exa.ext E11 (Exa.wr W9 c8)).keep KK12)))
  obtain ⟨T19, h19, X19, e19, W19, st19⟩ := putF X16 hx hZ hown (host := "") (Or.inl (hw _ (List.mem_of_getElem? (i := 99) rfl))) Via.refl e16 c17 c18 (Or.inl (hw _ (List.mem_of_getElem? (i := 100) rfl))) (hw _ (List.mem_of_getElem? (i := 2) rfl)) (ty := .long) (by decide) rfl rfl (g := (mkF m 76 #[.val (.ref a), .val (.long f), .second] [(.long f), (.ref a)])) rfl rfl (hb hby d1_76)
  have Fw19 := Fld.same W19 c17
  have N19 := Fr.snoc X19 N16 g_a
  have O19 := Old.wr O16 W19 g_a
  have K19 := Keep.wr K16 W19 (Or.inl (List.mem_of_getElem? (i := 0) rfl))
  obtain ⟨fs, hr, hrun, hended, hW, hsame⟩ := X19.leave (v := none) (fun _ => rfl)
  refine ⟨_, _, pre0 _ ?_, hrun, hended, _, _, rfl, ?_, ⟨_, rfl⟩, hW, hsame.mono (by decide) (by decide)⟩
  · show Steps p.tables e below (s₁.setTop (mkF m 0 #[.val (.ref a), .val (.long f), .second] [])) _
    refine XS.aloadN X0.here hx rfl (hb hby d1_0) rfl rfl ?_
    show Steps p.tables e below (s₁.setTop (mkF m 1 #[.val (.ref a), .val (.long f), .second] [(.ref a)])) _
    refine st1 _ ?_
    show Steps p.tables e below (T1.setTop (mkF m 4 #[.val (.ref a), .val (.long f), .second] [])) _
    refine XS.aloadN X1.here hx rfl (hb hby d1_4) rfl rfl ?_
    show Steps p.tables e below (T1.setTop (mkF m 5 #[.val (.ref a), .val (.long f), .second] [(.ref a)])) _
    refine st2 _ ?_
    show Steps p.tables e below (T2.setTop (mkF m 8 #[.val (.ref a), .val (.long f), .second] [(.ref b2), (.ref a)])) _
    refine XS.dup X2.here hx rfl (hb hby d1_8) rfl rfl ?_
    show Steps p.tables e below (T2.setTop (mkF m 9 #[.val (.ref a), .val (.long f), .second] [(.ref b2), (.ref b2), (.ref a)])) _
    refine st3.trans ?_
    show Steps p.tables e below (T3.setTop (mkF m 12 #[.val (.ref a), .val (.long f), .second] [(.ref b2), (.ref a)])) _
    refine st4 _ ?_
    show Steps p.tables e below (T4.setTop (mkF m 15 #[.val (.ref a), .val (.long f), .second] [])) _
    refine XS.aloadN X4.here hx rfl (hb hby d1_15) rfl rfl ?_
    show Steps p.tables e below (T4.setTop (mkF m 16 #[.val (.ref a), .val (.long f), .second] [(.ref a)])) _
    refine st5 _ ?_
    show Steps p.tables e below (T5.setTop (mkF m 19 #[.val (.ref a), .val (.long f), .second] [(.ref b5), (.ref a)])) _
    refine XS.dup X5.here hx rfl (hb hby d1_19) rfl rfl ?_
    show Steps p.tables e below (T5.setTop (mkF m 20 #[.val (.ref a), .val (.long f), .second] [(.ref b5), (.ref b5), (.ref a)])) _
    refine st6.trans ?_
    show Steps p.tables e below (T6.setTop (mkF m 23 #[.val (.ref a), .val (.long f), .second] [(.ref b5), (.ref a)])) _
    refine st9 _ ?_
    show Steps p.tables e below (T9.setTop (mkF m 26 #[.val (.ref a), .val (.long f), .second] [])) _
    refine XS.aloadN X9.here hx rfl (hb hby d1_26) rfl rfl ?_
    show Steps p.tables e below (T9.setTop (mkF m 27 #[.val (.ref a), .val (.long f), .second] [(.ref a)])) _
    refine st11 _ ?_
    show Steps p.tables e below (T11.setTop (mkF m 30 #[.val (.ref a), .val (.long f), .second] [(.ref b11), (.ref a)])) _
    refine XS.dup X11.here hx rfl (hb hby d1_30) rfl rfl ?_
    show Steps p.tables e below (T11.setTop (mkF m 31 #[.val (.ref a), .val (.long f), .second] [(.ref b11), (.ref b11), (.ref a)])) _
    refine st12.trans ?_
    show Steps p.tables e below (T12.setTop (mkF m 34 #[.val (.ref a), .val (.long f), .second] [(.ref b11), (.ref a)])) _
    refine st14 _ ?_
    show Steps p.tables e below (T14.setTop (mkF m 37 #[.val (.ref a), .val (.long f), .second] [])) _
    refine XS.aloadN X14.here hx rfl (hb hby d1_37) rfl rfl ?_
    show Steps p.tables e below (T14.setTop (mkF m 38 #[.val (.ref a), .val (.long f), .second] [(.ref a)])) _
    refine X14.lambdaConstant hx (g := (mkF m 38 #[.val (.ref a), .val (.long f), .second] [(.ref a)])) rfl (by rw [hml]; rfl) (hb hby d1_38) hkL hfL (by rw [Bd.admits.platform]; show 2 * 0 + 1 + 3072 ≤ _; decide) ?_
    show Steps p.tables e below (T14.setTop (mkF m 43 #[.val (.ref a), .val (.long f), .second] [(.ref aL), (.ref a)])) _
    refine st16 _ ?_
    show Steps p.tables e below (T16.setTop (mkF m 46 #[.val (.ref a), .val (.long f), .second] [])) _
    refine XS.lloadN X16.here hx rfl (hb hby d1_46) rfl ?_
    show Steps p.tables e below (T16.setTop (mkF m 47 #[.val (.ref a), .val (.long f), .second] [(.long f)])) _
    refine XS.lconst X16.here hx rfl (hb hby d1_47) ?_
    show Steps p.tables e below (T16.setTop (mkF m 48 #[.val (.ref a), .val (.long f), .second] [(.long (1 : Int64)), (.long f)])) _
    refine XS.lcmp X16.here hx rfl (hb hby d1_48) rfl ?_
    show Steps p.tables e below (T16.setTop (mkF m 49 #[.val (.ref a), .val (.long f), .second] [(.int (lcmpW f (1 : Int64)))])) _
    refine XS.ifNo X16.here hx rfl (hb hby d1_49) rfl ((if0 _ _).trans (flt hc49).1) ?_
    show Steps p.tables e below (T16.setTop (mkF m 52 #[.val (.ref a), .val (.long f), .second] [])) _
    refine XS.lloadN X16.here hx rfl (hb hby d1_52) rfl ?_
    show Steps p.tables e below (T16.setTop (mkF m 53 #[.val (.ref a), .val (.long f), .second] [(.long f)])) _
    refine X16.ldc2Long hx hown (mvT hZ (hw _ (List.mem_of_getElem? (i := 98) rfl))) (g := (mkF m 53 #[.val (.ref a), .val (.long f), .second] [(.long f)])) rfl (hb hby d1_53) _ ?_
    show Steps p.tables e below (T16.setTop (mkF m 56 #[.val (.ref a), .val (.long f), .second] [(.long (9007199254740992 : Int64)), (.long f)])) _
    refine XS.lcmp X16.here hx rfl (hb hby d1_56) rfl ?_
    show Steps p.tables e below (T16.setTop (mkF m 57 #[.val (.ref a), .val (.long f), .second] [(.int (lcmpW f (9007199254740992 : Int64)))])) _
    refine XS.ifYes X16.here hx rfl (pc0 := 57) (pc' := 74) rfl (hb hby d1_57) rfl ((if0 _ _).trans (tlt hc57).1) (by decide) (by decide) ?_
    show Steps p.tables e below (T16.setTop (mkF m 74 #[.val (.ref a), .val (.long f), .second] [])) _
    refine XS.aloadN X16.here hx rfl (hb hby d1_74) rfl rfl ?_
    show Steps p.tables e below (T16.setTop (mkF m 75 #[.val (.ref a), .val (.long f), .second] [(.ref a)])) _
    refine XS.lloadN X16.here hx rfl (hb hby d1_75) rfl ?_
    show Steps p.tables e below (T16.setTop (mkF m 76 #[.val (.ref a), .val (.long f), .second] [(.long f), (.ref a)])) _
    refine st19 _ ?_
    show Steps p.tables e below (T19.setTop (mkF m 79 #[.val (.ref a), .val (.long f), .second] [])) _
    exact X19.returnOut hx Bd.returns (hb hby d1_79) hr
  · show Qd6 Z a f h0 n0 _ T19.heap _
    rw [e19]
    exact ⟨rfl, N19, K19, Fw19⟩
theorem d14_0 : decode prog_1_method_12_code 0 = .ok (.aload_n 0, 1) := by decide +kernel
theorem d14_1 : decode prog_1_method_12_code 1 = .ok (.getfield 45, 3) := by decide +kernel
theorem d14_4 : decode prog_1_method_12_code 4 = .ok (.lreturn, 1) := by decide +kernel
theorem ef_14 (m : MethodId) (x0 : Addr) : entryFrame m #[(.ref x0)] 1 = mkF m 0 #[.val (.ref x0)] [] := by first | (simp [entryFrame, mkF, argsToLocals, Value.category]; done) | rfl
theorem pn_14 : plainName "com/example/riverside/riverside/Arbiter" = true := by first | (simp [plainName, overriddenIn]; done) | decide +kernel
def Qd7 (Z : State) (a : Addr) (q : Int64) (h0 : Heap) (n0 : Nat) (v : Option Value) (h : Heap) (L : List Loc) : Prop := v = some (.long q) ∧ Fr n0 L ∧ h = h0
set_option maxRecDepth 65536 in
set_option maxHeartbeats 40000000 in
theorem rmNF (l : Launch) (Z : State) (a0 : Array Value) (hw : ∀ d ∈ tables_1, d.before a0 Z = true) (ws : List Jvm.Cond) (a : Addr) (q : Int64) (h0 : Heap) (n0 : Nat) (F : Fld Z h0 a "com/example/riverside/riverside/Arbiter" "nextFence" "J" (.long q)) :
    MetFree l (⟨"com/example/riverside/riverside/Arbiter", "nextFence", "()J"⟩ : MethodName) (head1 (Jvm.Cond.code (⟨"com/example/riverside/riverside/Arbiter", "nextFence", "()J"⟩ : MethodName) prog_1_method_12_code 1 (some .long) :: ws) ({ frames := 0, cells := 0, slots := 0, locals := 0 } : Room)) (fun qq U => qq = #[(.ref a)] ∧ Z.Warmed39 U.vm ∧ U.heap = h0) (fun _ _ _ _ _ => True) (fun _ UU oo UU' => ∃ vv LL, oo = .returned vv ∧ Qd7 Z a q h0 n0 vv UU'.heap LL ∧ FrameEnd UU oo UU' LL ({ frames := 0, cells := 0, slots := 0, locals := 0 } : Room).cells ({ frames := 0, cells := 0, slots := 0, locals := 0 } : Room).slots) := by
  refine MetFree.of_bodySF (plainFor_of_name pn_14) hisR ?_
  intro p e s m args below meth c s₁ Bd hml0 hP hK
  obtain ⟨rfl, hZ, hh⟩ := hP
  have hx := Bd.exec
  have hby := Bd.bytes
  have hml : c.maxLocals = 1 := hml0
  have hown : s.vm.findClass "com/example/riverside/riverside/Arbiter" = some m.cls := findClass_of_methodNamed Bd.named
  have hnm := (name_of_methodNamed Bd.named Bd.method).1
  have X0 : Stand p l e ({ frames := 0, cells := 0, slots := 0, locals := 0 } : Room) s m #[(.ref a)] below meth c s₁ [] 0 0 := Stand.of_body Bd
  have e0 : s₁.heap = h0 := by rw [← hh, Bd.state]; rfl
  have N0 := Fr.nil n0
  have pre0 : ∀ t, Steps p.tables e below (s₁.setTop (mkF m 0 #[.val (.ref a)] [])) t → Steps p.tables e below (s₁.setTop (entryFrame m #[(.ref a)] 1)) t := fun t k => castTop (ef_14 m a) k
  obtain ⟨T1, X1, e1, st1⟩ := getF X0 hx hZ hown (host := "") (Or.inl (hw _ (List.mem_of_getElem? (i := 99) rfl))) Via.refl e0 F (g := (mkF m 1 #[.val (.ref a)] [(.ref a)])) rfl rfl (hb hby d14_1)
  obtain ⟨fs, hr, hrun, hended, hW, hsame⟩ := X1.leave (v := some (.long q)) (fun h => by rw [Bd.returns] at h; cases h)
  refine ⟨_, _, pre0 _ ?_, hrun, hended, _, _, rfl, ?_, ⟨_, rfl⟩, hW, hsame.mono (by decide) (by decide)⟩
  · show Steps p.tables e below (s₁.setTop (mkF m 0 #[.val (.ref a)] [])) _
    refine XS.aloadN X0.here hx rfl (hb hby d14_0) rfl rfl ?_
    show Steps p.tables e below (s₁.setTop (mkF m 1 #[.val (.ref a)] [(.ref a)])) _
    refine st1 _ ?_
    show Steps p.tables e below (T1.setTop (mkF m 4 #[.val (.ref a)] [(.long q)])) _
    exact retOut X1 hx Bd.returns rfl (Or.inr (Or.inl ⟨rfl, rfl, _, rfl⟩)) (hb hby d14_4) hr
  · show Qd7 Z a q h0 n0 _ T1.heap _
    rw [e1]
    exact ⟨rfl, N0, rfl⟩
theorem d16_0 : decode jdk_29_method_66_code 0 = .ok (.lload_n 0, 1) := by decide +kernel
theorem d16_1 : decode jdk_29_method_66_code 1 = .ok (.lload_n 2, 1) := by decide +kernel
theorem d16_2 : decode jdk_29_method_66_code 2 = .ok (.lcmp, 1) := by decide +kernel
theorem d16_3 : decode jdk_29_method_66_code 3 = .ok (.ifCond .lt 7, 3) := by decide +kernel
theorem d16_10 : decode jdk_29_method_66_code 10 = .ok (.lload_n 2, 1) := by decide +kernel
theorem d16_11 : decode jdk_29_method_66_code 11 = .ok (.lreturn, 1) := by decide +kernel
theorem ef_16 (m : MethodId) (x0 : Int64) (x1 : Int64) : entryFrame m #[(.long x0), (.long x1)] 4 = mkF m 0 #[.val (.long x0), .second, .val (.long x1), .second] [] := by first | (simp [entryFrame, mkF, argsToLocals, Value.category]; done) | rfl
def Qd8 (Z : State) (x y : Int64) (h0 : Heap) (n0 : Nat) (v : Option Value) (h : Heap) (L : List Loc) : Prop := v = some (.long (own_max x y)) ∧ Fr n0 L ∧ h = h0
set_option maxRecDepth 65536 in
set_option maxHeartbeats 40000000 in
theorem rmMXa (l : Launch) (Z : State) (a0 : Array Value) (hw : ∀ d ∈ tables_1, d.before a0 Z = true) (ws : List Jvm.Cond) (x y : Int64) (h0 : Heap) (n0 : Nat) (hc3 : (lcmpW x y) < (0 : Int32)) :
    MetFree l (⟨"java/lang/Math", "max", "(JJ)J"⟩ : MethodName) (head1 (Jvm.Cond.code (⟨"java/lang/Math", "max", "(JJ)J"⟩ : MethodName) jdk_29_method_66_code 4 (some .long) :: ws) ({ frames := 0, cells := 0, slots := 0, locals := 0 } : Room)) (fun qq U => qq = #[(.long x), (.long y)] ∧ Z.Warmed39 U.vm ∧ U.heap = h0) (fun _ _ _ _ _ => True) (fun _ UU oo UU' => ∃ vv LL, oo = .returned vv ∧ Qd8 Z x y h0 n0 vv UU'.heap LL ∧ FrameEnd UU oo UU' LL ({ frames := 0, cells := 0, slots := 0, locals := 0 } : Room).cells ({ frames := 0, cells := 0, slots := 0, locals := 0 } : Room).slots) := by
  refine MetFree.of_bodySF (Jvm.Free.JP.mathPlain rfl (by decide +kernel)) hisR ?_
  intro p e s m args below meth c s₁ Bd hml0 hP hK
  obtain ⟨rfl, hZ, hh⟩ := hP
  have hx := Bd.exec
  have hby := Bd.bytes
  have hml : c.maxLocals = 4 := hml0
  have hown : s.vm.findClass "java/lang/Math" = some m.cls := findClass_of_methodNamed Bd.named
  have hnm := (name_of_methodNamed Bd.named Bd.method).1
  have X0 : Stand p l e ({ frames := 0, cells := 0, slots := 0, locals := 0 } : Room) s m #[(.long x), (.long y)] below meth c s₁ [] 0 0 := Stand.of_body Bd
  have e0 : s₁.heap = h0 := by rw [← hh, Bd.state]; rfl
  have N0 := Fr.nil n0
  have pre0 : ∀ t, Steps p.tables e below (s₁.setTop (mkF m 0 #[.val (.long x), .second, .val (.long y), .second] [])) t → Steps p.tables e below (s₁.setTop (entryFrame m #[(.long x), (.long y)] 4)) t := fun t k => castTop (ef_16 m x y) k
  obtain ⟨fs, hr, hrun, hended, hW, hsame⟩ := X0.leave (v := some (.long y)) (fun h => by rw [Bd.returns] at h; cases h)
  refine ⟨_, _, pre0 _ ?_, hrun, hended, _, _, rfl, ?_, ⟨_, rfl⟩, hW, hsame.mono (by decide) (by decide)⟩
  · show Steps p.tables e below (s₁.setTop (mkF m 0 #[.val (.long x), .second, .val (.long y), .second] [])) _
    refine XS.lloadN X0.here hx rfl (hb hby d16_0) rfl ?_
    show Steps p.tables e below (s₁.setTop (mkF m 1 #[.val (.long x), .second, .val (.long y), .second] [(.long x)])) _
    refine XS.lloadN X0.here hx rfl (hb hby d16_1) rfl ?_
    show Steps p.tables e below (s₁.setTop (mkF m 2 #[.val (.long x), .second, .val (.long y), .second] [(.long y), (.long x)])) _
    refine XS.lcmp X0.here hx rfl (hb hby d16_2) rfl ?_
    show Steps p.tables e below (s₁.setTop (mkF m 3 #[.val (.long x), .second, .val (.long y), .second] [(.int (lcmpW x y))])) _
    refine XS.ifYes X0.here hx rfl (pc0 := 3) (pc' := 10) rfl (hb hby d16_3) rfl ((if0 _ _).trans (tlt hc3).1) (by decide) (by decide) ?_
    show Steps p.tables e below (s₁.setTop (mkF m 10 #[.val (.long x), .second, .val (.long y), .second] [])) _
    refine XS.lloadN X0.here hx rfl (hb hby d16_10) rfl ?_
    show Steps p.tables e below (s₁.setTop (mkF m 11 #[.val (.long x), .second, .val (.long y), .second] [(.long y)])) _
    exact retOut X0 hx Bd.returns rfl (Or.inr (Or.inl ⟨rfl, rfl, _, rfl⟩)) (hb hby d16_11) hr
  · show Qd8 Z x y h0 n0 _ s₁.heap _
    rw [e0]
    exact ⟨(by rw [own_max, if_pos hc3]), N0, rfl⟩
theorem d16_6 : decode jdk_29_method_66_code 6 = .ok (.lload_n 0, 1) := by decide +kernel
theorem d16_7 : decode jdk_29_method_66_code 7 = .ok (.goto 4, 3) := by decide +kernel
set_option maxRecDepth 65536 in
set_option maxHeartbeats 40000000 in
theorem rmMXb (l : Launch) (Z : State) (a0 : Array Value) (hw : ∀ d ∈ tables_1, d.before a0 Z = true) (ws : List Jvm.Cond) (x y : Int64) (h0 : Heap) (n0 : Nat) (hc3 : ¬ ((lcmpW x y) < (0 : Int32))) :
    MetFree l (⟨"java/lang/Math", "max", "(JJ)J"⟩ : MethodName) (head1 (Jvm.Cond.code (⟨"java/lang/Math", "max", "(JJ)J"⟩ : MethodName) jdk_29_method_66_code 4 (some .long) :: ws) ({ frames := 0, cells := 0, slots := 0, locals := 0 } : Room)) (fun qq U => qq = #[(.long x), (.long y)] ∧ Z.Warmed39 U.vm ∧ U.heap = h0) (fun _ _ _ _ _ => True) (fun _ UU oo UU' => ∃ vv LL, oo = .returned vv ∧ Qd8 Z x y h0 n0 vv UU'.heap LL ∧ FrameEnd UU oo UU' LL ({ frames := 0, cells := 0, slots := 0, locals := 0 } : Room).cells ({ frames := 0, cells := 0, slots := 0, locals := 0 } : Room).slots) := by
  refine MetFree.of_bodySF (Jvm.Free.JP.mathPlain rfl (by decide +kernel)) hisR ?_
  intro p e s m args below meth c s₁ Bd hml0 hP hK
  obtain ⟨rfl, hZ, hh⟩ := hP
  have hx := Bd.exec
  have hby := Bd.bytes
  have hml : c.maxLocals = 4 := hml0
  have hown : s.vm.findClass "java/lang/Math" = some m.cls := findClass_of_methodNamed Bd.named
  have hnm := (name_of_methodNamed Bd.named Bd.method).1
  have X0 : Stand p l e ({ frames := 0, cells := 0, slots := 0, locals := 0 } : Room) s m #[(.long x), (.long y)] below meth c s₁ [] 0 0 := Stand.of_body Bd
  have e0 : s₁.heap = h0 := by rw [← hh, Bd.state]; rfl
  have N0 := Fr.nil n0
  have pre0 : ∀ t, Steps p.tables e below (s₁.setTop (mkF m 0 #[.val (.long x), .second, .val (.long y), .second] [])) t → Steps p.tables e below (s₁.setTop (entryFrame m #[(.long x), (.long y)] 4)) t := fun t k => castTop (ef_16 m x y) k
  obtain ⟨fs, hr, hrun, hended, hW, hsame⟩ := X0.leave (v := some (.long x)) (fun h => by rw [Bd.returns] at h; cases h)
  refine ⟨_, _, pre0 _ ?_, hrun, hended, _, _, rfl, ?_, ⟨_, rfl⟩, hW, hsame.mono (by decide) (by decide)⟩
  · show Steps p.tables e below (s₁.setTop (mkF m 0 #[.val (.long x), .second, .val (.long y), .second] [])) _
    refine XS.lloadN X0.here hx rfl (hb hby d16_0) rfl ?_
    show Steps p.tables e below (s₁.setTop (mkF m 1 #[.val (.long x), .second, .val (.long y), .second] [(.long x)])) _
    refine XS.lloadN X0.here hx rfl (hb hby d16_1) rfl ?_
    show Steps p.tables e below (s₁.setTop (mkF m 2 #[.val (.long x), .second, .val (.long y), .second] [(.long y), (.long x)])) _
    refine XS.lcmp X0.here hx rfl (hb hby d16_2) rfl ?_
    show Steps p.tables e below (s₁.setTop (mkF m 3 #[.val (.long x), .second, .val (.long y), .second] [(.int (lcmpW x y))])) _
    refine XS.ifNo X0.here hx rfl (hb hby d16_3) rfl ((if0 _ _).trans (flt hc3).1) ?_
    show Steps p.tables e below (s₁.setTop (mkF m 6 #[.val (.long x), .second, .val (.long y), .second] [])) _
    refine XS.lloadN X0.here hx rfl (hb hby d16_6) rfl ?_
    show Steps p.tables e below (s₁.setTop (mkF m 7 #[.val (.long x), .second, .val (.long y), .second] [(.long x)])) _
    refine XS.goto X0.here hx rfl (pc0 := 7) (pc' := 11) rfl (hb hby d16_7) (by decide) (by decide) ?_
    show Steps p.tables e below (s₁.setTop (mkF m 11 #[.val (.long x), .second, .val (.long y), .second] [(.long x)])) _
    exact retOut X0 hx Bd.returns rfl (Or.inr (Or.inl ⟨rfl, rfl, _, rfl⟩)) (hb hby d16_11) hr
  · show Qd8 Z x y h0 n0 _ s₁.heap _
    rw [e0]
    exact ⟨(by rw [own_max, if_neg hc3]), N0, rfl⟩
theorem rmMX (l : Launch) (Z : State) (a0 : Array Value) (hw : ∀ d ∈ tables_1, d.before a0 Z = true) (ws : List Jvm.Cond) (x y : Int64) (h0 : Heap) (n0 : Nat) :
    MetFree l (⟨"java/lang/Math", "max", "(JJ)J"⟩ : MethodName) (head1 (Jvm.Cond.code (⟨"java/lang/Math", "max", "(JJ)J"⟩ : MethodName) jdk_29_method_66_code 4 (some .long) :: ws) ({ frames := 0, cells := 0, slots := 0, locals := 0 } : Room)) (fun qq U => qq = #[(.long x), (.long y)] ∧ Z.Warmed39 U.vm ∧ U.heap = h0) (fun _ _ _ _ _ => True) (fun _ UU oo UU' => ∃ vv LL, oo = .returned vv ∧ Qd8 Z x y h0 n0 vv UU'.heap LL ∧ FrameEnd UU oo UU' LL ({ frames := 0, cells := 0, slots := 0, locals := 0 } : Room).cells ({ frames := 0, cells := 0, slots := 0, locals := 0 } : Room).slots) := by
  by_cases h1 : lcmpW x y < 0
  · exact rmMXa l Z a0 hw ws x y h0 n0 h1
  · exact rmMXb l Z a0 hw ws x y h0 n0 h1
theorem d15_0 : decode prog_1_method_13_code 0 = .ok (.aload_n 0, 1) := by decide +kernel
theorem d15_1 : decode prog_1_method_13_code 1 = .ok (.aload_n 0, 1) := by decide +kernel
theorem d15_2 : decode prog_1_method_13_code 2 = .ok (.getfield 45, 3) := by decide +kernel
theorem d15_5 : decode prog_1_method_13_code 5 = .ok (.lload_n 1, 1) := by decide +kernel
theorem d15_6 : decode prog_1_method_13_code 6 = .ok (.invokestatic 212, 3) := by decide +kernel
theorem own_pd5 : parseMethodDescriptor "(JJ)J" = some ⟨[.long, .long], some .long⟩ := by decide +kernel
theorem d15_9 : decode prog_1_method_13_code 9 = .ok (.putfield 45, 3) := by decide +kernel
theorem d15_12 : decode prog_1_method_13_code 12 = .ok (.return_, 1) := by decide +kernel
theorem ef_15 (m : MethodId) (x0 : Addr) (x1 : Int64) : entryFrame m #[(.ref x0), (.long x1)] 3 = mkF m 0 #[.val (.ref x0), .val (.long x1), .second] [] := by first | (simp [entryFrame, mkF, argsToLocals, Value.category]; done) | rfl
theorem pn_15 : plainName "com/example/riverside/riverside/Arbiter" = true := by first | (simp [plainName, overriddenIn]; done) | decide +kernel
def Qd9 (Z : State) (a : Addr) (f q : Int64) (h0 : Heap) (n0 : Nat) (v : Option Value) (h : Heap) (L : List Loc) : Prop := v = none ∧ Fr n0 L ∧ Keep h0 h [a] ∧ Fld Z h a "com/example/riverside/riverside/Arbiter" "nextFence" "J" (.long (own_max q f))
set_option maxRecDepth 65536 in
set_option maxHeartbeats 40000000 in
theorem rmAV (l : Launch) (Z : State) (a0 : Array Value) (hw : ∀ d ∈ tables_1, d.before a0 Z = true) (ws : List Jvm.Cond) (a : Addr) (f q : Int64) (h0 : Heap) (n0 : Nat) (O0 : Old Z n0 h0) (g_a : n0 ≤ a) (E_a : Exa Z h0 a "com/example/riverside/riverside/Arbiter") (F_nextFence : Fld Z h0 a "com/example/riverside/riverside/Arbiter" "nextFence" "J" (.long q)) :
    MetFree l (⟨"com/example/riverside/riverside/Arbiter", "advanceFences", "(J)V"⟩ : MethodName) (head1 (Jvm.Cond.code (⟨"com/example/riverside/riverside/Arbiter", "advanceFences", "(J)V"⟩ : MethodName) prog_1_method_13_code 3 none :: ws) ({ frames := 1, cells := 0, slots := 0, locals := 16 } : Room)) (fun qq U => qq = #[(.ref a), (.long f)] ∧ Z.Warmed39 U.vm ∧ U.heap = h0) (fun _ _ _ _ _ => True) (fun _ UU oo UU' => ∃ vv LL, oo = .returned vv ∧ Qd9 Z a f q h0 n0 vv UU'.heap LL ∧ FrameEnd UU oo UU' LL ({ frames := 1, cells := 0, slots := 0, locals := 16 } : Room).cells ({ frames := 1, cells := 0, slots := 0, locals := 16 } : Room).slots) := by
  refine MetFree.of_bodySF (plainFor_of_name pn_15) hisR ?_
  intro p e s m args below meth c s₁ Bd hml0 hP hK
  obtain ⟨rfl, hZ, hh⟩ := hP
  have hx := Bd.exec
  have hby := Bd.bytes
  have hml : c.maxLocals = 3 := hml0
  have hown : s.vm.findClass "com/example/riverside/riverside/Arbiter" = some m.cls := findClass_of_methodNamed Bd.named
  have hnm := (name_of_methodNamed Bd.named Bd.method).1
  have X0 : Stand p l e ({ frames := 1, cells := 0, slots := 0, locals := 16 } : Room) s m #[(.ref a), (.long f)] below meth c s₁ [] 0 0 := Stand.of_body Bd
  have e0 : s₁.heap = h0 := by rw [← hh, Bd.state]; rfl
  have N0 := Fr.nil n0
  have pre0 : ∀ t, Steps p.tables e below (s₁.setTop (mkF m 0 #[.val (.ref a), .val (.long f), .second] [])) t → Steps p.tables e below (s₁.setTop (entryFrame m #[(.ref a), (.long f)] 3)) t := fun t k => castTop (ef_15 m a f) k
  obtain ⟨T1, X1, e1, st1⟩ := getF X0 hx hZ hown (host := "") (Or.inl (hw _ (List.mem_of_getElem? (i := 99) rfl))) Via.refl e0 F_nextFence (g := (mkF m 2 #[.val (.ref a), .val (.long f), .second] [(.ref a), (.ref a)])) rfl rfl (hb hby d15_2)
  obtain ⟨_, _, ⟨T2, L2, k2, n2⟩, -, X2, ⟨Lc2, hQ2, l2, y2, z2⟩, st2⟩ := Jvm.LawKit.callS X1 hx (y := (⟨"java/lang/Math", "max", "(JJ)J"⟩ : MethodName)) hown (mvT hZ (hw _ (List.mem_of_getElem? (i := 111) rfl))) (mvT hZ (hw _ (List.mem_of_getElem? (i := 112) rfl))) (mvT hZ (hw _ (List.mem_of_getElem? (i := 113) rfl))) (mvT hZ (hw _ (List.mem_of_getElem? (i := 114) rfl))) (by decide) (backOf (W := 1) (rmMX l Z a0 hw [] q f h0 n0) hZ (hw _ (List.mem_of_getElem? (i := 114) rfl)) (hw _ (List.mem_of_getElem? (i := 113) rfl)) (by decide) (by decide)) (g := (mkF m 6 #[.val (.ref a), .val (.long f), .second] [(.long f), (.long q), (.ref a)])) rfl (by rw [hml]; rfl) (argsL := [(.long q), (.long f)]) (rest := [(.ref a)]) (lenOf own_pd5 rfl) rfl (by show 2 * 0 + _ ≤ _; exact Nat.le_of_eq rfl) (hb hby d15_6) (fun _ _ => ⟨rfl, e1, (by decide : 0 + 0 ≤ _), (by decide : 0 + 0 ≤ _)⟩)
  dsimp only [Pt.U, Pt.locs, Pt.cells, Pt.slots] at X2 l2 y2 z2 st2 hQ2
  subst l2 y2 z2
  obtain ⟨rfl, N2q, e2⟩ := hQ2
  have N2 := Fr.app N0 N2q
  obtain ⟨T3, h3, X3, e3, W3, st3⟩ := putF X2 hx hZ hown (host := "") (Or.inl (hw _ (List.mem_of_getElem? (i := 99) rfl))) Via.refl e2 F_nextFence E_a (Or.inl (hw _ (List.mem_of_getElem? (i := 100) rfl))) (hw _ (List.mem_of_getElem? (i := 2) rfl)) (ty := .long) (by decide) rfl rfl (g := (mkF m 9 #[.val (.ref a), .val (.long f), .second] [(.long (own_max q f)), (.ref a)])) rfl rfl (hb hby d15_9)
  have Fw3 := Fld.same W3 F_nextFence
  have N3 := Fr.snoc X3 N2 g_a
  have O3 := Old.wr O0 W3 g_a
  have K3 := Keep.wr (Keep.refl h0 [a]) W3 (Or.inl (List.mem_of_getElem? (i := 0) rfl))
  obtain ⟨fs, hr, hrun, hended, hW, hsame⟩ := X3.leave (v := none) (fun _ => rfl)
  refine ⟨_, _, pre0 _ ?_, hrun, hended, _, _, rfl, ?_, ⟨_, rfl⟩, hW, hsame.mono (by decide) (by decide)⟩
  · show Steps p.tables e below (s₁.setTop (mkF m 0 #[.val (.ref a), .val (.long f), .second] [])) _
    refine XS.aloadN X0.here hx rfl (hb hby d15_0) rfl rfl ?_
    show Steps p.tables e below (s₁.setTop (mkF m 1 #[.val (.ref a), .val (.long f), .second] [(.ref a)])) _
    refine XS.aloadN X0.here hx rfl (hb hby d15_1) rfl rfl ?_
    show Steps p.tables e below (s₁.setTop (mkF m 2 #[.val (.ref a), .val (.long f), .second] [(.ref a), (.ref a)])) _
    refine st1 _ ?_
    show Steps p.tables e below (T1.setTop (mkF m 5 #[.val (.ref a), .val (.long f), .second] [(.long q), (.ref a)])) _
    refine XS.lloadN X1.here hx rfl (hb hby d15_5) rfl ?_
    show Steps p.tables e below (T1.setTop (mkF m 6 #[.val (.ref a), .val (.long f), .second] [(.long f), (.long q), (.ref a)])) _
    refine st2 _ ?_
    show Steps p.tables e below (T2.setTop (mkF m 9 #[.val (.ref a), .val (.long f), .second] [(.long (own_max q f)), (.ref a)])) _
    refine st3 _ ?_
    show Steps p.tables e below (T3.setTop (mkF m 12 #[.val (.ref a), .val (.long f), .second] [])) _
    exact X3.returnOut hx Bd.returns (hb hby d15_12) hr
  · show Qd9 Z a f q h0 n0 _ T3.heap _
    rw [e3]
    exact ⟨rfl, N3, K3, Fw3⟩
theorem own_pd6 : parseMethodDescriptor "(J)V" = some ⟨[.long], none⟩ := by decide +kernel
theorem own_pd7 : parseMethodDescriptor "()J" = some ⟨[], some .long⟩ := by decide +kernel
theorem ef_0 (m : MethodId) (x0 : Int64) (x1 : Int64) (x2 : Int64) : entryFrame m #[(.long x0), (.long x1), (.long x2)] maxLocals = mkF m 0 #[.val (.long x0), .second, .val (.long x1), .second, .val (.long x2), .second, .unset, .unset, .unset, .unset, .unset, .unset, .unset] [] := by first | (simp [entryFrame, mkF, argsToLocals, Value.category, maxLocals]; done) | rfl
theorem pn_0 : plainName "com/example/riverside/riverside/ArbiterAdvanceFencesPinLaw" = true := by first | (simp [plainName, overriddenIn]; done) | decide +kernel
def Qd10 (Z : State) (pJ q r : Int64) (h0 : Heap) (n0 : Nat) (v : Option Value) (h : Heap) (L : List Loc) : Prop := v = some (.int 1) ∧ Fr n0 L
set_option maxRecDepth 65536 in
set_option maxHeartbeats 40000000 in
theorem rm0fff (l : Launch) (Z : State) (a0 : Array Value) (hw : ∀ d ∈ tables_1, d.before a0 Z = true) (ws : List Jvm.Cond) (pJ q r : Int64) (h0 : Heap) (n0 : Nat) (O0 : Old Z n0 h0) (hc11 : (lcmpW (pJ &&& (9007199254740991 : Int64)) (0 : Int64)) = (0 : Int32)) (hc55 : (0 : Int32) < (lcmpW q (1 : Int64))) (hc90 : (0 : Int32) < (lcmpW r q)) :
    MetFree l x (head1 (Jvm.Cond.code x code maxLocals ret :: ws) room_1) (fun qq U => qq = #[(.long pJ), (.long q), (.long r)] ∧ Z.Warmed39 U.vm ∧ U.heap = h0) (fun _ _ _ _ _ => True) (fun _ UU oo UU' => ∃ vv LL, oo = .returned vv ∧ Qd10 Z pJ q r h0 n0 vv UU'.heap LL ∧ FrameEnd UU oo UU' LL room_1.cells room_1.slots) := by
  refine MetFree.of_bodySF (plainFor_of_name pn_0) hisR ?_
  intro p e s m args below meth c s₁ Bd hml0 hP hK
  obtain ⟨rfl, hZ, hh⟩ := hP
  have hx := Bd.exec
  have hby := Bd.bytes
  have hml : c.maxLocals = 13 := hml0
  have hown : s.vm.findClass "com/example/riverside/riverside/ArbiterAdvanceFencesPinLaw" = some m.cls := findClass_of_methodNamed Bd.named
  have hnm := (name_of_methodNamed Bd.named Bd.method).1
  have X0 : Stand p l e room_1 s m #[(.long pJ), (.long q), (.long r)] below meth c s₁ [] 0 0 := Stand.of_body Bd
  have e0 : s₁.heap = h0 := by rw [← hh, Bd.state]; rfl
  have N0 := Fr.nil n0
  have pre0 : ∀ t, Steps p.tables e below (s₁.setTop (mkF m 0 #[.val (.long pJ), .second, .val (.long q), .second, .val (.long r), .second, .unset, .unset, .unset, .unset, .unset, .unset, .unset] [])) t → Steps p.tables e below (s₁.setTop (entryFrame m #[(.long pJ), (.long q), (.long r)] maxLocals)) t := fun t k => castTop (ef_0 m pJ q r) k
  obtain ⟨T1, h1, X1, e1, E1, A1, D1, -, st1⟩ := newO X0 hx hZ hown (hw _ (List.mem_of_getElem? (i := 1) rfl)) (hw _ (List.mem_of_getElem? (i := 2) rfl)) (hw _ (List.mem_of_getElem? (i := 3) rfl)) e0 (g := (mkF m 17 #[.val (.long pJ), .second, .val (.long q), .second, .val (.long r), .second, .val (.long (1 : Int64)), .second, .unset, .unset, .unset, .unset, .unset] [])) rfl (hb hby at_17) (by decide) (by decide)
  obtain ⟨b1, q1⟩ : ∃ z, z = h0.size := ⟨_, rfl⟩
  rw [← q1] at A1 D1 st1
  have g_b1 : n0 ≤ b1 := by rw [q1]; exact (O0).1 ▸ (O0).2.1
  have O1 := Old.ext O0 E1
  have F1_keys : Fld Z h1 b1 "com/example/riverside/riverside/Arbiter" "keys" "Ljava/util/Map;" .null := D1 (Or.inr (hw _ (List.mem_of_getElem? (i := 27) rfl))) (ty := (.object "java/util/Map")) (by decide)
  have F1_openKeys : Fld Z h1 b1 "com/example/riverside/riverside/Arbiter" "openKeys" "Ljava/util/Map;" .null := D1 (Or.inr (hw _ (List.mem_of_getElem? (i := 29) rfl))) (ty := (.object "java/util/Map")) (by decide)
  have F1_blocked : Fld Z h1 b1 "com/example/riverside/riverside/Arbiter" "blocked" "Ljava/util/Set;" .null := D1 (Or.inr (hw _ (List.mem_of_getElem? (i := 92) rfl))) (ty := (.object "java/util/Set")) (by decide)
  have F1_fenceLimit : Fld Z h1 b1 "com/example/riverside/riverside/Arbiter" "fenceLimit" "Ljava/util/function/LongSupplier;" .null := D1 (Or.inl (hw _ (List.mem_of_getElem? (i := 97) rfl))) (ty := (.object "java/util/function/LongSupplier")) (by decide)
  have F1_nextFence : Fld Z h1 b1 "com/example/riverside/riverside/Arbiter" "nextFence" "J" (.long (0 : Int64)) := D1 (Or.inl (hw _ (List.mem_of_getElem? (i := 100) rfl))) (ty := .long) (by decide)
  obtain ⟨_, _, ⟨T2, L2, k2, n2⟩, -, X2, ⟨Lc2, hQ2, l2, y2, z2⟩, st2⟩ := X1.specialBack hx (y := (⟨"com/example/riverside/riverside/Arbiter", "<init>", "(J)V"⟩ : MethodName)) rfl hown (mvT hZ (hw _ (List.mem_of_getElem? (i := 4) rfl))) (mvT hZ (hw _ (List.mem_of_getElem? (i := 5) rfl))) (mvT hZ (hw _ (List.mem_of_getElem? (i := 6) rfl))) (by decide) (backOf (W := 1) (rmAR l Z a0 hw [] b1 (1 : Int64) h1 n0 O1 g_b1 A1 F1_keys F1_openKeys F1_blocked F1_fenceLimit F1_nextFence (by decide) (by decide)) hZ (hw _ (List.mem_of_getElem? (i := 6) rfl)) (hw _ (List.mem_of_getElem? (i := 3) rfl)) (by decide) (by decide)) (g := (mkF m 23 #[.val (.long pJ), .second, .val (.long q), .second, .val (.long r), .second, .val (.long (1 : Int64)), .second, .unset, .unset, .unset, .unset, .unset] [(.long (1 : Int64)), (.ref b1), (.ref b1)])) rfl (by rw [hml]; rfl) (Steps.refl _) (a := b1) (argsL := [(.long (1 : Int64))]) (rest := [(.ref b1)]) (lenOf own_pd6 rfl) rfl (by show 2 * 0 + _ ≤ _; exact Nat.le_of_eq rfl) (hb hby at_23) (fun _ _ => ⟨rfl, e1, (by decide : 1 + 4 ≤ _), (by decide : 5 + 29 ≤ _)⟩)
  dsimp only [Pt.U, Pt.locs, Pt.cells, Pt.slots] at X2 l2 y2 z2 st2 hQ2
  subst l2 y2 z2
  obtain ⟨rfl, N2q, KK2, f2_0⟩ := hQ2
  have N2 := Fr.app N0 N2q
  have O2 := Old.keep O1 KK2 (allS g_b1 all0)
  obtain ⟨cq3, kq3, q3a, q3b, q3c⟩ := isOf hZ rfl (A1.keep KK2)
  obtain ⟨_, _, ⟨T3, L3, k3, n3⟩, -, X3, ⟨Lc3, hQ3, l3, y3, z3⟩, st3⟩ := X2.virtualBack hx (y := (⟨"com/example/riverside/riverside/Arbiter", "nextFence", "()J"⟩ : MethodName)) (z := (⟨"com/example/riverside/riverside/Arbiter", "nextFence", "()J"⟩ : MethodName)) hown (mvT hZ (hw _ (List.mem_of_getElem? (i := 101) rfl))) (mvT hZ (hw _ (List.mem_of_getElem? (i := 102) rfl))) (notFace_of_selects (args := #[]) (mvT hZ (hw _ (List.mem_of_getElem? (i := 104) rfl)))) (mvT hZ (hw _ (List.mem_of_getElem? (i := 104) rfl))) (mvT hZ (hw _ (List.mem_of_getElem? (i := 103) rfl))) (by decide) (backOf (W := 0) (rmNF l Z a0 hw [] b1 (1 : Int64) T2.heap n0 f2_0) hZ (hw _ (List.mem_of_getElem? (i := 105) rfl)) (hw _ (List.mem_of_getElem? (i := 3) rfl)) (by decide) (by decide)) q3a q3c (g := (mkF m 30 #[.val (.long pJ), .second, .val (.long q), .second, .val (.long r), .second, .val (.long (1 : Int64)), .second, .val (.ref b1), .unset, .unset, .unset, .unset] [(.ref b1)])) rfl (by rw [hml]; rfl) (Steps.refl _) (argsL := []) (rest := []) (lenOf own_pd7 rfl) rfl (by show 2 * 0 + _ ≤ _; exact Nat.le_of_eq rfl) (hb hby at_30) (fun _ _ => ⟨rfl, rfl, (by decide : 5 + 0 ≤ _), (by decide : 34 + 0 ≤ _)⟩)
  dsimp only [Pt.U, Pt.locs, Pt.cells, Pt.slots] at X3 l3 y3 z3 st3 hQ3
  subst l3 y3 z3
  obtain ⟨rfl, N3q, e3⟩ := hQ3
  have N3 := Fr.app N2 N3q
  obtain ⟨cq4, kq4, q4a, q4b, q4c⟩ := isOf hZ e3 (A1.keep KK2)
  obtain ⟨_, _, ⟨T4, L4, k4, n4⟩, -, X4, ⟨Lc4, hQ4, l4, y4, z4⟩, st4⟩ := X3.virtualBack hx (y := (⟨"com/example/riverside/riverside/Arbiter", "advanceFences", "(J)V"⟩ : MethodName)) (z := (⟨"com/example/riverside/riverside/Arbiter", "advanceFences", "(J)V"⟩ : MethodName)) hown (mvT hZ (hw _ (List.mem_of_getElem? (i := 106) rfl))) (mvT hZ (hw _ (List.mem_of_getElem? (i := 107) rfl))) (notFace_of_selects (args := #[]) (mvT hZ (hw _ (List.mem_of_getElem? (i := 109) rfl)))) (mvT hZ (hw _ (List.mem_of_getElem? (i := 109) rfl))) (mvT hZ (hw _ (List.mem_of_getElem? (i := 108) rfl))) (by decide) (backOf (W := 0) (rmAV l Z a0 hw [] b1 q (1 : Int64) T2.heap n0 O2 g_b1 (A1.keep KK2) f2_0) hZ (hw _ (List.mem_of_getElem? (i := 110) rfl)) (hw _ (List.mem_of_getElem? (i := 3) rfl)) (by decide) (by decide)) q4a q4c (g := (mkF m 44 #[.val (.long pJ), .second, .val (.long q), .second, .val (.long r), .second, .val (.long (1 : Int64)), .second, .val (.ref b1), .unset, .unset, .unset, .unset] [(.long q), (.ref b1)])) rfl (by rw [hml]; rfl) (Steps.refl _) (argsL := [(.long q)]) (rest := []) (lenOf own_pd6 rfl) rfl (by show 2 * 0 + _ ≤ _; exact Nat.le_of_eq rfl) (hb hby at_44) (fun _ _ => ⟨rfl, e3, (by decide : 5 + 0 ≤ _), (by decide : 34 + 0 ≤ _)⟩)
  dsimp only [Pt.U, Pt.locs, Pt.cells, Pt.slots] at X4 l4 y4 z4 st4 hQ4
  subst l4 y4 z4
  obtain ⟨rfl, N4q, KK4, f4_0⟩ := hQ4
  have N4 := Fr.app N3 N4q
  have O4 := Old.keep O2 KK4 (allS g_b1 all0)
  obtain ⟨cq5, kq5, q5a, q5b, q5c⟩ := isOf hZ rfl ((A1.keep KK2).keep KK4)
  obtain ⟨_, _, ⟨T5, L5, k5, n5⟩, -, X5, ⟨Lc5, hQ5, l5, y5, z5⟩, st5⟩ := X4.virtualBack hx (y := (⟨"com/example/riverside/riverside/Arbiter", "nextFence", "()J"⟩ : MethodName)) (z := (⟨"com/example/riverside/riverside/Arbiter", "nextFence", "()J"⟩ : MethodName)) hown (mvT hZ (hw _ (List.mem_of_getElem? (i := 101) rfl))) (mvT hZ (hw _ (List.mem_of_getElem? (i := 102) rfl))) (notFace_of_selects (args := #[]) (mvT hZ (hw _ (List.mem_of_getElem? (i := 104) rfl)))) (mvT hZ (hw _ (List.mem_of_getElem? (i := 104) rfl))) (mvT hZ (hw _ (List.mem_of_getElem? (i := 103) rfl))) (by decide) (backOf (W := 0) (rmNF l Z a0 hw [] b1 (own_max (1 : Int64) q) T4.heap n0 f4_0) hZ (hw _ (List.mem_of_getElem? (i := 105) rfl)) (hw _ (List.mem_of_getElem? (i := 3) rfl)) (by decide) (by decide)) q5a q5c (g := (mkF m 63 #[.val (.long pJ), .second, .val (.long q), .second, .val (.long r), .second, .val (.long (1 : Int64)), .second, .val (.ref b1), .val (.long q), .second, .unset, .unset] [(.ref b1)])) rfl (by rw [hml]; rfl) (Steps.refl _) (argsL := []) (rest := []) (lenOf own_pd7 rfl) rfl (by show 2 * 0 + _ ≤ _; exact Nat.le_of_eq rfl) (hb hby at_63) (fun _ _ => ⟨rfl, rfl, (by decide : 5 + 0 ≤ _), (by decide : 34 + 0 ≤ _)⟩)
  dsimp only [Pt.U, Pt.locs, Pt.cells, Pt.slots] at X5 l5 y5 z5 st5 hQ5
  subst l5 y5 z5
  obtain ⟨rfl, N5q, e5⟩ := hQ5
  have N5 := Fr.app N4 N5q
  obtain ⟨cq6, kq6, q6a, q6b, q6c⟩ := isOf hZ e5 ((A1.keep KK2).keep KK4)
  obtain ⟨_, _, ⟨T6, L6, k6, n6⟩, -, X6, ⟨Lc6, hQ6, l6, y6, z6⟩, st6⟩ := X5.virtualBack hx (y := (⟨"com/example/riverside/riverside/Arbiter", "advanceFences", "(J)V"⟩ : MethodName)) (z := (⟨"com/example/riverside/riverside/Arbiter", "advanceFences", "(J)V"⟩ : MethodName)) hown (mvT hZ (hw _ (List.mem_of_getElem? (i := 106) rfl))) (mvT hZ (hw _ (List.mem_of_getElem? (i := 107) rfl))) (notFace_of_selects (args := #[]) (mvT hZ (hw _ (List.mem_of_getElem? (i := 109) rfl)))) (mvT hZ (hw _ (List.mem_of_getElem? (i := 109) rfl))) (mvT hZ (hw _ (List.mem_of_getElem? (i := 108) rfl))) (by decide) (backOf (W := 0) (rmAV l Z a0 hw [] b1 r (own_max (1 : Int64) q) T4.heap n0 O4 g_b1 ((A1.keep KK2).keep KK4) f4_0) hZ (hw _ (List.mem_of_getElem? (i := 110) rfl)) (hw _ (List.mem_of_getElem? (i := 3) rfl)) (by decide) (by decide)) q6a q6c (g := (mkF m 78 #[.val (.long pJ), .second, .val (.long q), .second, .val (.long r), .second, .val (.long (1 : Int64)), .second, .val (.ref b1), .val (.long q), .second, .unset, .unset] [(.long r), (.ref b1)])) rfl (by rw [hml]; rfl) (Steps.refl _) (argsL := [(.long r)]) (rest := []) (lenOf own_pd6 rfl) rfl (by show 2 * 0 + _ ≤ _; exact Nat.le_of_eq rfl) (hb hby at_78) (fun _ _ => ⟨rfl, e5, (by decide : 5 + 0 ≤ _), (by decide : 34 + 0 ≤ _)⟩)
  dsimp only [Pt.U, Pt.locs, Pt.cells, Pt.slots] at X6 l6 y6 z6 st6 hQ6
  subst l6 y6 z6
  obtain ⟨rfl, N6q, KK6, f6_0⟩ := hQ6
  have N6 := Fr.app N5 N6q
  have O6 := Old.keep O4 KK6 (allS g_b1 all0)
  obtain ⟨cq7, kq7, q7a, q7b, q7c⟩ := isOf hZ rfl (((A1.keep KK2).keep KK4).keep KK6)
  obtain ⟨_, _, ⟨T7, L7, k7, n7⟩, -, X7, ⟨Lc7, hQ7, l7, y7, z7⟩, st7⟩ := X6.virtualBack hx (y := (⟨"com/example/riverside/riverside/Arbiter", "nextFence", "()J"⟩ : MethodName)) (z := (⟨"com/example/riverside/riverside/Arbiter", "nextFence", "()J"⟩ : MethodName)) hown (mvT hZ (hw _ (List.mem_of_getElem? (i := 101) rfl))) (mvT hZ (hw _ (List.mem_of_getElem? (i := 102) rfl))) (notFace_of_selects (args := #[]) (mvT hZ (hw _ (List.mem_of_getElem? (i := 104) rfl)))) (mvT hZ (hw _ (List.mem_of_getElem? (i := 104) rfl))) (mvT hZ (hw _ (List.mem_of_getElem? (i := 103) rfl))) (by decide) (backOf (W := 0) (rmNF l Z a0 hw [] b1 (own_max (own_max (1 : Int64) q) r) T6.heap n0 f6_0) hZ (hw _ (List.mem_of_getElem? (i := 105) rfl)) (hw _ (List.mem_of_getElem? (i := 3) rfl)) (by decide) (by decide)) q7a q7c (g := (mkF m 99 #[.val (.long pJ), .second, .val (.long q), .second, .val (.long r), .second, .val (.long (1 : Int64)), .second, .val (.ref b1), .val (.long q), .second, .val (.long r), .second] [(.ref b1)])) rfl (by rw [hml]; rfl) (Steps.refl _) (argsL := []) (rest := []) (lenOf own_pd7 rfl) rfl (by show 2 * 0 + _ ≤ _; exact Nat.le_of_eq rfl) (hb hby at_99) (fun _ _ => ⟨rfl, rfl, (by decide : 5 + 0 ≤ _), (by decide : 34 + 0 ≤ _)⟩)
  dsimp only [Pt.U, Pt.locs, Pt.cells, Pt.slots] at X7 l7 y7 z7 st7 hQ7
  subst l7 y7 z7
  obtain ⟨rfl, N7q, e7⟩ := hQ7
  have N7 := Fr.app N6 N7q
  obtain ⟨fs, hr, hrun, hended, hW, hsame⟩ := X7.leave (v := some (.int (1 : Int32))) (fun h => by rw [Bd.returns] at h; cases h)
  refine ⟨_, _, pre0 _ ?_, hrun, hended, _, _, rfl, ?_, ⟨_, rfl⟩, hW, hsame.mono (by decide) (by decide)⟩
  · show Steps p.tables e below (s₁.setTop (mkF m 0 #[.val (.long pJ), .second, .val (.long q), .second, .val (.long r), .second, .unset, .unset, .unset, .unset, .unset, .unset, .unset] [])) _
    refine XS.lloadN X0.here hx rfl (hb hby at_0) rfl ?_
    show Steps p.tables e below (s₁.setTop (mkF m 1 #[.val (.long pJ), .second, .val (.long q), .second, .val (.long r), .second, .unset, .unset, .unset, .unset, .unset, .unset, .unset] [(.long pJ)])) _
    refine X0.ldc2Long hx hown (mvT hZ (hw _ (List.mem_of_getElem? (i := 0) rfl))) (g := (mkF m 1 #[.val (.long pJ), .second, .val (.long q), .second, .val (.long r), .second, .unset, .unset, .unset, .unset, .unset, .unset, .unset] [(.long pJ)])) rfl (hb hby at_1) _ ?_
    show Steps p.tables e below (s₁.setTop (mkF m 4 #[.val (.long pJ), .second, .val (.long q), .second, .val (.long r), .second, .unset, .unset, .unset, .unset, .unset, .unset, .unset] [(.long (9007199254740991 : Int64)), (.long pJ)])) _
    refine XS.land X0.here hx rfl (hb hby at_4) rfl ?_
    show Steps p.tables e below (s₁.setTop (mkF m 5 #[.val (.long pJ), .second, .val (.long q), .second, .val (.long r), .second, .unset, .unset, .unset, .unset, .unset, .unset, .unset] [(.long (pJ &&& (9007199254740991 : Int64)))])) _
    refine XS.lstore X0.here hx rfl (hb hby at_5) rfl (l' := #[.val (.long pJ), .second, .val (.long q), .second, .val (.long r), .second, .val (.long (pJ &&& (9007199254740991 : Int64))), .second, .unset, .unset, .unset, .unset, .unset]) rfl ?_
    show Steps p.tables e below (s₁.setTop (mkF m 7 #[.val (.long pJ), .second, .val (.long q), .second, .val (.long r), .second, .val (.long (pJ &&& (9007199254740991 : Int64))), .second, .unset, .unset, .unset, .unset, .unset] [])) _
    refine XS.lload X0.here hx rfl (hb hby at_7) rfl ?_
    show Steps p.tables e below (s₁.setTop (mkF m 9 #[.val (.long pJ), .second, .val (.long q), .second, .val (.long r), .second, .val (.long (pJ &&& (9007199254740991 : Int64))), .second, .unset, .unset, .unset, .unset, .unset] [(.long (pJ &&& (9007199254740991 : Int64)))])) _
    refine XS.lconst X0.here hx rfl (hb hby at_9) ?_
    show Steps p.tables e below (s₁.setTop (mkF m 10 #[.val (.long pJ), .second, .val (.long q), .second, .val (.long r), .second, .val (.long (pJ &&& (9007199254740991 : Int64))), .second, .unset, .unset, .unset, .unset, .unset] [(.long (0 : Int64)), (.long (pJ &&& (9007199254740991 : Int64)))])) _
    refine XS.lcmp X0.here hx rfl (hb hby at_10) rfl ?_
    show Steps p.tables e below (s₁.setTop (mkF m 11 #[.val (.long pJ), .second, .val (.long q), .second, .val (.long r), .second, .val (.long (pJ &&& (9007199254740991 : Int64))), .second, .unset, .unset, .unset, .unset, .unset] [(.int (lcmpW (pJ &&& (9007199254740991 : Int64)) (0 : Int64)))])) _
    refine XS.ifNo X0.here hx rfl (hb hby at_11) rfl ((if0 _ _).trans (teq hc11).2) ?_
    show Steps p.tables e below (s₁.setTop (mkF m 14 #[.val (.long pJ), .second, .val (.long q), .second, .val (.long r), .second, .val (.long (pJ &&& (9007199254740991 : Int64))), .second, .unset, .unset, .unset, .unset, .unset] [])) _
    refine XS.lconst X0.here hx rfl (hb hby at_14) ?_
    show Steps p.tables e below (s₁.setTop (mkF m 15 #[.val (.long pJ), .second, .val (.long q), .second, .val (.long r), .second, .val (.long (pJ &&& (9007199254740991 : Int64))), .second, .unset, .unset, .unset, .unset, .unset] [(.long (1 : Int64))])) _
    refine XS.lstore X0.here hx rfl (hb hby at_15) rfl (l' := #[.val (.long pJ), .second, .val (.long q), .second, .val (.long r), .second, .val (.long (1 : Int64)), .second, .unset, .unset, .unset, .unset, .unset]) rfl ?_
    show Steps p.tables e below (s₁.setTop (mkF m 17 #[.val (.long pJ), .second, .val (.long q), .second, .val (.long r), .second, .val (.long (1 : Int64)), .second, .unset, .unset, .unset, .unset, .unset] [])) _
    refine st1 _ ?_
    show Steps p.tables e below (T1.setTop (mkF m 20 #[.val (.long pJ), .second, .val (.long q), .second, .val (.long r), .second, .val (.long (1 : Int64)), .second, .unset, .unset, .unset, .unset, .unset] [(.ref b1)])) _
    refine XS.dup X1.here hx rfl (hb hby at_20) rfl rfl ?_
    show Steps p.tables e below (T1.setTop (mkF m 21 #[.val (.long pJ), .second, .val (.long q), .second, .val (.long r), .second, .val (.long (1 : Int64)), .second, .unset, .unset, .unset, .unset, .unset] [(.ref b1), (.ref b1)])) _
    refine XS.lload X1.here hx rfl (hb hby at_21) rfl ?_
    show Steps p.tables e below (T1.setTop (mkF m 23 #[.val (.long pJ), .second, .val (.long q), .second, .val (.long r), .second, .val (.long (1 : Int64)), .second, .unset, .unset, .unset, .unset, .unset] [(.long (1 : Int64)), (.ref b1), (.ref b1)])) _
    refine st2.trans ?_
    show Steps p.tables e below (T2.setTop (mkF m 26 #[.val (.long pJ), .second, .val (.long q), .second, .val (.long r), .second, .val (.long (1 : Int64)), .second, .unset, .unset, .unset, .unset, .unset] [(.ref b1)])) _
    refine XS.astore X2.here hx rfl (hb hby at_26) rfl rfl (l' := #[.val (.long pJ), .second, .val (.long q), .second, .val (.long r), .second, .val (.long (1 : Int64)), .second, .val (.ref b1), .unset, .unset, .unset, .unset]) rfl ?_
    show Steps p.tables e below (T2.setTop (mkF m 28 #[.val (.long pJ), .second, .val (.long q), .second, .val (.long r), .second, .val (.long (1 : Int64)), .second, .val (.ref b1), .unset, .unset, .unset, .unset] [])) _
    refine XS.aload X2.here hx rfl (hb hby at_28) rfl rfl ?_
    show Steps p.tables e below (T2.setTop (mkF m 30 #[.val (.long pJ), .second, .val (.long q), .second, .val (.long r), .second, .val (.long (1 : Int64)), .second, .val (.ref b1), .unset, .unset, .unset, .unset] [(.ref b1)])) _
    refine st3.trans ?_
    show Steps p.tables e below (T3.setTop (mkF m 33 #[.val (.long pJ), .second, .val (.long q), .second, .val (.long r), .second, .val (.long (1 : Int64)), .second, .val (.ref b1), .unset, .unset, .unset, .unset] [(.long (1 : Int64))])) _
    refine XS.lload X3.here hx rfl (hb hby at_33) rfl ?_
    show Steps p.tables e below (T3.setTop (mkF m 35 #[.val (.long pJ), .second, .val (.long q), .second, .val (.long r), .second, .val (.long (1 : Int64)), .second, .val (.ref b1), .unset, .unset, .unset, .unset] [(.long (1 : Int64)), (.long (1 : Int64))])) _
    refine XS.lcmp X3.here hx rfl (hb hby at_35) rfl ?_
    show Steps p.tables e below (T3.setTop (mkF m 36 #[.val (.long pJ), .second, .val (.long q), .second, .val (.long r), .second, .val (.long (1 : Int64)), .second, .val (.ref b1), .unset, .unset, .unset, .unset] [(.int (lcmpW (1 : Int64) (1 : Int64)))])) _
    refine XS.ifYes X3.here hx rfl (pc0 := 36) (pc' := 41) rfl (hb hby at_36) rfl ((if0 _ _).trans (teq ((lw_eq _ _).mpr rfl : (lcmpW (1 : Int64) (1 : Int64)) = (0 : Int32))).1) (by decide) (by decide) ?_
    show Steps p.tables e below (T3.setTop (mkF m 41 #[.val (.long pJ), .second, .val (.long q), .second, .val (.long r), .second, .val (.long (1 : Int64)), .second, .val (.ref b1), .unset, .unset, .unset, .unset] [])) _
    refine XS.aload X3.here hx rfl (hb hby at_41) rfl rfl ?_
    show Steps p.tables e below (T3.setTop (mkF m 43 #[.val (.long pJ), .second, .val (.long q), .second, .val (.long r), .second, .val (.long (1 : Int64)), .second, .val (.ref b1), .unset, .unset, .unset, .unset] [(.ref b1)])) _
    refine XS.lloadN X3.here hx rfl (hb hby at_43) rfl ?_
    show Steps p.tables e below (T3.setTop (mkF m 44 #[.val (.long pJ), .second, .val (.long q), .second, .val (.long r), .second, .val (.long (1 : Int64)), .second, .val (.ref b1), .unset, .unset, .unset, .unset] [(.long q), (.ref b1)])) _
    refine st4.trans ?_
    show Steps p.tables e below (T4.setTop (mkF m 47 #[.val (.long pJ), .second, .val (.long q), .second, .val (.long r), .second, .val (.long (1 : Int64)), .second, .val (.ref b1), .unset, .unset, .unset, .unset] [])) _
    refine XS.lload X4.here hx rfl (hb hby at_47) rfl ?_
    show Steps p.tables e below (T4.setTop (mkF m 49 #[.val (.long pJ), .second, .val (.long q), .second, .val (.long r), .second, .val (.long (1 : Int64)), .second, .val (.ref b1), .unset, .unset, .unset, .unset] [(.long (1 : Int64))])) _
    refine XS.lstore X4.here hx rfl (hb hby at_49) rfl (l' := #[.val (.long pJ), .second, .val (.long q), .second, .val (.long r), .second, .val (.long (1 : Int64)), .second, .val (.ref b1), .val (.long (1 : Int64)), .second, .unset, .unset]) rfl ?_
    show Steps p.tables e below (T4.setTop (mkF m 51 #[.val (.long pJ), .second, .val (.long q), .second, .val (.long r), .second, .val (.long (1 : Int64)), .second, .val (.ref b1), .val (.long (1 : Int64)), .second, .unset, .unset] [])) _
    refine XS.lloadN X4.here hx rfl (hb hby at_51) rfl ?_
    show Steps p.tables e below (T4.setTop (mkF m 52 #[.val (.long pJ), .second, .val (.long q), .second, .val (.long r), .second, .val (.long (1 : Int64)), .second, .val (.ref b1), .val (.long (1 : Int64)), .second, .unset, .unset] [(.long q)])) _
    refine XS.lload X4.here hx rfl (hb hby at_52) rfl ?_
    show Steps p.tables e below (T4.setTop (mkF m 54 #[.val (.long pJ), .second, .val (.long q), .second, .val (.long r), .second, .val (.long (1 : Int64)), .second, .val (.ref b1), .val (.long (1 : Int64)), .second, .unset, .unset] [(.long (1 : Int64)), (.long q)])) _
    refine XS.lcmp X4.here hx rfl (hb hby at_54) rfl ?_
    show Steps p.tables e below (T4.setTop (mkF m 55 #[.val (.long pJ), .second, .val (.long q), .second, .val (.long r), .second, .val (.long (1 : Int64)), .second, .val (.ref b1), .val (.long (1 : Int64)), .second, .unset, .unset] [(.int (lcmpW q (1 : Int64)))])) _
    refine XS.ifNo X4.here hx rfl (hb hby at_55) rfl ((if0 _ _).trans (tlt hc55).2.2.2) ?_
    show Steps p.tables e below (T4.setTop (mkF m 58 #[.val (.long pJ), .second, .val (.long q), .second, .val (.long r), .second, .val (.long (1 : Int64)), .second, .val (.ref b1), .val (.long (1 : Int64)), .second, .unset, .unset] [])) _
    refine XS.lloadN X4.here hx rfl (hb hby at_58) rfl ?_
    show Steps p.tables e below (T4.setTop (mkF m 59 #[.val (.long pJ), .second, .val (.long q), .second, .val (.long r), .second, .val (.long (1 : Int64)), .second, .val (.ref b1), .val (.long (1 : Int64)), .second, .unset, .unset] [(.long q)])) _
    refine XS.lstore X4.here hx rfl (hb hby at_59) rfl (l' := #[.val (.long pJ), .second, .val (.long q), .second, .val (.long r), .second, .val (.long (1 : Int64)), .second, .val (.ref b1), .val (.long q), .second, .unset, .unset]) rfl ?_
    show Steps p.tables e below (T4.setTop (mkF m 61 #[.val (.long pJ), .second, .val (.long q), .second, .val (.long r), .second, .val (.long (1 : Int64)), .second, .val (.ref b1), .val (.long q), .second, .unset, .unset] [])) _
    refine XS.aload X4.here hx rfl (hb hby at_61) rfl rfl ?_
    show Steps p.tables e below (T4.setTop (mkF m 63 #[.val (.long pJ), .second, .val (.long q), .second, .val (.long r), .second, .val (.long (1 : Int64)), .second, .val (.ref b1), .val (.long q), .second, .unset, .unset] [(.ref b1)])) _
    refine st5.trans ?_
    show Steps p.tables e below (T5.setTop (mkF m 66 #[.val (.long pJ), .second, .val (.long q), .second, .val (.long r), .second, .val (.long (1 : Int64)), .second, .val (.ref b1), .val (.long q), .second, .unset, .unset] [(.long (own_max (1 : Int64) q))])) _
    refine XS.lload X5.here hx rfl (hb hby at_66) rfl ?_
    show Steps p.tables e below (T5.setTop (mkF m 68 #[.val (.long pJ), .second, .val (.long q), .second, .val (.long r), .second, .val (.long (1 : Int64)), .second, .val (.ref b1), .val (.long q), .second, .unset, .unset] [(.long q), (.long (own_max (1 : Int64) q))])) _
    refine XS.lcmp X5.here hx rfl (hb hby at_68) rfl ?_
    show Steps p.tables e below (T5.setTop (mkF m 69 #[.val (.long pJ), .second, .val (.long q), .second, .val (.long r), .second, .val (.long (1 : Int64)), .second, .val (.ref b1), .val (.long q), .second, .unset, .unset] [(.int (lcmpW (own_max (1 : Int64) q) q))])) _
    refine XS.ifYes X5.here hx rfl (pc0 := 69) (pc' := 74) rfl (hb hby at_69) rfl ((if0 _ _).trans (teq ((lw_eq _ _).mpr (own_max_gt hc55) : (lcmpW (own_max (1 : Int64) q) q) = (0 : Int32))).1) (by decide) (by decide) ?_
    show Steps p.tables e below (T5.setTop (mkF m 74 #[.val (.long pJ), .second, .val (.long q), .second, .val (.long r), .second, .val (.long (1 : Int64)), .second, .val (.ref b1), .val (.long q), .second, .unset, .unset] [])) _
    refine XS.aload X5.here hx rfl (hb hby at_74) rfl rfl ?_
    show Steps p.tables e below (T5.setTop (mkF m 76 #[.val (.long pJ), .second, .val (.long q), .second, .val (.long r), .second, .val (.long (1 : Int64)), .second, .val (.ref b1), .val (.long q), .second, .unset, .unset] [(.ref b1)])) _
    refine XS.lload X5.here hx rfl (hb hby at_76) rfl ?_
    show Steps p.tables e below (T5.setTop (mkF m 78 #[.val (.long pJ), .second, .val (.long q), .second, .val (.long r), .second, .val (.long (1 : Int64)), .second, .val (.ref b1), .val (.long q), .second, .unset, .unset] [(.long r), (.ref b1)])) _
    refine st6.trans ?_
    show Steps p.tables e below (T6.setTop (mkF m 81 #[.val (.long pJ), .second, .val (.long q), .second, .val (.long r), .second, .val (.long (1 : Int64)), .second, .val (.ref b1), .val (.long q), .second, .unset, .unset] [])) _
    refine XS.lload X6.here hx rfl (hb hby at_81) rfl ?_
    show Steps p.tables e below (T6.setTop (mkF m 83 #[.val (.long pJ), .second, .val (.long q), .second, .val (.long r), .second, .val (.long (1 : Int64)), .second, .val (.ref b1), .val (.long q), .second, .unset, .unset] [(.long q)])) _
    refine XS.lstore X6.here hx rfl (hb hby at_83) rfl (l' := #[.val (.long pJ), .second, .val (.long q), .second, .val (.long r), .second, .val (.long (1 : Int64)), .second, .val (.ref b1), .val (.long q), .second, .val (.long q), .second]) rfl ?_
    show Steps p.tables e below (T6.setTop (mkF m 85 #[.val (.long pJ), .second, .val (.long q), .second, .val (.long r), .second, .val (.long (1 : Int64)), .second, .val (.ref b1), .val (.long q), .second, .val (.long q), .second] [])) _
    refine XS.lload X6.here hx rfl (hb hby at_85) rfl ?_
    show Steps p.tables e below (T6.setTop (mkF m 87 #[.val (.long pJ), .second, .val (.long q), .second, .val (.long r), .second, .val (.long (1 : Int64)), .second, .val (.ref b1), .val (.long q), .second, .val (.long q), .second] [(.long r)])) _
    refine XS.lload X6.here hx rfl (hb hby at_87) rfl ?_
    show Steps p.tables e below (T6.setTop (mkF m 89 #[.val (.long pJ), .second, .val (.long q), .second, .val (.long r), .second, .val (.long (1 : Int64)), .second, .val (.ref b1), .val (.long q), .second, .val (.long q), .second] [(.long q), (.long r)])) _
    refine XS.lcmp X6.here hx rfl (hb hby at_89) rfl ?_
    show Steps p.tables e below (T6.setTop (mkF m 90 #[.val (.long pJ), .second, .val (.long q), .second, .val (.long r), .second, .val (.long (1 : Int64)), .second, .val (.ref b1), .val (.long q), .second, .val (.long q), .second] [(.int (lcmpW r q))])) _
    refine XS.ifNo X6.here hx rfl (hb hby at_90) rfl ((if0 _ _).trans (tlt hc90).2.2.2) ?_
    show Steps p.tables e below (T6.setTop (mkF m 93 #[.val (.long pJ), .second, .val (.long q), .second, .val (.long r), .second, .val (.long (1 : Int64)), .second, .val (.ref b1), .val (.long q), .second, .val (.long q), .second] [])) _
    refine XS.lload X6.here hx rfl (hb hby at_93) rfl ?_
    show Steps p.tables e below (T6.setTop (mkF m 95 #[.val (.long pJ), .second, .val (.long q), .second, .val (.long r), .second, .val (.long (1 : Int64)), .second, .val (.ref b1), .val (.long q), .second, .val (.long q), .second] [(.long r)])) _
    refine XS.lstore X6.here hx rfl (hb hby at_95) rfl (l' := #[.val (.long pJ), .second, .val (.long q), .second, .val (.long r), .second, .val (.long (1 : Int64)), .second, .val (.ref b1), .val (.long q), .second, .val (.long r), .second]) rfl ?_
    show Steps p.tables e below (T6.setTop (mkF m 97 #[.val (.long pJ), .second, .val (.long q), .second, .val (.long r), .second, .val (.long (1 : Int64)), .second, .val (.ref b1), .val (.long q), .second, .val (.long r), .second] [])) _
    refine XS.aload X6.here hx rfl (hb hby at_97) rfl rfl ?_
    show Steps p.tables e below (T6.setTop (mkF m 99 #[.val (.long pJ), .second, .val (.long q), .second, .val (.long r), .second, .val (.long (1 : Int64)), .second, .val (.ref b1), .val (.long q), .second, .val (.long r), .second] [(.ref b1)])) _
    refine st7.trans ?_
    show Steps p.tables e below (T7.setTop (mkF m 102 #[.val (.long pJ), .second, .val (.long q), .second, .val (.long r), .second, .val (.long (1 : Int64)), .second, .val (.ref b1), .val (.long q), .second, .val (.long r), .second] [(.long (own_max (own_max (1 : Int64) q) r))])) _
    refine XS.lload X7.here hx rfl (hb hby at_102) rfl ?_
    show Steps p.tables e below (T7.setTop (mkF m 104 #[.val (.long pJ), .second, .val (.long q), .second, .val (.long r), .second, .val (.long (1 : Int64)), .second, .val (.ref b1), .val (.long q), .second, .val (.long r), .second] [(.long r), (.long (own_max (own_max (1 : Int64) q) r))])) _
    refine XS.lcmp X7.here hx rfl (hb hby at_104) rfl ?_
    show Steps p.tables e below (T7.setTop (mkF m 105 #[.val (.long pJ), .second, .val (.long q), .second, .val (.long r), .second, .val (.long (1 : Int64)), .second, .val (.ref b1), .val (.long q), .second, .val (.long r), .second] [(.int (lcmpW (own_max (own_max (1 : Int64) q) r) r))])) _
    refine XS.ifNo X7.here hx rfl (hb hby at_105) rfl ((if0 _ _).trans (teq ((lw_eq _ _).mpr (by rw [own_max_gt hc55]; exact own_max_gt hc90) : (lcmpW (own_max (own_max (1 : Int64) q) r) r) = (0 : Int32))).2) ?_
    show Steps p.tables e below (T7.setTop (mkF m 108 #[.val (.long pJ), .second, .val (.long q), .second, .val (.long r), .second, .val (.long (1 : Int64)), .second, .val (.ref b1), .val (.long q), .second, .val (.long r), .second] [])) _
    refine XS.iconst X7.here hx rfl (hb hby at_108) ?_
    show Steps p.tables e below (T7.setTop (mkF m 109 #[.val (.long pJ), .second, .val (.long q), .second, .val (.long r), .second, .val (.long (1 : Int64)), .second, .val (.ref b1), .val (.long q), .second, .val (.long r), .second] [(.int (1 : Int32))])) _
    refine XS.goto X7.here hx rfl (pc0 := 109) (pc' := 113) rfl (hb hby at_109) (by decide) (by decide) ?_
    show Steps p.tables e below (T7.setTop (mkF m 113 #[.val (.long pJ), .second, .val (.long q), .second, .val (.long r), .second, .val (.long (1 : Int64)), .second, .val (.ref b1), .val (.long q), .second, .val (.long r), .second] [(.int (1 : Int32))])) _
    exact retN X7 hx (t := .boolean) Bd.returns (by simp) (hb hby at_113) hr
  · show Qd10 Z pJ q r h0 n0 _ T7.heap _
    rw [e7]
    exact ⟨rfl, N7⟩
set_option maxRecDepth 65536 in
set_option maxHeartbeats 40000000 in
theorem rm0fft (l : Launch) (Z : State) (a0 : Array Value) (hw : ∀ d ∈ tables_1, d.before a0 Z = true) (ws : List Jvm.Cond) (pJ q r : Int64) (h0 : Heap) (n0 : Nat) (O0 : Old Z n0 h0) (hc11 : (lcmpW (pJ &&& (9007199254740991 : Int64)) (0 : Int64)) = (0 : Int32)) (hc55 : (0 : Int32) < (lcmpW q (1 : Int64))) (hc90 : ¬ ((0 : Int32) < (lcmpW r q))) :
    MetFree l x (head1 (Jvm.Cond.code x code maxLocals ret :: ws) room_1) (fun qq U => qq = #[(.long pJ), (.long q), (.long r)] ∧ Z.Warmed39 U.vm ∧ U.heap = h0) (fun _ _ _ _ _ => True) (fun _ UU oo UU' => ∃ vv LL, oo = .returned vv ∧ Qd10 Z pJ q r h0 n0 vv UU'.heap LL ∧ FrameEnd UU oo UU' LL room_1.cells room_1.slots) := by
  refine MetFree.of_bodySF (plainFor_of_name pn_0) hisR ?_
  intro p e s m args below meth c s₁ Bd hml0 hP hK
  obtain ⟨rfl, hZ, hh⟩ := hP
  have hx := Bd.exec
  have hby := Bd.bytes
  have hml : c.maxLocals = 13 := hml0
  have hown : s.vm.findClass "com/example/riverside/riverside/ArbiterAdvanceFencesPinLaw" = some m.cls := findClass_of_methodNamed Bd.named
  have hnm := (name_of_methodNamed Bd.named Bd.method).1
  have X0 : Stand p l e room_1 s m #[(.long pJ), (.long q), (.long r)] below meth c s₁ [] 0 0 := Stand.of_body Bd
  have e0 : s₁.heap = h0 := by rw [← hh, Bd.state]; rfl
  have N0 := Fr.nil n0
  have pre0 : ∀ t, Steps p.tables e below (s₁.setTop (mkF m 0 #[.val (.long pJ), .second, .val (.long q), .second, .val (.long r), .second, .unset, .unset, .unset, .unset, .unset, .unset, .unset] [])) t → Steps p.tables e below (s₁.setTop (entryFrame m #[(.long pJ), (.long q), (.long r)] maxLocals)) t := fun t k => castTop (ef_0 m pJ q r) k
  obtain ⟨T1, h1, X1, e1, E1, A1, D1, -, st1⟩ := newO X0 hx hZ hown (hw _ (List.mem_of_getElem? (i := 1) rfl)) (hw _ (List.mem_of_getElem? (i := 2) rfl)) (hw _ (List.mem_of_getElem? (i := 3) rfl)) e0 (g := (mkF m 17 #[.val (.long pJ), .second, .val (.long q), .second, .val (.long r), .second, .val (.long (1 : Int64)), .second, .unset, .unset, .unset, .unset, .unset] [])) rfl (hb hby at_17) (by decide) (by decide)
  obtain ⟨b1, q1⟩ : ∃ z, z = h0.size := ⟨_, rfl⟩
  rw [← q1] at A1 D1 st1
  have g_b1 : n0 ≤ b1 := by rw [q1]; exact (O0).1 ▸ (O0).2.1
  have O1 := Old.ext O0 E1
  have F1_keys : Fld Z h1 b1 "com/example/riverside/riverside/Arbiter" "keys" "Ljava/util/Map;" .null := D1 (Or.inr (hw _ (List.mem_of_getElem? (i := 27) rfl))) (ty := (.object "java/util/Map")) (by decide)
  have F1_openKeys : Fld Z h1 b1 "com/example/riverside/riverside/Arbiter" "openKeys" "Ljava/util/Map;" .null := D1 (Or.inr (hw _ (List.mem_of_getElem? (i := 29) rfl))) (ty := (.object "java/util/Map")) (by decide)
  have F1_blocked : Fld Z h1 b1 "com/example/riverside/riverside/Arbiter" "blocked" "Ljava/util/Set;" .null := D1 (Or.inr (hw _ (List.mem_of_getElem? (i := 92) rfl))) (ty := (.object "java/util/Set")) (by decide)
  have F1_fenceLimit : Fld Z h1 b1 "com/example/riverside/riverside/Arbiter" "fenceLimit" "Ljava/util/function/LongSupplier;" .null := D1 (Or.inl (hw _ (List.mem_of_getElem? (i := 97) rfl))) (ty := (.object "java/util/function/LongSupplier")) (by decide)
  have F1_nextFence : Fld Z h1 b1 "com/example/riverside/riverside/Arbiter" "nextFence" "J" (.long (0 : Int64)) := D1 (Or.inl (hw _ (List.mem_of_getElem? (i := 100) rfl))) (ty := .long) (by decide)
  obtain ⟨_, _, ⟨T2, L2, k2, n2⟩, -, X2, ⟨Lc2, hQ2, l2, y2, z2⟩, st2⟩ := X1.specialBack hx (y := (⟨"com/example/riverside/riverside/Arbiter", "<init>", "(J)V"⟩ : MethodName)) rfl hown (mvT hZ (hw _ (List.mem_of_getElem? (i := 4) rfl))) (mvT hZ (hw _ (List.mem_of_getElem? (i := 5) rfl))) (mvT hZ (hw _ (List.mem_of_getElem? (i := 6) rfl))) (by decide) (backOf (W := 1) (rmAR l Z a0 hw [] b1 (1 : Int64) h1 n0 O1 g_b1 A1 F1_keys F1_openKeys F1_blocked F1_fenceLimit F1_nextFence (by decide) (by decide)) hZ (hw _ (List.mem_of_getElem? (i := 6) rfl)) (hw _ (List.mem_of_getElem? (i := 3) rfl)) (by decide) (by decide)) (g := (mkF m 23 #[.val (.long pJ), .second, .val (.long q), .second, .val (.long r), .second, .val (.long (1 : Int64)), .second, .unset, .unset, .unset, .unset, .unset] [(.long (1 : Int64)), (.ref b1), (.ref b1)])) rfl (by rw [hml]; rfl) (Steps.refl _) (a := b1) (argsL := [(.long (1 : Int64))]) (rest := [(.ref b1)]) (lenOf own_pd6 rfl) rfl (by show 2 * 0 + _ ≤ _; exact Nat.le_of_eq rfl) (hb hby at_23) (fun _ _ => ⟨rfl, e1, (by decide : 1 + 4 ≤ _), (by decide : 5 + 29 ≤ _)⟩)
  dsimp only [Pt.U, Pt.locs, Pt.cells, Pt.slots] at X2 l2 y2 z2 st2 hQ2
  subst l2 y2 z2
  obtain ⟨rfl, N2q, KK2, f2_0⟩ := hQ2
  have N2 := Fr.app N0 N2q
  have O2 := Old.keep O1 KK2 (allS g_b1 all0)
  obtain ⟨cq3, kq3, q3a, q3b, q3c⟩ := isOf hZ rfl (A1.keep KK2)
  obtain ⟨_, _, ⟨T3, L3, k3, n3⟩, -, X3, ⟨Lc3, hQ3, l3, y3, z3⟩, st3⟩ := X2.virtualBack hx (y := (⟨"com/example/riverside/riverside/Arbiter", "nextFence", "()J"⟩ : MethodName)) (z := (⟨"com/example/riverside/riverside/Arbiter", "nextFence", "()J"⟩ : MethodName)) hown (mvT hZ (hw _ (List.mem_of_getElem? (i := 101) rfl))) (mvT hZ (hw _ (List.mem_of_getElem? (i := 102) rfl))) (notFace_of_selects (args := #[]) (mvT hZ (hw _ (List.mem_of_getElem? (i := 104) rfl)))) (mvT hZ (hw _ (List.mem_of_getElem? (i := 104) rfl))) (mvT hZ (hw _ (List.mem_of_getElem? (i := 103) rfl))) (by decide) (backOf (W := 0) (rmNF l Z a0 hw [] b1 (1 : Int64) T2.heap n0 f2_0) hZ (hw _ (List.mem_of_getElem? (i := 105) rfl)) (hw _ (List.mem_of_getElem? (i := 3) rfl)) (by decide) (by decide)) q3a q3c (g := (mkF m 30 #[.val (.long pJ), .second, .val (.long q), .second, .val (.long r), .second, .val (.long (1 : Int64)), .second, .val (.ref b1), .unset, .unset, .unset, .unset] [(.ref b1)])) rfl (by rw [hml]; rfl) (Steps.refl _) (argsL := []) (rest := []) (lenOf own_pd7 rfl) rfl (by show 2 * 0 + _ ≤ _; exact Nat.le_of_eq rfl) (hb hby at_30) (fun _ _ => ⟨rfl, rfl, (by decide : 5 + 0 ≤ _), (by decide : 34 + 0 ≤ _)⟩)
  dsimp only [Pt.U, Pt.locs, Pt.cells, Pt.slots] at X3 l3 y3 z3 st3 hQ3
  subst l3 y3 z3
  obtain ⟨rfl, N3q, e3⟩ := hQ3
  have N3 := Fr.app N2 N3q
  obtain ⟨cq4, kq4, q4a, q4b, q4c⟩ := isOf hZ e3 (A1.keep KK2)
  obtain ⟨_, _, ⟨T4, L4, k4, n4⟩, -, X4, ⟨Lc4, hQ4, l4, y4, z4⟩, st4⟩ := X3.virtualBack hx (y := (⟨"com/example/riverside/riverside/Arbiter", "advanceFences", "(J)V"⟩ : MethodName)) (z := (⟨"com/example/riverside/riverside/Arbiter", "advanceFences", "(J)V"⟩ : MethodName)) hown (mvT hZ (hw _ (List.mem_of_getElem? (i := 106) rfl))) (mvT hZ (hw _ (List.mem_of_getElem? (i := 107) rfl))) (notFace_of_selects (args := #[]) (mvT hZ (hw _ (List.mem_of_getElem? (i := 109) rfl)))) (mvT hZ (hw _ (List.mem_of_getElem? (i := 109) rfl))) (mvT hZ (hw _ (List.mem_of_getElem? (i := 108) rfl))) (by decide) (backOf (W := 0) (rmAV l Z a0 hw [] b1 q (1 : Int64) T2.heap n0 O2 g_b1 (A1.keep KK2) f2_0) hZ (hw _ (List.mem_of_getElem? (i := 110) rfl)) (hw _ (List.mem_of_getElem? (i := 3) rfl)) (by decide) (by decide)) q4a q4c (g := (mkF m 44 #[.val (.long pJ), .second, .val (.long q), .second, .val (.long r), .second, .val (.long (1 : Int64)), .second, .val (.ref b1), .unset, .unset, .unset, .unset] [(.long q), (.ref b1)])) rfl (by rw [hml]; rfl) (Steps.refl _) (argsL := [(.long q)]) (rest := []) (lenOf own_pd6 rfl) rfl (by show 2 * 0 + _ ≤ _; exact Nat.le_of_eq rfl) (hb hby at_44) (fun _ _ => ⟨rfl, e3, (by decide : 5 + 0 ≤ _), (by decide : 34 + 0 ≤ _)⟩)
  dsimp only [Pt.U, Pt.locs, Pt.cells, Pt.slots] at X4 l4 y4 z4 st4 hQ4
  subst l4 y4 z4
  obtain ⟨rfl, N4q, KK4, f4_0⟩ := hQ4
  have N4 := Fr.app N3 N4q
  have O4 := Old.keep O2 KK4 (allS g_b1 all0)
  obtain ⟨cq5, kq5, q5a, q5b, q5c⟩ := isOf hZ rfl ((A1.keep KK2).keep KK4)
  obtain ⟨_, _, ⟨T5, L5, k5, n5⟩, -, X5, ⟨Lc5, hQ5, l5, y5, z5⟩, st5⟩ := X4.virtualBack hx (y := (⟨"com/example/riverside/riverside/Arbiter", "nextFence", "()J"⟩ : MethodName)) (z := (⟨"com/example/riverside/riverside/Arbiter", "nextFence", "()J"⟩ : MethodName)) hown (mvT hZ (hw _ (List.mem_of_getElem? (i := 101) rfl))) (mvT hZ (hw _ (List.mem_of_getElem? (i := 102) rfl))) (notFace_of_selects (args := #[]) (mvT hZ (hw _ (List.mem_of_getElem? (i := 104) rfl)))) (mvT hZ (hw _ (List.mem_of_getElem? (i := 104) rfl))) (mvT hZ (hw _ (List.mem_of_getElem? (i := 103) rfl))) (by decide) (backOf (W := 0) (rmNF l Z a0 hw [] b1 (own_max (1 : Int64) q) T4.heap n0 f4_0) hZ (hw _ (List.mem_of_getElem? (i := 105) rfl)) (hw _ (List.mem_of_getElem? (i := 3) rfl)) (by decide) (by decide)) q5a q5c (g := (mkF m 63 #[.val (.long pJ), .second, .val (.long q), .second, .val (.long r), .second, .val (.long (1 : Int64)), .second, .val (.ref b1), .val (.long q), .second, .unset, .unset] [(.ref b1)])) rfl (by rw [hml]; rfl) (Steps.refl _) (argsL := []) (rest := []) (lenOf own_pd7 rfl) rfl (by show 2 * 0 + _ ≤ _; exact Nat.le_of_eq rfl) (hb hby at_63) (fun _ _ => ⟨rfl, rfl, (by decide : 5 + 0 ≤ _), (by decide : 34 + 0 ≤ _)⟩)
  dsimp only [Pt.U, Pt.locs, Pt.cells, Pt.slots] at X5 l5 y5 z5 st5 hQ5
  subst l5 y5 z5
  obtain ⟨rfl, N5q, e5⟩ := hQ5
  have N5 := Fr.app N4 N5q
  obtain ⟨cq6, kq6, q6a, q6b, q6c⟩ := isOf hZ e5 ((A1.keep KK2).keep KK4)
  obtain ⟨_, _, ⟨T6, L6, k6, n6⟩, -, X6, ⟨Lc6, hQ6, l6, y6, z6⟩, st6⟩ := X5.virtualBack hx (y := (⟨"com/example/riverside/riverside/Arbiter", "advanceFences", "(J)V"⟩ : MethodName)) (z := (⟨"com/example/riverside/riverside/Arbiter", "advanceFences", "(J)V"⟩ : MethodName)) hown (mvT hZ (hw _ (List.mem_of_getElem? (i := 106) rfl))) (mvT hZ (hw _ (List.mem_of_getElem? (i := 107) rfl))) (notFace_of_selects (args := #[]) (mvT hZ (hw _ (List.mem_of_getElem? (i := 109) rfl)))) (mvT hZ (hw _ (List.mem_of_getElem? (i := 109) rfl))) (mvT hZ (hw _ (List.mem_of_getElem? (i := 108) rfl))) (by decide) (backOf (W := 0) (rmAV l Z a0 hw [] b1 r (own_max (1 : Int64) q) T4.heap n0 O4 g_b1 ((A1.keep KK2).keep KK4) f4_0) hZ (hw _ (List.mem_of_getElem? (i := 110) rfl)) (hw _ (List.mem_of_getElem? (i := 3) rfl)) (by decide) (by decide)) q6a q6c (g := (mkF m 78 #[.val (.long pJ), .second, .val (.long q), .second, .val (.long r), .second, .val (.long (1 : Int64)), .second, .val (.ref b1), .val (.long q), .second, .unset, .unset] [(.long r), (.ref b1)])) rfl (by rw [hml]; rfl) (Steps.refl _) (argsL := [(.long r)]) (rest := []) (lenOf own_pd6 rfl) rfl (by show 2 * 0 + _ ≤ _; exact Nat.le_of_eq rfl) (hb hby at_78) (fun _ _ => ⟨rfl, e5, (by decide : 5 + 0 ≤ _), (by decide : 34 + 0 ≤ _)⟩)
  dsimp only [Pt.U, Pt.locs, Pt.cells, Pt.slots] at X6 l6 y6 z6 st6 hQ6
  subst l6 y6 z6
  obtain ⟨rfl, N6q, KK6, f6_0⟩ := hQ6
  have N6 := Fr.app N5 N6q
  have O6 := Old.keep O4 KK6 (allS g_b1 all0)
  obtain ⟨cq7, kq7, q7a, q7b, q7c⟩ := isOf hZ rfl (((A1.keep KK2).keep KK4).keep KK6)
  obtain ⟨_, _, ⟨T7, L7, k7, n7⟩, -, X7, ⟨Lc7, hQ7, l7, y7, z7⟩, st7⟩ := X6.virtualBack hx (y := (⟨"com/example/riverside/riverside/Arbiter", "nextFence", "()J"⟩ : MethodName)) (z := (⟨"com/example/riverside/riverside/Arbiter", "nextFence", "()J"⟩ : MethodName)) hown (mvT hZ (hw _ (List.mem_of_getElem? (i := 101) rfl))) (mvT hZ (hw _ (List.mem_of_getElem? (i := 102) rfl))) (notFace_of_selects (args := #[]) (mvT hZ (hw _ (List.mem_of_getElem? (i := 104) rfl)))) (mvT hZ (hw _ (List.mem_of_getElem? (i := 104) rfl))) (mvT hZ (hw _ (List.mem_of_getElem? (i := 103) rfl))) (by decide) (backOf (W := 0) (rmNF l Z a0 hw [] b1 (own_max (own_max (1 : Int64) q) r) T6.heap n0 f6_0) hZ (hw _ (List.mem_of_getElem? (i := 105) rfl)) (hw _ (List.mem_of_getElem? (i := 3) rfl)) (by decide) (by decide)) q7a q7c (g := (mkF m 99 #[.val (.long pJ), .second, .val (.long q), .second, .val (.long r), .second, .val (.long (1 : Int64)), .second, .val (.ref b1), .val (.long q), .second, .val (.long q), .second] [(.ref b1)])) rfl (by rw [hml]; rfl) (Steps.refl _) (argsL := []) (rest := []) (lenOf own_pd7 rfl) rfl (by show 2 * 0 + _ ≤ _; exact Nat.le_of_eq rfl) (hb hby at_99) (fun _ _ => ⟨rfl, rfl, (by decide : 5 + 0 ≤ _), (by decide : 34 + 0 ≤ _)⟩)
  dsimp only [Pt.U, Pt.locs, Pt.cells, Pt.slots] at X7 l7 y7 z7 st7 hQ7
  subst l7 y7 z7
  obtain ⟨rfl, N7q, e7⟩ := hQ7
  have N7 := Fr.app N6 N7q
  obtain ⟨fs, hr, hrun, hended, hW, hsame⟩ := X7.leave (v := some (.int (1 : Int32))) (fun h => by rw [Bd.returns] at h; cases h)
  refine ⟨_, _, pre0 _ ?_, hrun, hended, _, _, rfl, ?_, ⟨_, rfl⟩, hW, hsame.mono (by decide) (by decide)⟩
  · show Steps p.tables e below (s₁.setTop (mkF m 0 #[.val (.long pJ), .second, .val (.long q), .second, .val (.long r), .second, .unset, .unset, .unset, .unset, .unset, .unset, .unset] [])) _
    refine XS.lloadN X0.here hx rfl (hb hby at_0) rfl ?_
    show Steps p.tables e below (s₁.setTop (mkF m 1 #[.val (.long pJ), .second, .val (.long q), .second, .val (.long r), .second, .unset, .unset, .unset, .unset, .unset, .unset, .unset] [(.long pJ)])) _
    refine X0.ldc2Long hx hown (mvT hZ (hw _ (List.mem_of_getElem? (i := 0) rfl))) (g := (mkF m 1 #[.val (.long pJ), .second, .val (.long q), .second, .val (.long r), .second, .unset, .unset, .unset, .unset, .unset, .unset, .unset] [(.long pJ)])) rfl (hb hby at_1) _ ?_
    show Steps p.tables e below (s₁.setTop (mkF m 4 #[.val (.long pJ), .second, .val (.long q), .second, .val (.long r), .second, .unset, .unset, .unset, .unset, .unset, .unset, .unset] [(.long (9007199254740991 : Int64)), (.long pJ)])) _
    refine XS.land X0.here hx rfl (hb hby at_4) rfl ?_
    show Steps p.tables e below (s₁.setTop (mkF m 5 #[.val (.long pJ), .second, .val (.long q), .second, .val (.long r), .second, .unset, .unset, .unset, .unset, .unset, .unset, .unset] [(.long (pJ &&& (9007199254740991 : Int64)))])) _
    refine XS.lstore X0.here hx rfl (hb hby at_5) rfl (l' := #[.val (.long pJ), .second, .val (.long q), .second, .val (.long r), .second, .val (.long (pJ &&& (9007199254740991 : Int64))), .second, .unset, .unset, .unset, .unset, .unset]) rfl ?_
    show Steps p.tables e below (s₁.setTop (mkF m 7 #[.val (.long pJ), .second, .val (.long q), .second, .val (.long r), .second, .val (.long (pJ &&& (9007199254740991 : Int64))), .second, .unset, .unset, .unset, .unset, .unset] [])) _
    refine XS.lload X0.here hx rfl (hb hby at_7) rfl ?_
    show Steps p.tables e below (s₁.setTop (mkF m 9 #[.val (.long pJ), .second, .val (.long q), .second, .val (.long r), .second, .val (.long (pJ &&& (9007199254740991 : Int64))), .second, .unset, .unset, .unset, .unset, .unset] [(.long (pJ &&& (9007199254740991 : Int64)))])) _
    refine XS.lconst X0.here hx rfl (hb hby at_9) ?_
    show Steps p.tables e below (s₁.setTop (mkF m 10 #[.val (.long pJ), .second, .val (.long q), .second, .val (.long r), .second, .val (.long (pJ &&& (9007199254740991 : Int64))), .second, .unset, .unset, .unset, .unset, .unset] [(.long (0 : Int64)), (.long (pJ &&& (9007199254740991 : Int64)))])) _
    refine XS.lcmp X0.here hx rfl (hb hby at_10) rfl ?_
    show Steps p.tables e below (s₁.setTop (mkF m 11 #[.val (.long pJ), .second, .val (.long q), .second, .val (.long r), .second, .val (.long (pJ &&& (9007199254740991 : Int64))), .second, .unset, .unset, .unset, .unset, .unset] [(.int (lcmpW (pJ &&& (9007199254740991 : Int64)) (0 : Int64)))])) _
    refine XS.ifNo X0.here hx rfl (hb hby at_11) rfl ((if0 _ _).trans (teq hc11).2) ?_
    show Steps p.tables e below (s₁.setTop (mkF m 14 #[.val (.long pJ), .second, .val (.long q), .second, .val (.long r), .second, .val (.long (pJ &&& (9007199254740991 : Int64))), .second, .unset, .unset, .unset, .unset, .unset] [])) _
    refine XS.lconst X0.here hx rfl (hb hby at_14) ?_
    show Steps p.tables e below (s₁.setTop (mkF m 15 #[.val (.long pJ), .second, .val (.long q), .second, .val (.long r), .second, .val (.long (pJ &&& (9007199254740991 : Int64))), .second, .unset, .unset, .unset, .unset, .unset] [(.long (1 : Int64))])) _
    refine XS.lstore X0.here hx rfl (hb hby at_15) rfl (l' := #[.val (.long pJ), .second, .val (.long q), .second, .val (.long r), .second, .val (.long (1 : Int64)), .second, .unset, .unset, .unset, .unset, .unset]) rfl ?_
    show Steps p.tables e below (s₁.setTop (mkF m 17 #[.val (.long pJ), .second, .val (.long q), .second, .val (.long r), .second, .val (.long (1 : Int64)), .second, .unset, .unset, .unset, .unset, .unset] [])) _
    refine st1 _ ?_
    show Steps p.tables e below (T1.setTop (mkF m 20 #[.val (.long pJ), .second, .val (.long q), .second, .val (.long r), .second, .val (.long (1 : Int64)), .second, .unset, .unset, .unset, .unset, .unset] [(.ref b1)])) _
    refine XS.dup X1.here hx rfl (hb hby at_20) rfl rfl ?_
    show Steps p.tables e below (T1.setTop (mkF m 21 #[.val (.long pJ), .second, .val (.long q), .second, .val (.long r), .second, .val (.long (1 : Int64)), .second, .unset, .unset, .unset, .unset, .unset] [(.ref b1), (.ref b1)])) _
    refine XS.lload X1.here hx rfl (hb hby at_21) rfl ?_
    show Steps p.tables e below (T1.setTop (mkF m 23 #[.val (.long pJ), .second, .val (.long q), .second, .val (.long r), .second, .val (.long (1 : Int64)), .second, .unset, .unset, .unset, .unset, .unset] [(.long (1 : Int64)), (.ref b1), (.ref b1)])) _
    refine st2.trans ?_
    show Steps p.tables e below (T2.setTop (mkF m 26 #[.val (.long pJ), .second, .val (.long q), .second, .val (.long r), .second, .val (.long (1 : Int64)), .second, .unset, .unset, .unset, .unset, .unset] [(.ref b1)])) _
    refine XS.astore X2.here hx rfl (hb hby at_26) rfl rfl (l' := #[.val (.long pJ), .second, .val (.long q), .second, .val (.long r), .second, .val (.long (1 : Int64)), .second, .val (.ref b1), .unset, .unset, .unset, .unset]) rfl ?_
    show Steps p.tables e below (T2.setTop (mkF m 28 #[.val (.long pJ), .second, .val (.long q), .second, .val (.long r), .second, .val (.long (1 : Int64)), .second, .val (.ref b1), .unset, .unset, .unset, .unset] [])) _
    refine XS.aload X2.here hx rfl (hb hby at_28) rfl rfl ?_
    show Steps p.tables e below (T2.setTop (mkF m 30 #[.val (.long pJ), .second, .val (.long q), .second, .val (.long r), .second, .val (.long (1 : Int64)), .second, .val (.ref b1), .unset, .unset, .unset, .unset] [(.ref b1)])) _
    refine st3.trans ?_
    show Steps p.tables e below (T3.setTop (mkF m 33 #[.val (.long pJ), .second, .val (.long q), .second, .val (.long r), .second, .val (.long (1 : Int64)), .second, .val (.ref b1), .unset, .unset, .unset, .unset] [(.long (1 : Int64))])) _
    refine XS.lload X3.here hx rfl (hb hby at_33) rfl ?_
    show Steps p.tables e below (T3.setTop (mkF m 35 #[.val (.long pJ), .second, .val (.long q), .second, .val (.long r), .second, .val (.long (1 : Int64)), .second, .val (.ref b1), .unset, .unset, .unset, .unset] [(.long (1 : Int64)), (.long (1 : Int64))])) _
    refine XS.lcmp X3.here hx rfl (hb hby at_35) rfl ?_
    show Steps p.tables e below (T3.setTop (mkF m 36 #[.val (.long pJ), .second, .val (.long q), .second, .val (.long r), .second, .val (.long (1 : Int64)), .second, .val (.ref b1), .unset, .unset, .unset, .unset] [(.int (lcmpW (1 : Int64) (1 : Int64)))])) _
    refine XS.ifYes X3.here hx rfl (pc0 := 36) (pc' := 41) rfl (hb hby at_36) rfl ((if0 _ _).trans (teq ((lw_eq _ _).mpr rfl : (lcmpW (1 : Int64) (1 : Int64)) = (0 : Int32))).1) (by decide) (by decide) ?_
    show Steps p.tables e below (T3.setTop (mkF m 41 #[.val (.long pJ), .second, .val (.long q), .second, .val (.long r), .second, .val (.long (1 : Int64)), .second, .val (.ref b1), .unset, .unset, .unset, .unset] [])) _
    refine XS.aload X3.here hx rfl (hb hby at_41) rfl rfl ?_
    show Steps p.tables e below (T3.setTop (mkF m 43 #[.val (.long pJ), .second, .val (.long q), .second, .val (.long r), .second, .val (.long (1 : Int64)), .second, .val (.ref b1), .unset, .unset, .unset, .unset] [(.ref b1)])) _
    refine XS.lloadN X3.here hx rfl (hb hby at_43) rfl ?_
    show Steps p.tables e below (T3.setTop (mkF m 44 #[.val (.long pJ), .second, .val (.long q), .second, .val (.long r), .second, .val (.long (1 : Int64)), .second, .val (.ref b1), .unset, .unset, .unset, .unset] [(.long q), (.ref b1)])) _
    refine st4.trans ?_
    show Steps p.tables e below (T4.setTop (mkF m 47 #[.val (.long pJ), .second, .val (.long q), .second, .val (.long r), .second, .val (.long (1 : Int64)), .second, .val (.ref b1), .unset, .unset, .unset, .unset] [])) _
    refine XS.lload X4.here hx rfl (hb hby at_47) rfl ?_
    show Steps p.tables e below (T4.setTop (mkF m 49 #[.val (.long pJ), .second, .val (.long q), .second, .val (.long r), .second, .val (.long (1 : Int64)), .second, .val (.ref b1), .unset, .unset, .unset, .unset] [(.long (1 : Int64))])) _
    refine XS.lstore X4.here hx rfl (hb hby at_49) rfl (l' := #[.val (.long pJ), .second, .val (.long q), .second, .val (.long r), .second, .val (.long (1 : Int64)), .second, .val (.ref b1), .val (.long (1 : Int64)), .second, .unset, .unset]) rfl ?_
    show Steps p.tables e below (T4.setTop (mkF m 51 #[.val (.long pJ), .second, .val (.long q), .second, .val (.long r), .second, .val (.long (1 : Int64)), .second, .val (.ref b1), .val (.long (1 : Int64)), .second, .unset, .unset] [])) _
    refine XS.lloadN X4.here hx rfl (hb hby at_51) rfl ?_
    show Steps p.tables e below (T4.setTop (mkF m 52 #[.val (.long pJ), .second, .val (.long q), .second, .val (.long r), .second, .val (.long (1 : Int64)), .second, .val (.ref b1), .val (.long (1 : Int64)), .second, .unset, .unset] [(.long q)])) _
    refine XS.lload X4.here hx rfl (hb hby at_52) rfl ?_
    show Steps p.tables e below (T4.setTop (mkF m 54 #[.val (.long pJ), .second, .val (.long q), .second, .val (.long r), .second, .val (.long (1 : Int64)), .second, .val (.ref b1), .val (.long (1 : Int64)), .second, .unset, .unset] [(.long (1 : Int64)), (.long q)])) _
    refine XS.lcmp X4.here hx rfl (hb hby at_54) rfl ?_
    show Steps p.tables e below (T4.setTop (mkF m 55 #[.val (.long pJ), .second, .val (.long q), .second, .val (.long r), .second, .val (.long (1 : Int64)), .second, .val (.ref b1), .val (.long (1 : Int64)), .second, .unset, .unset] [(.int (lcmpW q (1 : Int64)))])) _
    refine XS.ifNo X4.here hx rfl (hb hby at_55) rfl ((if0 _ _).trans (tlt hc55).2.2.2) ?_
    show Steps p.tables e below (T4.setTop (mkF m 58 #[.val (.long pJ), .second, .val (.long q), .second, .val (.long r), .second, .val (.long (1 : Int64)), .second, .val (.ref b1), .val (.long (1 : Int64)), .second, .unset, .unset] [])) _
    refine XS.lloadN X4.here hx rfl (hb hby at_58) rfl ?_
    show Steps p.tables e below (T4.setTop (mkF m 59 #[.val (.long pJ), .second, .val (.long q), .second, .val (.long r), .second, .val (.long (1 : Int64)), .second, .val (.ref b1), .val (.long (1 : Int64)), .second, .unset, .unset] [(.long q)])) _
    refine XS.lstore X4.here hx rfl (hb hby at_59) rfl (l' := #[.val (.long pJ), .second, .val (.long q), .second, .val (.long r), .second, .val (.long (1 : Int64)), .second, .val (.ref b1), .val (.long q), .second, .unset, .unset]) rfl ?_
    show Steps p.tables e below (T4.setTop (mkF m 61 #[.val (.long pJ), .second, .val (.long q), .second, .val (.long r), .second, .val (.long (1 : Int64)), .second, .val (.ref b1), .val (.long q), .second, .unset, .unset] [])) _
    refine XS.aload X4.here hx rfl (hb hby at_61) rfl rfl ?_
    show Steps p.tables e below (T4.setTop (mkF m 63 #[.val (.long pJ), .second, .val (.long q), .second, .val (.long r), .second, .val (.long (1 : Int64)), .second, .val (.ref b1), .val (.long q), .second, .unset, .unset] [(.ref b1)])) _
    refine st5.trans ?_
    show Steps p.tables e below (T5.setTop (mkF m 66 #[.val (.long pJ), .second, .val (.long q), .second, .val (.long r), .second, .val (.long (1 : Int64)), .second, .val (.ref b1), .val (.long q), .second, .unset, .unset] [(.long (own_max (1 : Int64) q))])) _
    refine XS.lload X5.here hx rfl (hb hby at_66) rfl ?_
    show Steps p.tables e below (T5.setTop (mkF m 68 #[.val (.long pJ), .second, .val (.long q), .second, .val (.long r), .second, .val (.long (1 : Int64)), .second, .val (.ref b1), .val (.long q), .second, .unset, .unset] [(.long q), (.long (own_max (1 : Int64) q))])) _
    refine XS.lcmp X5.here hx rfl (hb hby at_68) rfl ?_
    show Steps p.tables e below (T5.setTop (mkF m 69 #[.val (.long pJ), .second, .val (.long q), .second, .val (.long r), .second, .val (.long (1 : Int64)), .second, .val (.ref b1), .val (.long q), .second, .unset, .unset] [(.int (lcmpW (own_max (1 : Int64) q) q))])) _
    refine XS.ifYes X5.here hx rfl (pc0 := 69) (pc' := 74) rfl (hb hby at_69) rfl ((if0 _ _).trans (teq ((lw_eq _ _).mpr (own_max_gt hc55) : (lcmpW (own_max (1 : Int64) q) q) = (0 : Int32))).1) (by decide) (by decide) ?_
    show Steps p.tables e below (T5.setTop (mkF m 74 #[.val (.long pJ), .second, .val (.long q), .second, .val (.long r), .second, .val (.long (1 : Int64)), .second, .val (.ref b1), .val (.long q), .second, .unset, .unset] [])) _
    refine XS.aload X5.here hx rfl (hb hby at_74) rfl rfl ?_
    show Steps p.tables e below (T5.setTop (mkF m 76 #[.val (.long pJ), .second, .val (.long q), .second, .val (.long r), .second, .val (.long (1 : Int64)), .second, .val (.ref b1), .val (.long q), .second, .unset, .unset] [(.ref b1)])) _
    refine XS.lload X5.here hx rfl (hb hby at_76) rfl ?_
    show Steps p.tables e below (T5.setTop (mkF m 78 #[.val (.long pJ), .second, .val (.long q), .second, .val (.long r), .second, .val (.long (1 : Int64)), .second, .val (.ref b1), .val (.long q), .second, .unset, .unset] [(.long r), (.ref b1)])) _
    refine st6.trans ?_
    show Steps p.tables e below (T6.setTop (mkF m 81 #[.val (.long pJ), .second, .val (.long q), .second, .val (.long r), .second, .val (.long (1 : Int64)), .second, .val (.ref b1), .val (.long q), .second, .unset, .unset] [])) _
    refine XS.lload X6.here hx rfl (hb hby at_81) rfl ?_
    show Steps p.tables e below (T6.setTop (mkF m 83 #[.val (.long pJ), .second, .val (.long q), .second, .val (.long r), .second, .val (.long (1 : Int64)), .second, .val (.ref b1), .val (.long q), .second, .unset, .unset] [(.long q)])) _
    refine XS.lstore X6.here hx rfl (hb hby at_83) rfl (l' := #[.val (.long pJ), .second, .val (.long q), .second, .val (.long r), .second, .val (.long (1 : Int64)), .second, .val (.ref b1), .val (.long q), .second, .val (.long q), .second]) rfl ?_
    show Steps p.tables e below (T6.setTop (mkF m 85 #[.val (.long pJ), .second, .val (.long q), .second, .val (.long r), .second, .val (.long (1 : Int64)), .second, .val (.ref b1), .val (.long q), .second, .val (.long q), .second] [])) _
    refine XS.lload X6.here hx rfl (hb hby at_85) rfl ?_
    show Steps p.tables e below (T6.setTop (mkF m 87 #[.val (.long pJ), .second, .val (.long q), .second, .val (.long r), .second, .val (.long (1 : Int64)), .second, .val (.ref b1), .val (.long q), .second, .val (.long q), .second] [(.long r)])) _
    refine XS.lload X6.here hx rfl (hb hby at_87) rfl ?_
    show Steps p.tables e below (T6.setTop (mkF m 89 #[.val (.long pJ), .second, .val (.long q), .second, .val (.long r), .second, .val (.long (1 : Int64)), .second, .val (.ref b1), .val (.long q), .second, .val (.long q), .second] [(.long q), (.long r)])) _
    refine XS.lcmp X6.here hx rfl (hb hby at_89) rfl ?_
    show Steps p.tables e below (T6.setTop (mkF m 90 #[.val (.long pJ), .second, .val (.long q), .second, .val (.long r), .second, .val (.long (1 : Int64)), .second, .val (.ref b1), .val (.long q), .second, .val (.long q), .second] [(.int (lcmpW r q))])) _
    refine XS.ifYes X6.here hx rfl (pc0 := 90) (pc' := 97) rfl (hb hby at_90) rfl ((if0 _ _).trans (flt hc90).2.2.2) (by decide) (by decide) ?_
    show Steps p.tables e below (T6.setTop (mkF m 97 #[.val (.long pJ), .second, .val (.long q), .second, .val (.long r), .second, .val (.long (1 : Int64)), .second, .val (.ref b1), .val (.long q), .second, .val (.long q), .second] [])) _
    refine XS.aload X6.here hx rfl (hb hby at_97) rfl rfl ?_
    show Steps p.tables e below (T6.setTop (mkF m 99 #[.val (.long pJ), .second, .val (.long q), .second, .val (.long r), .second, .val (.long (1 : Int64)), .second, .val (.ref b1), .val (.long q), .second, .val (.long q), .second] [(.ref b1)])) _
    refine st7.trans ?_
    show Steps p.tables e below (T7.setTop (mkF m 102 #[.val (.long pJ), .second, .val (.long q), .second, .val (.long r), .second, .val (.long (1 : Int64)), .second, .val (.ref b1), .val (.long q), .second, .val (.long q), .second] [(.long (own_max (own_max (1 : Int64) q) r))])) _
    refine XS.lload X7.here hx rfl (hb hby at_102) rfl ?_
    show Steps p.tables e below (T7.setTop (mkF m 104 #[.val (.long pJ), .second, .val (.long q), .second, .val (.long r), .second, .val (.long (1 : Int64)), .second, .val (.ref b1), .val (.long q), .second, .val (.long q), .second] [(.long q), (.long (own_max (own_max (1 : Int64) q) r))])) _
    refine XS.lcmp X7.here hx rfl (hb hby at_104) rfl ?_
    show Steps p.tables e below (T7.setTop (mkF m 105 #[.val (.long pJ), .second, .val (.long q), .second, .val (.long r), .second, .val (.long (1 : Int64)), .second, .val (.ref b1), .val (.long q), .second, .val (.long q), .second] [(.int (lcmpW (own_max (own_max (1 : Int64) q) r) q))])) _
    refine XS.ifNo X7.here hx rfl (hb hby at_105) rfl ((if0 _ _).trans (teq ((lw_eq _ _).mpr (by rw [own_max_gt hc55]; exact own_max_le hc90) : (lcmpW (own_max (own_max (1 : Int64) q) r) q) = (0 : Int32))).2) ?_
    show Steps p.tables e below (T7.setTop (mkF m 108 #[.val (.long pJ), .second, .val (.long q), .second, .val (.long r), .second, .val (.long (1 : Int64)), .second, .val (.ref b1), .val (.long q), .second, .val (.long q), .second] [])) _
    refine XS.iconst X7.here hx rfl (hb hby at_108) ?_
    show Steps p.tables e below (T7.setTop (mkF m 109 #[.val (.long pJ), .second, .val (.long q), .second, .val (.long r), .second, .val (.long (1 : Int64)), .second, .val (.ref b1), .val (.long q), .second, .val (.long q), .second] [(.int (1 : Int32))])) _
    refine XS.goto X7.here hx rfl (pc0 := 109) (pc' := 113) rfl (hb hby at_109) (by decide) (by decide) ?_
    show Steps p.tables e below (T7.setTop (mkF m 113 #[.val (.long pJ), .second, .val (.long q), .second, .val (.long r), .second, .val (.long (1 : Int64)), .second, .val (.ref b1), .val (.long q), .second, .val (.long q), .second] [(.int (1 : Int32))])) _
    exact retN X7 hx (t := .boolean) Bd.returns (by simp) (hb hby at_113) hr
  · show Qd10 Z pJ q r h0 n0 _ T7.heap _
    rw [e7]
    exact ⟨rfl, N7⟩
set_option maxRecDepth 65536 in
set_option maxHeartbeats 40000000 in
theorem rm0ftf (l : Launch) (Z : State) (a0 : Array Value) (hw : ∀ d ∈ tables_1, d.before a0 Z = true) (ws : List Jvm.Cond) (pJ q r : Int64) (h0 : Heap) (n0 : Nat) (O0 : Old Z n0 h0) (hc11 : (lcmpW (pJ &&& (9007199254740991 : Int64)) (0 : Int64)) = (0 : Int32)) (hc55 : ¬ ((0 : Int32) < (lcmpW q (1 : Int64)))) (hc90 : (0 : Int32) < (lcmpW r (1 : Int64))) :
    MetFree l x (head1 (Jvm.Cond.code x code maxLocals ret :: ws) room_1) (fun qq U => qq = #[(.long pJ), (.long q), (.long r)] ∧ Z.Warmed39 U.vm ∧ U.heap = h0) (fun _ _ _ _ _ => True) (fun _ UU oo UU' => ∃ vv LL, oo = .returned vv ∧ Qd10 Z pJ q r h0 n0 vv UU'.heap LL ∧ FrameEnd UU oo UU' LL room_1.cells room_1.slots) := by
  refine MetFree.of_bodySF (plainFor_of_name pn_0) hisR ?_
  intro p e s m args below meth c s₁ Bd hml0 hP hK
  obtain ⟨rfl, hZ, hh⟩ := hP
  have hx := Bd.exec
  have hby := Bd.bytes
  have hml : c.maxLocals = 13 := hml0
  have hown : s.vm.findClass "com/example/riverside/riverside/ArbiterAdvanceFencesPinLaw" = some m.cls := findClass_of_methodNamed Bd.named
  have hnm := (name_of_methodNamed Bd.named Bd.method).1
  have X0 : Stand p l e room_1 s m #[(.long pJ), (.long q), (.long r)] below meth c s₁ [] 0 0 := Stand.of_body Bd
  have e0 : s₁.heap = h0 := by rw [← hh, Bd.state]; rfl
  have N0 := Fr.nil n0
  have pre0 : ∀ t, Steps p.tables e below (s₁.setTop (mkF m 0 #[.val (.long pJ), .second, .val (.long q), .second, .val (.long r), .second, .unset, .unset, .unset, .unset, .unset, .unset, .unset] [])) t → Steps p.tables e below (s₁.setTop (entryFrame m #[(.long pJ), (.long q), (.long r)] maxLocals)) t := fun t k => castTop (ef_0 m pJ q r) k
  obtain ⟨T1, h1, X1, e1, E1, A1, D1, -, st1⟩ := newO X0 hx hZ hown (hw _ (List.mem_of_getElem? (i := 1) rfl)) (hw _ (List.mem_of_getElem? (i := 2) rfl)) (hw _ (List.mem_of_getElem? (i := 3) rfl)) e0 (g := (mkF m 17 #[.val (.long pJ), .second, .val (.long q), .second, .val (.long r), .second, .val (.long (1 : Int64)), .second, .unset, .unset, .unset, .unset, .unset] [])) rfl (hb hby at_17) (by decide) (by decide)
  obtain ⟨b1, q1⟩ : ∃ z, z = h0.size := ⟨_, rfl⟩
  rw [← q1] at A1 D1 st1
  have g_b1 : n0 ≤ b1 := by rw [q1]; exact (O0).1 ▸ (O0).2.1
  have O1 := Old.ext O0 E1
  have F1_keys : Fld Z h1 b1 "com/example/riverside/riverside/Arbiter" "keys" "Ljava/util/Map;" .null := D1 (Or.inr (hw _ (List.mem_of_getElem? (i := 27) rfl))) (ty := (.object "java/util/Map")) (by decide)
  have F1_openKeys : Fld Z h1 b1 "com/example/riverside/riverside/Arbiter" "openKeys" "Ljava/util/Map;" .null := D1 (Or.inr (hw _ (List.mem_of_getElem? (i := 29) rfl))) (ty := (.object "java/util/Map")) (by decide)
  have F1_blocked : Fld Z h1 b1 "com/example/riverside/riverside/Arbiter" "blocked" "Ljava/util/Set;" .null := D1 (Or.inr (hw _ (List.mem_of_getElem? (i := 92) rfl))) (ty := (.object "java/util/Set")) (by decide)
  have F1_fenceLimit : Fld Z h1 b1 "com/example/riverside/riverside/Arbiter" "fenceLimit" "Ljava/util/function/LongSupplier;" .null := D1 (Or.inl (hw _ (List.mem_of_getElem? (i := 97) rfl))) (ty := (.object "java/util/function/LongSupplier")) (by decide)
  have F1_nextFence : Fld Z h1 b1 "com/example/riverside/riverside/Arbiter" "nextFence" "J" (.long (0 : Int64)) := D1 (Or.inl (hw _ (List.mem_of_getElem? (i := 100) rfl))) (ty := .long) (by decide)
  obtain ⟨_, _, ⟨T2, L2, k2, n2⟩, -, X2, ⟨Lc2, hQ2, l2, y2, z2⟩, st2⟩ := X1.specialBack hx (y := (⟨"com/example/riverside/riverside/Arbiter", "<init>", "(J)V"⟩ : MethodName)) rfl hown (mvT hZ (hw _ (List.mem_of_getElem? (i := 4) rfl))) (mvT hZ (hw _ (List.mem_of_getElem? (i := 5) rfl))) (mvT hZ (hw _ (List.mem_of_getElem? (i := 6) rfl))) (by decide) (backOf (W := 1) (rmAR l Z a0 hw [] b1 (1 : Int64) h1 n0 O1 g_b1 A1 F1_keys F1_openKeys F1_blocked F1_fenceLimit F1_nextFence (by decide) (by decide)) hZ (hw _ (List.mem_of_getElem? (i := 6) rfl)) (hw _ (List.mem_of_getElem? (i := 3) rfl)) (by decide) (by decide)) (g := (mkF m 23 #[.val (.long pJ), .second, .val (.long q), .second, .val (.long r), .second, .val (.long (1 : Int64)), .second, .unset, .unset, .unset, .unset, .unset] [(.long (1 : Int64)), (.ref b1), (.ref b1)])) rfl (by rw [hml]; rfl) (Steps.refl _) (a := b1) (argsL := [(.long (1 : Int64))]) (rest := [(.ref b1)]) (lenOf own_pd6 rfl) rfl (by show 2 * 0 + _ ≤ _; exact Nat.le_of_eq rfl) (hb hby at_23) (fun _ _ => ⟨rfl, e1, (by decide : 1 + 4 ≤ _), (by decide : 5 + 29 ≤ _)⟩)
  dsimp only [Pt.U, Pt.locs, Pt.cells, Pt.slots] at X2 l2 y2 z2 st2 hQ2
  subst l2 y2 z2
  obtain ⟨rfl, N2q, KK2, f2_0⟩ := hQ2
  have N2 := Fr.app N0 N2q
  have O2 := Old.keep O1 KK2 (allS g_b1 all0)
  obtain ⟨cq3, kq3, q3a, q3b, q3c⟩ := isOf hZ rfl (A1.keep KK2)
  obtain ⟨_, _, ⟨T3, L3, k3, n3⟩, -, X3, ⟨Lc3, hQ3, l3, y3, z3⟩, st3⟩ := X2.virtualBack hx (y := (⟨"com/example/riverside/riverside/Arbiter", "nextFence", "()J"⟩ : MethodName)) (z := (⟨"com/example/riverside/riverside/Arbiter", "nextFence", "()J"⟩ : MethodName)) hown (mvT hZ (hw _ (List.mem_of_getElem? (i := 101) rfl))) (mvT hZ (hw _ (List.mem_of_getElem? (i := 102) rfl))) (notFace_of_selects (args := #[]) (mvT hZ (hw _ (List.mem_of_getElem? (i := 104) rfl)))) (mvT hZ (hw _ (List.mem_of_getElem? (i := 104) rfl))) (mvT hZ (hw _ (List.mem_of_getElem? (i := 103) rfl))) (by decide) (backOf (W := 0) (rmNF l Z a0 hw [] b1 (1 : Int64) T2.heap n0 f2_0) hZ (hw _ (List.mem_of_getElem? (i := 105) rfl)) (hw _ (List.mem_of_getElem? (i := 3) rfl)) (by decide) (by decide)) q3a q3c (g := (mkF m 30 #[.val (.long pJ), .second, .val (.long q), .second, .val (.long r), .second, .val (.long (1 : Int64)), .second, .val (.ref b1), .unset, .unset, .unset, .unset] [(.ref b1)])) rfl (by rw [hml]; rfl) (Steps.refl _) (argsL := []) (rest := []) (lenOf own_pd7 rfl) rfl (by show 2 * 0 + _ ≤ _; exact Nat.le_of_eq rfl) (hb hby at_30) (fun _ _ => ⟨rfl, rfl, (by decide : 5 + 0 ≤ _), (by decide : 34 + 0 ≤ _)⟩)
  dsimp only [Pt.U, Pt.locs, Pt.cells, Pt.slots] at X3 l3 y3 z3 st3 hQ3
  subst l3 y3 z3
  obtain ⟨rfl, N3q, e3⟩ := hQ3
  have N3 := Fr.app N2 N3q
  obtain ⟨cq4, kq4, q4a, q4b, q4c⟩ := isOf hZ e3 (A1.keep KK2)
  obtain ⟨_, _, ⟨T4, L4, k4, n4⟩, -, X4, ⟨Lc4, hQ4, l4, y4, z4⟩, st4⟩ := X3.virtualBack hx (y := (⟨"com/example/riverside/riverside/Arbiter", "advanceFences", "(J)V"⟩ : MethodName)) (z := (⟨"com/example/riverside/riverside/Arbiter", "advanceFences", "(J)V"⟩ : MethodName)) hown (mvT hZ (hw _ (List.mem_of_getElem? (i := 106) rfl))) (mvT hZ (hw _ (List.mem_of_getElem? (i := 107) rfl))) (notFace_of_selects (args := #[]) (mvT hZ (hw _ (List.mem_of_getElem? (i := 109) rfl)))) (mvT hZ (hw _ (List.mem_of_getElem? (i := 109) rfl))) (mvT hZ (hw _ (List.mem_of_getElem? (i := 108) rfl))) (by decide) (backOf (W := 0) (rmAV l Z a0 hw [] b1 q (1 : Int64) T2.heap n0 O2 g_b1 (A1.keep KK2) f2_0) hZ (hw _ (List.mem_of_getElem? (i := 110) rfl)) (hw _ (List.mem_of_getElem? (i := 3) rfl)) (by decide) (by decide)) q4a q4c (g := (mkF m 44 #[.val (.long pJ), .second, .val (.long q), .second, .val (.long r), .second, .val (.long (1 : Int64)), .second, .val (.ref b1), .unset, .unset, .unset, .unset] [(.long q), (.ref b1)])) rfl (by rw [hml]; rfl) (Steps.refl _) (argsL := [(.long q)]) (rest := []) (lenOf own_pd6 rfl) rfl (by show 2 * 0 + _ ≤ _; exact Nat.le_of_eq rfl) (hb hby at_44) (fun _ _ => ⟨rfl, e3, (by decide : 5 + 0 ≤ _), (by decide : 34 + 0 ≤ _)⟩)
  dsimp only [Pt.U, Pt.locs, Pt.cells, Pt.slots] at X4 l4 y4 z4 st4 hQ4
  subst l4 y4 z4
  obtain ⟨rfl, N4q, KK4, f4_0⟩ := hQ4
  have N4 := Fr.app N3 N4q
  have O4 := Old.keep O2 KK4 (allS g_b1 all0)
  obtain ⟨cq5, kq5, q5a, q5b, q5c⟩ := isOf hZ rfl ((A1.keep KK2).keep KK4)
  obtain ⟨_, _, ⟨T5, L5, k5, n5⟩, -, X5, ⟨Lc5, hQ5, l5, y5, z5⟩, st5⟩ := X4.virtualBack hx (y := (⟨"com/example/riverside/riverside/Arbiter", "nextFence", "()J"⟩ : MethodName)) (z := (⟨"com/example/riverside/riverside/Arbiter", "nextFence", "()J"⟩ : MethodName)) hown (mvT hZ (hw _ (List.mem_of_getElem? (i := 101) rfl))) (mvT hZ (hw _ (List.mem_of_getElem? (i := 102) rfl))) (notFace_of_selects (args := #[]) (mvT hZ (hw _ (List.mem_of_getElem? (i := 104) rfl)))) (mvT hZ (hw _ (List.mem_of_getElem? (i := 104) rfl))) (mvT hZ (hw _ (List.mem_of_getElem? (i := 103) rfl))) (by decide) (backOf (W := 0) (rmNF l Z a0 hw [] b1 (own_max (1 : Int64) q) T4.heap n0 f4_0) hZ (hw _ (List.mem_of_getElem? (i := 105) rfl)) (hw _ (List.mem_of_getElem? (i := 3) rfl)) (by decide) (by decide)) q5a q5c (g := (mkF m 63 #[.val (.long pJ), .second, .val (.long q), .second, .val (.long r), .second, .val (.long (1 : Int64)), .second, .val (.ref b1), .val (.long (1 : Int64)), .second, .unset, .unset] [(.ref b1)])) rfl (by rw [hml]; rfl) (Steps.refl _) (argsL := []) (rest := []) (lenOf own_pd7 rfl) rfl (by show 2 * 0 + _ ≤ _; exact Nat.le_of_eq rfl) (hb hby at_63) (fun _ _ => ⟨rfl, rfl, (by decide : 5 + 0 ≤ _), (by decide : 34 + 0 ≤ _)⟩)
  dsimp only [Pt.U, Pt.locs, Pt.cells, Pt.slots] at X5 l5 y5 z5 st5 hQ5
  subst l5 y5 z5
  obtain ⟨rfl, N5q, e5⟩ := hQ5
  have N5 := Fr.app N4 N5q
  obtain ⟨cq6, kq6, q6a, q6b, q6c⟩ := isOf hZ e5 ((A1.keep KK2).keep KK4)
  obtain ⟨_, _, ⟨T6, L6, k6, n6⟩, -, X6, ⟨Lc6, hQ6, l6, y6, z6⟩, st6⟩ := X5.virtualBack hx (y := (⟨"com/example/riverside/riverside/Arbiter", "advanceFences", "(J)V"⟩ : MethodName)) (z := (⟨"com/example/riverside/riverside/Arbiter", "advanceFences", "(J)V"⟩ : MethodName)) hown (mvT hZ (hw _ (List.mem_of_getElem? (i := 106) rfl))) (mvT hZ (hw _ (List.mem_of_getElem? (i := 107) rfl))) (notFace_of_selects (args := #[]) (mvT hZ (hw _ (List.mem_of_getElem? (i := 109) rfl)))) (mvT hZ (hw _ (List.mem_of_getElem? (i := 109) rfl))) (mvT hZ (hw _ (List.mem_of_getElem? (i := 108) rfl))) (by decide) (backOf (W := 0) (rmAV l Z a0 hw [] b1 r (own_max (1 : Int64) q) T4.heap n0 O4 g_b1 ((A1.keep KK2).keep KK4) f4_0) hZ (hw _ (List.mem_of_getElem? (i := 110) rfl)) (hw _ (List.mem_of_getElem? (i := 3) rfl)) (by decide) (by decide)) q6a q6c (g := (mkF m 78 #[.val (.long pJ), .second, .val (.long q), .second, .val (.long r), .second, .val (.long (1 : Int64)), .second, .val (.ref b1), .val (.long (1 : Int64)), .second, .unset, .unset] [(.long r), (.ref b1)])) rfl (by rw [hml]; rfl) (Steps.refl _) (argsL := [(.long r)]) (rest := []) (lenOf own_pd6 rfl) rfl (by show 2 * 0 + _ ≤ _; exact Nat.le_of_eq rfl) (hb hby at_78) (fun _ _ => ⟨rfl, e5, (by decide : 5 + 0 ≤ _), (by decide : 34 + 0 ≤ _)⟩)
  dsimp only [Pt.U, Pt.locs, Pt.cells, Pt.slots] at X6 l6 y6 z6 st6 hQ6
  subst l6 y6 z6
  obtain ⟨rfl, N6q, KK6, f6_0⟩ := hQ6
  have N6 := Fr.app N5 N6q
  have O6 := Old.keep O4 KK6 (allS g_b1 all0)
  obtain ⟨cq7, kq7, q7a, q7b, q7c⟩ := isOf hZ rfl (((A1.keep KK2).keep KK4).keep KK6)
  obtain ⟨_, _, ⟨T7, L7, k7, n7⟩, -, X7, ⟨Lc7, hQ7, l7, y7, z7⟩, st7⟩ := X6.virtualBack hx (y := (⟨"com/example/riverside/riverside/Arbiter", "nextFence", "()J"⟩ : MethodName)) (z := (⟨"com/example/riverside/riverside/Arbiter", "nextFence", "()J"⟩ : MethodName)) hown (mvT hZ (hw _ (List.mem_of_getElem? (i := 101) rfl))) (mvT hZ (hw _ (List.mem_of_getElem? (i := 102) rfl))) (notFace_of_selects (args := #[]) (mvT hZ (hw _ (List.mem_of_getElem? (i := 104) rfl)))) (mvT hZ (hw _ (List.mem_of_getElem? (i := 104) rfl))) (mvT hZ (hw _ (List.mem_of_getElem? (i := 103) rfl))) (by decide) (backOf (W := 0) (rmNF l Z a0 hw [] b1 (own_max (own_max (1 : Int64) q) r) T6.heap n0 f6_0) hZ (hw _ (List.mem_of_getElem? (i := 105) rfl)) (hw _ (List.mem_of_getElem? (i := 3) rfl)) (by decide) (by decide)) q7a q7c (g := (mkF m 99 #[.val (.long pJ), .second, .val (.long q), .second, .val (.long r), .second, .val (.long (1 : Int64)), .second, .val (.ref b1), .val (.long (1 : Int64)), .second, .val (.long r), .second] [(.ref b1)])) rfl (by rw [hml]; rfl) (Steps.refl _) (argsL := []) (rest := []) (lenOf own_pd7 rfl) rfl (by show 2 * 0 + _ ≤ _; exact Nat.le_of_eq rfl) (hb hby at_99) (fun _ _ => ⟨rfl, rfl, (by decide : 5 + 0 ≤ _), (by decide : 34 + 0 ≤ _)⟩)
  dsimp only [Pt.U, Pt.locs, Pt.cells, Pt.slots] at X7 l7 y7 z7 st7 hQ7
  subst l7 y7 z7
  obtain ⟨rfl, N7q, e7⟩ := hQ7
  have N7 := Fr.app N6 N7q
  obtain ⟨fs, hr, hrun, hended, hW, hsame⟩ := X7.leave (v := some (.int (1 : Int32))) (fun h => by rw [Bd.returns] at h; cases h)
  refine ⟨_, _, pre0 _ ?_, hrun, hended, _, _, rfl, ?_, ⟨_, rfl⟩, hW, hsame.mono (by decide) (by decide)⟩
  · show Steps p.tables e below (s₁.setTop (mkF m 0 #[.val (.long pJ), .second, .val (.long q), .second, .val (.long r), .second, .unset, .unset, .unset, .unset, .unset, .unset, .unset] [])) _
    refine XS.lloadN X0.here hx rfl (hb hby at_0) rfl ?_
    show Steps p.tables e below (s₁.setTop (mkF m 1 #[.val (.long pJ), .second, .val (.long q), .second, .val (.long r), .second, .unset, .unset, .unset, .unset, .unset, .unset, .unset] [(.long pJ)])) _
    refine X0.ldc2Long hx hown (mvT hZ (hw _ (List.mem_of_getElem? (i := 0) rfl))) (g := (mkF m 1 #[.val (.long pJ), .second, .val (.long q), .second, .val (.long r), .second, .unset, .unset, .unset, .unset, .unset, .unset, .unset] [(.long pJ)])) rfl (hb hby at_1) _ ?_
    show Steps p.tables e below (s₁.setTop (mkF m 4 #[.val (.long pJ), .second, .val (.long q), .second, .val (.long r), .second, .unset, .unset, .unset, .unset, .unset, .unset, .unset] [(.long (9007199254740991 : Int64)), (.long pJ)])) _
    refine XS.land X0.here hx rfl (hb hby at_4) rfl ?_
    show Steps p.tables e below (s₁.setTop (mkF m 5 #[.val (.long pJ), .second, .val (.long q), .second, .val (.long r), .second, .unset, .unset, .unset, .unset, .unset, .unset, .unset] [(.long (pJ &&& (9007199254740991 : Int64)))])) _
    refine XS.lstore X0.here hx rfl (hb hby at_5) rfl (l' := #[.val (.long pJ), .second, .val (.long q), .second, .val (.long r), .second, .val (.long (pJ &&& (9007199254740991 : Int64))), .second, .unset, .unset, .unset, .unset, .unset]) rfl ?_
    show Steps p.tables e below (s₁.setTop (mkF m 7 #[.val (.long pJ), .second, .val (.long q), .second, .val (.long r), .second, .val (.long (pJ &&& (9007199254740991 : Int64))), .second, .unset, .unset, .unset, .unset, .unset] [])) _
    refine XS.lload X0.here hx rfl (hb hby at_7) rfl ?_
    show Steps p.tables e below (s₁.setTop (mkF m 9 #[.val (.long pJ), .second, .val (.long q), .second, .val (.long r), .second, .val (.long (pJ &&& (9007199254740991 : Int64))), .second, .unset, .unset, .unset, .unset, .unset] [(.long (pJ &&& (9007199254740991 : Int64)))])) _
    refine XS.lconst X0.here hx rfl (hb hby at_9) ?_
    show Steps p.tables e below (s₁.setTop (mkF m 10 #[.val (.long pJ), .second, .val (.long q), .second, .val (.long r), .second, .val (.long (pJ &&& (9007199254740991 : Int64))), .second, .unset, .unset, .unset, .unset, .unset] [(.long (0 : Int64)), (.long (pJ &&& (9007199254740991 : Int64)))])) _
    refine XS.lcmp X0.here hx rfl (hb hby at_10) rfl ?_
    show Steps p.tables e below (s₁.setTop (mkF m 11 #[.val (.long pJ), .second, .val (.long q), .second, .val (.long r), .second, .val (.long (pJ &&& (9007199254740991 : Int64))), .second, .unset, .unset, .unset, .unset, .unset] [(.int (lcmpW (pJ &&& (9007199254740991 : Int64)) (0 : Int64)))])) _
    refine XS.ifNo X0.here hx rfl (hb hby at_11) rfl ((if0 _ _).trans (teq hc11).2) ?_
    show Steps p.tables e below (s₁.setTop (mkF m 14 #[.val (.long pJ), .second, .val (.long q), .second, .val (.long r), .second, .val (.long (pJ &&& (9007199254740991 : Int64))), .second, .unset, .unset, .unset, .unset, .unset] [])) _
    refine XS.lconst X0.here hx rfl (hb hby at_14) ?_
    show Steps p.tables e below (s₁.setTop (mkF m 15 #[.val (.long pJ), .second, .val (.long q), .second, .val (.long r), .second, .val (.long (pJ &&& (9007199254740991 : Int64))), .second, .unset, .unset, .unset, .unset, .unset] [(.long (1 : Int64))])) _
    refine XS.lstore X0.here hx rfl (hb hby at_15) rfl (l' := #[.val (.long pJ), .second, .val (.long q), .second, .val (.long r), .second, .val (.long (1 : Int64)), .second, .unset, .unset, .unset, .unset, .unset]) rfl ?_
    show Steps p.tables e below (s₁.setTop (mkF m 17 #[.val (.long pJ), .second, .val (.long q), .second, .val (.long r), .second, .val (.long (1 : Int64)), .second, .unset, .unset, .unset, .unset, .unset] [])) _
    refine st1 _ ?_
    show Steps p.tables e below (T1.setTop (mkF m 20 #[.val (.long pJ), .second, .val (.long q), .second, .val (.long r), .second, .val (.long (1 : Int64)), .second, .unset, .unset, .unset, .unset, .unset] [(.ref b1)])) _
    refine XS.dup X1.here hx rfl (hb hby at_20) rfl rfl ?_
    show Steps p.tables e below (T1.setTop (mkF m 21 #[.val (.long pJ), .second, .val (.long q), .second, .val (.long r), .second, .val (.long (1 : Int64)), .second, .unset, .unset, .unset, .unset, .unset] [(.ref b1), (.ref b1)])) _
    refine XS.lload X1.here hx rfl (hb hby at_21) rfl ?_
    show Steps p.tables e below (T1.setTop (mkF m 23 #[.val (.long pJ), .second, .val (.long q), .second, .val (.long r), .second, .val (.long (1 : Int64)), .second, .unset, .unset, .unset, .unset, .unset] [(.long (1 : Int64)), (.ref b1), (.ref b1)])) _
    refine st2.trans ?_
    show Steps p.tables e below (T2.setTop (mkF m 26 #[.val (.long pJ), .second, .val (.long q), .second, .val (.long r), .second, .val (.long (1 : Int64)), .second, .unset, .unset, .unset, .unset, .unset] [(.ref b1)])) _
    refine XS.astore X2.here hx rfl (hb hby at_26) rfl rfl (l' := #[.val (.long pJ), .second, .val (.long q), .second, .val (.long r), .second, .val (.long (1 : Int64)), .second, .val (.ref b1), .unset, .unset, .unset, .unset]) rfl ?_
    show Steps p.tables e below (T2.setTop (mkF m 28 #[.val (.long pJ), .second, .val (.long q), .second, .val (.long r), .second, .val (.long (1 : Int64)), .second, .val (.ref b1), .unset, .unset, .unset, .unset] [])) _
    refine XS.aload X2.here hx rfl (hb hby at_28) rfl rfl ?_
    show Steps p.tables e below (T2.setTop (mkF m 30 #[.val (.long pJ), .second, .val (.long q), .second, .val (.long r), .second, .val (.long (1 : Int64)), .second, .val (.ref b1), .unset, .unset, .unset, .unset] [(.ref b1)])) _
    refine st3.trans ?_
    show Steps p.tables e below (T3.setTop (mkF m 33 #[.val (.long pJ), .second, .val (.long q), .second, .val (.long r), .second, .val (.long (1 : Int64)), .second, .val (.ref b1), .unset, .unset, .unset, .unset] [(.long (1 : Int64))])) _
    refine XS.lload X3.here hx rfl (hb hby at_33) rfl ?_
    show Steps p.tables e below (T3.setTop (mkF m 35 #[.val (.long pJ), .second, .val (.long q), .second, .val (.long r), .second, .val (.long (1 : Int64)), .second, .val (.ref b1), .unset, .unset, .unset, .unset] [(.long (1 : Int64)), (.long (1 : Int64))])) _
    refine XS.lcmp X3.here hx rfl (hb hby at_35) rfl ?_
    show Steps p.tables e below (T3.setTop (mkF m 36 #[.val (.long pJ), .second, .val (.long q), .second, .val (.long r), .second, .val (.long (1 : Int64)), .second, .val (.ref b1), .unset, .unset, .unset, .unset] [(.int (lcmpW (1 : Int64) (1 : Int64)))])) _
    refine XS.ifYes X3.here hx rfl (pc0 := 36) (pc' := 41) rfl (hb hby at_36) rfl ((if0 _ _).trans (teq ((lw_eq _ _).mpr rfl : (lcmpW (1 : Int64) (1 : Int64)) = (0 : Int32))).1) (by decide) (by decide) ?_
    show Steps p.tables e below (T3.setTop (mkF m 41 #[.val (.long pJ), .second, .val (.long q), .second, .val (.long r), .second, .val (.long (1 : Int64)), .second, .val (.ref b1), .unset, .unset, .unset, .unset] [])) _
    refine XS.aload X3.here hx rfl (hb hby at_41) rfl rfl ?_
    show Steps p.tables e below (T3.setTop (mkF m 43 #[.val (.long pJ), .second, .val (.long q), .second, .val (.long r), .second, .val (.long (1 : Int64)), .second, .val (.ref b1), .unset, .unset, .unset, .unset] [(.ref b1)])) _
    refine XS.lloadN X3.here hx rfl (hb hby at_43) rfl ?_
    show Steps p.tables e below (T3.setTop (mkF m 44 #[.val (.long pJ), .second, .val (.long q), .second, .val (.long r), .second, .val (.long (1 : Int64)), .second, .val (.ref b1), .unset, .unset, .unset, .unset] [(.long q), (.ref b1)])) _
    refine st4.trans ?_
    show Steps p.tables e below (T4.setTop (mkF m 47 #[.val (.long pJ), .second, .val (.long q), .second, .val (.long r), .second, .val (.long (1 : Int64)), .second, .val (.ref b1), .unset, .unset, .unset, .unset] [])) _
    refine XS.lload X4.here hx rfl (hb hby at_47) rfl ?_
    show Steps p.tables e below (T4.setTop (mkF m 49 #[.val (.long pJ), .second, .val (.long q), .second, .val (.long r), .second, .val (.long (1 : Int64)), .second, .val (.ref b1), .unset, .unset, .unset, .unset] [(.long (1 : Int64))])) _
    refine XS.lstore X4.here hx rfl (hb hby at_49) rfl (l' := #[.val (.long pJ), .second, .val (.long q), .second, .val (.long r), .second, .val (.long (1 : Int64)), .second, .val (.ref b1), .val (.long (1 : Int64)), .second, .unset, .unset]) rfl ?_
    show Steps p.tables e below (T4.setTop (mkF m 51 #[.val (.long pJ), .second, .val (.long q), .second, .val (.long r), .second, .val (.long (1 : Int64)), .second, .val (.ref b1), .val (.long (1 : Int64)), .second, .unset, .unset] [])) _
    refine XS.lloadN X4.here hx rfl (hb hby at_51) rfl ?_
    show Steps p.tables e below (T4.setTop (mkF m 52 #[.val (.long pJ), .second, .val (.long q), .second, .val (.long r), .second, .val (.long (1 : Int64)), .second, .val (.ref b1), .val (.long (1 : Int64)), .second, .unset, .unset] [(.long q)])) _
    refine XS.lload X4.here hx rfl (hb hby at_52) rfl ?_
    show Steps p.tables e below (T4.setTop (mkF m 54 #[.val (.long pJ), .second, .val (.long q), .second, .val (.long r), .second, .val (.long (1 : Int64)), .second, .val (.ref b1), .val (.long (1 : Int64)), .second, .unset, .unset] [(.long (1 : Int64)), (.long q)])) _
    refine XS.lcmp X4.here hx rfl (hb hby at_54) rfl ?_
    show Steps p.tables e below (T4.setTop (mkF m 55 #[.val (.long pJ), .second, .val (.long q), .second, .val (.long r), .second, .val (.long (1 : Int64)), .second, .val (.ref b1), .val (.long (1 : Int64)), .second, .unset, .unset] [(.int (lcmpW q (1 : Int64)))])) _
    refine XS.ifYes X4.here hx rfl (pc0 := 55) (pc' := 61) rfl (hb hby at_55) rfl ((if0 _ _).trans (flt hc55).2.2.2) (by decide) (by decide) ?_
    show Steps p.tables e below (T4.setTop (mkF m 61 #[.val (.long pJ), .second, .val (.long q), .second, .val (.long r), .second, .val (.long (1 : Int64)), .second, .val (.ref b1), .val (.long (1 : Int64)), .second, .unset, .unset] [])) _
    refine XS.aload X4.here hx rfl (hb hby at_61) rfl rfl ?_
    show Steps p.tables e below (T4.setTop (mkF m 63 #[.val (.long pJ), .second, .val (.long q), .second, .val (.long r), .second, .val (.long (1 : Int64)), .second, .val (.ref b1), .val (.long (1 : Int64)), .second, .unset, .unset] [(.ref b1)])) _
    refine st5.trans ?_
    show Steps p.tables e below (T5.setTop (mkF m 66 #[.val (.long pJ), .second, .val (.long q), .second, .val (.long r), .second, .val (.long (1 : Int64)), .second, .val (.ref b1), .val (.long (1 : Int64)), .second, .unset, .unset] [(.long (own_max (1 : Int64) q))])) _
    refine XS.lload X5.here hx rfl (hb hby at_66) rfl ?_
    show Steps p.tables e below (T5.setTop (mkF m 68 #[.val (.long pJ), .second, .val (.long q), .second, .val (.long r), .second, .val (.long (1 : Int64)), .second, .val (.ref b1), .val (.long (1 : Int64)), .second, .unset, .unset] [(.long (1 : Int64)), (.long (own_max (1 : Int64) q))])) _
    refine XS.lcmp X5.here hx rfl (hb hby at_68) rfl ?_
    show Steps p.tables e below (T5.setTop (mkF m 69 #[.val (.long pJ), .second, .val (.long q), .second, .val (.long r), .second, .val (.long (1 : Int64)), .second, .val (.ref b1), .val (.long (1 : Int64)), .second, .unset, .unset] [(.int (lcmpW (own_max (1 : Int64) q) (1 : Int64)))])) _
    refine XS.ifYes X5.here hx rfl (pc0 := 69) (pc' := 74) rfl (hb hby at_69) rfl ((if0 _ _).trans (teq ((lw_eq _ _).mpr (own_max_le hc55) : (lcmpW (own_max (1 : Int64) q) (1 : Int64)) = (0 : Int32))).1) (by decide) (by decide) ?_
    show Steps p.tables e below (T5.setTop (mkF m 74 #[.val (.long pJ), .second, .val (.long q), .second, .val (.long r), .second, .val (.long (1 : Int64)), .second, .val (.ref b1), .val (.long (1 : Int64)), .second, .unset, .unset] [])) _
    refine XS.aload X5.here hx rfl (hb hby at_74) rfl rfl ?_
    show Steps p.tables e below (T5.setTop (mkF m 76 #[.val (.long pJ), .second, .val (.long q), .second, .val (.long r), .second, .val (.long (1 : Int64)), .second, .val (.ref b1), .val (.long (1 : Int64)), .second, .unset, .unset] [(.ref b1)])) _
    refine XS.lload X5.here hx rfl (hb hby at_76) rfl ?_
    show Steps p.tables e below (T5.setTop (mkF m 78 #[.val (.long pJ), .second, .val (.long q), .second, .val (.long r), .second, .val (.long (1 : Int64)), .second, .val (.ref b1), .val (.long (1 : Int64)), .second, .unset, .unset] [(.long r), (.ref b1)])) _
    refine st6.trans ?_
    show Steps p.tables e below (T6.setTop (mkF m 81 #[.val (.long pJ), .second, .val (.long q), .second, .val (.long r), .second, .val (.long (1 : Int64)), .second, .val (.ref b1), .val (.long (1 : Int64)), .second, .unset, .unset] [])) _
    refine XS.lload X6.here hx rfl (hb hby at_81) rfl ?_
    show Steps p.tables e below (T6.setTop (mkF m 83 #[.val (.long pJ), .second, .val (.long q), .second, .val (.long r), .second, .val (.long (1 : Int64)), .second, .val (.ref b1), .val (.long (1 : Int64)), .second, .unset, .unset] [(.long (1 : Int64))])) _
    refine XS.lstore X6.here hx rfl (hb hby at_83) rfl (l' := #[.val (.long pJ), .second, .val (.long q), .second, .val (.long r), .second, .val (.long (1 : Int64)), .second, .val (.ref b1), .val (.long (1 : Int64)), .second, .val (.long (1 : Int64)), .second]) rfl ?_
    show Steps p.tables e below (T6.setTop (mkF m 85 #[.val (.long pJ), .second, .val (.long q), .second, .val (.long r), .second, .val (.long (1 : Int64)), .second, .val (.ref b1), .val (.long (1 : Int64)), .second, .val (.long (1 : Int64)), .second] [])) _
    refine XS.lload X6.here hx rfl (hb hby at_85) rfl ?_
    show Steps p.tables e below (T6.setTop (mkF m 87 #[.val (.long pJ), .second, .val (.long q), .second, .val (.long r), .second, .val (.long (1 : Int64)), .second, .val (.ref b1), .val (.long (1 : Int64)), .second, .val (.long (1 : Int64)), .second] [(.long r)])) _
    refine XS.lload X6.here hx rfl (hb hby at_87) rfl ?_
    show Steps p.tables e below (T6.setTop (mkF m 89 #[.val (.long pJ), .second, .val (.long q), .second, .val (.long r), .second, .val (.long (1 : Int64)), .second, .val (.ref b1), .val (.long (1 : Int64)), .second, .val (.long (1 : Int64)), .second] [(.long (1 : Int64)), (.long r)])) _
    refine XS.lcmp X6.here hx rfl (hb hby at_89) rfl ?_
    show Steps p.tables e below (T6.setTop (mkF m 90 #[.val (.long pJ), .second, .val (.long q), .second, .val (.long r), .second, .val (.long (1 : Int64)), .second, .val (.ref b1), .val (.long (1 : Int64)), .second, .val (.long (1 : Int64)), .second] [(.int (lcmpW r (1 : Int64)))])) _
    refine XS.ifNo X6.here hx rfl (hb hby at_90) rfl ((if0 _ _).trans (tlt hc90).2.2.2) ?_
    show Steps p.tables e below (T6.setTop (mkF m 93 #[.val (.long pJ), .second, .val (.long q), .second, .val (.long r), .second, .val (.long (1 : Int64)), .second, .val (.ref b1), .val (.long (1 : Int64)), .second, .val (.long (1 : Int64)), .second] [])) _
    refine XS.lload X6.here hx rfl (hb hby at_93) rfl ?_
    show Steps p.tables e below (T6.setTop (mkF m 95 #[.val (.long pJ), .second, .val (.long q), .second, .val (.long r), .second, .val (.long (1 : Int64)), .second, .val (.ref b1), .val (.long (1 : Int64)), .second, .val (.long (1 : Int64)), .second] [(.long r)])) _
    refine XS.lstore X6.here hx rfl (hb hby at_95) rfl (l' := #[.val (.long pJ), .second, .val (.long q), .second, .val (.long r), .second, .val (.long (1 : Int64)), .second, .val (.ref b1), .val (.long (1 : Int64)), .second, .val (.long r), .second]) rfl ?_
    show Steps p.tables e below (T6.setTop (mkF m 97 #[.val (.long pJ), .second, .val (.long q), .second, .val (.long r), .second, .val (.long (1 : Int64)), .second, .val (.ref b1), .val (.long (1 : Int64)), .second, .val (.long r), .second] [])) _
    refine XS.aload X6.here hx rfl (hb hby at_97) rfl rfl ?_
    show Steps p.tables e below (T6.setTop (mkF m 99 #[.val (.long pJ), .second, .val (.long q), .second, .val (.long r), .second, .val (.long (1 : Int64)), .second, .val (.ref b1), .val (.long (1 : Int64)), .second, .val (.long r), .second] [(.ref b1)])) _
    refine st7.trans ?_
    show Steps p.tables e below (T7.setTop (mkF m 102 #[.val (.long pJ), .second, .val (.long q), .second, .val (.long r), .second, .val (.long (1 : Int64)), .second, .val (.ref b1), .val (.long (1 : Int64)), .second, .val (.long r), .second] [(.long (own_max (own_max (1 : Int64) q) r))])) _
    refine XS.lload X7.here hx rfl (hb hby at_102) rfl ?_
    show Steps p.tables e below (T7.setTop (mkF m 104 #[.val (.long pJ), .second, .val (.long q), .second, .val (.long r), .second, .val (.long (1 : Int64)), .second, .val (.ref b1), .val (.long (1 : Int64)), .second, .val (.long r), .second] [(.long r), (.long (own_max (own_max (1 : Int64) q) r))])) _
    refine XS.lcmp X7.here hx rfl (hb hby at_104) rfl ?_
    show Steps p.tables e below (T7.setTop (mkF m 105 #[.val (.long pJ), .second, .val (.long q), .second, .val (.long r), .second, .val (.long (1 : Int64)), .second, .val (.ref b1), .val (.long (1 : Int64)), .second, .val (.long r), .second] [(.int (lcmpW (own_max (own_max (1 : Int64) q) r) r))])) _
    refine XS.ifNo X7.here hx rfl (hb hby at_105) rfl ((if0 _ _).trans (teq ((lw_eq _ _).mpr (by rw [own_max_le hc55]; exact own_max_gt hc90) : (lcmpW (own_max (own_max (1 : Int64) q) r) r) = (0 : Int32))).2) ?_
    show Steps p.tables e below (T7.setTop (mkF m 108 #[.val (.long pJ), .second, .val (.long q), .second, .val (.long r), .second, .val (.long (1 : Int64)), .second, .val (.ref b1), .val (.long (1 : Int64)), .second, .val (.long r), .second] [])) _
    refine XS.iconst X7.here hx rfl (hb hby at_108) ?_
    show Steps p.tables e below (T7.setTop (mkF m 109 #[.val (.long pJ), .second, .val (.long q), .second, .val (.long r), .second, .val (.long (1 : Int64)), .second, .val (.ref b1), .val (.long (1 : Int64)), .second, .val (.long r), .second] [(.int (1 : Int32))])) _
    refine XS.goto X7.here hx rfl (pc0 := 109) (pc' := 113) rfl (hb hby at_109) (by decide) (by decide) ?_
    show Steps p.tables e below (T7.setTop (mkF m 113 #[.val (.long pJ), .second, .val (.long q), .second, .val (.long r), .second, .val (.long (1 : Int64)), .second, .val (.ref b1), .val (.long (1 : Int64)), .second, .val (.long r), .second] [(.int (1 : Int32))])) _
    exact retN X7 hx (t := .boolean) Bd.returns (by simp) (hb hby at_113) hr
  · show Qd10 Z pJ q r h0 n0 _ T7.heap _
    rw [e7]
    exact ⟨rfl, N7⟩
set_option maxRecDepth 65536 in
set_option maxHeartbeats 40000000 in
theorem rm0ftt (l : Launch) (Z : State) (a0 : Array Value) (hw : ∀ d ∈ tables_1, d.before a0 Z = true) (ws : List Jvm.Cond) (pJ q r : Int64) (h0 : Heap) (n0 : Nat) (O0 : Old Z n0 h0) (hc11 : (lcmpW (pJ &&& (9007199254740991 : Int64)) (0 : Int64)) = (0 : Int32)) (hc55 : ¬ ((0 : Int32) < (lcmpW q (1 : Int64)))) (hc90 : ¬ ((0 : Int32) < (lcmpW r (1 : Int64)))) :
    MetFree l x (head1 (Jvm.Cond.code x code maxLocals ret :: ws) room_1) (fun qq U => qq = #[(.long pJ), (.long q), (.long r)] ∧ Z.Warmed39 U.vm ∧ U.heap = h0) (fun _ _ _ _ _ => True) (fun _ UU oo UU' => ∃ vv LL, oo = .returned vv ∧ Qd10 Z pJ q r h0 n0 vv UU'.heap LL ∧ FrameEnd UU oo UU' LL room_1.cells room_1.slots) := by
  refine MetFree.of_bodySF (plainFor_of_name pn_0) hisR ?_
  intro p e s m args below meth c s₁ Bd hml0 hP hK
  obtain ⟨rfl, hZ, hh⟩ := hP
  have hx := Bd.exec
  have hby := Bd.bytes
  have hml : c.maxLocals = 13 := hml0
  have hown : s.vm.findClass "com/example/riverside/riverside/ArbiterAdvanceFencesPinLaw" = some m.cls := findClass_of_methodNamed Bd.named
  have hnm := (name_of_methodNamed Bd.named Bd.method).1
  have X0 : Stand p l e room_1 s m #[(.long pJ), (.long q), (.long r)] below meth c s₁ [] 0 0 := Stand.of_body Bd
  have e0 : s₁.heap = h0 := by rw [← hh, Bd.state]; rfl
  have N0 := Fr.nil n0
  have pre0 : ∀ t, Steps p.tables e below (s₁.setTop (mkF m 0 #[.val (.long pJ), .second, .val (.long q), .second, .val (.long r), .second, .unset, .unset, .unset, .unset, .unset, .unset, .unset] [])) t → Steps p.tables e below (s₁.setTop (entryFrame m #[(.long pJ), (.long q), (.long r)] maxLocals)) t := fun t k => castTop (ef_0 m pJ q r) k
  obtain ⟨T1, h1, X1, e1, E1, A1, D1, -, st1⟩ := newO X0 hx hZ hown (hw _ (List.mem_of_getElem? (i := 1) rfl)) (hw _ (List.mem_of_getElem? (i := 2) rfl)) (hw _ (List.mem_of_getElem? (i := 3) rfl)) e0 (g := (mkF m 17 #[.val (.long pJ), .second, .val (.long q), .second, .val (.long r), .second, .val (.long (1 : Int64)), .second, .unset, .unset, .unset, .unset, .unset] [])) rfl (hb hby at_17) (by decide) (by decide)
  obtain ⟨b1, q1⟩ : ∃ z, z = h0.size := ⟨_, rfl⟩
  rw [← q1] at A1 D1 st1
  have g_b1 : n0 ≤ b1 := by rw [q1]; exact (O0).1 ▸ (O0).2.1
  have O1 := Old.ext O0 E1
  have F1_keys : Fld Z h1 b1 "com/example/riverside/riverside/Arbiter" "keys" "Ljava/util/Map;" .null := D1 (Or.inr (hw _ (List.mem_of_getElem? (i := 27) rfl))) (ty := (.object "java/util/Map")) (by decide)
  have F1_openKeys : Fld Z h1 b1 "com/example/riverside/riverside/Arbiter" "openKeys" "Ljava/util/Map;" .null := D1 (Or.inr (hw _ (List.mem_of_getElem? (i := 29) rfl))) (ty := (.object "java/util/Map")) (by decide)
  have F1_blocked : Fld Z h1 b1 "com/example/riverside/riverside/Arbiter" "blocked" "Ljava/util/Set;" .null := D1 (Or.inr (hw _ (List.mem_of_getElem? (i := 92) rfl))) (ty := (.object "java/util/Set")) (by decide)
  have F1_fenceLimit : Fld Z h1 b1 "com/example/riverside/riverside/Arbiter" "fenceLimit" "Ljava/util/function/LongSupplier;" .null := D1 (Or.inl (hw _ (List.mem_of_getElem? (i := 97) rfl))) (ty := (.object "java/util/function/LongSupplier")) (by decide)
  have F1_nextFence : Fld Z h1 b1 "com/example/riverside/riverside/Arbiter" "nextFence" "J" (.long (0 : Int64)) := D1 (Or.inl (hw _ (List.mem_of_getElem? (i := 100) rfl))) (ty := .long) (by decide)
  obtain ⟨_, _, ⟨T2, L2, k2, n2⟩, -, X2, ⟨Lc2, hQ2, l2, y2, z2⟩, st2⟩ := X1.specialBack hx (y := (⟨"com/example/riverside/riverside/Arbiter", "<init>", "(J)V"⟩ : MethodName)) rfl hown (mvT hZ (hw _ (List.mem_of_getElem? (i := 4) rfl))) (mvT hZ (hw _ (List.mem_of_getElem? (i := 5) rfl))) (mvT hZ (hw _ (List.mem_of_getElem? (i := 6) rfl))) (by decide) (backOf (W := 1) (rmAR l Z a0 hw [] b1 (1 : Int64) h1 n0 O1 g_b1 A1 F1_keys F1_openKeys F1_blocked F1_fenceLimit F1_nextFence (by decide) (by decide)) hZ (hw _ (List.mem_of_getElem? (i := 6) rfl)) (hw _ (List.mem_of_getElem? (i := 3) rfl)) (by decide) (by decide)) (g := (mkF m 23 #[.val (.long pJ), .second, .val (.long q), .second, .val (.long r), .second, .val (.long (1 : Int64)), .second, .unset, .unset, .unset, .unset, .unset] [(.long (1 : Int64)), (.ref b1), (.ref b1)])) rfl (by rw [hml]; rfl) (Steps.refl _) (a := b1) (argsL := [(.long (1 : Int64))]) (rest := [(.ref b1)]) (lenOf own_pd6 rfl) rfl (by show 2 * 0 + _ ≤ _; exact Nat.le_of_eq rfl) (hb hby at_23) (fun _ _ => ⟨rfl, e1, (by decide : 1 + 4 ≤ _), (by decide : 5 + 29 ≤ _)⟩)
  dsimp only [Pt.U, Pt.locs, Pt.cells, Pt.slots] at X2 l2 y2 z2 st2 hQ2
  subst l2 y2 z2
  obtain ⟨rfl, N2q, KK2, f2_0⟩ := hQ2
  have N2 := Fr.app N0 N2q
  have O2 := Old.keep O1 KK2 (allS g_b1 all0)
  obtain ⟨cq3, kq3, q3a, q3b, q3c⟩ := isOf hZ rfl (A1.keep KK2)
  obtain ⟨_, _, ⟨T3, L3, k3, n3⟩, -, X3, ⟨Lc3, hQ3, l3, y3, z3⟩, st3⟩ := X2.virtualBack hx (y := (⟨"com/example/riverside/riverside/Arbiter", "nextFence", "()J"⟩ : MethodName)) (z := (⟨"com/example/riverside/riverside/Arbiter", "nextFence", "()J"⟩ : MethodName)) hown (mvT hZ (hw _ (List.mem_of_getElem? (i := 101) rfl))) (mvT hZ (hw _ (List.mem_of_getElem? (i := 102) rfl))) (notFace_of_selects (args := #[]) (mvT hZ (hw _ (List.mem_of_getElem? (i := 104) rfl)))) (mvT hZ (hw _ (List.mem_of_getElem? (i := 104) rfl))) (mvT hZ (hw _ (List.mem_of_getElem? (i := 103) rfl))) (by decide) (backOf (W := 0) (rmNF l Z a0 hw [] b1 (1 : Int64) T2.heap n0 f2_0) hZ (hw _ (List.mem_of_getElem? (i := 105) rfl)) (hw _ (List.mem_of_getElem? (i := 3) rfl)) (by decide) (by decide)) q3a q3c (g := (mkF m 30 #[.val (.long pJ), .second, .val (.long q), .second, .val (.long r), .second, .val (.long (1 : Int64)), .second, .val (.ref b1), .unset, .unset, .unset, .unset] [(.ref b1)])) rfl (by rw [hml]; rfl) (Steps.refl _) (argsL := []) (rest := []) (lenOf own_pd7 rfl) rfl (by show 2 * 0 + _ ≤ _; exact Nat.le_of_eq rfl) (hb hby at_30) (fun _ _ => ⟨rfl, rfl, (by decide : 5 + 0 ≤ _), (by decide : 34 + 0 ≤ _)⟩)
  dsimp only [Pt.U, Pt.locs, Pt.cells, Pt.slots] at X3 l3 y3 z3 st3 hQ3
  subst l3 y3 z3
  obtain ⟨rfl, N3q, e3⟩ := hQ3
  have N3 := Fr.app N2 N3q
  obtain ⟨cq4, kq4, q4a, q4b, q4c⟩ := isOf hZ e3 (A1.keep KK2)
  obtain ⟨_, _, ⟨T4, L4, k4, n4⟩, -, X4, ⟨Lc4, hQ4, l4, y4, z4⟩, st4⟩ := X3.virtualBack hx (y := (⟨"com/example/riverside/riverside/Arbiter", "advanceFences", "(J)V"⟩ : MethodName)) (z := (⟨"com/example/riverside/riverside/Arbiter", "advanceFences", "(J)V"⟩ : MethodName)) hown (mvT hZ (hw _ (List.mem_of_getElem? (i := 106) rfl))) (mvT hZ (hw _ (List.mem_of_getElem? (i := 107) rfl))) (notFace_of_selects (args := #[]) (mvT hZ (hw _ (List.mem_of_getElem? (i := 109) rfl)))) (mvT hZ (hw _ (List.mem_of_getElem? (i := 109) rfl))) (mvT hZ (hw _ (List.mem_of_getElem? (i := 108) rfl))) (by decide) (backOf (W := 0) (rmAV l Z a0 hw [] b1 q (1 : Int64) T2.heap n0 O2 g_b1 (A1.keep KK2) f2_0) hZ (hw _ (List.mem_of_getElem? (i := 110) rfl)) (hw _ (List.mem_of_getElem? (i := 3) rfl)) (by decide) (by decide)) q4a q4c (g := (mkF m 44 #[.val (.long pJ), .second, .val (.long q), .second, .val (.long r), .second, .val (.long (1 : Int64)), .second, .val (.ref b1), .unset, .unset, .unset, .unset] [(.long q), (.ref b1)])) rfl (by rw [hml]; rfl) (Steps.refl _) (argsL := [(.long q)]) (rest := []) (lenOf own_pd6 rfl) rfl (by show 2 * 0 + _ ≤ _; exact Nat.le_of_eq rfl) (hb hby at_44) (fun _ _ => ⟨rfl, e3, (by decide : 5 + 0 ≤ _), (by decide : 34 + 0 ≤ _)⟩)
  dsimp only [Pt.U, Pt.locs, Pt.cells, Pt.slots] at X4 l4 y4 z4 st4 hQ4
  subst l4 y4 z4
  obtain ⟨rfl, N4q, KK4, f4_0⟩ := hQ4
  have N4 := Fr.app N3 N4q
  have O4 := Old.keep O2 KK4 (allS g_b1 all0)
  obtain ⟨cq5, kq5, q5a, q5b, q5c⟩ := isOf hZ rfl ((A1.keep KK2).keep KK4)
  obtain ⟨_, _, ⟨T5, L5, k5, n5⟩, -, X5, ⟨Lc5, hQ5, l5, y5, z5⟩, st5⟩ := X4.virtualBack hx (y := (⟨"com/example/riverside/riverside/Arbiter", "nextFence", "()J"⟩ : MethodName)) (z := (⟨"com/example/riverside/riverside/Arbiter", "nextFence", "()J"⟩ : MethodName)) hown (mvT hZ (hw _ (List.mem_of_getElem? (i := 101) rfl))) (mvT hZ (hw _ (List.mem_of_getElem? (i := 102) rfl))) (notFace_of_selects (args := #[]) (mvT hZ (hw _ (List.mem_of_getElem? (i := 104) rfl)))) (mvT hZ (hw _ (List.mem_of_getElem? (i := 104) rfl))) (mvT hZ (hw _ (List.mem_of_getElem? (i := 103) rfl))) (by decide) (backOf (W := 0) (rmNF l Z a0 hw [] b1 (own_max (1 : Int64) q) T4.heap n0 f4_0) hZ (hw _ (List.mem_of_getElem? (i := 105) rfl)) (hw _ (List.mem_of_getElem? (i := 3) rfl)) (by decide) (by decide)) q5a q5c (g := (mkF m 63 #[.val (.long pJ), .second, .val (.long q), .second, .val (.long r), .second, .val (.long (1 : Int64)), .second, .val (.ref b1), .val (.long (1 : Int64)), .second, .unset, .unset] [(.ref b1)])) rfl (by rw [hml]; rfl) (Steps.refl _) (argsL := []) (rest := []) (lenOf own_pd7 rfl) rfl (by show 2 * 0 + _ ≤ _; exact Nat.le_of_eq rfl) (hb hby at_63) (fun _ _ => ⟨rfl, rfl, (by decide : 5 + 0 ≤ _), (by decide : 34 + 0 ≤ _)⟩)
  dsimp only [Pt.U, Pt.locs, Pt.cells, Pt.slots] at X5 l5 y5 z5 st5 hQ5
  subst l5 y5 z5
  obtain ⟨rfl, N5q, e5⟩ := hQ5
  have N5 := Fr.app N4 N5q
  obtain ⟨cq6, kq6, q6a, q6b, q6c⟩ := isOf hZ e5 ((A1.keep KK2).keep KK4)
  obtain ⟨_, _, ⟨T6, L6, k6, n6⟩, -, X6, ⟨Lc6, hQ6, l6, y6, z6⟩, st6⟩ := X5.virtualBack hx (y := (⟨"com/example/riverside/riverside/Arbiter", "advanceFences", "(J)V"⟩ : MethodName)) (z := (⟨"com/example/riverside/riverside/Arbiter", "advanceFences", "(J)V"⟩ : MethodName)) hown (mvT hZ (hw _ (List.mem_of_getElem? (i := 106) rfl))) (mvT hZ (hw _ (List.mem_of_getElem? (i := 107) rfl))) (notFace_of_selects (args := #[]) (mvT hZ (hw _ (List.mem_of_getElem? (i := 109) rfl)))) (mvT hZ (hw _ (List.mem_of_getElem? (i := 109) rfl))) (mvT hZ (hw _ (List.mem_of_getElem? (i := 108) rfl))) (by decide) (backOf (W := 0) (rmAV l Z a0 hw [] b1 r (own_max (1 : Int64) q) T4.heap n0 O4 g_b1 ((A1.keep KK2).keep KK4) f4_0) hZ (hw _ (List.mem_of_getElem? (i := 110) rfl)) (hw _ (List.mem_of_getElem? (i := 3) rfl)) (by decide) (by decide)) q6a q6c (g := (mkF m 78 #[.val (.long pJ), .second, .val (.long q), .second, .val (.long r), .second, .val (.long (1 : Int64)), .second, .val (.ref b1), .val (.long (1 : Int64)), .second, .unset, .unset] [(.long r), (.ref b1)])) rfl (by rw [hml]; rfl) (Steps.refl _) (argsL := [(.long r)]) (rest := []) (lenOf own_pd6 rfl) rfl (by show 2 * 0 + _ ≤ _; exact Nat.le_of_eq rfl) (hb hby at_78) (fun _ _ => ⟨rfl, e5, (by decide : 5 + 0 ≤ _), (by decide : 34 + 0 ≤ _)⟩)
  dsimp only [Pt.U, Pt.locs, Pt.cells, Pt.slots] at X6 l6 y6 z6 st6 hQ6
  subst l6 y6 z6
  obtain ⟨rfl, N6q, KK6, f6_0⟩ := hQ6
  have N6 := Fr.app N5 N6q
  have O6 := Old.keep O4 KK6 (allS g_b1 all0)
  obtain ⟨cq7, kq7, q7a, q7b, q7c⟩ := isOf hZ rfl (((A1.keep KK2).keep KK4).keep KK6)
  obtain ⟨_, _, ⟨T7, L7, k7, n7⟩, -, X7, ⟨Lc7, hQ7, l7, y7, z7⟩, st7⟩ := X6.virtualBack hx (y := (⟨"com/example/riverside/riverside/Arbiter", "nextFence", "()J"⟩ : MethodName)) (z := (⟨"com/example/riverside/riverside/Arbiter", "nextFence", "()J"⟩ : MethodName)) hown (mvT hZ (hw _ (List.mem_of_getElem? (i := 101) rfl))) (mvT hZ (hw _ (List.mem_of_getElem? (i := 102) rfl))) (notFace_of_selects (args := #[]) (mvT hZ (hw _ (List.mem_of_getElem? (i := 104) rfl)))) (mvT hZ (hw _ (List.mem_of_getElem? (i := 104) rfl))) (mvT hZ (hw _ (List.mem_of_getElem? (i := 103) rfl))) (by decide) (backOf (W := 0) (rmNF l Z a0 hw [] b1 (own_max (own_max (1 : Int64) q) r) T6.heap n0 f6_0) hZ (hw _ (List.mem_of_getElem? (i := 105) rfl)) (hw _ (List.mem_of_getElem? (i := 3) rfl)) (by decide) (by decide)) q7a q7c (g := (mkF m 99 #[.val (.long pJ), .second, .val (.long q), .second, .val (.long r), .second, .val (.long (1 : Int64)), .second, .val (.ref b1), .val (.long (1 : Int64)), .second, .val (.long (1 : Int64)), .second] [(.ref b1)])) rfl (by rw [hml]; rfl) (Steps.refl _) (argsL := []) (rest := []) (lenOf own_pd7 rfl) rfl (by show 2 * 0 + _ ≤ _; exact Nat.le_of_eq rfl) (hb hby at_99) (fun _ _ => ⟨rfl, rfl, (by decide : 5 + 0 ≤ _), (by decide : 34 + 0 ≤ _)⟩)
  dsimp only [Pt.U, Pt.locs, Pt.cells, Pt.slots] at X7 l7 y7 z7 st7 hQ7
  subst l7 y7 z7
  obtain ⟨rfl, N7q, e7⟩ := hQ7
  have N7 := Fr.app N6 N7q
  obtain ⟨fs, hr, hrun, hended, hW, hsame⟩ := X7.leave (v := some (.int (1 : Int32))) (fun h => by rw [Bd.returns] at h; cases h)
  refine ⟨_, _, pre0 _ ?_, hrun, hended, _, _, rfl, ?_, ⟨_, rfl⟩, hW, hsame.mono (by decide) (by decide)⟩
  · show Steps p.tables e below (s₁.setTop (mkF m 0 #[.val (.long pJ), .second, .val (.long q), .second, .val (.long r), .second, .unset, .unset, .unset, .unset, .unset, .unset, .unset] [])) _
    refine XS.lloadN X0.here hx rfl (hb hby at_0) rfl ?_
    show Steps p.tables e below (s₁.setTop (mkF m 1 #[.val (.long pJ), .second, .val (.long q), .second, .val (.long r), .second, .unset, .unset, .unset, .unset, .unset, .unset, .unset] [(.long pJ)])) _
    refine X0.ldc2Long hx hown (mvT hZ (hw _ (List.mem_of_getElem? (i := 0) rfl))) (g := (mkF m 1 #[.val (.long pJ), .second, .val (.long q), .second, .val (.long r), .second, .unset, .unset, .unset, .unset, .unset, .unset, .unset] [(.long pJ)])) rfl (hb hby at_1) _ ?_
    show Steps p.tables e below (s₁.setTop (mkF m 4 #[.val (.long pJ), .second, .val (.long q), .second, .val (.long r), .second, .unset, .unset, .unset, .unset, .unset, .unset, .unset] [(.long (9007199254740991 : Int64)), (.long pJ)])) _
    refine XS.land X0.here hx rfl (hb hby at_4) rfl ?_
    show Steps p.tables e below (s₁.setTop (mkF m 5 #[.val (.long pJ), .second, .val (.long q), .second, .val (.long r), .second, .unset, .unset, .unset, .unset, .unset, .unset, .unset] [(.long (pJ &&& (9007199254740991 : Int64)))])) _
    refine XS.lstore X0.here hx rfl (hb hby at_5) rfl (l' := #[.val (.long pJ), .second, .val (.long q), .second, .val (.long r), .second, .val (.long (pJ &&& (9007199254740991 : Int64))), .second, .unset, .unset, .unset, .unset, .unset]) rfl ?_
    show Steps p.tables e below (s₁.setTop (mkF m 7 #[.val (.long pJ), .second, .val (.long q), .second, .val (.long r), .second, .val (.long (pJ &&& (9007199254740991 : Int64))), .second, .unset, .unset, .unset, .unset, .unset] [])) _
    refine XS.lload X0.here hx rfl (hb hby at_7) rfl ?_
    show Steps p.tables e below (s₁.setTop (mkF m 9 #[.val (.long pJ), .second, .val (.long q), .second, .val (.long r), .second, .val (.long (pJ &&& (9007199254740991 : Int64))), .second, .unset, .unset, .unset, .unset, .unset] [(.long (pJ &&& (9007199254740991 : Int64)))])) _
    refine XS.lconst X0.here hx rfl (hb hby at_9) ?_
    show Steps p.tables e below (s₁.setTop (mkF m 10 #[.val (.long pJ), .second, .val (.long q), .second, .val (.long r), .second, .val (.long (pJ &&& (9007199254740991 : Int64))), .second, .unset, .unset, .unset, .unset, .unset] [(.long (0 : Int64)), (.long (pJ &&& (9007199254740991 : Int64)))])) _
    refine XS.lcmp X0.here hx rfl (hb hby at_10) rfl ?_
    show Steps p.tables e below (s₁.setTop (mkF m 11 #[.val (.long pJ), .second, .val (.long q), .second, .val (.long r), .second, .val (.long (pJ &&& (9007199254740991 : Int64))), .second, .unset, .unset, .unset, .unset, .unset] [(.int (lcmpW (pJ &&& (9007199254740991 : Int64)) (0 : Int64)))])) _
    refine XS.ifNo X0.here hx rfl (hb hby at_11) rfl ((if0 _ _).trans (teq hc11).2) ?_
    show Steps p.tables e below (s₁.setTop (mkF m 14 #[.val (.long pJ), .second, .val (.long q), .second, .val (.long r), .second, .val (.long (pJ &&& (9007199254740991 : Int64))), .second, .unset, .unset, .unset, .unset, .unset] [])) _
    refine XS.lconst X0.here hx rfl (hb hby at_14) ?_
    show Steps p.tables e below (s₁.setTop (mkF m 15 #[.val (.long pJ), .second, .val (.long q), .second, .val (.long r), .second, .val (.long (pJ &&& (9007199254740991 : Int64))), .second, .unset, .unset, .unset, .unset, .unset] [(.long (1 : Int64))])) _
    refine XS.lstore X0.here hx rfl (hb hby at_15) rfl (l' := #[.val (.long pJ), .second, .val (.long q), .second, .val (.long r), .second, .val (.long (1 : Int64)), .second, .unset, .unset, .unset, .unset, .unset]) rfl ?_
    show Steps p.tables e below (s₁.setTop (mkF m 17 #[.val (.long pJ), .second, .val (.long q), .second, .val (.long r), .second, .val (.long (1 : Int64)), .second, .unset, .unset, .unset, .unset, .unset] [])) _
    refine st1 _ ?_
    show Steps p.tables e below (T1.setTop (mkF m 20 #[.val (.long pJ), .second, .val (.long q), .second, .val (.long r), .second, .val (.long (1 : Int64)), .second, .unset, .unset, .unset, .unset, .unset] [(.ref b1)])) _
    refine XS.dup X1.here hx rfl (hb hby at_20) rfl rfl ?_
    show Steps p.tables e below (T1.setTop (mkF m 21 #[.val (.long pJ), .second, .val (.long q), .second, .val (.long r), .second, .val (.long (1 : Int64)), .second, .unset, .unset, .unset, .unset, .unset] [(.ref b1), (.ref b1)])) _
    refine XS.lload X1.here hx rfl (hb hby at_21) rfl ?_
    show Steps p.tables e below (T1.setTop (mkF m 23 #[.val (.long pJ), .second, .val (.long q), .second, .val (.long r), .second, .val (.long (1 : Int64)), .second, .unset, .unset, .unset, .unset, .unset] [(.long (1 : Int64)), (.ref b1), (.ref b1)])) _
    refine st2.trans ?_
    show Steps p.tables e below (T2.setTop (mkF m 26 #[.val (.long pJ), .second, .val (.long q), .second, .val (.long r), .second, .val (.long (1 : Int64)), .second, .unset, .unset, .unset, .unset, .unset] [(.ref b1)])) _
    refine XS.astore X2.here hx rfl (hb hby at_26) rfl rfl (l' := #[.val (.long pJ), .second, .val (.long q), .second, .val (.long r), .second, .val (.long (1 : Int64)), .second, .val (.ref b1), .unset, .unset, .unset, .unset]) rfl ?_
    show Steps p.tables e below (T2.setTop (mkF m 28 #[.val (.long pJ), .second, .val (.long q), .second, .val (.long r), .second, .val (.long (1 : Int64)), .second, .val (.ref b1), .unset, .unset, .unset, .unset] [])) _
    refine XS.aload X2.here hx rfl (hb hby at_28) rfl rfl ?_
    show Steps p.tables e below (T2.setTop (mkF m 30 #[.val (.long pJ), .second, .val (.long q), .second, .val (.long r), .second, .val (.long (1 : Int64)), .second, .val (.ref b1), .unset, .unset, .unset, .unset] [(.ref b1)])) _
    refine st3.trans ?_
    show Steps p.tables e below (T3.setTop (mkF m 33 #[.val (.long pJ), .second, .val (.long q), .second, .val (.long r), .second, .val (.long (1 : Int64)), .second, .val (.ref b1), .unset, .unset, .unset, .unset] [(.long (1 : Int64))])) _
    refine XS.lload X3.here hx rfl (hb hby at_33) rfl ?_
    show Steps p.tables e below (T3.setTop (mkF m 35 #[.val (.long pJ), .second, .val (.long q), .second, .val (.long r), .second, .val (.long (1 : Int64)), .second, .val (.ref b1), .unset, .unset, .unset, .unset] [(.long (1 : Int64)), (.long (1 : Int64))])) _
    refine XS.lcmp X3.here hx rfl (hb hby at_35) rfl ?_
    show Steps p.tables e below (T3.setTop (mkF m 36 #[.val (.long pJ), .second, .val (.long q), .second, .val (.long r), .second, .val (.long (1 : Int64)), .second, .val (.ref b1), .unset, .unset, .unset, .unset] [(.int (lcmpW (1 : Int64) (1 : Int64)))])) _
    refine XS.ifYes X3.here hx rfl (pc0 := 36) (pc' := 41) rfl (hb hby at_36) rfl ((if0 _ _).trans (teq ((lw_eq _ _).mpr rfl : (lcmpW (1 : Int64) (1 : Int64)) = (0 : Int32))).1) (by decide) (by decide) ?_
    show Steps p.tables e below (T3.setTop (mkF m 41 #[.val (.long pJ), .second, .val (.long q), .second, .val (.long r), .second, .val (.long (1 : Int64)), .second, .val (.ref b1), .unset, .unset, .unset, .unset] [])) _
    refine XS.aload X3.here hx rfl (hb hby at_41) rfl rfl ?_
    show Steps p.tables e below (T3.setTop (mkF m 43 #[.val (.long pJ), .second, .val (.long q), .second, .val (.long r), .second, .val (.long (1 : Int64)), .second, .val (.ref b1), .unset, .unset, .unset, .unset] [(.ref b1)])) _
    refine XS.lloadN X3.here hx rfl (hb hby at_43) rfl ?_
    show Steps p.tables e below (T3.setTop (mkF m 44 #[.val (.long pJ), .second, .val (.long q), .second, .val (.long r), .second, .val (.long (1 : Int64)), .second, .val (.ref b1), .unset, .unset, .unset, .unset] [(.long q), (.ref b1)])) _
    refine st4.trans ?_
    show Steps p.tables e below (T4.setTop (mkF m 47 #[.val (.long pJ), .second, .val (.long q), .second, .val (.long r), .second, .val (.long (1 : Int64)), .second, .val (.ref b1), .unset, .unset, .unset, .unset] [])) _
    refine XS.lload X4.here hx rfl (hb hby at_47) rfl ?_
    show Steps p.tables e below (T4.setTop (mkF m 49 #[.val (.long pJ), .second, .val (.long q), .second, .val (.long r), .second, .val (.long (1 : Int64)), .second, .val (.ref b1), .unset, .unset, .unset, .unset] [(.long (1 : Int64))])) _
    refine XS.lstore X4.here hx rfl (hb hby at_49) rfl (l' := #[.val (.long pJ), .second, .val (.long q), .second, .val (.long r), .second, .val (.long (1 : Int64)), .second, .val (.ref b1), .val (.long (1 : Int64)), .second, .unset, .unset]) rfl ?_
    show Steps p.tables e below (T4.setTop (mkF m 51 #[.val (.long pJ), .second, .val (.long q), .second, .val (.long r), .second, .val (.long (1 : Int64)), .second, .val (.ref b1), .val (.long (1 : Int64)), .second, .unset, .unset] [])) _
    refine XS.lloadN X4.here hx rfl (hb hby at_51) rfl ?_
    show Steps p.tables e below (T4.setTop (mkF m 52 #[.val (.long pJ), .second, .val (.long q), .second, .val (.long r), .second, .val (.long (1 : Int64)), .second, .val (.ref b1), .val (.long (1 : Int64)), .second, .unset, .unset] [(.long q)])) _
    refine XS.lload X4.here hx rfl (hb hby at_52) rfl ?_
    show Steps p.tables e below (T4.setTop (mkF m 54 #[.val (.long pJ), .second, .val (.long q), .second, .val (.long r), .second, .val (.long (1 : Int64)), .second, .val (.ref b1), .val (.long (1 : Int64)), .second, .unset, .unset] [(.long (1 : Int64)), (.long q)])) _
    refine XS.lcmp X4.here hx rfl (hb hby at_54) rfl ?_
    show Steps p.tables e below (T4.setTop (mkF m 55 #[.val (.long pJ), .second, .val (.long q), .second, .val (.long r), .second, .val (.long (1 : Int64)), .second, .val (.ref b1), .val (.long (1 : Int64)), .second, .unset, .unset] [(.int (lcmpW q (1 : Int64)))])) _
    refine XS.ifYes X4.here hx rfl (pc0 := 55) (pc' := 61) rfl (hb hby at_55) rfl ((if0 _ _).trans (flt hc55).2.2.2) (by decide) (by decide) ?_
    show Steps p.tables e below (T4.setTop (mkF m 61 #[.val (.long pJ), .second, .val (.long q), .second, .val (.long r), .second, .val (.long (1 : Int64)), .second, .val (.ref b1), .val (.long (1 : Int64)), .second, .unset, .unset] [])) _
    refine XS.aload X4.here hx rfl (hb hby at_61) rfl rfl ?_
    show Steps p.tables e below (T4.setTop (mkF m 63 #[.val (.long pJ), .second, .val (.long q), .second, .val (.long r), .second, .val (.long (1 : Int64)), .second, .val (.ref b1), .val (.long (1 : Int64)), .second, .unset, .unset] [(.ref b1)])) _
    refine st5.trans ?_
    show Steps p.tables e below (T5.setTop (mkF m 66 #[.val (.long pJ), .second, .val (.long q), .second, .val (.long r), .second, .val (.long (1 : Int64)), .second, .val (.ref b1), .val (.long (1 : Int64)), .second, .unset, .unset] [(.long (own_max (1 : Int64) q))])) _
    refine XS.lload X5.here hx rfl (hb hby at_66) rfl ?_
    show Steps p.tables e below (T5.setTop (mkF m 68 #[.val (.long pJ), .second, .val (.long q), .second, .val (.long r), .second, .val (.long (1 : Int64)), .second, .val (.ref b1), .val (.long (1 : Int64)), .second, .unset, .unset] [(.long (1 : Int64)), (.long (own_max (1 : Int64) q))])) _
    refine XS.lcmp X5.here hx rfl (hb hby at_68) rfl ?_
    show Steps p.tables e below (T5.setTop (mkF m 69 #[.val (.long pJ), .second, .val (.long q), .second, .val (.long r), .second, .val (.long (1 : Int64)), .second, .val (.ref b1), .val (.long (1 : Int64)), .second, .unset, .unset] [(.int (lcmpW (own_max (1 : Int64) q) (1 : Int64)))])) _
    refine XS.ifYes X5.here hx rfl (pc0 := 69) (pc' := 74) rfl (hb hby at_69) rfl ((if0 _ _).trans (teq ((lw_eq _ _).mpr (own_max_le hc55) : (lcmpW (own_max (1 : Int64) q) (1 : Int64)) = (0 : Int32))).1) (by decide) (by decide) ?_
    show Steps p.tables e below (T5.setTop (mkF m 74 #[.val (.long pJ), .second, .val (.long q), .second, .val (.long r), .second, .val (.long (1 : Int64)), .second, .val (.ref b1), .val (.long (1 : Int64)), .second, .unset, .unset] [])) _
    refine XS.aload X5.here hx rfl (hb hby at_74) rfl rfl ?_
    show Steps p.tables e below (T5.setTop (mkF m 76 #[.val (.long pJ), .second, .val (.long q), .second, .val (.long r), .second, .val (.long (1 : Int64)), .second, .val (.ref b1), .val (.long (1 : Int64)), .second, .unset, .unset] [(.ref b1)])) _
    refine XS.lload X5.here hx rfl (hb hby at_76) rfl ?_
    show Steps p.tables e below (T5.setTop (mkF m 78 #[.val (.long pJ), .second, .val (.long q), .second, .val (.long r), .second, .val (.long (1 : Int64)), .second, .val (.ref b1), .val (.long (1 : Int64)), .second, .unset, .unset] [(.long r), (.ref b1)])) _
    refine st6.trans ?_
    show Steps p.tables e below (T6.setTop (mkF m 81 #[.val (.long pJ), .second, .val (.long q), .second, .val (.long r), .second, .val (.long (1 : Int64)), .second, .val (.ref b1), .val (.long (1 : Int64)), .second, .unset, .unset] [])) _
    refine XS.lload X6.here hx rfl (hb hby at_81) rfl ?_
    show Steps p.tables e below (T6.setTop (mkF m 83 #[.val (.long pJ), .second, .val (.long q), .second, .val (.long r), .second, .val (.long (1 : Int64)), .second, .val (.ref b1), .val (.long (1 : Int64)), .second, .unset, .unset] [(.long (1 : Int64))])) _
    refine XS.lstore X6.here hx rfl (hb hby at_83) rfl (l' := #[.val (.long pJ), .second, .val (.long q), .second, .val (.long r), .second, .val (.long (1 : Int64)), .second, .val (.ref b1), .val (.long (1 : Int64)), .second, .val (.long (1 : Int64)), .second]) rfl ?_
    show Steps p.tables e below (T6.setTop (mkF m 85 #[.val (.long pJ), .second, .val (.long q), .second, .val (.long r), .second, .val (.long (1 : Int64)), .second, .val (.ref b1), .val (.long (1 : Int64)), .second, .val (.long (1 : Int64)), .second] [])) _
    refine XS.lload X6.here hx rfl (hb hby at_85) rfl ?_
    show Steps p.tables e below (T6.setTop (mkF m 87 #[.val (.long pJ), .second, .val (.long q), .second, .val (.long r), .second, .val (.long (1 : Int64)), .second, .val (.ref b1), .val (.long (1 : Int64)), .second, .val (.long (1 : Int64)), .second] [(.long r)])) _
    refine XS.lload X6.here hx rfl (hb hby at_87) rfl ?_
    show Steps p.tables e below (T6.setTop (mkF m 89 #[.val (.long pJ), .second, .val (.long q), .second, .val (.long r), .second, .val (.long (1 : Int64)), .second, .val (.ref b1), .val (.long (1 : Int64)), .second, .val (.long (1 : Int64)), .second] [(.long (1 : Int64)), (.long r)])) _
    refine XS.lcmp X6.here hx rfl (hb hby at_89) rfl ?_
    show Steps p.tables e below (T6.setTop (mkF m 90 #[.val (.long pJ), .second, .val (.long q), .second, .val (.long r), .second, .val (.long (1 : Int64)), .second, .val (.ref b1), .val (.long (1 : Int64)), .second, .val (.long (1 : Int64)), .second] [(.int (lcmpW r (1 : Int64)))])) _
    refine XS.ifYes X6.here hx rfl (pc0 := 90) (pc' := 97) rfl (hb hby at_90) rfl ((if0 _ _).trans (flt hc90).2.2.2) (by decide) (by decide) ?_
    show Steps p.tables e below (T6.setTop (mkF m 97 #[.val (.long pJ), .second, .val (.long q), .second, .val (.long r), .second, .val (.long (1 : Int64)), .second, .val (.ref b1), .val (.long (1 : Int64)), .second, .val (.long (1 : Int64)), .second] [])) _
    refine XS.aload X6.here hx rfl (hb hby at_97) rfl rfl ?_
    show Steps p.tables e below (T6.setTop (mkF m 99 #[.val (.long pJ), .second, .val (.long q), .second, .val (.long r), .second, .val (.long (1 : Int64)), .second, .val (.ref b1), .val (.long (1 : Int64)), .second, .val (.long (1 : Int64)), .second] [(.ref b1)])) _
    refine st7.trans ?_
    show Steps p.tables e below (T7.setTop (mkF m 102 #[.val (.long pJ), .second, .val (.long q), .second, .val (.long r), .second, .val (.long (1 : Int64)), .second, .val (.ref b1), .val (.long (1 : Int64)), .second, .val (.long (1 : Int64)), .second] [(.long (own_max (own_max (1 : Int64) q) r))])) _
    refine XS.lload X7.here hx rfl (hb hby at_102) rfl ?_
    show Steps p.tables e below (T7.setTop (mkF m 104 #[.val (.long pJ), .second, .val (.long q), .second, .val (.long r), .second, .val (.long (1 : Int64)), .second, .val (.ref b1), .val (.long (1 : Int64)), .second, .val (.long (1 : Int64)), .second] [(.long (1 : Int64)), (.long (own_max (own_max (1 : Int64) q) r))])) _
    refine XS.lcmp X7.here hx rfl (hb hby at_104) rfl ?_
    show Steps p.tables e below (T7.setTop (mkF m 105 #[.val (.long pJ), .second, .val (.long q), .second, .val (.long r), .second, .val (.long (1 : Int64)), .second, .val (.ref b1), .val (.long (1 : Int64)), .second, .val (.long (1 : Int64)), .second] [(.int (lcmpW (own_max (own_max (1 : Int64) q) r) (1 : Int64)))])) _
    refine XS.ifNo X7.here hx rfl (hb hby at_105) rfl ((if0 _ _).trans (teq ((lw_eq _ _).mpr (by rw [own_max_le hc55]; exact own_max_le hc90) : (lcmpW (own_max (own_max (1 : Int64) q) r) (1 : Int64)) = (0 : Int32))).2) ?_
    show Steps p.tables e below (T7.setTop (mkF m 108 #[.val (.long pJ), .second, .val (.long q), .second, .val (.long r), .second, .val (.long (1 : Int64)), .second, .val (.ref b1), .val (.long (1 : Int64)), .second, .val (.long (1 : Int64)), .second] [])) _
    refine XS.iconst X7.here hx rfl (hb hby at_108) ?_
    show Steps p.tables e below (T7.setTop (mkF m 109 #[.val (.long pJ), .second, .val (.long q), .second, .val (.long r), .second, .val (.long (1 : Int64)), .second, .val (.ref b1), .val (.long (1 : Int64)), .second, .val (.long (1 : Int64)), .second] [(.int (1 : Int32))])) _
    refine XS.goto X7.here hx rfl (pc0 := 109) (pc' := 113) rfl (hb hby at_109) (by decide) (by decide) ?_
    show Steps p.tables e below (T7.setTop (mkF m 113 #[.val (.long pJ), .second, .val (.long q), .second, .val (.long r), .second, .val (.long (1 : Int64)), .second, .val (.ref b1), .val (.long (1 : Int64)), .second, .val (.long (1 : Int64)), .second] [(.int (1 : Int32))])) _
    exact retN X7 hx (t := .boolean) Bd.returns (by simp) (hb hby at_113) hr
  · show Qd10 Z pJ q r h0 n0 _ T7.heap _
    rw [e7]
    exact ⟨rfl, N7⟩
set_option maxRecDepth 65536 in
set_option maxHeartbeats 40000000 in
theorem rm0tff (l : Launch) (Z : State) (a0 : Array Value) (hw : ∀ d ∈ tables_1, d.before a0 Z = true) (ws : List Jvm.Cond) (pJ q r : Int64) (h0 : Heap) (n0 : Nat) (O0 : Old Z n0 h0) (hc11 : ¬ ((lcmpW (pJ &&& (9007199254740991 : Int64)) (0 : Int64)) = (0 : Int32))) (hc55 : (0 : Int32) < (lcmpW q (pJ &&& (9007199254740991 : Int64)))) (hc90 : (0 : Int32) < (lcmpW r q)) :
    MetFree l x (head1 (Jvm.Cond.code x code maxLocals ret :: ws) room_1) (fun qq U => qq = #[(.long pJ), (.long q), (.long r)] ∧ Z.Warmed39 U.vm ∧ U.heap = h0) (fun _ _ _ _ _ => True) (fun _ UU oo UU' => ∃ vv LL, oo = .returned vv ∧ Qd10 Z pJ q r h0 n0 vv UU'.heap LL ∧ FrameEnd UU oo UU' LL room_1.cells room_1.slots) := by
  refine MetFree.of_bodySF (plainFor_of_name pn_0) hisR ?_
  intro p e s m args below meth c s₁ Bd hml0 hP hK
  obtain ⟨rfl, hZ, hh⟩ := hP
  have hx := Bd.exec
  have hby := Bd.bytes
  have hml : c.maxLocals = 13 := hml0
  have hown : s.vm.findClass "com/example/riverside/riverside/ArbiterAdvanceFencesPinLaw" = some m.cls := findClass_of_methodNamed Bd.named
  have hnm := (name_of_methodNamed Bd.named Bd.method).1
  have X0 : Stand p l e room_1 s m #[(.long pJ), (.long q), (.long r)] below meth c s₁ [] 0 0 := Stand.of_body Bd
  have e0 : s₁.heap = h0 := by rw [← hh, Bd.state]; rfl
  have N0 := Fr.nil n0
  have pre0 : ∀ t, Steps p.tables e below (s₁.setTop (mkF m 0 #[.val (.long pJ), .second, .val (.long q), .second, .val (.long r), .second, .unset, .unset, .unset, .unset, .unset, .unset, .unset] [])) t → Steps p.tables e below (s₁.setTop (entryFrame m #[(.long pJ), (.long q), (.long r)] maxLocals)) t := fun t k => castTop (ef_0 m pJ q r) k
  obtain ⟨T1, h1, X1, e1, E1, A1, D1, -, st1⟩ := newO X0 hx hZ hown (hw _ (List.mem_of_getElem? (i := 1) rfl)) (hw _ (List.mem_of_getElem? (i := 2) rfl)) (hw _ (List.mem_of_getElem? (i := 3) rfl)) e0 (g := (mkF m 17 #[.val (.long pJ), .second, .val (.long q), .second, .val (.long r), .second, .val (.long (pJ &&& (9007199254740991 : Int64))), .second, .unset, .unset, .unset, .unset, .unset] [])) rfl (hb hby at_17) (by decide) (by decide)
  obtain ⟨b1, q1⟩ : ∃ z, z = h0.size := ⟨_, rfl⟩
  rw [← q1] at A1 D1 st1
  have g_b1 : n0 ≤ b1 := by rw [q1]; exact (O0).1 ▸ (O0).2.1
  have O1 := Old.ext O0 E1
  have F1_keys : Fld Z h1 b1 "com/example/riverside/riverside/Arbiter" "keys" "Ljava/util/Map;" .null := D1 (Or.inr (hw _ (List.mem_of_getElem? (i := 27) rfl))) (ty := (.object "java/util/Map")) (by decide)
  have F1_openKeys : Fld Z h1 b1 "com/example/riverside/riverside/Arbiter" "openKeys" "Ljava/util/Map;" .null := D1 (Or.inr (hw _ (List.mem_of_getElem? (i := 29) rfl))) (ty := (.object "java/util/Map")) (by decide)
  have F1_blocked : Fld Z h1 b1 "com/example/riverside/riverside/Arbiter" "blocked" "Ljava/util/Set;" .null := D1 (Or.inr (hw _ (List.mem_of_getElem? (i := 92) rfl))) (ty := (.object "java/util/Set")) (by decide)
  have F1_fenceLimit : Fld Z h1 b1 "com/example/riverside/riverside/Arbiter" "fenceLimit" "Ljava/util/function/LongSupplier;" .null := D1 (Or.inl (hw _ (List.mem_of_getElem? (i := 97) rfl))) (ty := (.object "java/util/function/LongSupplier")) (by decide)
  have F1_nextFence : Fld Z h1 b1 "com/example/riverside/riverside/Arbiter" "nextFence" "J" (.long (0 : Int64)) := D1 (Or.inl (hw _ (List.mem_of_getElem? (i := 100) rfl))) (ty := .long) (by decide)
  obtain ⟨_, _, ⟨T2, L2, k2, n2⟩, -, X2, ⟨Lc2, hQ2, l2, y2, z2⟩, st2⟩ := X1.specialBack hx (y := (⟨"com/example/riverside/riverside/Arbiter", "<init>", "(J)V"⟩ : MethodName)) rfl hown (mvT hZ (hw _ (List.mem_of_getElem? (i := 4) rfl))) (mvT hZ (hw _ (List.mem_of_getElem? (i := 5) rfl))) (mvT hZ (hw _ (List.mem_of_getElem? (i := 6) rfl))) (by decide) (backOf (W := 1) (rmAR l Z a0 hw [] b1 (pJ &&& (9007199254740991 : Int64)) h1 n0 O1 g_b1 A1 F1_keys F1_openKeys F1_blocked F1_fenceLimit F1_nextFence (own_f hc11).1 (own_f hc11).2) hZ (hw _ (List.mem_of_getElem? (i := 6) rfl)) (hw _ (List.mem_of_getElem? (i := 3) rfl)) (by decide) (by decide)) (g := (mkF m 23 #[.val (.long pJ), .second, .val (.long q), .second, .val (.long r), .second, .val (.long (pJ &&& (9007199254740991 : Int64))), .second, .unset, .unset, .unset, .unset, .unset] [(.long (pJ &&& (9007199254740991 : Int64))), (.ref b1), (.ref b1)])) rfl (by rw [hml]; rfl) (Steps.refl _) (a := b1) (argsL := [(.long (pJ &&& (9007199254740991 : Int64)))]) (rest := [(.ref b1)]) (lenOf own_pd6 rfl) rfl (by show 2 * 0 + _ ≤ _; exact Nat.le_of_eq rfl) (hb hby at_23) (fun _ _ => ⟨rfl, e1, (by decide : 1 + 4 ≤ _), (by decide : 5 + 29 ≤ _)⟩)
  dsimp only [Pt.U, Pt.locs, Pt.cells, Pt.slots] at X2 l2 y2 z2 st2 hQ2
  subst l2 y2 z2
  obtain ⟨rfl, N2q, KK2, f2_0⟩ := hQ2
  have N2 := Fr.app N0 N2q
  have O2 := Old.keep O1 KK2 (allS g_b1 all0)
  obtain ⟨cq3, kq3, q3a, q3b, q3c⟩ := isOf hZ rfl (A1.keep KK2)
  obtain ⟨_, _, ⟨T3, L3, k3, n3⟩, -, X3, ⟨Lc3, hQ3, l3, y3, z3⟩, st3⟩ := X2.virtualBack hx (y := (⟨"com/example/riverside/riverside/Arbiter", "nextFence", "()J"⟩ : MethodName)) (z := (⟨"com/example/riverside/riverside/Arbiter", "nextFence", "()J"⟩ : MethodName)) hown (mvT hZ (hw _ (List.mem_of_getElem? (i := 101) rfl))) (mvT hZ (hw _ (List.mem_of_getElem? (i := 102) rfl))) (notFace_of_selects (args := #[]) (mvT hZ (hw _ (List.mem_of_getElem? (i := 104) rfl)))) (mvT hZ (hw _ (List.mem_of_getElem? (i := 104) rfl))) (mvT hZ (hw _ (List.mem_of_getElem? (i := 103) rfl))) (by decide) (backOf (W := 0) (rmNF l Z a0 hw [] b1 (pJ &&& (9007199254740991 : Int64)) T2.heap n0 f2_0) hZ (hw _ (List.mem_of_getElem? (i := 105) rfl)) (hw _ (List.mem_of_getElem? (i := 3) rfl)) (by decide) (by decide)) q3a q3c (g := (mkF m 30 #[.val (.long pJ), .second, .val (.long q), .second, .val (.long r), .second, .val (.long (pJ &&& (9007199254740991 : Int64))), .second, .val (.ref b1), .unset, .unset, .unset, .unset] [(.ref b1)])) rfl (by rw [hml]; rfl) (Steps.refl _) (argsL := []) (rest := []) (lenOf own_pd7 rfl) rfl (by show 2 * 0 + _ ≤ _; exact Nat.le_of_eq rfl) (hb hby at_30) (fun _ _ => ⟨rfl, rfl, (by decide : 5 + 0 ≤ _), (by decide : 34 + 0 ≤ _)⟩)
  dsimp only [Pt.U, Pt.locs, Pt.cells, Pt.slots] at X3 l3 y3 z3 st3 hQ3
  subst l3 y3 z3
  obtain ⟨rfl, N3q, e3⟩ := hQ3
  have N3 := Fr.app N2 N3q
  obtain ⟨cq4, kq4, q4a, q4b, q4c⟩ := isOf hZ e3 (A1.keep KK2)
  obtain ⟨_, _, ⟨T4, L4, k4, n4⟩, -, X4, ⟨Lc4, hQ4, l4, y4, z4⟩, st4⟩ := X3.virtualBack hx (y := (⟨"com/example/riverside/riverside/Arbiter", "advanceFences", "(J)V"⟩ : MethodName)) (z := (⟨"com/example/riverside/riverside/Arbiter", "advanceFences", "(J)V"⟩ : MethodName)) hown (mvT hZ (hw _ (List.mem_of_getElem? (i := 106) rfl))) (mvT hZ (hw _ (List.mem_of_getElem? (i := 107) rfl))) (notFace_of_selects (args := #[]) (mvT hZ (hw _ (List.mem_of_getElem? (i := 109) rfl)))) (mvT hZ (hw _ (List.mem_of_getElem? (i := 109) rfl))) (mvT hZ (hw _ (List.mem_of_getElem? (i := 108) rfl))) (by decide) (backOf (W := 0) (rmAV l Z a0 hw [] b1 q (pJ &&& (9007199254740991 : Int64)) T2.heap n0 O2 g_b1 (A1.keep KK2) f2_0) hZ (hw _ (List.mem_of_getElem? (i := 110) rfl)) (hw _ (List.mem_of_getElem? (i := 3) rfl)) (by decide) (by decide)) q4a q4c (g := (mkF m 44 #[.val (.long pJ), .second, .val (.long q), .second, .val (.long r), .second, .val (.long (pJ &&& (9007199254740991 : Int64))), .second, .val (.ref b1), .unset, .unset, .unset, .unset] [(.long q), (.ref b1)])) rfl (by rw [hml]; rfl) (Steps.refl _) (argsL := [(.long q)]) (rest := []) (lenOf own_pd6 rfl) rfl (by show 2 * 0 + _ ≤ _; exact Nat.le_of_eq rfl) (hb hby at_44) (fun _ _ => ⟨rfl, e3, (by decide : 5 + 0 ≤ _), (by decide : 34 + 0 ≤ _)⟩)
  dsimp only [Pt.U, Pt.locs, Pt.cells, Pt.slots] at X4 l4 y4 z4 st4 hQ4
  subst l4 y4 z4
  obtain ⟨rfl, N4q, KK4, f4_0⟩ := hQ4
  have N4 := Fr.app N3 N4q
  have O4 := Old.keep O2 KK4 (allS g_b1 all0)
  obtain ⟨cq5, kq5, q5a, q5b, q5c⟩ := isOf hZ rfl ((A1.keep KK2).keep KK4)
  obtain ⟨_, _, ⟨T5, L5, k5, n5⟩, -, X5, ⟨Lc5, hQ5, l5, y5, z5⟩, st5⟩ := X4.virtualBack hx (y := (⟨"com/example/riverside/riverside/Arbiter", "nextFence", "()J"⟩ : MethodName)) (z := (⟨"com/example/riverside/riverside/Arbiter", "nextFence", "()J"⟩ : MethodName)) hown (mvT hZ (hw _ (List.mem_of_getElem? (i := 101) rfl))) (mvT hZ (hw _ (List.mem_of_getElem? (i := 102) rfl))) (notFace_of_selects (args := #[]) (mvT hZ (hw _ (List.mem_of_getElem? (i := 104) rfl)))) (mvT hZ (hw _ (List.mem_of_getElem? (i := 104) rfl))) (mvT hZ (hw _ (List.mem_of_getElem? (i := 103) rfl))) (by decide) (backOf (W := 0) (rmNF l Z a0 hw [] b1 (own_max (pJ &&& (9007199254740991 : Int64)) q) T4.heap n0 f4_0) hZ (hw _ (List.mem_of_getElem? (i := 105) rfl)) (hw _ (List.mem_of_getElem? (i := 3) rfl)) (by decide) (by decide)) q5a q5c (g := (mkF m 63 #[.val (.long pJ), .second, .val (.long q), .second, .val (.long r), .second, .val (.long (pJ &&& (9007199254740991 : Int64))), .second, .val (.ref b1), .val (.long q), .second, .unset, .unset] [(.ref b1)])) rfl (by rw [hml]; rfl) (Steps.refl _) (argsL := []) (rest := []) (lenOf own_pd7 rfl) rfl (by show 2 * 0 + _ ≤ _; exact Nat.le_of_eq rfl) (hb hby at_63) (fun _ _ => ⟨rfl, rfl, (by decide : 5 + 0 ≤ _), (by decide : 34 + 0 ≤ _)⟩)
  dsimp only [Pt.U, Pt.locs, Pt.cells, Pt.slots] at X5 l5 y5 z5 st5 hQ5
  subst l5 y5 z5
  obtain ⟨rfl, N5q, e5⟩ := hQ5
  have N5 := Fr.app N4 N5q
  obtain ⟨cq6, kq6, q6a, q6b, q6c⟩ := isOf hZ e5 ((A1.keep KK2).keep KK4)
  obtain ⟨_, _, ⟨T6, L6, k6, n6⟩, -, X6, ⟨Lc6, hQ6, l6, y6, z6⟩, st6⟩ := X5.virtualBack hx (y := (⟨"com/example/riverside/riverside/Arbiter", "advanceFences", "(J)V"⟩ : MethodName)) (z := (⟨"com/example/riverside/riverside/Arbiter", "advanceFences", "(J)V"⟩ : MethodName)) hown (mvT hZ (hw _ (List.mem_of_getElem? (i := 106) rfl))) (mvT hZ (hw _ (List.mem_of_getElem? (i := 107) rfl))) (notFace_of_selects (args := #[]) (mvT hZ (hw _ (List.mem_of_getElem? (i := 109) rfl)))) (mvT hZ (hw _ (List.mem_of_getElem? (i := 109) rfl))) (mvT hZ (hw _ (List.mem_of_getElem? (i := 108) rfl))) (by decide) (backOf (W := 0) (rmAV l Z a0 hw [] b1 r (own_max (pJ &&& (9007199254740991 : Int64)) q) T4.heap n0 O4 g_b1 ((A1.keep KK2).keep KK4) f4_0) hZ (hw _ (List.mem_of_getElem? (i := 110) rfl)) (hw _ (List.mem_of_getElem? (i := 3) rfl)) (by decide) (by decide)) q6a q6c (g := (mkF m 78 #[.val (.long pJ), .second, .val (.long q), .second, .val (.long r), .second, .val (.long (pJ &&& (9007199254740991 : Int64))), .second, .val (.ref b1), .val (.long q), .second, .unset, .unset] [(.long r), (.ref b1)])) rfl (by rw [hml]; rfl) (Steps.refl _) (argsL := [(.long r)]) (rest := []) (lenOf own_pd6 rfl) rfl (by show 2 * 0 + _ ≤ _; exact Nat.le_of_eq rfl) (hb hby at_78) (fun _ _ => ⟨rfl, e5, (by decide : 5 + 0 ≤ _), (by decide : 34 + 0 ≤ _)⟩)
  dsimp only [Pt.U, Pt.locs, Pt.cells, Pt.slots] at X6 l6 y6 z6 st6 hQ6
  subst l6 y6 z6
  obtain ⟨rfl, N6q, KK6, f6_0⟩ := hQ6
  have N6 := Fr.app N5 N6q
  have O6 := Old.keep O4 KK6 (allS g_b1 all0)
  obtain ⟨cq7, kq7, q7a, q7b, q7c⟩ := isOf hZ rfl (((A1.keep KK2).keep KK4).keep KK6)
  obtain ⟨_, _, ⟨T7, L7, k7, n7⟩, -, X7, ⟨Lc7, hQ7, l7, y7, z7⟩, st7⟩ := X6.virtualBack hx (y := (⟨"com/example/riverside/riverside/Arbiter", "nextFence", "()J"⟩ : MethodName)) (z := (⟨"com/example/riverside/riverside/Arbiter", "nextFence", "()J"⟩ : MethodName)) hown (mvT hZ (hw _ (List.mem_of_getElem? (i := 101) rfl))) (mvT hZ (hw _ (List.mem_of_getElem? (i := 102) rfl))) (notFace_of_selects (args := #[]) (mvT hZ (hw _ (List.mem_of_getElem? (i := 104) rfl)))) (mvT hZ (hw _ (List.mem_of_getElem? (i := 104) rfl))) (mvT hZ (hw _ (List.mem_of_getElem? (i := 103) rfl))) (by decide) (backOf (W := 0) (rmNF l Z a0 hw [] b1 (own_max (own_max (pJ &&& (9007199254740991 : Int64)) q) r) T6.heap n0 f6_0) hZ (hw _ (List.mem_of_getElem? (i := 105) rfl)) (hw _ (List.mem_of_getElem? (i := 3) rfl)) (by decide) (by decide)) q7a q7c (g := (mkF m 99 #[.val (.long pJ), .second, .val (.long q), .second, .val (.long r), .second, .val (.long (pJ &&& (9007199254740991 : Int64))), .second, .val (.ref b1), .val (.long q), .second, .val (.long r), .second] [(.ref b1)])) rfl (by rw [hml]; rfl) (Steps.refl _) (argsL := []) (rest := []) (lenOf own_pd7 rfl) rfl (by show 2 * 0 + _ ≤ _; exact Nat.le_of_eq rfl) (hb hby at_99) (fun _ _ => ⟨rfl, rfl, (by decide : 5 + 0 ≤ _), (by decide : 34 + 0 ≤ _)⟩)
  dsimp only [Pt.U, Pt.locs, Pt.cells, Pt.slots] at X7 l7 y7 z7 st7 hQ7
  subst l7 y7 z7
  obtain ⟨rfl, N7q, e7⟩ := hQ7
  have N7 := Fr.app N6 N7q
  obtain ⟨fs, hr, hrun, hended, hW, hsame⟩ := X7.leave (v := some (.int (1 : Int32))) (fun h => by rw [Bd.returns] at h; cases h)
  refine ⟨_, _, pre0 _ ?_, hrun, hended, _, _, rfl, ?_, ⟨_, rfl⟩, hW, hsame.mono (by decide) (by decide)⟩
  · show Steps p.tables e below (s₁.setTop (mkF m 0 #[.val (.long pJ), .second, .val (.long q), .second, .val (.long r), .second, .unset, .unset, .unset, .unset, .unset, .unset, .unset] [])) _
    refine XS.lloadN X0.here hx rfl (hb hby at_0) rfl ?_
    show Steps p.tables e below (s₁.setTop (mkF m 1 #[.val (.long pJ), .second, .val (.long q), .second, .val (.long r), .second, .unset, .unset, .unset, .unset, .unset, .unset, .unset] [(.long pJ)])) _
    refine X0.ldc2Long hx hown (mvT hZ (hw _ (List.mem_of_getElem? (i := 0) rfl))) (g := (mkF m 1 #[.val (.long pJ), .second, .val (.long q), .second, .val (.long r), .second, .unset, .unset, .unset, .unset, .unset, .unset, .unset] [(.long pJ)])) rfl (hb hby at_1) _ ?_
    show Steps p.tables e below (s₁.setTop (mkF m 4 #[.val (.long pJ), .second, .val (.long q), .second, .val (.long r), .second, .unset, .unset, .unset, .unset, .unset, .unset, .unset] [(.long (9007199254740991 : Int64)), (.long pJ)])) _
    refine XS.land X0.here hx rfl (hb hby at_4) rfl ?_
    show Steps p.tables e below (s₁.setTop (mkF m 5 #[.val (.long pJ), .second, .val (.long q), .second, .val (.long r), .second, .unset, .unset, .unset, .unset, .unset, .unset, .unset] [(.long (pJ &&& (9007199254740991 : Int64)))])) _
    refine XS.lstore X0.here hx rfl (hb hby at_5) rfl (l' := #[.val (.long pJ), .second, .val (.long q), .second, .val (.long r), .second, .val (.long (pJ &&& (9007199254740991 : Int64))), .second, .unset, .unset, .unset, .unset, .unset]) rfl ?_
    show Steps p.tables e below (s₁.setTop (mkF m 7 #[.val (.long pJ), .second, .val (.long q), .second, .val (.long r), .second, .val (.long (pJ &&& (9007199254740991 : Int64))), .second, .unset, .unset, .unset, .unset, .unset] [])) _
    refine XS.lload X0.here hx rfl (hb hby at_7) rfl ?_
    show Steps p.tables e below (s₁.setTop (mkF m 9 #[.val (.long pJ), .second, .val (.long q), .second, .val (.long r), .second, .val (.long (pJ &&& (9007199254740991 : Int64))), .second, .unset, .unset, .unset, .unset, .unset] [(.long (pJ &&& (9007199254740991 : Int64)))])) _
    refine XS.lconst X0.here hx rfl (hb hby at_9) ?_
    show Steps p.tables e below (s₁.setTop (mkF m 10 #[.val (.long pJ), .second, .val (.long q), .second, .val (.long r), .second, .val (.long (pJ &&& (9007199254740991 : Int64))), .second, .unset, .unset, .unset, .unset, .unset] [(.long (0 : Int64)), (.long (pJ &&& (9007199254740991 : Int64)))])) _
    refine XS.lcmp X0.here hx rfl (hb hby at_10) rfl ?_
    show Steps p.tables e below (s₁.setTop (mkF m 11 #[.val (.long pJ), .second, .val (.long q), .second, .val (.long r), .second, .val (.long (pJ &&& (9007199254740991 : Int64))), .second, .unset, .unset, .unset, .unset, .unset] [(.int (lcmpW (pJ &&& (9007199254740991 : Int64)) (0 : Int64)))])) _
    refine XS.ifYes X0.here hx rfl (pc0 := 11) (pc' := 17) rfl (hb hby at_11) rfl ((if0 _ _).trans (feq hc11).2) (by decide) (by decide) ?_
    show Steps p.tables e below (s₁.setTop (mkF m 17 #[.val (.long pJ), .second, .val (.long q), .second, .val (.long r), .second, .val (.long (pJ &&& (9007199254740991 : Int64))), .second, .unset, .unset, .unset, .unset, .unset] [])) _
    refine st1 _ ?_
    show Steps p.tables e below (T1.setTop (mkF m 20 #[.val (.long pJ), .second, .val (.long q), .second, .val (.long r), .second, .val (.long (pJ &&& (9007199254740991 : Int64))), .second, .unset, .unset, .unset, .unset, .unset] [(.ref b1)])) _
    refine XS.dup X1.here hx rfl (hb hby at_20) rfl rfl ?_
    show Steps p.tables e below (T1.setTop (mkF m 21 #[.val (.long pJ), .second, .val (.long q), .second, .val (.long r), .second, .val (.long (pJ &&& (9007199254740991 : Int64))), .second, .unset, .unset, .unset, .unset, .unset] [(.ref b1), (.ref b1)])) _
    refine XS.lload X1.here hx rfl (hb hby at_21) rfl ?_
    show Steps p.tables e below (T1.setTop (mkF m 23 #[.val (.long pJ), .second, .val (.long q), .second, .val (.long r), .second, .val (.long (pJ &&& (9007199254740991 : Int64))), .second, .unset, .unset, .unset, .unset, .unset] [(.long (pJ &&& (9007199254740991 : Int64))), (.ref b1), (.ref b1)])) _
    refine st2.trans ?_
    show Steps p.tables e below (T2.setTop (mkF m 26 #[.val (.long pJ), .second, .val (.long q), .second, .val (.long r), .second, .val (.long (pJ &&& (9007199254740991 : Int64))), .second, .unset, .unset, .unset, .unset, .unset] [(.ref b1)])) _
    refine XS.astore X2.here hx rfl (hb hby at_26) rfl rfl (l' := #[.val (.long pJ), .second, .val (.long q), .second, .val (.long r), .second, .val (.long (pJ &&& (9007199254740991 : Int64))), .second, .val (.ref b1), .unset, .unset, .unset, .unset]) rfl ?_
    show Steps p.tables e below (T2.setTop (mkF m 28 #[.val (.long pJ), .second, .val (.long q), .second, .val (.long r), .second, .val (.long (pJ &&& (9007199254740991 : Int64))), .second, .val (.ref b1), .unset, .unset, .unset, .unset] [])) _
    refine XS.aload X2.here hx rfl (hb hby at_28) rfl rfl ?_
    show Steps p.tables e below (T2.setTop (mkF m 30 #[.val (.long pJ), .second, .val (.long q), .second, .val (.long r), .second, .val (.long (pJ &&& (9007199254740991 : Int64))), .second, .val (.ref b1), .unset, .unset, .unset, .unset] [(.ref b1)])) _
    refine st3.trans ?_
    show Steps p.tables e below (T3.setTop (mkF m 33 #[.val (.long pJ), .second, .val (.long q), .second, .val (.long r), .second, .val (.long (pJ &&& (9007199254740991 : Int64))), .second, .val (.ref b1), .unset, .unset, .unset, .unset] [(.long (pJ &&& (9007199254740991 : Int64)))])) _
    refine XS.lload X3.here hx rfl (hb hby at_33) rfl ?_
    show Steps p.tables e below (T3.setTop (mkF m 35 #[.val (.long pJ), .second, .val (.long q), .second, .val (.long r), .second, .val (.long (pJ &&& (9007199254740991 : Int64))), .second, .val (.ref b1), .unset, .unset, .unset, .unset] [(.long (pJ &&& (9007199254740991 : Int64))), (.long (pJ &&& (9007199254740991 : Int64)))])) _
    refine XS.lcmp X3.here hx rfl (hb hby at_35) rfl ?_
    show Steps p.tables e below (T3.setTop (mkF m 36 #[.val (.long pJ), .second, .val (.long q), .second, .val (.long r), .second, .val (.long (pJ &&& (9007199254740991 : Int64))), .second, .val (.ref b1), .unset, .unset, .unset, .unset] [(.int (lcmpW (pJ &&& (9007199254740991 : Int64)) (pJ &&& (9007199254740991 : Int64))))])) _
    refine XS.ifYes X3.here hx rfl (pc0 := 36) (pc' := 41) rfl (hb hby at_36) rfl ((if0 _ _).trans (teq ((lw_eq _ _).mpr rfl : (lcmpW (pJ &&& (9007199254740991 : Int64)) (pJ &&& (9007199254740991 : Int64))) = (0 : Int32))).1) (by decide) (by decide) ?_
    show Steps p.tables e below (T3.setTop (mkF m 41 #[.val (.long pJ), .second, .val (.long q), .second, .val (.long r), .second, .val (.long (pJ &&& (9007199254740991 : Int64))), .second, .val (.ref b1), .unset, .unset, .unset, .unset] [])) _
    refine XS.aload X3.here hx rfl (hb hby at_41) rfl rfl ?_
    show Steps p.tables e below (T3.setTop (mkF m 43 #[.val (.long pJ), .second, .val (.long q), .second, .val (.long r), .second, .val (.long (pJ &&& (9007199254740991 : Int64))), .second, .val (.ref b1), .unset, .unset, .unset, .unset] [(.ref b1)])) _
    refine XS.lloadN X3.here hx rfl (hb hby at_43) rfl ?_
    show Steps p.tables e below (T3.setTop (mkF m 44 #[.val (.long pJ), .second, .val (.long q), .second, .val (.long r), .second, .val (.long (pJ &&& (9007199254740991 : Int64))), .second, .val (.ref b1), .unset, .unset, .unset, .unset] [(.long q), (.ref b1)])) _
    refine st4.trans ?_
    show Steps p.tables e below (T4.setTop (mkF m 47 #[.val (.long pJ), .second, .val (.long q), .second, .val (.long r), .second, .val (.long (pJ &&& (9007199254740991 : Int64))), .second, .val (.ref b1), .unset, .unset, .unset, .unset] [])) _
    refine XS.lload X4.here hx rfl (hb hby at_47) rfl ?_
    show Steps p.tables e below (T4.setTop (mkF m 49 #[.val (.long pJ), .second, .val (.long q), .second, .val (.long r), .second, .val (.long (pJ &&& (9007199254740991 : Int64))), .second, .val (.ref b1), .unset, .unset, .unset, .unset] [(.long (pJ &&& (9007199254740991 : Int64)))])) _
    refine XS.lstore X4.here hx rfl (hb hby at_49) rfl (l' := #[.val (.long pJ), .second, .val (.long q), .second, .val (.long r), .second, .val (.long (pJ &&& (9007199254740991 : Int64))), .second, .val (.ref b1), .val (.long (pJ &&& (9007199254740991 : Int64))), .second, .unset, .unset]) rfl ?_
    show Steps p.tables e below (T4.setTop (mkF m 51 #[.val (.long pJ), .second, .val (.long q), .second, .val (.long r), .second, .val (.long (pJ &&& (9007199254740991 : Int64))), .second, .val (.ref b1), .val (.long (pJ &&& (9007199254740991 : Int64))), .second, .unset, .unset] [])) _
    refine XS.lloadN X4.here hx rfl (hb hby at_51) rfl ?_
    show Steps p.tables e below (T4.setTop (mkF m 52 #[.val (.long pJ), .second, .val (.long q), .second, .val (.long r), .second, .val (.long (pJ &&& (9007199254740991 : Int64))), .second, .val (.ref b1), .val (.long (pJ &&& (9007199254740991 : Int64))), .second, .unset, .unset] [(.long q)])) _
    refine XS.lload X4.here hx rfl (hb hby at_52) rfl ?_
    show Steps p.tables e below (T4.setTop (mkF m 54 #[.val (.long pJ), .second, .val (.long q), .second, .val (.long r), .second, .val (.long (pJ &&& (9007199254740991 : Int64))), .second, .val (.ref b1), .val (.long (pJ &&& (9007199254740991 : Int64))), .second, .unset, .unset] [(.long (pJ &&& (9007199254740991 : Int64))), (.long q)])) _
    refine XS.lcmp X4.here hx rfl (hb hby at_54) rfl ?_
    show Steps p.tables e below (T4.setTop (mkF m 55 #[.val (.long pJ), .second, .val (.long q), .second, .val (.long r), .second, .val (.long (pJ &&& (9007199254740991 : Int64))), .second, .val (.ref b1), .val (.long (pJ &&& (9007199254740991 : Int64))), .second, .unset, .unset] [(.int (lcmpW q (pJ &&& (9007199254740991 : Int64))))])) _
    refine XS.ifNo X4.here hx rfl (hb hby at_55) rfl ((if0 _ _).trans (tlt hc55).2.2.2) ?_
    show Steps p.tables e below (T4.setTop (mkF m 58 #[.val (.long pJ), .second, .val (.long q), .second, .val (.long r), .second, .val (.long (pJ &&& (9007199254740991 : Int64))), .second, .val (.ref b1), .val (.long (pJ &&& (9007199254740991 : Int64))), .second, .unset, .unset] [])) _
    refine XS.lloadN X4.here hx rfl (hb hby at_58) rfl ?_
    show Steps p.tables e below (T4.setTop (mkF m 59 #[.val (.long pJ), .second, .val (.long q), .second, .val (.long r), .second, .val (.long (pJ &&& (9007199254740991 : Int64))), .second, .val (.ref b1), .val (.long (pJ &&& (9007199254740991 : Int64))), .second, .unset, .unset] [(.long q)])) _
    refine XS.lstore X4.here hx rfl (hb hby at_59) rfl (l' := #[.val (.long pJ), .second, .val (.long q), .second, .val (.long r), .second, .val (.long (pJ &&& (9007199254740991 : Int64))), .second, .val (.ref b1), .val (.long q), .second, .unset, .unset]) rfl ?_
    show Steps p.tables e below (T4.setTop (mkF m 61 #[.val (.long pJ), .second, .val (.long q), .second, .val (.long r), .second, .val (.long (pJ &&& (9007199254740991 : Int64))), .second, .val (.ref b1), .val (.long q), .second, .unset, .unset] [])) _
    refine XS.aload X4.here hx rfl (hb hby at_61) rfl rfl ?_
    show Steps p.tables e below (T4.setTop (mkF m 63 #[.val (.long pJ), .second, .val (.long q), .second, .val (.long r), .second, .val (.long (pJ &&& (9007199254740991 : Int64))), .second, .val (.ref b1), .val (.long q), .second, .unset, .unset] [(.ref b1)])) _
    refine st5.trans ?_
    show Steps p.tables e below (T5.setTop (mkF m 66 #[.val (.long pJ), .second, .val (.long q), .second, .val (.long r), .second, .val (.long (pJ &&& (9007199254740991 : Int64))), .second, .val (.ref b1), .val (.long q), .second, .unset, .unset] [(.long (own_max (pJ &&& (9007199254740991 : Int64)) q))])) _
    refine XS.lload X5.here hx rfl (hb hby at_66) rfl ?_
    show Steps p.tables e below (T5.setTop (mkF m 68 #[.val (.long pJ), .second, .val (.long q), .second, .val (.long r), .second, .val (.long (pJ &&& (9007199254740991 : Int64))), .second, .val (.ref b1), .val (.long q), .second, .unset, .unset] [(.long q), (.long (own_max (pJ &&& (9007199254740991 : Int64)) q))])) _
    refine XS.lcmp X5.here hx rfl (hb hby at_68) rfl ?_
    show Steps p.tables e below (T5.setTop (mkF m 69 #[.val (.long pJ), .second, .val (.long q), .second, .val (.long r), .second, .val (.long (pJ &&& (9007199254740991 : Int64))), .second, .val (.ref b1), .val (.long q), .second, .unset, .unset] [(.int (lcmpW (own_max (pJ &&& (9007199254740991 : Int64)) q) q))])) _
    refine XS.ifYes X5.here hx rfl (pc0 := 69) (pc' := 74) rfl (hb hby at_69) rfl ((if0 _ _).trans (teq ((lw_eq _ _).mpr (own_max_gt hc55) : (lcmpW (own_max (pJ &&& (9007199254740991 : Int64)) q) q) = (0 : Int32))).1) (by decide) (by decide) ?_
    show Steps p.tables e below (T5.setTop (mkF m 74 #[.val (.long pJ), .second, .val (.long q), .second, .val (.long r), .second, .val (.long (pJ &&& (9007199254740991 : Int64))), .second, .val (.ref b1), .val (.long q), .second, .unset, .unset] [])) _
    refine XS.aload X5.here hx rfl (hb hby at_74) rfl rfl ?_
    show Steps p.tables e below (T5.setTop (mkF m 76 #[.val (.long pJ), .second, .val (.long q), .second, .val (.long r), .second, .val (.long (pJ &&& (9007199254740991 : Int64))), .second, .val (.ref b1), .val (.long q), .second, .unset, .unset] [(.ref b1)])) _
    refine XS.lload X5.here hx rfl (hb hby at_76) rfl ?_
    show Steps p.tables e below (T5.setTop (mkF m 78 #[.val (.long pJ), .second, .val (.long q), .second, .val (.long r), .second, .val (.long (pJ &&& (9007199254740991 : Int64))), .second, .val (.ref b1), .val (.long q), .second, .unset, .unset] [(.long r), (.ref b1)])) _
    refine st6.trans ?_
    show Steps p.tables e below (T6.setTop (mkF m 81 #[.val (.long pJ), .second, .val (.long q), .second, .val (.long r), .second, .val (.long (pJ &&& (9007199254740991 : Int64))), .second, .val (.ref b1), .val (.long q), .second, .unset, .unset] [])) _
    refine XS.lload X6.here hx rfl (hb hby at_81) rfl ?_
    show Steps p.tables e below (T6.setTop (mkF m 83 #[.val (.long pJ), .second, .val (.long q), .second, .val (.long r), .second, .val (.long (pJ &&& (9007199254740991 : Int64))), .second, .val (.ref b1), .val (.long q), .second, .unset, .unset] [(.long q)])) _
    refine XS.lstore X6.here hx rfl (hb hby at_83) rfl (l' := #[.val (.long pJ), .second, .val (.long q), .second, .val (.long r), .second, .val (.long (pJ &&& (9007199254740991 : Int64))), .second, .val (.ref b1), .val (.long q), .second, .val (.long q), .second]) rfl ?_
    show Steps p.tables e below (T6.setTop (mkF m 85 #[.val (.long pJ), .second, .val (.long q), .second, .val (.long r), .second, .val (.long (pJ &&& (9007199254740991 : Int64))), .second, .val (.ref b1), .val (.long q), .second, .val (.long q), .second] [])) _
    refine XS.lload X6.here hx rfl (hb hby at_85) rfl ?_
    show Steps p.tables e below (T6.setTop (mkF m 87 #[.val (.long pJ), .second, .val (.long q), .second, .val (.long r), .second, .val (.long (pJ &&& (9007199254740991 : Int64))), .second, .val (.ref b1), .val (.long q), .second, .val (.long q), .second] [(.long r)])) _
    refine XS.lload X6.here hx rfl (hb hby at_87) rfl ?_
    show Steps p.tables e below (T6.setTop (mkF m 89 #[.val (.long pJ), .second, .val (.long q), .second, .val (.long r), .second, .val (.long (pJ &&& (9007199254740991 : Int64))), .second, .val (.ref b1), .val (.long q), .second, .val (.long q), .second] [(.long q), (.long r)])) _
    refine XS.lcmp X6.here hx rfl (hb hby at_89) rfl ?_
    show Steps p.tables e below (T6.setTop (mkF m 90 #[.val (.long pJ), .second, .val (.long q), .second, .val (.long r), .second, .val (.long (pJ &&& (9007199254740991 : Int64))), .second, .val (.ref b1), .val (.long q), .second, .val (.long q), .second] [(.int (lcmpW r q))])) _
    refine XS.ifNo X6.here hx rfl (hb hby at_90) rfl ((if0 _ _).trans (tlt hc90).2.2.2) ?_
    show Steps p.tables e below (T6.setTop (mkF m 93 #[.val (.long pJ), .second, .val (.long q), .second, .val (.long r), .second, .val (.long (pJ &&& (9007199254740991 : Int64))), .second, .val (.ref b1), .val (.long q), .second, .val (.long q), .second] [])) _
    refine XS.lload X6.here hx rfl (hb hby at_93) rfl ?_
    show Steps p.tables e below (T6.setTop (mkF m 95 #[.val (.long pJ), .second, .val (.long q), .second, .val (.long r), .second, .val (.long (pJ &&& (9007199254740991 : Int64))), .second, .val (.ref b1), .val (.long q), .second, .val (.long q), .second] [(.long r)])) _
    refine XS.lstore X6.here hx rfl (hb hby at_95) rfl (l' := #[.val (.long pJ), .second, .val (.long q), .second, .val (.long r), .second, .val (.long (pJ &&& (9007199254740991 : Int64))), .second, .val (.ref b1), .val (.long q), .second, .val (.long r), .second]) rfl ?_
    show Steps p.tables e below (T6.setTop (mkF m 97 #[.val (.long pJ), .second, .val (.long q), .second, .val (.long r), .second, .val (.long (pJ &&& (9007199254740991 : Int64))), .second, .val (.ref b1), .val (.long q), .second, .val (.long r), .second] [])) _
    refine XS.aload X6.here hx rfl (hb hby at_97) rfl rfl ?_
    show Steps p.tables e below (T6.setTop (mkF m 99 #[.val (.long pJ), .second, .val (.long q), .second, .val (.long r), .second, .val (.long (pJ &&& (9007199254740991 : Int64))), .second, .val (.ref b1), .val (.long q), .second, .val (.long r), .second] [(.ref b1)])) _
    refine st7.trans ?_
    show Steps p.tables e below (T7.setTop (mkF m 102 #[.val (.long pJ), .second, .val (.long q), .second, .val (.long r), .second, .val (.long (pJ &&& (9007199254740991 : Int64))), .second, .val (.ref b1), .val (.long q), .second, .val (.long r), .second] [(.long (own_max (own_max (pJ &&& (9007199254740991 : Int64)) q) r))])) _
    refine XS.lload X7.here hx rfl (hb hby at_102) rfl ?_
    show Steps p.tables e below (T7.setTop (mkF m 104 #[.val (.long pJ), .second, .val (.long q), .second, .val (.long r), .second, .val (.long (pJ &&& (9007199254740991 : Int64))), .second, .val (.ref b1), .val (.long q), .second, .val (.long r), .second] [(.long r), (.long (own_max (own_max (pJ &&& (9007199254740991 : Int64)) q) r))])) _
    refine XS.lcmp X7.here hx rfl (hb hby at_104) rfl ?_
    show Steps p.tables e below (T7.setTop (mkF m 105 #[.val (.long pJ), .second, .val (.long q), .second, .val (.long r), .second, .val (.long (pJ &&& (9007199254740991 : Int64))), .second, .val (.ref b1), .val (.long q), .second, .val (.long r), .second] [(.int (lcmpW (own_max (own_max (pJ &&& (9007199254740991 : Int64)) q) r) r))])) _
    refine XS.ifNo X7.here hx rfl (hb hby at_105) rfl ((if0 _ _).trans (teq ((lw_eq _ _).mpr (by rw [own_max_gt hc55]; exact own_max_gt hc90) : (lcmpW (own_max (own_max (pJ &&& (9007199254740991 : Int64)) q) r) r) = (0 : Int32))).2) ?_
    show Steps p.tables e below (T7.setTop (mkF m 108 #[.val (.long pJ), .second, .val (.long q), .second, .val (.long r), .second, .val (.long (pJ &&& (9007199254740991 : Int64))), .second, .val (.ref b1), .val (.long q), .second, .val (.long r), .second] [])) _
    refine XS.iconst X7.here hx rfl (hb hby at_108) ?_
    show Steps p.tables e below (T7.setTop (mkF m 109 #[.val (.long pJ), .second, .val (.long q), .second, .val (.long r), .second, .val (.long (pJ &&& (9007199254740991 : Int64))), .second, .val (.ref b1), .val (.long q), .second, .val (.long r), .second] [(.int (1 : Int32))])) _
    refine XS.goto X7.here hx rfl (pc0 := 109) (pc' := 113) rfl (hb hby at_109) (by decide) (by decide) ?_
    show Steps p.tables e below (T7.setTop (mkF m 113 #[.val (.long pJ), .second, .val (.long q), .second, .val (.long r), .second, .val (.long (pJ &&& (9007199254740991 : Int64))), .second, .val (.ref b1), .val (.long q), .second, .val (.long r), .second] [(.int (1 : Int32))])) _
    exact retN X7 hx (t := .boolean) Bd.returns (by simp) (hb hby at_113) hr
  · show Qd10 Z pJ q r h0 n0 _ T7.heap _
    rw [e7]
    exact ⟨rfl, N7⟩
set_option maxRecDepth 65536 in
set_option maxHeartbeats 40000000 in
theorem rm0tft (l : Launch) (Z : State) (a0 : Array Value) (hw : ∀ d ∈ tables_1, d.before a0 Z = true) (ws : List Jvm.Cond) (pJ q r : Int64) (h0 : Heap) (n0 : Nat) (O0 : Old Z n0 h0) (hc11 : ¬ ((lcmpW (pJ &&& (9007199254740991 : Int64)) (0 : Int64)) = (0 : Int32))) (hc55 : (0 : Int32) < (lcmpW q (pJ &&& (9007199254740991 : Int64)))) (hc90 : ¬ ((0 : Int32) < (lcmpW r q))) :
    MetFree l x (head1 (Jvm.Cond.code x code maxLocals ret :: ws) room_1) (fun qq U => qq = #[(.long pJ), (.long q), (.long r)] ∧ Z.Warmed39 U.vm ∧ U.heap = h0) (fun _ _ _ _ _ => True) (fun _ UU oo UU' => ∃ vv LL, oo = .returned vv ∧ Qd10 Z pJ q r h0 n0 vv UU'.heap LL ∧ FrameEnd UU oo UU' LL room_1.cells room_1.slots) := by
  refine MetFree.of_bodySF (plainFor_of_name pn_0) hisR ?_
  intro p e s m args below meth c s₁ Bd hml0 hP hK
  obtain ⟨rfl, hZ, hh⟩ := hP
  have hx := Bd.exec
  have hby := Bd.bytes
  have hml : c.maxLocals = 13 := hml0
  have hown : s.vm.findClass "com/example/riverside/riverside/ArbiterAdvanceFencesPinLaw" = some m.cls := findClass_of_methodNamed Bd.named
  have hnm := (name_of_methodNamed Bd.named Bd.method).1
  have X0 : Stand p l e room_1 s m #[(.long pJ), (.long q), (.long r)] below meth c s₁ [] 0 0 := Stand.of_body Bd
  have e0 : s₁.heap = h0 := by rw [← hh, Bd.state]; rfl
  have N0 := Fr.nil n0
  have pre0 : ∀ t, Steps p.tables e below (s₁.setTop (mkF m 0 #[.val (.long pJ), .second, .val (.long q), .second, .val (.long r), .second, .unset, .unset, .unset, .unset, .unset, .unset, .unset] [])) t → Steps p.tables e below (s₁.setTop (entryFrame m #[(.long pJ), (.long q), (.long r)] maxLocals)) t := fun t k => castTop (ef_0 m pJ q r) k
  obtain ⟨T1, h1, X1, e1, E1, A1, D1, -, st1⟩ := newO X0 hx hZ hown (hw _ (List.mem_of_getElem? (i := 1) rfl)) (hw _ (List.mem_of_getElem? (i := 2) rfl)) (hw _ (List.mem_of_getElem? (i := 3) rfl)) e0 (g := (mkF m 17 #[.val (.long pJ), .second, .val (.long q), .second, .val (.long r), .second, .val (.long (pJ &&& (9007199254740991 : Int64))), .second, .unset, .unset, .unset, .unset, .unset] [])) rfl (hb hby at_17) (by decide) (by decide)
  obtain ⟨b1, q1⟩ : ∃ z, z = h0.size := ⟨_, rfl⟩
  rw [← q1] at A1 D1 st1
  have g_b1 : n0 ≤ b1 := by rw [q1]; exact (O0).1 ▸ (O0).2.1
  have O1 := Old.ext O0 E1
  have F1_keys : Fld Z h1 b1 "com/example/riverside/riverside/Arbiter" "keys" "Ljava/util/Map;" .null := D1 (Or.inr (hw _ (List.mem_of_getElem? (i := 27) rfl))) (ty := (.object "java/util/Map")) (by decide)
  have F1_openKeys : Fld Z h1 b1 "com/example/riverside/riverside/Arbiter" "openKeys" "Ljava/util/Map;" .null := D1 (Or.inr (hw _ (List.mem_of_getElem? (i := 29) rfl))) (ty := (.object "java/util/Map")) (by decide)
  have F1_blocked : Fld Z h1 b1 "com/example/riverside/riverside/Arbiter" "blocked" "Ljava/util/Set;" .null := D1 (Or.inr (hw _ (List.mem_of_getElem? (i := 92) rfl))) (ty := (.object "java/util/Set")) (by decide)
  have F1_fenceLimit : Fld Z h1 b1 "com/example/riverside/riverside/Arbiter" "fenceLimit" "Ljava/util/function/LongSupplier;" .null := D1 (Or.inl (hw _ (List.mem_of_getElem? (i := 97) rfl))) (ty := (.object "java/util/function/LongSupplier")) (by decide)
  have F1_nextFence : Fld Z h1 b1 "com/example/riverside/riverside/Arbiter" "nextFence" "J" (.long (0 : Int64)) := D1 (Or.inl (hw _ (List.mem_of_getElem? (i := 100) rfl))) (ty := .long) (by decide)
  obtain ⟨_, _, ⟨T2, L2, k2, n2⟩, -, X2, ⟨Lc2, hQ2, l2, y2, z2⟩, st2⟩ := X1.specialBack hx (y := (⟨"com/example/riverside/riverside/Arbiter", "<init>", "(J)V"⟩ : MethodName)) rfl hown (mvT hZ (hw _ (List.mem_of_getElem? (i := 4) rfl))) (mvT hZ (hw _ (List.mem_of_getElem? (i := 5) rfl))) (mvT hZ (hw _ (List.mem_of_getElem? (i := 6) rfl))) (by decide) (backOf (W := 1) (rmAR l Z a0 hw [] b1 (pJ &&& (9007199254740991 : Int64)) h1 n0 O1 g_b1 A1 F1_keys F1_openKeys F1_blocked F1_fenceLimit F1_nextFence (own_f hc11).1 (own_f hc11).2) hZ (hw _ (List.mem_of_getElem? (i := 6) rfl)) (hw _ (List.mem_of_getElem? (i := 3) rfl)) (by decide) (by decide)) (g := (mkF m 23 #[.val (.long pJ), .second, .val (.long q), .second, .val (.long r), .second, .val (.long (pJ &&& (9007199254740991 : Int64))), .second, .unset, .unset, .unset, .unset, .unset] [(.long (pJ &&& (9007199254740991 : Int64))), (.ref b1), (.ref b1)])) rfl (by rw [hml]; rfl) (Steps.refl _) (a := b1) (argsL := [(.long (pJ &&& (9007199254740991 : Int64)))]) (rest := [(.ref b1)]) (lenOf own_pd6 rfl) rfl (by show 2 * 0 + _ ≤ _; exact Nat.le_of_eq rfl) (hb hby at_23) (fun _ _ => ⟨rfl, e1, (by decide : 1 + 4 ≤ _), (by decide : 5 + 29 ≤ _)⟩)
  dsimp only [Pt.U, Pt.locs, Pt.cells, Pt.slots] at X2 l2 y2 z2 st2 hQ2
  subst l2 y2 z2
  obtain ⟨rfl, N2q, KK2, f2_0⟩ := hQ2
  have N2 := Fr.app N0 N2q
  have O2 := Old.keep O1 KK2 (allS g_b1 all0)
  obtain ⟨cq3, kq3, q3a, q3b, q3c⟩ := isOf hZ rfl (A1.keep KK2)
  obtain ⟨_, _, ⟨T3, L3, k3, n3⟩, -, X3, ⟨Lc3, hQ3, l3, y3, z3⟩, st3⟩ := X2.virtualBack hx (y := (⟨"com/example/riverside/riverside/Arbiter", "nextFence", "()J"⟩ : MethodName)) (z := (⟨"com/example/riverside/riverside/Arbiter", "nextFence", "()J"⟩ : MethodName)) hown (mvT hZ (hw _ (List.mem_of_getElem? (i := 101) rfl))) (mvT hZ (hw _ (List.mem_of_getElem? (i := 102) rfl))) (notFace_of_selects (args := #[]) (mvT hZ (hw _ (List.mem_of_getElem? (i := 104) rfl)))) (mvT hZ (hw _ (List.mem_of_getElem? (i := 104) rfl))) (mvT hZ (hw _ (List.mem_of_getElem? (i := 103) rfl))) (by decide) (backOf (W := 0) (rmNF l Z a0 hw [] b1 (pJ &&& (9007199254740991 : Int64)) T2.heap n0 f2_0) hZ (hw _ (List.mem_of_getElem? (i := 105) rfl)) (hw _ (List.mem_of_getElem? (i := 3) rfl)) (by decide) (by decide)) q3a q3c (g := (mkF m 30 #[.val (.long pJ), .second, .val (.long q), .second, .val (.long r), .second, .val (.long (pJ &&& (9007199254740991 : Int64))), .second, .val (.ref b1), .unset, .unset, .unset, .unset] [(.ref b1)])) rfl (by rw [hml]; rfl) (Steps.refl _) (argsL := []) (rest := []) (lenOf own_pd7 rfl) rfl (by show 2 * 0 + _ ≤ _; exact Nat.le_of_eq rfl) (hb hby at_30) (fun _ _ => ⟨rfl, rfl, (by decide : 5 + 0 ≤ _), (by decide : 34 + 0 ≤ _)⟩)
  dsimp only [Pt.U, Pt.locs, Pt.cells, Pt.slots] at X3 l3 y3 z3 st3 hQ3
  subst l3 y3 z3
  obtain ⟨rfl, N3q, e3⟩ := hQ3
  have N3 := Fr.app N2 N3q
  obtain ⟨cq4, kq4, q4a, q4b, q4c⟩ := isOf hZ e3 (A1.keep KK2)
  obtain ⟨_, _, ⟨T4, L4, k4, n4⟩, -, X4, ⟨Lc4, hQ4, l4, y4, z4⟩, st4⟩ := X3.virtualBack hx (y := (⟨"com/example/riverside/riverside/Arbiter", "advanceFences", "(J)V"⟩ : MethodName)) (z := (⟨"com/example/riverside/riverside/Arbiter", "advanceFences", "(J)V"⟩ : MethodName)) hown (mvT hZ (hw _ (List.mem_of_getElem? (i := 106) rfl))) (mvT hZ (hw _ (List.mem_of_getElem? (i := 107) rfl))) (notFace_of_selects (args := #[]) (mvT hZ (hw _ (List.mem_of_getElem? (i := 109) rfl)))) (mvT hZ (hw _ (List.mem_of_getElem? (i := 109) rfl))) (mvT hZ (hw _ (List.mem_of_getElem? (i := 108) rfl))) (by decide) (backOf (W := 0) (rmAV l Z a0 hw [] b1 q (pJ &&& (9007199254740991 : Int64)) T2.heap n0 O2 g_b1 (A1.keep KK2) f2_0) hZ (hw _ (List.mem_of_getElem? (i := 110) rfl)) (hw _ (List.mem_of_getElem? (i := 3) rfl)) (by decide) (by decide)) q4a q4c (g := (mkF m 44 #[.val (.long pJ), .second, .val (.long q), .second, .val (.long r), .second, .val (.long (pJ &&& (9007199254740991 : Int64))), .second, .val (.ref b1), .unset, .unset, .unset, .unset] [(.long q), (.ref b1)])) rfl (by rw [hml]; rfl) (Steps.refl _) (argsL := [(.long q)]) (rest := []) (lenOf own_pd6 rfl) rfl (by show 2 * 0 + _ ≤ _; exact Nat.le_of_eq rfl) (hb hby at_44) (fun _ _ => ⟨rfl, e3, (by decide : 5 + 0 ≤ _), (by decide : 34 + 0 ≤ _)⟩)
  dsimp only [Pt.U, Pt.locs, Pt.cells, Pt.slots] at X4 l4 y4 z4 st4 hQ4
  subst l4 y4 z4
  obtain ⟨rfl, N4q, KK4, f4_0⟩ := hQ4
  have N4 := Fr.app N3 N4q
  have O4 := Old.keep O2 KK4 (allS g_b1 all0)
  obtain ⟨cq5, kq5, q5a, q5b, q5c⟩ := isOf hZ rfl ((A1.keep KK2).keep KK4)
  obtain ⟨_, _, ⟨T5, L5, k5, n5⟩, -, X5, ⟨Lc5, hQ5, l5, y5, z5⟩, st5⟩ := X4.virtualBack hx (y := (⟨"com/example/riverside/riverside/Arbiter", "nextFence", "()J"⟩ : MethodName)) (z := (⟨"com/example/riverside/riverside/Arbiter", "nextFence", "()J"⟩ : MethodName)) hown (mvT hZ (hw _ (List.mem_of_getElem? (i := 101) rfl))) (mvT hZ (hw _ (List.mem_of_getElem? (i := 102) rfl))) (notFace_of_selects (args := #[]) (mvT hZ (hw _ (List.mem_of_getElem? (i := 104) rfl)))) (mvT hZ (hw _ (List.mem_of_getElem? (i := 104) rfl))) (mvT hZ (hw _ (List.mem_of_getElem? (i := 103) rfl))) (by decide) (backOf (W := 0) (rmNF l Z a0 hw [] b1 (own_max (pJ &&& (9007199254740991 : Int64)) q) T4.heap n0 f4_0) hZ (hw _ (List.mem_of_getElem? (i := 105) rfl)) (hw _ (List.mem_of_getElem? (i := 3) rfl)) (by decide) (by decide)) q5a q5c (g := (mkF m 63 #[.val (.long pJ), .second, .val (.long q), .second, .val (.long r), .second, .val (.long (pJ &&& (9007199254740991 : Int64))), .second, .val (.ref b1), .val (.long q), .second, .unset, .unset] [(.ref b1)])) rfl (by rw [hml]; rfl) (Steps.refl _) (argsL := []) (rest := []) (lenOf own_pd7 rfl) rfl (by show 2 * 0 + _ ≤ _; exact Nat.le_of_eq rfl) (hb hby at_63) (fun _ _ => ⟨rfl, rfl, (by decide : 5 + 0 ≤ _), (by decide : 34 + 0 ≤ _)⟩)
  dsimp only [Pt.U, Pt.locs, Pt.cells, Pt.slots] at X5 l5 y5 z5 st5 hQ5
  subst l5 y5 z5
  obtain ⟨rfl, N5q, e5⟩ := hQ5
  have N5 := Fr.app N4 N5q
  obtain ⟨cq6, kq6, q6a, q6b, q6c⟩ := isOf hZ e5 ((A1.keep KK2).keep KK4)
  obtain ⟨_, _, ⟨T6, L6, k6, n6⟩, -, X6, ⟨Lc6, hQ6, l6, y6, z6⟩, st6⟩ := X5.virtualBack hx (y := (⟨"com/example/riverside/riverside/Arbiter", "advanceFences", "(J)V"⟩ : MethodName)) (z := (⟨"com/example/riverside/riverside/Arbiter", "advanceFences", "(J)V"⟩ : MethodName)) hown (mvT hZ (hw _ (List.mem_of_getElem? (i := 106) rfl))) (mvT hZ (hw _ (List.mem_of_getElem? (i := 107) rfl))) (notFace_of_selects (args := #[]) (mvT hZ (hw _ (List.mem_of_getElem? (i := 109) rfl)))) (mvT hZ (hw _ (List.mem_of_getElem? (i := 109) rfl))) (mvT hZ (hw _ (List.mem_of_getElem? (i := 108) rfl))) (by decide) (backOf (W := 0) (rmAV l Z a0 hw [] b1 r (own_max (pJ &&& (9007199254740991 : Int64)) q) T4.heap n0 O4 g_b1 ((A1.keep KK2).keep KK4) f4_0) hZ (hw _ (List.mem_of_getElem? (i := 110) rfl)) (hw _ (List.mem_of_getElem? (i := 3) rfl)) (by decide) (by decide)) q6a q6c (g := (mkF m 78 #[.val (.long pJ), .second, .val (.long q), .second, .val (.long r), .second, .val (.long (pJ &&& (9007199254740991 : Int64))), .second, .val (.ref b1), .val (.long q), .second, .unset, .unset] [(.long r), (.ref b1)])) rfl (by rw [hml]; rfl) (Steps.refl _) (argsL := [(.long r)]) (rest := []) (lenOf own_pd6 rfl) rfl (by show 2 * 0 + _ ≤ _; exact Nat.le_of_eq rfl) (hb hby at_78) (fun _ _ => ⟨rfl, e5, (by decide : 5 + 0 ≤ _), (by decide : 34 + 0 ≤ _)⟩)
  dsimp only [Pt.U, Pt.locs, Pt.cells, Pt.slots] at X6 l6 y6 z6 st6 hQ6
  subst l6 y6 z6
  obtain ⟨rfl, N6q, KK6, f6_0⟩ := hQ6
  have N6 := Fr.app N5 N6q
  have O6 := Old.keep O4 KK6 (allS g_b1 all0)
  obtain ⟨cq7, kq7, q7a, q7b, q7c⟩ := isOf hZ rfl (((A1.keep KK2).keep KK4).keep KK6)
  obtain ⟨_, _, ⟨T7, L7, k7, n7⟩, -, X7, ⟨Lc7, hQ7, l7, y7, z7⟩, st7⟩ := X6.virtualBack hx (y := (⟨"com/example/riverside/riverside/Arbiter", "nextFence", "()J"⟩ : MethodName)) (z := (⟨"com/example/riverside/riverside/Arbiter", "nextFence", "()J"⟩ : MethodName)) hown (mvT hZ (hw _ (List.mem_of_getElem? (i := 101) rfl))) (mvT hZ (hw _ (List.mem_of_getElem? (i := 102) rfl))) (notFace_of_selects (args := #[]) (mvT hZ (hw _ (List.mem_of_getElem? (i := 104) rfl)))) (mvT hZ (hw _ (List.mem_of_getElem? (i := 104) rfl))) (mvT hZ (hw _ (List.mem_of_getElem? (i := 103) rfl))) (by decide) (backOf (W := 0) (rmNF l Z a0 hw [] b1 (own_max (own_max (pJ &&& (9007199254740991 : Int64)) q) r) T6.heap n0 f6_0) hZ (hw _ (List.mem_of_getElem? (i := 105) rfl)) (hw _ (List.mem_of_getElem? (i := 3) rfl)) (by decide) (by decide)) q7a q7c (g := (mkF m 99 #[.val (.long pJ), .second, .val (.long q), .second, .val (.long r), .second, .val (.long (pJ &&& (9007199254740991 : Int64))), .second, .val (.ref b1), .val (.long q), .second, .val (.long q), .second] [(.ref b1)])) rfl (by rw [hml]; rfl) (Steps.refl _) (argsL := []) (rest := []) (lenOf own_pd7 rfl) rfl (by show 2 * 0 + _ ≤ _; exact Nat.le_of_eq rfl) (hb hby at_99) (fun _ _ => ⟨rfl, rfl, (by decide : 5 + 0 ≤ _), (by decide : 34 + 0 ≤ _)⟩)
  dsimp only [Pt.U, Pt.locs, Pt.cells, Pt.slots] at X7 l7 y7 z7 st7 hQ7
  subst l7 y7 z7
  obtain ⟨rfl, N7q, e7⟩ := hQ7
  have N7 := Fr.app N6 N7q
  obtain ⟨fs, hr, hrun, hended, hW, hsame⟩ := X7.leave (v := some (.int (1 : Int32))) (fun h => by rw [Bd.returns] at h; cases h)
  refine ⟨_, _, pre0 _ ?_, hrun, hended, _, _, rfl, ?_, ⟨_, rfl⟩, hW, hsame.mono (by decide) (by decide)⟩
  · show Steps p.tables e below (s₁.setTop (mkF m 0 #[.val (.long pJ), .second, .val (.long q), .second, .val (.long r), .second, .unset, .unset, .unset, .unset, .unset, .unset, .unset] [])) _
    refine XS.lloadN X0.here hx rfl (hb hby at_0) rfl ?_
    show Steps p.tables e below (s₁.setTop (mkF m 1 #[.val (.long pJ), .second, .val (.long q), .second, .val (.long r), .second, .unset, .unset, .unset, .unset, .unset, .unset, .unset] [(.long pJ)])) _
    refine X0.ldc2Long hx hown (mvT hZ (hw _ (List.mem_of_getElem? (i := 0) rfl))) (g := (mkF m 1 #[.val (.long pJ), .second, .val (.long q), .second, .val (.long r), .second, .unset, .unset, .unset, .unset, .unset, .unset, .unset] [(.long pJ)])) rfl (hb hby at_1) _ ?_
    show Steps p.tables e below (s₁.setTop (mkF m 4 #[.val (.long pJ), .second, .val (.long q), .second, .val (.long r), .second, .unset, .unset, .unset, .unset, .unset, .unset, .unset] [(.long (9007199254740991 : Int64)), (.long pJ)])) _
    refine XS.land X0.here hx rfl (hb hby at_4) rfl ?_
    show Steps p.tables e below (s₁.setTop (mkF m 5 #[.val (.long pJ), .second, .val (.long q), .second, .val (.long r), .second, .unset, .unset, .unset, .unset, .unset, .unset, .unset] [(.long (pJ &&& (9007199254740991 : Int64)))])) _
    refine XS.lstore X0.here hx rfl (hb hby at_5) rfl (l' := #[.val (.long pJ), .second, .val (.long q), .second, .val (.long r), .second, .val (.long (pJ &&& (9007199254740991 : Int64))), .second, .unset, .unset, .unset, .unset, .unset]) rfl ?_
    show Steps p.tables e below (s₁.setTop (mkF m 7 #[.val (.long pJ), .second, .val (.long q), .second, .val (.long r), .second, .val (.long (pJ &&& (9007199254740991 : Int64))), .second, .unset, .unset, .unset, .unset, .unset] [])) _
    refine XS.lload X0.here hx rfl (hb hby at_7) rfl ?_
    show Steps p.tables e below (s₁.setTop (mkF m 9 #[.val (.long pJ), .second, .val (.long q), .second, .val (.long r), .second, .val (.long (pJ &&& (9007199254740991 : Int64))), .second, .unset, .unset, .unset, .unset, .unset] [(.long (pJ &&& (9007199254740991 : Int64)))])) _
    refine XS.lconst X0.here hx rfl (hb hby at_9) ?_
    show Steps p.tables e below (s₁.setTop (mkF m 10 #[.val (.long pJ), .second, .val (.long q), .second, .val (.long r), .second, .val (.long (pJ &&& (9007199254740991 : Int64))), .second, .unset, .unset, .unset, .unset, .unset] [(.long (0 : Int64)), (.long (pJ &&& (9007199254740991 : Int64)))])) _
    refine XS.lcmp X0.here hx rfl (hb hby at_10) rfl ?_
    show Steps p.tables e below (s₁.setTop (mkF m 11 #[.val (.long pJ), .second, .val (.long q), .second, .val (.long r), .second, .val (.long (pJ &&& (9007199254740991 : Int64))), .second, .unset, .unset, .unset, .unset, .unset] [(.int (lcmpW (pJ &&& (9007199254740991 : Int64)) (0 : Int64)))])) _
    refine XS.ifYes X0.here hx rfl (pc0 := 11) (pc' := 17) rfl (hb hby at_11) rfl ((if0 _ _).trans (feq hc11).2) (by decide) (by decide) ?_
    show Steps p.tables e below (s₁.setTop (mkF m 17 #[.val (.long pJ), .second, .val (.long q), .second, .val (.long r), .second, .val (.long (pJ &&& (9007199254740991 : Int64))), .second, .unset, .unset, .unset, .unset, .unset] [])) _
    refine st1 _ ?_
    show Steps p.tables e below (T1.setTop (mkF m 20 #[.val (.long pJ), .second, .val (.long q), .second, .val (.long r), .second, .val (.long (pJ &&& (9007199254740991 : Int64))), .second, .unset, .unset, .unset, .unset, .unset] [(.ref b1)])) _
    refine XS.dup X1.here hx rfl (hb hby at_20) rfl rfl ?_
    show Steps p.tables e below (T1.setTop (mkF m 21 #[.val (.long pJ), .second, .val (.long q), .second, .val (.long r), .second, .val (.long (pJ &&& (9007199254740991 : Int64))), .second, .unset, .unset, .unset, .unset, .unset] [(.ref b1), (.ref b1)])) _
    refine XS.lload X1.here hx rfl (hb hby at_21) rfl ?_
    show Steps p.tables e below (T1.setTop (mkF m 23 #[.val (.long pJ), .second, .val (.long q), .second, .val (.long r), .second, .val (.long (pJ &&& (9007199254740991 : Int64))), .second, .unset, .unset, .unset, .unset, .unset] [(.long (pJ &&& (9007199254740991 : Int64))), (.ref b1), (.ref b1)])) _
    refine st2.trans ?_
    show Steps p.tables e below (T2.setTop (mkF m 26 #[.val (.long pJ), .second, .val (.long q), .second, .val (.long r), .second, .val (.long (pJ &&& (9007199254740991 : Int64))), .second, .unset, .unset, .unset, .unset, .unset] [(.ref b1)])) _
    refine XS.astore X2.here hx rfl (hb hby at_26) rfl rfl (l' := #[.val (.long pJ), .second, .val (.long q), .second, .val (.long r), .second, .val (.long (pJ &&& (9007199254740991 : Int64))), .second, .val (.ref b1), .unset, .unset, .unset, .unset]) rfl ?_
    show Steps p.tables e below (T2.setTop (mkF m 28 #[.val (.long pJ), .second, .val (.long q), .second, .val (.long r), .second, .val (.long (pJ &&& (9007199254740991 : Int64))), .second, .val (.ref b1), .unset, .unset, .unset, .unset] [])) _
    refine XS.aload X2.here hx rfl (hb hby at_28) rfl rfl ?_
    show Steps p.tables e below (T2.setTop (mkF m 30 #[.val (.long pJ), .second, .val (.long q), .second, .val (.long r), .second, .val (.long (pJ &&& (9007199254740991 : Int64))), .second, .val (.ref b1), .unset, .unset, .unset, .unset] [(.ref b1)])) _
    refine st3.trans ?_
    show Steps p.tables e below (T3.setTop (mkF m 33 #[.val (.long pJ), .second, .val (.long q), .second, .val (.long r), .second, .val (.long (pJ &&& (9007199254740991 : Int64))), .second, .val (.ref b1), .unset, .unset, .unset, .unset] [(.long (pJ &&& (9007199254740991 : Int64)))])) _
    refine XS.lload X3.here hx rfl (hb hby at_33) rfl ?_
    show Steps p.tables e below (T3.setTop (mkF m 35 #[.val (.long pJ), .second, .val (.long q), .second, .val (.long r), .second, .val (.long (pJ &&& (9007199254740991 : Int64))), .second, .val (.ref b1), .unset, .unset, .unset, .unset] [(.long (pJ &&& (9007199254740991 : Int64))), (.long (pJ &&& (9007199254740991 : Int64)))])) _
    refine XS.lcmp X3.here hx rfl (hb hby at_35) rfl ?_
    show Steps p.tables e below (T3.setTop (mkF m 36 #[.val (.long pJ), .second, .val (.long q), .second, .val (.long r), .second, .val (.long (pJ &&& (9007199254740991 : Int64))), .second, .val (.ref b1), .unset, .unset, .unset, .unset] [(.int (lcmpW (pJ &&& (9007199254740991 : Int64)) (pJ &&& (9007199254740991 : Int64))))])) _
    refine XS.ifYes X3.here hx rfl (pc0 := 36) (pc' := 41) rfl (hb hby at_36) rfl ((if0 _ _).trans (teq ((lw_eq _ _).mpr rfl : (lcmpW (pJ &&& (9007199254740991 : Int64)) (pJ &&& (9007199254740991 : Int64))) = (0 : Int32))).1) (by decide) (by decide) ?_
    show Steps p.tables e below (T3.setTop (mkF m 41 #[.val (.long pJ), .second, .val (.long q), .second, .val (.long r), .second, .val (.long (pJ &&& (9007199254740991 : Int64))), .second, .val (.ref b1), .unset, .unset, .unset, .unset] [])) _
    refine XS.aload X3.here hx rfl (hb hby at_41) rfl rfl ?_
    show Steps p.tables e below (T3.setTop (mkF m 43 #[.val (.long pJ), .second, .val (.long q), .second, .val (.long r), .second, .val (.long (pJ &&& (9007199254740991 : Int64))), .second, .val (.ref b1), .unset, .unset, .unset, .unset] [(.ref b1)])) _
    refine XS.lloadN X3.here hx rfl (hb hby at_43) rfl ?_
    show Steps p.tables e below (T3.setTop (mkF m 44 #[.val (.long pJ), .second, .val (.long q), .second, .val (.long r), .second, .val (.long (pJ &&& (9007199254740991 : Int64))), .second, .val (.ref b1), .unset, .unset, .unset, .unset] [(.long q), (.ref b1)])) _
    refine st4.trans ?_
    show Steps p.tables e below (T4.setTop (mkF m 47 #[.val (.long pJ), .second, .val (.long q), .second, .val (.long r), .second, .val (.long (pJ &&& (9007199254740991 : Int64))), .second, .val (.ref b1), .unset, .unset, .unset, .unset] [])) _
    refine XS.lload X4.here hx rfl (hb hby at_47) rfl ?_
    show Steps p.tables e below (T4.setTop (mkF m 49 #[.val (.long pJ), .second, .val (.long q), .second, .val (.long r), .second, .val (.long (pJ &&& (9007199254740991 : Int64))), .second, .val (.ref b1), .unset, .unset, .unset, .unset] [(.long (pJ &&& (9007199254740991 : Int64)))])) _
    refine XS.lstore X4.here hx rfl (hb hby at_49) rfl (l' := #[.val (.long pJ), .second, .val (.long q), .second, .val (.long r), .second, .val (.long (pJ &&& (9007199254740991 : Int64))), .second, .val (.ref b1), .val (.long (pJ &&& (9007199254740991 : Int64))), .second, .unset, .unset]) rfl ?_
    show Steps p.tables e below (T4.setTop (mkF m 51 #[.val (.long pJ), .second, .val (.long q), .second, .val (.long r), .second, .val (.long (pJ &&& (9007199254740991 : Int64))), .second, .val (.ref b1), .val (.long (pJ &&& (9007199254740991 : Int64))), .second, .unset, .unset] [])) _
    refine XS.lloadN X4.here hx rfl (hb hby at_51) rfl ?_
    show Steps p.tables e below (T4.setTop (mkF m 52 #[.val (.long pJ), .second, .val (.long q), .second, .val (.long r), .second, .val (.long (pJ &&& (9007199254740991 : Int64))), .second, .val (.ref b1), .val (.long (pJ &&& (9007199254740991 : Int64))), .second, .unset, .unset] [(.long q)])) _
    refine XS.lload X4.here hx rfl (hb hby at_52) rfl ?_
    show Steps p.tables e below (T4.setTop (mkF m 54 #[.val (.long pJ), .second, .val (.long q), .second, .val (.long r), .second, .val (.long (pJ &&& (9007199254740991 : Int64))), .second, .val (.ref b1), .val (.long (pJ &&& (9007199254740991 : Int64))), .second, .unset, .unset] [(.long (pJ &&& (9007199254740991 : Int64))), (.long q)])) _
    refine XS.lcmp X4.here hx rfl (hb hby at_54) rfl ?_
    show Steps p.tables e below (T4.setTop (mkF m 55 #[.val (.long pJ), .second, .val (.long q), .second, .val (.long r), .second, .val (.long (pJ &&& (9007199254740991 : Int64))), .second, .val (.ref b1), .val (.long (pJ &&& (9007199254740991 : Int64))), .second, .unset, .unset] [(.int (lcmpW q (pJ &&& (9007199254740991 : Int64))))])) _
    refine XS.ifNo X4.here hx rfl (hb hby at_55) rfl ((if0 _ _).trans (tlt hc55).2.2.2) ?_
    show Steps p.tables e below (T4.setTop (mkF m 58 #[.val (.long pJ), .second, .val (.long q), .second, .val (.long r), .second, .val (.long (pJ &&& (9007199254740991 : Int64))), .second, .val (.ref b1), .val (.long (pJ &&& (9007199254740991 : Int64))), .second, .unset, .unset] [])) _
    refine XS.lloadN X4.here hx rfl (hb hby at_58) rfl ?_
    show Steps p.tables e below (T4.setTop (mkF m 59 #[.val (.long pJ), .second, .val (.long q), .second, .val (.long r), .second, .val (.long (pJ &&& (9007199254740991 : Int64))), .second, .val (.ref b1), .val (.long (pJ &&& (9007199254740991 : Int64))), .second, .unset, .unset] [(.long q)])) _
    refine XS.lstore X4.here hx rfl (hb hby at_59) rfl (l' := #[.val (.long pJ), .second, .val (.long q), .second, .val (.long r), .second, .val (.long (pJ &&& (9007199254740991 : Int64))), .second, .val (.ref b1), .val (.long q), .second, .unset, .unset]) rfl ?_
    show Steps p.tables e below (T4.setTop (mkF m 61 #[.val (.long pJ), .second, .val (.long q), .second, .val (.long r), .second, .val (.long (pJ &&& (9007199254740991 : Int64))), .second, .val (.ref b1), .val (.long q), .second, .unset, .unset] [])) _
    refine XS.aload X4.here hx rfl (hb hby at_61) rfl rfl ?_
    show Steps p.tables e below (T4.setTop (mkF m 63 #[.val (.long pJ), .second, .val (.long q), .second, .val (.long r), .second, .val (.long (pJ &&& (9007199254740991 : Int64))), .second, .val (.ref b1), .val (.long q), .second, .unset, .unset] [(.ref b1)])) _
    refine st5.trans ?_
    show Steps p.tables e below (T5.setTop (mkF m 66 #[.val (.long pJ), .second, .val (.long q), .second, .val (.long r), .second, .val (.long (pJ &&& (9007199254740991 : Int64))), .second, .val (.ref b1), .val (.long q), .second, .unset, .unset] [(.long (own_max (pJ &&& (9007199254740991 : Int64)) q))])) _
    refine XS.lload X5.here hx rfl (hb hby at_66) rfl ?_
    show Steps p.tables e below (T5.setTop (mkF m 68 #[.val (.long pJ), .second, .val (.long q), .second, .val (.long r), .second, .val (.long (pJ &&& (9007199254740991 : Int64))), .second, .val (.ref b1), .val (.long q), .second, .unset, .unset] [(.long q), (.long (own_max (pJ &&& (9007199254740991 : Int64)) q))])) _
    refine XS.lcmp X5.here hx rfl (hb hby at_68) rfl ?_
    show Steps p.tables e below (T5.setTop (mkF m 69 #[.val (.long pJ), .second, .val (.long q), .second, .val (.long r), .second, .val (.long (pJ &&& (9007199254740991 : Int64))), .second, .val (.ref b1), .val (.long q), .second, .unset, .unset] [(.int (lcmpW (own_max (pJ &&& (9007199254740991 : Int64)) q) q))])) _
    refine XS.ifYes X5.here hx rfl (pc0 := 69) (pc' := 74) rfl (hb hby at_69) rfl ((if0 _ _).trans (teq ((lw_eq _ _).mpr (own_max_gt hc55) : (lcmpW (own_max (pJ &&& (9007199254740991 : Int64)) q) q) = (0 : Int32))).1) (by decide) (by decide) ?_
    show Steps p.tables e below (T5.setTop (mkF m 74 #[.val (.long pJ), .second, .val (.long q), .second, .val (.long r), .second, .val (.long (pJ &&& (9007199254740991 : Int64))), .second, .val (.ref b1), .val (.long q), .second, .unset, .unset] [])) _
    refine XS.aload X5.here hx rfl (hb hby at_74) rfl rfl ?_
    show Steps p.tables e below (T5.setTop (mkF m 76 #[.val (.long pJ), .second, .val (.long q), .second, .val (.long r), .second, .val (.long (pJ &&& (9007199254740991 : Int64))), .second, .val (.ref b1), .val (.long q), .second, .unset, .unset] [(.ref b1)])) _
    refine XS.lload X5.here hx rfl (hb hby at_76) rfl ?_
    show Steps p.tables e below (T5.setTop (mkF m 78 #[.val (.long pJ), .second, .val (.long q), .second, .val (.long r), .second, .val (.long (pJ &&& (9007199254740991 : Int64))), .second, .val (.ref b1), .val (.long q), .second, .unset, .unset] [(.long r), (.ref b1)])) _
    refine st6.trans ?_
    show Steps p.tables e below (T6.setTop (mkF m 81 #[.val (.long pJ), .second, .val (.long q), .second, .val (.long r), .second, .val (.long (pJ &&& (9007199254740991 : Int64))), .second, .val (.ref b1), .val (.long q), .second, .unset, .unset] [])) _
    refine XS.lload X6.here hx rfl (hb hby at_81) rfl ?_
    show Steps p.tables e below (T6.setTop (mkF m 83 #[.val (.long pJ), .second, .val (.long q), .second, .val (.long r), .second, .val (.long (pJ &&& (9007199254740991 : Int64))), .second, .val (.ref b1), .val (.long q), .second, .unset, .unset] [(.long q)])) _
    refine XS.lstore X6.here hx rfl (hb hby at_83) rfl (l' := #[.val (.long pJ), .second, .val (.long q), .second, .val (.long r), .second, .val (.long (pJ &&& (9007199254740991 : Int64))), .second, .val (.ref b1), .val (.long q), .second, .val (.long q), .second]) rfl ?_
    show Steps p.tables e below (T6.setTop (mkF m 85 #[.val (.long pJ), .second, .val (.long q), .second, .val (.long r), .second, .val (.long (pJ &&& (9007199254740991 : Int64))), .second, .val (.ref b1), .val (.long q), .second, .val (.long q), .second] [])) _
    refine XS.lload X6.here hx rfl (hb hby at_85) rfl ?_
    show Steps p.tables e below (T6.setTop (mkF m 87 #[.val (.long pJ), .second, .val (.long q), .second, .val (.long r), .second, .val (.long (pJ &&& (9007199254740991 : Int64))), .second, .val (.ref b1), .val (.long q), .second, .val (.long q), .second] [(.long r)])) _
    refine XS.lload X6.here hx rfl (hb hby at_87) rfl ?_
    show Steps p.tables e below (T6.setTop (mkF m 89 #[.val (.long pJ), .second, .val (.long q), .second, .val (.long r), .second, .val (.long (pJ &&& (9007199254740991 : Int64))), .second, .val (.ref b1), .val (.long q), .second, .val (.long q), .second] [(.long q), (.long r)])) _
    refine XS.lcmp X6.here hx rfl (hb hby at_89) rfl ?_
    show Steps p.tables e below (T6.setTop (mkF m 90 #[.val (.long pJ), .second, .val (.long q), .second, .val (.long r), .second, .val (.long (pJ &&& (9007199254740991 : Int64))), .second, .val (.ref b1), .val (.long q), .second, .val (.long q), .second] [(.int (lcmpW r q))])) _
    refine XS.ifYes X6.here hx rfl (pc0 := 90) (pc' := 97) rfl (hb hby at_90) rfl ((if0 _ _).trans (flt hc90).2.2.2) (by decide) (by decide) ?_
    show Steps p.tables e below (T6.setTop (mkF m 97 #[.val (.long pJ), .second, .val (.long q), .second, .val (.long r), .second, .val (.long (pJ &&& (9007199254740991 : Int64))), .second, .val (.ref b1), .val (.long q), .second, .val (.long q), .second] [])) _
    refine XS.aload X6.here hx rfl (hb hby at_97) rfl rfl ?_
    show Steps p.tables e below (T6.setTop (mkF m 99 #[.val (.long pJ), .second, .val (.long q), .second, .val (.long r), .second, .val (.long (pJ &&& (9007199254740991 : Int64))), .second, .val (.ref b1), .val (.long q), .second, .val (.long q), .second] [(.ref b1)])) _
    refine st7.trans ?_
    show Steps p.tables e below (T7.setTop (mkF m 102 #[.val (.long pJ), .second, .val (.long q), .second, .val (.long r), .second, .val (.long (pJ &&& (9007199254740991 : Int64))), .second, .val (.ref b1), .val (.long q), .second, .val (.long q), .second] [(.long (own_max (own_max (pJ &&& (9007199254740991 : Int64)) q) r))])) _
    refine XS.lload X7.here hx rfl (hb hby at_102) rfl ?_
    show Steps p.tables e below (T7.setTop (mkF m 104 #[.val (.long pJ), .second, .val (.long q), .second, .val (.long r), .second, .val (.long (pJ &&& (9007199254740991 : Int64))), .second, .val (.ref b1), .val (.long q), .second, .val (.long q), .second] [(.long q), (.long (own_max (own_max (pJ &&& (9007199254740991 : Int64)) q) r))])) _
    refine XS.lcmp X7.here hx rfl (hb hby at_104) rfl ?_
    show Steps p.tables e below (T7.setTop (mkF m 105 #[.val (.long pJ), .second, .val (.long q), .second, .val (.long r), .second, .val (.long (pJ &&& (9007199254740991 : Int64))), .second, .val (.ref b1), .val (.long q), .second, .val (.long q), .second] [(.int (lcmpW (own_max (own_max (pJ &&& (9007199254740991 : Int64)) q) r) q))])) _
    refine XS.ifNo X7.here hx rfl (hb hby at_105) rfl ((if0 _ _).trans (teq ((lw_eq _ _).mpr (by rw [own_max_gt hc55]; exact own_max_le hc90) : (lcmpW (own_max (own_max (pJ &&& (9007199254740991 : Int64)) q) r) q) = (0 : Int32))).2) ?_
    show Steps p.tables e below (T7.setTop (mkF m 108 #[.val (.long pJ), .second, .val (.long q), .second, .val (.long r), .second, .val (.long (pJ &&& (9007199254740991 : Int64))), .second, .val (.ref b1), .val (.long q), .second, .val (.long q), .second] [])) _
    refine XS.iconst X7.here hx rfl (hb hby at_108) ?_
    show Steps p.tables e below (T7.setTop (mkF m 109 #[.val (.long pJ), .second, .val (.long q), .second, .val (.long r), .second, .val (.long (pJ &&& (9007199254740991 : Int64))), .second, .val (.ref b1), .val (.long q), .second, .val (.long q), .second] [(.int (1 : Int32))])) _
    refine XS.goto X7.here hx rfl (pc0 := 109) (pc' := 113) rfl (hb hby at_109) (by decide) (by decide) ?_
    show Steps p.tables e below (T7.setTop (mkF m 113 #[.val (.long pJ), .second, .val (.long q), .second, .val (.long r), .second, .val (.long (pJ &&& (9007199254740991 : Int64))), .second, .val (.ref b1), .val (.long q), .second, .val (.long q), .second] [(.int (1 : Int32))])) _
    exact retN X7 hx (t := .boolean) Bd.returns (by simp) (hb hby at_113) hr
  · show Qd10 Z pJ q r h0 n0 _ T7.heap _
    rw [e7]
    exact ⟨rfl, N7⟩
set_option maxRecDepth 65536 in
set_option maxHeartbeats 40000000 in
theorem rm0ttf (l : Launch) (Z : State) (a0 : Array Value) (hw : ∀ d ∈ tables_1, d.before a0 Z = true) (ws : List Jvm.Cond) (pJ q r : Int64) (h0 : Heap) (n0 : Nat) (O0 : Old Z n0 h0) (hc11 : ¬ ((lcmpW (pJ &&& (9007199254740991 : Int64)) (0 : Int64)) = (0 : Int32))) (hc55 : ¬ ((0 : Int32) < (lcmpW q (pJ &&& (9007199254740991 : Int64))))) (hc90 : (0 : Int32) < (lcmpW r (pJ &&& (9007199254740991 : Int64)))) :
    MetFree l x (head1 (Jvm.Cond.code x code maxLocals ret :: ws) room_1) (fun qq U => qq = #[(.long pJ), (.long q), (.long r)] ∧ Z.Warmed39 U.vm ∧ U.heap = h0) (fun _ _ _ _ _ => True) (fun _ UU oo UU' => ∃ vv LL, oo = .returned vv ∧ Qd10 Z pJ q r h0 n0 vv UU'.heap LL ∧ FrameEnd UU oo UU' LL room_1.cells room_1.slots) := by
  refine MetFree.of_bodySF (plainFor_of_name pn_0) hisR ?_
  intro p e s m args below meth c s₁ Bd hml0 hP hK
  obtain ⟨rfl, hZ, hh⟩ := hP
  have hx := Bd.exec
  have hby := Bd.bytes
  have hml : c.maxLocals = 13 := hml0
  have hown : s.vm.findClass "com/example/riverside/riverside/ArbiterAdvanceFencesPinLaw" = some m.cls := findClass_of_methodNamed Bd.named
  have hnm := (name_of_methodNamed Bd.named Bd.method).1
  have X0 : Stand p l e room_1 s m #[(.long pJ), (.long q), (.long r)] below meth c s₁ [] 0 0 := Stand.of_body Bd
  have e0 : s₁.heap = h0 := by rw [← hh, Bd.state]; rfl
  have N0 := Fr.nil n0
  have pre0 : ∀ t, Steps p.tables e below (s₁.setTop (mkF m 0 #[.val (.long pJ), .second, .val (.long q), .second, .val (.long r), .second, .unset, .unset, .unset, .unset, .unset, .unset, .unset] [])) t → Steps p.tables e below (s₁.setTop (entryFrame m #[(.long pJ), (.long q), (.long r)] maxLocals)) t := fun t k => castTop (ef_0 m pJ q r) k
  obtain ⟨T1, h1, X1, e1, E1, A1, D1, -, st1⟩ := newO X0 hx hZ hown (hw _ (List.mem_of_getElem? (i := 1) rfl)) (hw _ (List.mem_of_getElem? (i := 2) rfl)) (hw _ (List.mem_of_getElem? (i := 3) rfl)) e0 (g := (mkF m 17 #[.val (.long pJ), .second, .val (.long q), .second, .val (.long r), .second, .val (.long (pJ &&& (9007199254740991 : Int64))), .second, .unset, .unset, .unset, .unset, .unset] [])) rfl (hb hby at_17) (by decide) (by decide)
  obtain ⟨b1, q1⟩ : ∃ z, z = h0.size := ⟨_, rfl⟩
  rw [← q1] at A1 D1 st1
  have g_b1 : n0 ≤ b1 := by rw [q1]; exact (O0).1 ▸ (O0).2.1
  have O1 := Old.ext O0 E1
  have F1_keys : Fld Z h1 b1 "com/example/riverside/riverside/Arbiter" "keys" "Ljava/util/Map;" .null := D1 (Or.inr (hw _ (List.mem_of_getElem? (i := 27) rfl))) (ty := (.object "java/util/Map")) (by decide)
  have F1_openKeys : Fld Z h1 b1 "com/example/riverside/riverside/Arbiter" "openKeys" "Ljava/util/Map;" .null := D1 (Or.inr (hw _ (List.mem_of_getElem? (i := 29) rfl))) (ty := (.object "java/util/Map")) (by decide)
  have F1_blocked : Fld Z h1 b1 "com/example/riverside/riverside/Arbiter" "blocked" "Ljava/util/Set;" .null := D1 (Or.inr (hw _ (List.mem_of_getElem? (i := 92) rfl))) (ty := (.object "java/util/Set")) (by decide)
  have F1_fenceLimit : Fld Z h1 b1 "com/example/riverside/riverside/Arbiter" "fenceLimit" "Ljava/util/function/LongSupplier;" .null := D1 (Or.inl (hw _ (List.mem_of_getElem? (i := 97) rfl))) (ty := (.object "java/util/function/LongSupplier")) (by decide)
  have F1_nextFence : Fld Z h1 b1 "com/example/riverside/riverside/Arbiter" "nextFence" "J" (.long (0 : Int64)) := D1 (Or.inl (hw _ (List.mem_of_getElem? (i := 100) rfl))) (ty := .long) (by decide)
  obtain ⟨_, _, ⟨T2, L2, k2, n2⟩, -, X2, ⟨Lc2, hQ2, l2, y2, z2⟩, st2⟩ := X1.specialBack hx (y := (⟨"com/example/riverside/riverside/Arbiter", "<init>", "(J)V"⟩ : MethodName)) rfl hown (mvT hZ (hw _ (List.mem_of_getElem? (i := 4) rfl))) (mvT hZ (hw _ (List.mem_of_getElem? (i := 5) rfl))) (mvT hZ (hw _ (List.mem_of_getElem? (i := 6) rfl))) (by decide) (backOf (W := 1) (rmAR l Z a0 hw [] b1 (pJ &&& (9007199254740991 : Int64)) h1 n0 O1 g_b1 A1 F1_keys F1_openKeys F1_blocked F1_fenceLimit F1_nextFence (own_f hc11).1 (own_f hc11).2) hZ (hw _ (List.mem_of_getElem? (i := 6) rfl)) (hw _ (List.mem_of_getElem? (i := 3) rfl)) (by decide) (by decide)) (g := (mkF m 23 #[.val (.long pJ), .second, .val (.long q), .second, .val (.long r), .second, .val (.long (pJ &&& (9007199254740991 : Int64))), .second, .unset, .unset, .unset, .unset, .unset] [(.long (pJ &&& (9007199254740991 : Int64))), (.ref b1), (.ref b1)])) rfl (by rw [hml]; rfl) (Steps.refl _) (a := b1) (argsL := [(.long (pJ &&& (9007199254740991 : Int64)))]) (rest := [(.ref b1)]) (lenOf own_pd6 rfl) rfl (by show 2 * 0 + _ ≤ _; exact Nat.le_of_eq rfl) (hb hby at_23) (fun _ _ => ⟨rfl, e1, (by decide : 1 + 4 ≤ _), (by decide : 5 + 29 ≤ _)⟩)
  dsimp only [Pt.U, Pt.locs, Pt.cells, Pt.slots] at X2 l2 y2 z2 st2 hQ2
  subst l2 y2 z2
  obtain ⟨rfl, N2q, KK2, f2_0⟩ := hQ2
  have N2 := Fr.app N0 N2q
  have O2 := Old.keep O1 KK2 (allS g_b1 all0)
  obtain ⟨cq3, kq3, q3a, q3b, q3c⟩ := isOf hZ rfl (A1.keep KK2)
  obtain ⟨_, _, ⟨T3, L3, k3, n3⟩, -, X3, ⟨Lc3, hQ3, l3, y3, z3⟩, st3⟩ := X2.virtualBack hx (y := (⟨"com/example/riverside/riverside/Arbiter", "nextFence", "()J"⟩ : MethodName)) (z := (⟨"com/example/riverside/riverside/Arbiter", "nextFence", "()J"⟩ : MethodName)) hown (mvT hZ (hw _ (List.mem_of_getElem? (i := 101) rfl))) (mvT hZ (hw _ (List.mem_of_getElem? (i := 102) rfl))) (notFace_of_selects (args := #[]) (mvT hZ (hw _ (List.mem_of_getElem? (i := 104) rfl)))) (mvT hZ (hw _ (List.mem_of_getElem? (i := 104) rfl))) (mvT hZ (hw _ (List.mem_of_getElem? (i := 103) rfl))) (by decide) (backOf (W := 0) (rmNF l Z a0 hw [] b1 (pJ &&& (9007199254740991 : Int64)) T2.heap n0 f2_0) hZ (hw _ (List.mem_of_getElem? (i := 105) rfl)) (hw _ (List.mem_of_getElem? (i := 3) rfl)) (by decide) (by decide)) q3a q3c (g := (mkF m 30 #[.val (.long pJ), .second, .val (.long q), .second, .val (.long r), .second, .val (.long (pJ &&& (9007199254740991 : Int64))), .second, .val (.ref b1), .unset, .unset, .unset, .unset] [(.ref b1)])) rfl (by rw [hml]; rfl) (Steps.refl _) (argsL := []) (rest := []) (lenOf own_pd7 rfl) rfl (by show 2 * 0 + _ ≤ _; exact Nat.le_of_eq rfl) (hb hby at_30) (fun _ _ => ⟨rfl, rfl, (by decide : 5 + 0 ≤ _), (by decide : 34 + 0 ≤ _)⟩)
  dsimp only [Pt.U, Pt.locs, Pt.cells, Pt.slots] at X3 l3 y3 z3 st3 hQ3
  subst l3 y3 z3
  obtain ⟨rfl, N3q, e3⟩ := hQ3
  have N3 := Fr.app N2 N3q
  obtain ⟨cq4, kq4, q4a, q4b, q4c⟩ := isOf hZ e3 (A1.keep KK2)
  obtain ⟨_, _, ⟨T4, L4, k4, n4⟩, -, X4, ⟨Lc4, hQ4, l4, y4, z4⟩, st4⟩ := X3.virtualBack hx (y := (⟨"com/example/riverside/riverside/Arbiter", "advanceFences", "(J)V"⟩ : MethodName)) (z := (⟨"com/example/riverside/riverside/Arbiter", "advanceFences", "(J)V"⟩ : MethodName)) hown (mvT hZ (hw _ (List.mem_of_getElem? (i := 106) rfl))) (mvT hZ (hw _ (List.mem_of_getElem? (i := 107) rfl))) (notFace_of_selects (args := #[]) (mvT hZ (hw _ (List.mem_of_getElem? (i := 109) rfl)))) (mvT hZ (hw _ (List.mem_of_getElem? (i := 109) rfl))) (mvT hZ (hw _ (List.mem_of_getElem? (i := 108) rfl))) (by decide) (backOf (W := 0) (rmAV l Z a0 hw [] b1 q (pJ &&& (9007199254740991 : Int64)) T2.heap n0 O2 g_b1 (A1.keep KK2) f2_0) hZ (hw _ (List.mem_of_getElem? (i := 110) rfl)) (hw _ (List.mem_of_getElem? (i := 3) rfl)) (by decide) (by decide)) q4a q4c (g := (mkF m 44 #[.val (.long pJ), .second, .val (.long q), .second, .val (.long r), .second, .val (.long (pJ &&& (9007199254740991 : Int64))), .second, .val (.ref b1), .unset, .unset, .unset, .unset] [(.long q), (.ref b1)])) rfl (by rw [hml]; rfl) (Steps.refl _) (argsL := [(.long q)]) (rest := []) (lenOf own_pd6 rfl) rfl (by show 2 * 0 + _ ≤ _; exact Nat.le_of_eq rfl) (hb hby at_44) (fun _ _ => ⟨rfl, e3, (by decide : 5 + 0 ≤ _), (by decide : 34 + 0 ≤ _)⟩)
  dsimp only [Pt.U, Pt.locs, Pt.cells, Pt.slots] at X4 l4 y4 z4 st4 hQ4
  subst l4 y4 z4
  obtain ⟨rfl, N4q, KK4, f4_0⟩ := hQ4
  have N4 := Fr.app N3 N4q
  have O4 := Old.keep O2 KK4 (allS g_b1 all0)
  obtain ⟨cq5, kq5, q5a, q5b, q5c⟩ := isOf hZ rfl ((A1.keep KK2).keep KK4)
  obtain ⟨_, _, ⟨T5, L5, k5, n5⟩, -, X5, ⟨Lc5, hQ5, l5, y5, z5⟩, st5⟩ := X4.virtualBack hx (y := (⟨"com/example/riverside/riverside/Arbiter", "nextFence", "()J"⟩ : MethodName)) (z := (⟨"com/example/riverside/riverside/Arbiter", "nextFence", "()J"⟩ : MethodName)) hown (mvT hZ (hw _ (List.mem_of_getElem? (i := 101) rfl))) (mvT hZ (hw _ (List.mem_of_getElem? (i := 102) rfl))) (notFace_of_selects (args := #[]) (mvT hZ (hw _ (List.mem_of_getElem? (i := 104) rfl)))) (mvT hZ (hw _ (List.mem_of_getElem? (i := 104) rfl))) (mvT hZ (hw _ (List.mem_of_getElem? (i := 103) rfl))) (by decide) (backOf (W := 0) (rmNF l Z a0 hw [] b1 (own_max (pJ &&& (9007199254740991 : Int64)) q) T4.heap n0 f4_0) hZ (hw _ (List.mem_of_getElem? (i := 105) rfl)) (hw _ (List.mem_of_getElem? (i := 3) rfl)) (by decide) (by decide)) q5a q5c (g := (mkF m 63 #[.val (.long pJ), .second, .val (.long q), .second, .val (.long r), .second, .val (.long (pJ &&& (9007199254740991 : Int64))), .second, .val (.ref b1), .val (.long (pJ &&& (9007199254740991 : Int64))), .second, .unset, .unset] [(.ref b1)])) rfl (by rw [hml]; rfl) (Steps.refl _) (argsL := []) (rest := []) (lenOf own_pd7 rfl) rfl (by show 2 * 0 + _ ≤ _; exact Nat.le_of_eq rfl) (hb hby at_63) (fun _ _ => ⟨rfl, rfl, (by decide : 5 + 0 ≤ _), (by decide : 34 + 0 ≤ _)⟩)
  dsimp only [Pt.U, Pt.locs, Pt.cells, Pt.slots] at X5 l5 y5 z5 st5 hQ5
  subst l5 y5 z5
  obtain ⟨rfl, N5q, e5⟩ := hQ5
  have N5 := Fr.app N4 N5q
  obtain ⟨cq6, kq6, q6a, q6b, q6c⟩ := isOf hZ e5 ((A1.keep KK2).keep KK4)
  obtain ⟨_, _, ⟨T6, L6, k6, n6⟩, -, X6, ⟨Lc6, hQ6, l6, y6, z6⟩, st6⟩ := X5.virtualBack hx (y := (⟨"com/example/riverside/riverside/Arbiter", "advanceFences", "(J)V"⟩ : MethodName)) (z := (⟨"com/example/riverside/riverside/Arbiter", "advanceFences", "(J)V"⟩ : MethodName)) hown (mvT hZ (hw _ (List.mem_of_getElem? (i := 106) rfl))) (mvT hZ (hw _ (List.mem_of_getElem? (i := 107) rfl))) (notFace_of_selects (args := #[]) (mvT hZ (hw _ (List.mem_of_getElem? (i := 109) rfl)))) (mvT hZ (hw _ (List.mem_of_getElem? (i := 109) rfl))) (mvT hZ (hw _ (List.mem_of_getElem? (i := 108) rfl))) (by decide) (backOf (W := 0) (rmAV l Z a0 hw [] b1 r (own_max (pJ &&& (9007199254740991 : Int64)) q) T4.heap n0 O4 g_b1 ((A1.keep KK2).keep KK4) f4_0) hZ (hw _ (List.mem_of_getElem? (i := 110) rfl)) (hw _ (List.mem_of_getElem? (i := 3) rfl)) (by decide) (by decide)) q6a q6c (g := (mkF m 78 #[.val (.long pJ), .second, .val (.long q), .second, .val (.long r), .second, .val (.long (pJ &&& (9007199254740991 : Int64))), .second, .val (.ref b1), .val (.long (pJ &&& (9007199254740991 : Int64))), .second, .unset, .unset] [(.long r), (.ref b1)])) rfl (by rw [hml]; rfl) (Steps.refl _) (argsL := [(.long r)]) (rest := []) (lenOf own_pd6 rfl) rfl (by show 2 * 0 + _ ≤ _; exact Nat.le_of_eq rfl) (hb hby at_78) (fun _ _ => ⟨rfl, e5, (by decide : 5 + 0 ≤ _), (by decide : 34 + 0 ≤ _)⟩)
  dsimp only [Pt.U, Pt.locs, Pt.cells, Pt.slots] at X6 l6 y6 z6 st6 hQ6
  subst l6 y6 z6
  obtain ⟨rfl, N6q, KK6, f6_0⟩ := hQ6
  have N6 := Fr.app N5 N6q
  have O6 := Old.keep O4 KK6 (allS g_b1 all0)
  obtain ⟨cq7, kq7, q7a, q7b, q7c⟩ := isOf hZ rfl (((A1.keep KK2).keep KK4).keep KK6)
  obtain ⟨_, _, ⟨T7, L7, k7, n7⟩, -, X7, ⟨Lc7, hQ7, l7, y7, z7⟩, st7⟩ := X6.virtualBack hx (y := (⟨"com/example/riverside/riverside/Arbiter", "nextFence", "()J"⟩ : MethodName)) (z := (⟨"com/example/riverside/riverside/Arbiter", "nextFence", "()J"⟩ : MethodName)) hown (mvT hZ (hw _ (List.mem_of_getElem? (i := 101) rfl))) (mvT hZ (hw _ (List.mem_of_getElem? (i := 102) rfl))) (notFace_of_selects (args := #[]) (mvT hZ (hw _ (List.mem_of_getElem? (i := 104) rfl)))) (mvT hZ (hw _ (List.mem_of_getElem? (i := 104) rfl))) (mvT hZ (hw _ (List.mem_of_getElem? (i := 103) rfl))) (by decide) (backOf (W := 0) (rmNF l Z a0 hw [] b1 (own_max (own_max (pJ &&& (9007199254740991 : Int64)) q) r) T6.heap n0 f6_0) hZ (hw _ (List.mem_of_getElem? (i := 105) rfl)) (hw _ (List.mem_of_getElem? (i := 3) rfl)) (by decide) (by decide)) q7a q7c (g := (mkF m 99 #[.val (.long pJ), .second, .val (.long q), .second, .val (.long r), .second, .val (.long (pJ &&& (9007199254740991 : Int64))), .second, .val (.ref b1), .val (.long (pJ &&& (9007199254740991 : Int64))), .second, .val (.long r), .second] [(.ref b1)])) rfl (by rw [hml]; rfl) (Steps.refl _) (argsL := []) (rest := []) (lenOf own_pd7 rfl) rfl (by show 2 * 0 + _ ≤ _; exact Nat.le_of_eq rfl) (hb hby at_99) (fun _ _ => ⟨rfl, rfl, (by decide : 5 + 0 ≤ _), (by decide : 34 + 0 ≤ _)⟩)
  dsimp only [Pt.U, Pt.locs, Pt.cells, Pt.slots] at X7 l7 y7 z7 st7 hQ7
  subst l7 y7 z7
  obtain ⟨rfl, N7q, e7⟩ := hQ7
  have N7 := Fr.app N6 N7q
  obtain ⟨fs, hr, hrun, hended, hW, hsame⟩ := X7.leave (v := some (.int (1 : Int32))) (fun h => by rw [Bd.returns] at h; cases h)
  refine ⟨_, _, pre0 _ ?_, hrun, hended, _, _, rfl, ?_, ⟨_, rfl⟩, hW, hsame.mono (by decide) (by decide)⟩
  · show Steps p.tables e below (s₁.setTop (mkF m 0 #[.val (.long pJ), .second, .val (.long q), .second, .val (.long r), .second, .unset, .unset, .unset, .unset, .unset, .unset, .unset] [])) _
    refine XS.lloadN X0.here hx rfl (hb hby at_0) rfl ?_
    show Steps p.tables e below (s₁.setTop (mkF m 1 #[.val (.long pJ), .second, .val (.long q), .second, .val (.long r), .second, .unset, .unset, .unset, .unset, .unset, .unset, .unset] [(.long pJ)])) _
    refine X0.ldc2Long hx hown (mvT hZ (hw _ (List.mem_of_getElem? (i := 0) rfl))) (g := (mkF m 1 #[.val (.long pJ), .second, .val (.long q), .second, .val (.long r), .second, .unset, .unset, .unset, .unset, .unset, .unset, .unset] [(.long pJ)])) rfl (hb hby at_1) _ ?_
    show Steps p.tables e below (s₁.setTop (mkF m 4 #[.val (.long pJ), .second, .val (.long q), .second, .val (.long r), .second, .unset, .unset, .unset, .unset, .unset, .unset, .unset] [(.long (9007199254740991 : Int64)), (.long pJ)])) _
    refine XS.land X0.here hx rfl (hb hby at_4) rfl ?_
    show Steps p.tables e below (s₁.setTop (mkF m 5 #[.val (.long pJ), .second, .val (.long q), .second, .val (.long r), .second, .unset, .unset, .unset, .unset, .unset, .unset, .unset] [(.long (pJ &&& (9007199254740991 : Int64)))])) _
    refine XS.lstore X0.here hx rfl (hb hby at_5) rfl (l' := #[.val (.long pJ), .second, .val (.long q), .second, .val (.long r), .second, .val (.long (pJ &&& (9007199254740991 : Int64))), .second, .unset, .unset, .unset, .unset, .unset]) rfl ?_
    show Steps p.tables e below (s₁.setTop (mkF m 7 #[.val (.long pJ), .second, .val (.long q), .second, .val (.long r), .second, .val (.long (pJ &&& (9007199254740991 : Int64))), .second, .unset, .unset, .unset, .unset, .unset] [])) _
    refine XS.lload X0.here hx rfl (hb hby at_7) rfl ?_
    show Steps p.tables e below (s₁.setTop (mkF m 9 #[.val (.long pJ), .second, .val (.long q), .second, .val (.long r), .second, .val (.long (pJ &&& (9007199254740991 : Int64))), .second, .unset, .unset, .unset, .unset, .unset] [(.long (pJ &&& (9007199254740991 : Int64)))])) _
    refine XS.lconst X0.here hx rfl (hb hby at_9) ?_
    show Steps p.tables e below (s₁.setTop (mkF m 10 #[.val (.long pJ), .second, .val (.long q), .second, .val (.long r), .second, .val (.long (pJ &&& (9007199254740991 : Int64))), .second, .unset, .unset, .unset, .unset, .unset] [(.long (0 : Int64)), (.long (pJ &&& (9007199254740991 : Int64)))])) _
    refine XS.lcmp X0.here hx rfl (hb hby at_10) rfl ?_
    show Steps p.tables e below (s₁.setTop (mkF m 11 #[.val (.long pJ), .second, .val (.long q), .second, .val (.long r), .second, .val (.long (pJ &&& (9007199254740991 : Int64))), .second, .unset, .unset, .unset, .unset, .unset] [(.int (lcmpW (pJ &&& (9007199254740991 : Int64)) (0 : Int64)))])) _
    refine XS.ifYes X0.here hx rfl (pc0 := 11) (pc' := 17) rfl (hb hby at_11) rfl ((if0 _ _).trans (feq hc11).2) (by decide) (by decide) ?_
    show Steps p.tables e below (s₁.setTop (mkF m 17 #[.val (.long pJ), .second, .val (.long q), .second, .val (.long r), .second, .val (.long (pJ &&& (9007199254740991 : Int64))), .second, .unset, .unset, .unset, .unset, .unset] [])) _
    refine st1 _ ?_
    show Steps p.tables e below (T1.setTop (mkF m 20 #[.val (.long pJ), .second, .val (.long q), .second, .val (.long r), .second, .val (.long (pJ &&& (9007199254740991 : Int64))), .second, .unset, .unset, .unset, .unset, .unset] [(.ref b1)])) _
    refine XS.dup X1.here hx rfl (hb hby at_20) rfl rfl ?_
    show Steps p.tables e below (T1.setTop (mkF m 21 #[.val (.long pJ), .second, .val (.long q), .second, .val (.long r), .second, .val (.long (pJ &&& (9007199254740991 : Int64))), .second, .unset, .unset, .unset, .unset, .unset] [(.ref b1), (.ref b1)])) _
    refine XS.lload X1.here hx rfl (hb hby at_21) rfl ?_
    show Steps p.tables e below (T1.setTop (mkF m 23 #[.val (.long pJ), .second, .val (.long q), .second, .val (.long r), .second, .val (.long (pJ &&& (9007199254740991 : Int64))), .second, .unset, .unset, .unset, .unset, .unset] [(.long (pJ &&& (9007199254740991 : Int64))), (.ref b1), (.ref b1)])) _
    refine st2.trans ?_
    show Steps p.tables e below (T2.setTop (mkF m 26 #[.val (.long pJ), .second, .val (.long q), .second, .val (.long r), .second, .val (.long (pJ &&& (9007199254740991 : Int64))), .second, .unset, .unset, .unset, .unset, .unset] [(.ref b1)])) _
    refine XS.astore X2.here hx rfl (hb hby at_26) rfl rfl (l' := #[.val (.long pJ), .second, .val (.long q), .second, .val (.long r), .second, .val (.long (pJ &&& (9007199254740991 : Int64))), .second, .val (.ref b1), .unset, .unset, .unset, .unset]) rfl ?_
    show Steps p.tables e below (T2.setTop (mkF m 28 #[.val (.long pJ), .second, .val (.long q), .second, .val (.long r), .second, .val (.long (pJ &&& (9007199254740991 : Int64))), .second, .val (.ref b1), .unset, .unset, .unset, .unset] [])) _
    refine XS.aload X2.here hx rfl (hb hby at_28) rfl rfl ?_
    show Steps p.tables e below (T2.setTop (mkF m 30 #[.val (.long pJ), .second, .val (.long q), .second, .val (.long r), .second, .val (.long (pJ &&& (9007199254740991 : Int64))), .second, .val (.ref b1), .unset, .unset, .unset, .unset] [(.ref b1)])) _
    refine st3.trans ?_
    show Steps p.tables e below (T3.setTop (mkF m 33 #[.val (.long pJ), .second, .val (.long q), .second, .val (.long r), .second, .val (.long (pJ &&& (9007199254740991 : Int64))), .second, .val (.ref b1), .unset, .unset, .unset, .unset] [(.long (pJ &&& (9007199254740991 : Int64)))])) _
    refine XS.lload X3.here hx rfl (hb hby at_33) rfl ?_
    show Steps p.tables e below (T3.setTop (mkF m 35 #[.val (.long pJ), .second, .val (.long q), .second, .val (.long r), .second, .val (.long (pJ &&& (9007199254740991 : Int64))), .second, .val (.ref b1), .unset, .unset, .unset, .unset] [(.long (pJ &&& (9007199254740991 : Int64))), (.long (pJ &&& (9007199254740991 : Int64)))])) _
    refine XS.lcmp X3.here hx rfl (hb hby at_35) rfl ?_
    show Steps p.tables e below (T3.setTop (mkF m 36 #[.val (.long pJ), .second, .val (.long q), .second, .val (.long r), .second, .val (.long (pJ &&& (9007199254740991 : Int64))), .second, .val (.ref b1), .unset, .unset, .unset, .unset] [(.int (lcmpW (pJ &&& (9007199254740991 : Int64)) (pJ &&& (9007199254740991 : Int64))))])) _
    refine XS.ifYes X3.here hx rfl (pc0 := 36) (pc' := 41) rfl (hb hby at_36) rfl ((if0 _ _).trans (teq ((lw_eq _ _).mpr rfl : (lcmpW (pJ &&& (9007199254740991 : Int64)) (pJ &&& (9007199254740991 : Int64))) = (0 : Int32))).1) (by decide) (by decide) ?_
    show Steps p.tables e below (T3.setTop (mkF m 41 #[.val (.long pJ), .second, .val (.long q), .second, .val (.long r), .second, .val (.long (pJ &&& (9007199254740991 : Int64))), .second, .val (.ref b1), .unset, .unset, .unset, .unset] [])) _
    refine XS.aload X3.here hx rfl (hb hby at_41) rfl rfl ?_
    show Steps p.tables e below (T3.setTop (mkF m 43 #[.val (.long pJ), .second, .val (.long q), .second, .val (.long r), .second, .val (.long (pJ &&& (9007199254740991 : Int64))), .second, .val (.ref b1), .unset, .unset, .unset, .unset] [(.ref b1)])) _
    refine XS.lloadN X3.here hx rfl (hb hby at_43) rfl ?_
    show Steps p.tables e below (T3.setTop (mkF m 44 #[.val (.long pJ), .second, .val (.long q), .second, .val (.long r), .second, .val (.long (pJ &&& (9007199254740991 : Int64))), .second, .val (.ref b1), .unset, .unset, .unset, .unset] [(.long q), (.ref b1)])) _
    refine st4.trans ?_
    show Steps p.tables e below (T4.setTop (mkF m 47 #[.val (.long pJ), .second, .val (.long q), .second, .val (.long r), .second, .val (.long (pJ &&& (9007199254740991 : Int64))), .second, .val (.ref b1), .unset, .unset, .unset, .unset] [])) _
    refine XS.lload X4.here hx rfl (hb hby at_47) rfl ?_
    show Steps p.tables e below (T4.setTop (mkF m 49 #[.val (.long pJ), .second, .val (.long q), .second, .val (.long r), .second, .val (.long (pJ &&& (9007199254740991 : Int64))), .second, .val (.ref b1), .unset, .unset, .unset, .unset] [(.long (pJ &&& (9007199254740991 : Int64)))])) _
    refine XS.lstore X4.here hx rfl (hb hby at_49) rfl (l' := #[.val (.long pJ), .second, .val (.long q), .second, .val (.long r), .second, .val (.long (pJ &&& (9007199254740991 : Int64))), .second, .val (.ref b1), .val (.long (pJ &&& (9007199254740991 : Int64))), .second, .unset, .unset]) rfl ?_
    show Steps p.tables e below (T4.setTop (mkF m 51 #[.val (.long pJ), .second, .val (.long q), .second, .val (.long r), .second, .val (.long (pJ &&& (9007199254740991 : Int64))), .second, .val (.ref b1), .val (.long (pJ &&& (9007199254740991 : Int64))), .second, .unset, .unset] [])) _
    refine XS.lloadN X4.here hx rfl (hb hby at_51) rfl ?_
    show Steps p.tables e below (T4.setTop (mkF m 52 #[.val (.long pJ), .second, .val (.long q), .second, .val (.long r), .second, .val (.long (pJ &&& (9007199254740991 : Int64))), .second, .val (.ref b1), .val (.long (pJ &&& (9007199254740991 : Int64))), .second, .unset, .unset] [(.long q)])) _
    refine XS.lload X4.here hx rfl (hb hby at_52) rfl ?_
    show Steps p.tables e below (T4.setTop (mkF m 54 #[.val (.long pJ), .second, .val (.long q), .second, .val (.long r), .second, .val (.long (pJ &&& (9007199254740991 : Int64))), .second, .val (.ref b1), .val (.long (pJ &&& (9007199254740991 : Int64))), .second, .unset, .unset] [(.long (pJ &&& (9007199254740991 : Int64))), (.long q)])) _
    refine XS.lcmp X4.here hx rfl (hb hby at_54) rfl ?_
    show Steps p.tables e below (T4.setTop (mkF m 55 #[.val (.long pJ), .second, .val (.long q), .second, .val (.long r), .second, .val (.long (pJ &&& (9007199254740991 : Int64))), .second, .val (.ref b1), .val (.long (pJ &&& (9007199254740991 : Int64))), .second, .unset, .unset] [(.int (lcmpW q (pJ &&& (9007199254740991 : Int64))))])) _
    refine XS.ifYes X4.here hx rfl (pc0 := 55) (pc' := 61) rfl (hb hby at_55) rfl ((if0 _ _).trans (flt hc55).2.2.2) (by decide) (by decide) ?_
    show Steps p.tables e below (T4.setTop (mkF m 61 #[.val (.long pJ), .second, .val (.long q), .second, .val (.long r), .second, .val (.long (pJ &&& (9007199254740991 : Int64))), .second, .val (.ref b1), .val (.long (pJ &&& (9007199254740991 : Int64))), .second, .unset, .unset] [])) _
    refine XS.aload X4.here hx rfl (hb hby at_61) rfl rfl ?_
    show Steps p.tables e below (T4.setTop (mkF m 63 #[.val (.long pJ), .second, .val (.long q), .second, .val (.long r), .second, .val (.long (pJ &&& (9007199254740991 : Int64))), .second, .val (.ref b1), .val (.long (pJ &&& (9007199254740991 : Int64))), .second, .unset, .unset] [(.ref b1)])) _
    refine st5.trans ?_
    show Steps p.tables e below (T5.setTop (mkF m 66 #[.val (.long pJ), .second, .val (.long q), .second, .val (.long r), .second, .val (.long (pJ &&& (9007199254740991 : Int64))), .second, .val (.ref b1), .val (.long (pJ &&& (9007199254740991 : Int64))), .second, .unset, .unset] [(.long (own_max (pJ &&& (9007199254740991 : Int64)) q))])) _
    refine XS.lload X5.here hx rfl (hb hby at_66) rfl ?_
    show Steps p.tables e below (T5.setTop (mkF m 68 #[.val (.long pJ), .second, .val (.long q), .second, .val (.long r), .second, .val (.long (pJ &&& (9007199254740991 : Int64))), .second, .val (.ref b1), .val (.long (pJ &&& (9007199254740991 : Int64))), .second, .unset, .unset] [(.long (pJ &&& (9007199254740991 : Int64))), (.long (own_max (pJ &&& (9007199254740991 : Int64)) q))])) _
    refine XS.lcmp X5.here hx rfl (hb hby at_68) rfl ?_
    show Steps p.tables e below (T5.setTop (mkF m 69 #[.val (.long pJ), .second, .val (.long q), .second, .val (.long r), .second, .val (.long (pJ &&& (9007199254740991 : Int64))), .second, .val (.ref b1), .val (.long (pJ &&& (9007199254740991 : Int64))), .second, .unset, .unset] [(.int (lcmpW (own_max (pJ &&& (9007199254740991 : Int64)) q) (pJ &&& (9007199254740991 : Int64))))])) _
    refine XS.ifYes X5.here hx rfl (pc0 := 69) (pc' := 74) rfl (hb hby at_69) rfl ((if0 _ _).trans (teq ((lw_eq _ _).mpr (own_max_le hc55) : (lcmpW (own_max (pJ &&& (9007199254740991 : Int64)) q) (pJ &&& (9007199254740991 : Int64))) = (0 : Int32))).1) (by decide) (by decide) ?_
    show Steps p.tables e below (T5.setTop (mkF m 74 #[.val (.long pJ), .second, .val (.long q), .second, .val (.long r), .second, .val (.long (pJ &&& (9007199254740991 : Int64))), .second, .val (.ref b1), .val (.long (pJ &&& (9007199254740991 : Int64))), .second, .unset, .unset] [])) _
    refine XS.aload X5.here hx rfl (hb hby at_74) rfl rfl ?_
    show Steps p.tables e below (T5.setTop (mkF m 76 #[.val (.long pJ), .second, .val (.long q), .second, .val (.long r), .second, .val (.long (pJ &&& (9007199254740991 : Int64))), .second, .val (.ref b1), .val (.long (pJ &&& (9007199254740991 : Int64))), .second, .unset, .unset] [(.ref b1)])) _
    refine XS.lload X5.here hx rfl (hb hby at_76) rfl ?_
    show Steps p.tables e below (T5.setTop (mkF m 78 #[.val (.long pJ), .second, .val (.long q), .second, .val (.long r), .second, .val (.long (pJ &&& (9007199254740991 : Int64))), .second, .val (.ref b1), .val (.long (pJ &&& (9007199254740991 : Int64))), .second, .unset, .unset] [(.long r), (.ref b1)])) _
    refine st6.trans ?_
    show Steps p.tables e below (T6.setTop (mkF m 81 #[.val (.long pJ), .second, .val (.long q), .second, .val (.long r), .second, .val (.long (pJ &&& (9007199254740991 : Int64))), .second, .val (.ref b1), .val (.long (pJ &&& (9007199254740991 : Int64))), .second, .unset, .unset] [])) _
    refine XS.lload X6.here hx rfl (hb hby at_81) rfl ?_
    show Steps p.tables e below (T6.setTop (mkF m 83 #[.val (.long pJ), .second, .val (.long q), .second, .val (.long r), .second, .val (.long (pJ &&& (9007199254740991 : Int64))), .second, .val (.ref b1), .val (.long (pJ &&& (9007199254740991 : Int64))), .second, .unset, .unset] [(.long (pJ &&& (9007199254740991 : Int64)))])) _
    refine XS.lstore X6.here hx rfl (hb hby at_83) rfl (l' := #[.val (.long pJ), .second, .val (.long q), .second, .val (.long r), .second, .val (.long (pJ &&& (9007199254740991 : Int64))), .second, .val (.ref b1), .val (.long (pJ &&& (9007199254740991 : Int64))), .second, .val (.long (pJ &&& (9007199254740991 : Int64))), .second]) rfl ?_
    show Steps p.tables e below (T6.setTop (mkF m 85 #[.val (.long pJ), .second, .val (.long q), .second, .val (.long r), .second, .val (.long (pJ &&& (9007199254740991 : Int64))), .second, .val (.ref b1), .val (.long (pJ &&& (9007199254740991 : Int64))), .second, .val (.long (pJ &&& (9007199254740991 : Int64))), .second] [])) _
    refine XS.lload X6.here hx rfl (hb hby at_85) rfl ?_
    show Steps p.tables e below (T6.setTop (mkF m 87 #[.val (.long pJ), .second, .val (.long q), .second, .val (.long r), .second, .val (.long (pJ &&& (9007199254740991 : Int64))), .second, .val (.ref b1), .val (.long (pJ &&& (9007199254740991 : Int64))), .second, .val (.long (pJ &&& (9007199254740991 : Int64))), .second] [(.long r)])) _
    refine XS.lload X6.here hx rfl (hb hby at_87) rfl ?_
    show Steps p.tables e below (T6.setTop (mkF m 89 #[.val (.long pJ), .second, .val (.long q), .second, .val (.long r), .second, .val (.long (pJ &&& (9007199254740991 : Int64))), .second, .val (.ref b1), .val (.long (pJ &&& (9007199254740991 : Int64))), .second, .val (.long (pJ &&& (9007199254740991 : Int64))), .second] [(.long (pJ &&& (9007199254740991 : Int64))), (.long r)])) _
    refine XS.lcmp X6.here hx rfl (hb hby at_89) rfl ?_
    show Steps p.tables e below (T6.setTop (mkF m 90 #[.val (.long pJ), .second, .val (.long q), .second, .val (.long r), .second, .val (.long (pJ &&& (9007199254740991 : Int64))), .second, .val (.ref b1), .val (.long (pJ &&& (9007199254740991 : Int64))), .second, .val (.long (pJ &&& (9007199254740991 : Int64))), .second] [(.int (lcmpW r (pJ &&& (9007199254740991 : Int64))))])) _
    refine XS.ifNo X6.here hx rfl (hb hby at_90) rfl ((if0 _ _).trans (tlt hc90).2.2.2) ?_
    show Steps p.tables e below (T6.setTop (mkF m 93 #[.val (.long pJ), .second, .val (.long q), .second, .val (.long r), .second, .val (.long (pJ &&& (9007199254740991 : Int64))), .second, .val (.ref b1), .val (.long (pJ &&& (9007199254740991 : Int64))), .second, .val (.long (pJ &&& (9007199254740991 : Int64))), .second] [])) _
    refine XS.lload X6.here hx rfl (hb hby at_93) rfl ?_
    show Steps p.tables e below (T6.setTop (mkF m 95 #[.val (.long pJ), .second, .val (.long q), .second, .val (.long r), .second, .val (.long (pJ &&& (9007199254740991 : Int64))), .second, .val (.ref b1), .val (.long (pJ &&& (9007199254740991 : Int64))), .second, .val (.long (pJ &&& (9007199254740991 : Int64))), .second] [(.long r)])) _
    refine XS.lstore X6.here hx rfl (hb hby at_95) rfl (l' := #[.val (.long pJ), .second, .val (.long q), .second, .val (.long r), .second, .val (.long (pJ &&& (9007199254740991 : Int64))), .second, .val (.ref b1), .val (.long (pJ &&& (9007199254740991 : Int64))), .second, .val (.long r), .second]) rfl ?_
    show Steps p.tables e below (T6.setTop (mkF m 97 #[.val (.long pJ), .second, .val (.long q), .second, .val (.long r), .second, .val (.long (pJ &&& (9007199254740991 : Int64))), .second, .val (.ref b1), .val (.long (pJ &&& (9007199254740991 : Int64))), .second, .val (.long r), .second] [])) _
    refine XS.aload X6.here hx rfl (hb hby at_97) rfl rfl ?_
    show Steps p.tables e below (T6.setTop (mkF m 99 #[.val (.long pJ), .second, .val (.long q), .second, .val (.long r), .second, .val (.long (pJ &&& (9007199254740991 : Int64))), .second, .val (.ref b1), .val (.long (pJ &&& (9007199254740991 : Int64))), .second, .val (.long r), .second] [(.ref b1)])) _
    refine st7.trans ?_
    show Steps p.tables e below (T7.setTop (mkF m 102 #[.val (.long pJ), .second, .val (.long q), .second, .val (.long r), .second, .val (.long (pJ &&& (9007199254740991 : Int64))), .second, .val (.ref b1), .val (.long (pJ &&& (9007199254740991 : Int64))), .second, .val (.long r), .second] [(.long (own_max (own_max (pJ &&& (9007199254740991 : Int64)) q) r))])) _
    refine XS.lload X7.here hx rfl (hb hby at_102) rfl ?_
    show Steps p.tables e below (T7.setTop (mkF m 104 #[.val (.long pJ), .second, .val (.long q), .second, .val (.long r), .second, .val (.long (pJ &&& (9007199254740991 : Int64))), .second, .val (.ref b1), .val (.long (pJ &&& (9007199254740991 : Int64))), .second, .val (.long r), .second] [(.long r), (.long (own_max (own_max (pJ &&& (9007199254740991 : Int64)) q) r))])) _
    refine XS.lcmp X7.here hx rfl (hb hby at_104) rfl ?_
    show Steps p.tables e below (T7.setTop (mkF m 105 #[.val (.long pJ), .second, .val (.long q), .second, .val (.long r), .second, .val (.long (pJ &&& (9007199254740991 : Int64))), .second, .val (.ref b1), .val (.long (pJ &&& (9007199254740991 : Int64))), .second, .val (.long r), .second] [(.int (lcmpW (own_max (own_max (pJ &&& (9007199254740991 : Int64)) q) r) r))])) _
    refine XS.ifNo X7.here hx rfl (hb hby at_105) rfl ((if0 _ _).trans (teq ((lw_eq _ _).mpr (by rw [own_max_le hc55]; exact own_max_gt hc90) : (lcmpW (own_max (own_max (pJ &&& (9007199254740991 : Int64)) q) r) r) = (0 : Int32))).2) ?_
    show Steps p.tables e below (T7.setTop (mkF m 108 #[.val (.long pJ), .second, .val (.long q), .second, .val (.long r), .second, .val (.long (pJ &&& (9007199254740991 : Int64))), .second, .val (.ref b1), .val (.long (pJ &&& (9007199254740991 : Int64))), .second, .val (.long r), .second] [])) _
    refine XS.iconst X7.here hx rfl (hb hby at_108) ?_
    show Steps p.tables e below (T7.setTop (mkF m 109 #[.val (.long pJ), .second, .val (.long q), .second, .val (.long r), .second, .val (.long (pJ &&& (9007199254740991 : Int64))), .second, .val (.ref b1), .val (.long (pJ &&& (9007199254740991 : Int64))), .second, .val (.long r), .second] [(.int (1 : Int32))])) _
    refine XS.goto X7.here hx rfl (pc0 := 109) (pc' := 113) rfl (hb hby at_109) (by decide) (by decide) ?_
    show Steps p.tables e below (T7.setTop (mkF m 113 #[.val (.long pJ), .second, .val (.long q), .second, .val (.long r), .second, .val (.long (pJ &&& (9007199254740991 : Int64))), .second, .val (.ref b1), .val (.long (pJ &&& (9007199254740991 : Int64))), .second, .val (.long r), .second] [(.int (1 : Int32))])) _
    exact retN X7 hx (t := .boolean) Bd.returns (by simp) (hb hby at_113) hr
  · show Qd10 Z pJ q r h0 n0 _ T7.heap _
    rw [e7]
    exact ⟨rfl, N7⟩
set_option maxRecDepth 65536 in
set_option maxHeartbeats 40000000 in
theorem rm0ttt (l : Launch) (Z : State) (a0 : Array Value) (hw : ∀ d ∈ tables_1, d.before a0 Z = true) (ws : List Jvm.Cond) (pJ q r : Int64) (h0 : Heap) (n0 : Nat) (O0 : Old Z n0 h0) (hc11 : ¬ ((lcmpW (pJ &&& (9007199254740991 : Int64)) (0 : Int64)) = (0 : Int32))) (hc55 : ¬ ((0 : Int32) < (lcmpW q (pJ &&& (9007199254740991 : Int64))))) (hc90 : ¬ ((0 : Int32) < (lcmpW r (pJ &&& (9007199254740991 : Int64))))) :
    MetFree l x (head1 (Jvm.Cond.code x code maxLocals ret :: ws) room_1) (fun qq U => qq = #[(.long pJ), (.long q), (.long r)] ∧ Z.Warmed39 U.vm ∧ U.heap = h0) (fun _ _ _ _ _ => True) (fun _ UU oo UU' => ∃ vv LL, oo = .returned vv ∧ Qd10 Z pJ q r h0 n0 vv UU'.heap LL ∧ FrameEnd UU oo UU' LL room_1.cells room_1.slots) := by
  refine MetFree.of_bodySF (plainFor_of_name pn_0) hisR ?_
  intro p e s m args below meth c s₁ Bd hml0 hP hK
  obtain ⟨rfl, hZ, hh⟩ := hP
  have hx := Bd.exec
  have hby := Bd.bytes
  have hml : c.maxLocals = 13 := hml0
  have hown : s.vm.findClass "com/example/riverside/riverside/ArbiterAdvanceFencesPinLaw" = some m.cls := findClass_of_methodNamed Bd.named
  have hnm := (name_of_methodNamed Bd.named Bd.method).1
  have X0 : Stand p l e room_1 s m #[(.long pJ), (.long q), (.long r)] below meth c s₁ [] 0 0 := Stand.of_body Bd
  have e0 : s₁.heap = h0 := by rw [← hh, Bd.state]; rfl
  have N0 := Fr.nil n0
  have pre0 : ∀ t, Steps p.tables e below (s₁.setTop (mkF m 0 #[.val (.long pJ), .second, .val (.long q), .second, .val (.long r), .second, .unset, .unset, .unset, .unset, .unset, .unset, .unset] [])) t → Steps p.tables e below (s₁.setTop (entryFrame m #[(.long pJ), (.long q), (.long r)] maxLocals)) t := fun t k => castTop (ef_0 m pJ q r) k
  obtain ⟨T1, h1, X1, e1, E1, A1, D1, -, st1⟩ := newO X0 hx hZ hown (hw _ (List.mem_of_getElem? (i := 1) rfl)) (hw _ (List.mem_of_getElem? (i := 2) rfl)) (hw _ (List.mem_of_getElem? (i := 3) rfl)) e0 (g := (mkF m 17 #[.val (.long pJ), .second, .val (.long q), .second, .val (.long r), .second, .val (.long (pJ &&& (9007199254740991 : Int64))), .second, .unset, .unset, .unset, .unset, .unset] [])) rfl (hb hby at_17) (by decide) (by decide)
  obtain ⟨b1, q1⟩ : ∃ z, z = h0.size := ⟨_, rfl⟩
  rw [← q1] at A1 D1 st1
  have g_b1 : n0 ≤ b1 := by rw [q1]; exact (O0).1 ▸ (O0).2.1
  have O1 := Old.ext O0 E1
  have F1_keys : Fld Z h1 b1 "com/example/riverside/riverside/Arbiter" "keys" "Ljava/util/Map;" .null := D1 (Or.inr (hw _ (List.mem_of_getElem? (i := 27) rfl))) (ty := (.object "java/util/Map")) (by decide)
  have F1_openKeys : Fld Z h1 b1 "com/example/riverside/riverside/Arbiter" "openKeys" "Ljava/util/Map;" .null := D1 (Or.inr (hw _ (List.mem_of_getElem? (i := 29) rfl))) (ty := (.object "java/util/Map")) (by decide)
  have F1_blocked : Fld Z h1 b1 "com/example/riverside/riverside/Arbiter" "blocked" "Ljava/util/Set;" .null := D1 (Or.inr (hw _ (List.mem_of_getElem? (i := 92) rfl))) (ty := (.object "java/util/Set")) (by decide)
  have F1_fenceLimit : Fld Z h1 b1 "com/example/riverside/riverside/Arbiter" "fenceLimit" "Ljava/util/function/LongSupplier;" .null := D1 (Or.inl (hw _ (List.mem_of_getElem? (i := 97) rfl))) (ty := (.object "java/util/function/LongSupplier")) (by decide)
  have F1_nextFence : Fld Z h1 b1 "com/example/riverside/riverside/Arbiter" "nextFence" "J" (.long (0 : Int64)) := D1 (Or.inl (hw _ (List.mem_of_getElem? (i := 100) rfl))) (ty := .long) (by decide)
  obtain ⟨_, _, ⟨T2, L2, k2, n2⟩, -, X2, ⟨Lc2, hQ2, l2, y2, z2⟩, st2⟩ := X1.specialBack hx (y := (⟨"com/example/riverside/riverside/Arbiter", "<init>", "(J)V"⟩ : MethodName)) rfl hown (mvT hZ (hw _ (List.mem_of_getElem? (i := 4) rfl))) (mvT hZ (hw _ (List.mem_of_getElem? (i := 5) rfl))) (mvT hZ (hw _ (List.mem_of_getElem? (i := 6) rfl))) (by decide) (backOf (W := 1) (rmAR l Z a0 hw [] b1 (pJ &&& (9007199254740991 : Int64)) h1 n0 O1 g_b1 A1 F1_keys F1_openKeys F1_blocked F1_fenceLimit F1_nextFence (own_f hc11).1 (own_f hc11).2) hZ (hw _ (List.mem_of_getElem? (i := 6) rfl)) (hw _ (List.mem_of_getElem? (i := 3) rfl)) (by decide) (by decide)) (g := (mkF m 23 #[.val (.long pJ), .second, .val (.long q), .second, .val (.long r), .second, .val (.long (pJ &&& (9007199254740991 : Int64))), .second, .unset, .unset, .unset, .unset, .unset] [(.long (pJ &&& (9007199254740991 : Int64))), (.ref b1), (.ref b1)])) rfl (by rw [hml]; rfl) (Steps.refl _) (a := b1) (argsL := [(.long (pJ &&& (9007199254740991 : Int64)))]) (rest := [(.ref b1)]) (lenOf own_pd6 rfl) rfl (by show 2 * 0 + _ ≤ _; exact Nat.le_of_eq rfl) (hb hby at_23) (fun _ _ => ⟨rfl, e1, (by decide : 1 + 4 ≤ _), (by decide : 5 + 29 ≤ _)⟩)
  dsimp only [Pt.U, Pt.locs, Pt.cells, Pt.slots] at X2 l2 y2 z2 st2 hQ2
  subst l2 y2 z2
  obtain ⟨rfl, N2q, KK2, f2_0⟩ := hQ2
  have N2 := Fr.app N0 N2q
  have O2 := Old.keep O1 KK2 (allS g_b1 all0)
  obtain ⟨cq3, kq3, q3a, q3b, q3c⟩ := isOf hZ rfl (A1.keep KK2)
  obtain ⟨_, _, ⟨T3, L3, k3, n3⟩, -, X3, ⟨Lc3, hQ3, l3, y3, z3⟩, st3⟩ := X2.virtualBack hx (y := (⟨"com/example/riverside/riverside/Arbiter", "nextFence", "()J"⟩ : MethodName)) (z := (⟨"com/example/riverside/riverside/Arbiter", "nextFence", "()J"⟩ : MethodName)) hown (mvT hZ (hw _ (List.mem_of_getElem? (i := 101) rfl))) (mvT hZ (hw _ (List.mem_of_getElem? (i := 102) rfl))) (notFace_of_selects (args := #[]) (mvT hZ (hw _ (List.mem_of_getElem? (i := 104) rfl)))) (mvT hZ (hw _ (List.mem_of_getElem? (i := 104) rfl))) (mvT hZ (hw _ (List.mem_of_getElem? (i := 103) rfl))) (by decide) (backOf (W := 0) (rmNF l Z a0 hw [] b1 (pJ &&& (9007199254740991 : Int64)) T2.heap n0 f2_0) hZ (hw _ (List.mem_of_getElem? (i := 105) rfl)) (hw _ (List.mem_of_getElem? (i := 3) rfl)) (by decide) (by decide)) q3a q3c (g := (mkF m 30 #[.val (.long pJ), .second, .val (.long q), .second, .val (.long r), .second, .val (.long (pJ &&& (9007199254740991 : Int64))), .second, .val (.ref b1), .unset, .unset, .unset, .unset] [(.ref b1)])) rfl (by rw [hml]; rfl) (Steps.refl _) (argsL := []) (rest := []) (lenOf own_pd7 rfl) rfl (by show 2 * 0 + _ ≤ _; exact Nat.le_of_eq rfl) (hb hby at_30) (fun _ _ => ⟨rfl, rfl, (by decide : 5 + 0 ≤ _), (by decide : 34 + 0 ≤ _)⟩)
  dsimp only [Pt.U, Pt.locs, Pt.cells, Pt.slots] at X3 l3 y3 z3 st3 hQ3
  subst l3 y3 z3
  obtain ⟨rfl, N3q, e3⟩ := hQ3
  have N3 := Fr.app N2 N3q
  obtain ⟨cq4, kq4, q4a, q4b, q4c⟩ := isOf hZ e3 (A1.keep KK2)
  obtain ⟨_, _, ⟨T4, L4, k4, n4⟩, -, X4, ⟨Lc4, hQ4, l4, y4, z4⟩, st4⟩ := X3.virtualBack hx (y := (⟨"com/example/riverside/riverside/Arbiter", "advanceFences", "(J)V"⟩ : MethodName)) (z := (⟨"com/example/riverside/riverside/Arbiter", "advanceFences", "(J)V"⟩ : MethodName)) hown (mvT hZ (hw _ (List.mem_of_getElem? (i := 106) rfl))) (mvT hZ (hw _ (List.mem_of_getElem? (i := 107) rfl))) (notFace_of_selects (args := #[]) (mvT hZ (hw _ (List.mem_of_getElem? (i := 109) rfl)))) (mvT hZ (hw _ (List.mem_of_getElem? (i := 109) rfl))) (mvT hZ (hw _ (List.mem_of_getElem? (i := 108) rfl))) (by decide) (backOf (W := 0) (rmAV l Z a0 hw [] b1 q (pJ &&& (9007199254740991 : Int64)) T2.heap n0 O2 g_b1 (A1.keep KK2) f2_0) hZ (hw _ (List.mem_of_getElem? (i := 110) rfl)) (hw _ (List.mem_of_getElem? (i := 3) rfl)) (by decide) (by decide)) q4a q4c (g := (mkF m 44 #[.val (.long pJ), .second, .val (.long q), .second, .val (.long r), .second, .val (.long (pJ &&& (9007199254740991 : Int64))), .second, .val (.ref b1), .unset, .unset, .unset, .unset] [(.long q), (.ref b1)])) rfl (by rw [hml]; rfl) (Steps.refl _) (argsL := [(.long q)]) (rest := []) (lenOf own_pd6 rfl) rfl (by show 2 * 0 + _ ≤ _; exact Nat.le_of_eq rfl) (hb hby at_44) (fun _ _ => ⟨rfl, e3, (by decide : 5 + 0 ≤ _), (by decide : 34 + 0 ≤ _)⟩)
  dsimp only [Pt.U, Pt.locs, Pt.cells, Pt.slots] at X4 l4 y4 z4 st4 hQ4
  subst l4 y4 z4
  obtain ⟨rfl, N4q, KK4, f4_0⟩ := hQ4
  have N4 := Fr.app N3 N4q
  have O4 := Old.keep O2 KK4 (allS g_b1 all0)
  obtain ⟨cq5, kq5, q5a, q5b, q5c⟩ := isOf hZ rfl ((A1.keep KK2).keep KK4)
  obtain ⟨_, _, ⟨T5, L5, k5, n5⟩, -, X5, ⟨Lc5, hQ5, l5, y5, z5⟩, st5⟩ := X4.virtualBack hx (y := (⟨"com/example/riverside/riverside/Arbiter", "nextFence", "()J"⟩ : MethodName)) (z := (⟨"com/example/riverside/riverside/Arbiter", "nextFence", "()J"⟩ : MethodName)) hown (mvT hZ (hw _ (List.mem_of_getElem? (i := 101) rfl))) (mvT hZ (hw _ (List.mem_of_getElem? (i := 102) rfl))) (notFace_of_selects (args := #[]) (mvT hZ (hw _ (List.mem_of_getElem? (i := 104) rfl)))) (mvT hZ (hw _ (List.mem_of_getElem? (i := 104) rfl))) (mvT hZ (hw _ (List.mem_of_getElem? (i := 103) rfl))) (by decide) (backOf (W := 0) (rmNF l Z a0 hw [] b1 (own_max (pJ &&& (9007199254740991 : Int64)) q) T4.heap n0 f4_0) hZ (hw _ (List.mem_of_getElem? (i := 105) rfl)) (hw _ (List.mem_of_getElem? (i := 3) rfl)) (by decide) (by decide)) q5a q5c (g := (mkF m 63 #[.val (.long pJ), .second, .val (.long q), .second, .val (.long r), .second, .val (.long (pJ &&& (9007199254740991 : Int64))), .second, .val (.ref b1), .val (.long (pJ &&& (9007199254740991 : Int64))), .second, .unset, .unset] [(.ref b1)])) rfl (by rw [hml]; rfl) (Steps.refl _) (argsL := []) (rest := []) (lenOf own_pd7 rfl) rfl (by show 2 * 0 + _ ≤ _; exact Nat.le_of_eq rfl) (hb hby at_63) (fun _ _ => ⟨rfl, rfl, (by decide : 5 + 0 ≤ _), (by decide : 34 + 0 ≤ _)⟩)
  dsimp only [Pt.U, Pt.locs, Pt.cells, Pt.slots] at X5 l5 y5 z5 st5 hQ5
  subst l5 y5 z5
  obtain ⟨rfl, N5q, e5⟩ := hQ5
  have N5 := Fr.app N4 N5q
  obtain ⟨cq6, kq6, q6a, q6b, q6c⟩ := isOf hZ e5 ((A1.keep KK2).keep KK4)
  obtain ⟨_, _, ⟨T6, L6, k6, n6⟩, -, X6, ⟨Lc6, hQ6, l6, y6, z6⟩, st6⟩ := X5.virtualBack hx (y := (⟨"com/example/riverside/riverside/Arbiter", "advanceFences", "(J)V"⟩ : MethodName)) (z := (⟨"com/example/riverside/riverside/Arbiter", "advanceFences", "(J)V"⟩ : MethodName)) hown (mvT hZ (hw _ (List.mem_of_getElem? (i := 106) rfl))) (mvT hZ (hw _ (List.mem_of_getElem? (i := 107) rfl))) (notFace_of_selects (args := #[]) (mvT hZ (hw _ (List.mem_of_getElem? (i := 109) rfl)))) (mvT hZ (hw _ (List.mem_of_getElem? (i := 109) rfl))) (mvT hZ (hw _ (List.mem_of_getElem? (i := 108) rfl))) (by decide) (backOf (W := 0) (rmAV l Z a0 hw [] b1 r (own_max (pJ &&& (9007199254740991 : Int64)) q) T4.heap n0 O4 g_b1 ((A1.keep KK2).keep KK4) f4_0) hZ (hw _ (List.mem_of_getElem? (i := 110) rfl)) (hw _ (List.mem_of_getElem? (i := 3) rfl)) (by decide) (by decide)) q6a q6c (g := (mkF m 78 #[.val (.long pJ), .second, .val (.long q), .second, .val (.long r), .second, .val (.long (pJ &&& (9007199254740991 : Int64))), .second, .val (.ref b1), .val (.long (pJ &&& (9007199254740991 : Int64))), .second, .unset, .unset] [(.long r), (.ref b1)])) rfl (by rw [hml]; rfl) (Steps.refl _) (argsL := [(.long r)]) (rest := []) (lenOf own_pd6 rfl) rfl (by show 2 * 0 + _ ≤ _; exact Nat.le_of_eq rfl) (hb hby at_78) (fun _ _ => ⟨rfl, e5, (by decide : 5 + 0 ≤ _), (by decide : 34 + 0 ≤ _)⟩)
  dsimp only [Pt.U, Pt.locs, Pt.cells, Pt.slots] at X6 l6 y6 z6 st6 hQ6
  subst l6 y6 z6
  obtain ⟨rfl, N6q, KK6, f6_0⟩ := hQ6
  have N6 := Fr.app N5 N6q
  have O6 := Old.keep O4 KK6 (allS g_b1 all0)
  obtain ⟨cq7, kq7, q7a, q7b, q7c⟩ := isOf hZ rfl (((A1.keep KK2).keep KK4).keep KK6)
  obtain ⟨_, _, ⟨T7, L7, k7, n7⟩, -, X7, ⟨Lc7, hQ7, l7, y7, z7⟩, st7⟩ := X6.virtualBack hx (y := (⟨"com/example/riverside/riverside/Arbiter", "nextFence", "()J"⟩ : MethodName)) (z := (⟨"com/example/riverside/riverside/Arbiter", "nextFence", "()J"⟩ : MethodName)) hown (mvT hZ (hw _ (List.mem_of_getElem? (i := 101) rfl))) (mvT hZ (hw _ (List.mem_of_getElem? (i := 102) rfl))) (notFace_of_selects (args := #[]) (mvT hZ (hw _ (List.mem_of_getElem? (i := 104) rfl)))) (mvT hZ (hw _ (List.mem_of_getElem? (i := 104) rfl))) (mvT hZ (hw _ (List.mem_of_getElem? (i := 103) rfl))) (by decide) (backOf (W := 0) (rmNF l Z a0 hw [] b1 (own_max (own_max (pJ &&& (9007199254740991 : Int64)) q) r) T6.heap n0 f6_0) hZ (hw _ (List.mem_of_getElem? (i := 105) rfl)) (hw _ (List.mem_of_getElem? (i := 3) rfl)) (by decide) (by decide)) q7a q7c (g := (mkF m 99 #[.val (.long pJ), .second, .val (.long q), .second, .val (.long r), .second, .val (.long (pJ &&& (9007199254740991 : Int64))), .second, .val (.ref b1), .val (.long (pJ &&& (9007199254740991 : Int64))), .second, .val (.long (pJ &&& (9007199254740991 : Int64))), .second] [(.ref b1)])) rfl (by rw [hml]; rfl) (Steps.refl _) (argsL := []) (rest := []) (lenOf own_pd7 rfl) rfl (by show 2 * 0 + _ ≤ _; exact Nat.le_of_eq rfl) (hb hby at_99) (fun _ _ => ⟨rfl, rfl, (by decide : 5 + 0 ≤ _), (by decide : 34 + 0 ≤ _)⟩)
  dsimp only [Pt.U, Pt.locs, Pt.cells, Pt.slots] at X7 l7 y7 z7 st7 hQ7
  subst l7 y7 z7
  obtain ⟨rfl, N7q, e7⟩ := hQ7
  have N7 := Fr.app N6 N7q
  obtain ⟨fs, hr, hrun, hended, hW, hsame⟩ := X7.leave (v := some (.int (1 : Int32))) (fun h => by rw [Bd.returns] at h; cases h)
  refine ⟨_, _, pre0 _ ?_, hrun, hended, _, _, rfl, ?_, ⟨_, rfl⟩, hW, hsame.mono (by decide) (by decide)⟩
  · show Steps p.tables e below (s₁.setTop (mkF m 0 #[.val (.long pJ), .second, .val (.long q), .second, .val (.long r), .second, .unset, .unset, .unset, .unset, .unset, .unset, .unset] [])) _
    refine XS.lloadN X0.here hx rfl (hb hby at_0) rfl ?_
    show Steps p.tables e below (s₁.setTop (mkF m 1 #[.val (.long pJ), .second, .val (.long q), .second, .val (.long r), .second, .unset, .unset, .unset, .unset, .unset, .unset, .unset] [(.long pJ)])) _
    refine X0.ldc2Long hx hown (mvT hZ (hw _ (List.mem_of_getElem? (i := 0) rfl))) (g := (mkF m 1 #[.val (.long pJ), .second, .val (.long q), .second, .val (.long r), .second, .unset, .unset, .unset, .unset, .unset, .unset, .unset] [(.long pJ)])) rfl (hb hby at_1) _ ?_
    show Steps p.tables e below (s₁.setTop (mkF m 4 #[.val (.long pJ), .second, .val (.long q), .second, .val (.long r), .second, .unset, .unset, .unset, .unset, .unset, .unset, .unset] [(.long (9007199254740991 : Int64)), (.long pJ)])) _
    refine XS.land X0.here hx rfl (hb hby at_4) rfl ?_
    show Steps p.tables e below (s₁.setTop (mkF m 5 #[.val (.long pJ), .second, .val (.long q), .second, .val (.long r), .second, .unset, .unset, .unset, .unset, .unset, .unset, .unset] [(.long (pJ &&& (9007199254740991 : Int64)))])) _
    refine XS.lstore X0.here hx rfl (hb hby at_5) rfl (l' := #[.val (.long pJ), .second, .val (.long q), .second, .val (.long r), .second, .val (.long (pJ &&& (9007199254740991 : Int64))), .second, .unset, .unset, .unset, .unset, .unset]) rfl ?_
    show Steps p.tables e below (s₁.setTop (mkF m 7 #[.val (.long pJ), .second, .val (.long q), .second, .val (.long r), .second, .val (.long (pJ &&& (9007199254740991 : Int64))), .second, .unset, .unset, .unset, .unset, .unset] [])) _
    refine XS.lload X0.here hx rfl (hb hby at_7) rfl ?_
    show Steps p.tables e below (s₁.setTop (mkF m 9 #[.val (.long pJ), .second, .val (.long q), .second, .val (.long r), .second, .val (.long (pJ &&& (9007199254740991 : Int64))), .second, .unset, .unset, .unset, .unset, .unset] [(.long (pJ &&& (9007199254740991 : Int64)))])) _
    refine XS.lconst X0.here hx rfl (hb hby at_9) ?_
    show Steps p.tables e below (s₁.setTop (mkF m 10 #[.val (.long pJ), .second, .val (.long q), .second, .val (.long r), .second, .val (.long (pJ &&& (9007199254740991 : Int64))), .second, .unset, .unset, .unset, .unset, .unset] [(.long (0 : Int64)), (.long (pJ &&& (9007199254740991 : Int64)))])) _
    refine XS.lcmp X0.here hx rfl (hb hby at_10) rfl ?_
    show Steps p.tables e below (s₁.setTop (mkF m 11 #[.val (.long pJ), .second, .val (.long q), .second, .val (.long r), .second, .val (.long (pJ &&& (9007199254740991 : Int64))), .second, .unset, .unset, .unset, .unset, .unset] [(.int (lcmpW (pJ &&& (9007199254740991 : Int64)) (0 : Int64)))])) _
    refine XS.ifYes X0.here hx rfl (pc0 := 11) (pc' := 17) rfl (hb hby at_11) rfl ((if0 _ _).trans (feq hc11).2) (by decide) (by decide) ?_
    show Steps p.tables e below (s₁.setTop (mkF m 17 #[.val (.long pJ), .second, .val (.long q), .second, .val (.long r), .second, .val (.long (pJ &&& (9007199254740991 : Int64))), .second, .unset, .unset, .unset, .unset, .unset] [])) _
    refine st1 _ ?_
    show Steps p.tables e below (T1.setTop (mkF m 20 #[.val (.long pJ), .second, .val (.long q), .second, .val (.long r), .second, .val (.long (pJ &&& (9007199254740991 : Int64))), .second, .unset, .unset, .unset, .unset, .unset] [(.ref b1)])) _
    refine XS.dup X1.here hx rfl (hb hby at_20) rfl rfl ?_
    show Steps p.tables e below (T1.setTop (mkF m 21 #[.val (.long pJ), .second, .val (.long q), .second, .val (.long r), .second, .val (.long (pJ &&& (9007199254740991 : Int64))), .second, .unset, .unset, .unset, .unset, .unset] [(.ref b1), (.ref b1)])) _
    refine XS.lload X1.here hx rfl (hb hby at_21) rfl ?_
    show Steps p.tables e below (T1.setTop (mkF m 23 #[.val (.long pJ), .second, .val (.long q), .second, .val (.long r), .second, .val (.long (pJ &&& (9007199254740991 : Int64))), .second, .unset, .unset, .unset, .unset, .unset] [(.long (pJ &&& (9007199254740991 : Int64))), (.ref b1), (.ref b1)])) _
    refine st2.trans ?_
    show Steps p.tables e below (T2.setTop (mkF m 26 #[.val (.long pJ), .second, .val (.long q), .second, .val (.long r), .second, .val (.long (pJ &&& (9007199254740991 : Int64))), .second, .unset, .unset, .unset, .unset, .unset] [(.ref b1)])) _
    refine XS.astore X2.here hx rfl (hb hby at_26) rfl rfl (l' := #[.val (.long pJ), .second, .val (.long q), .second, .val (.long r), .second, .val (.long (pJ &&& (9007199254740991 : Int64))), .second, .val (.ref b1), .unset, .unset, .unset, .unset]) rfl ?_
    show Steps p.tables e below (T2.setTop (mkF m 28 #[.val (.long pJ), .second, .val (.long q), .second, .val (.long r), .second, .val (.long (pJ &&& (9007199254740991 : Int64))), .second, .val (.ref b1), .unset, .unset, .unset, .unset] [])) _
    refine XS.aload X2.here hx rfl (hb hby at_28) rfl rfl ?_
    show Steps p.tables e below (T2.setTop (mkF m 30 #[.val (.long pJ), .second, .val (.long q), .second, .val (.long r), .second, .val (.long (pJ &&& (9007199254740991 : Int64))), .second, .val (.ref b1), .unset, .unset, .unset, .unset] [(.ref b1)])) _
    refine st3.trans ?_
    show Steps p.tables e below (T3.setTop (mkF m 33 #[.val (.long pJ), .second, .val (.long q), .second, .val (.long r), .second, .val (.long (pJ &&& (9007199254740991 : Int64))), .second, .val (.ref b1), .unset, .unset, .unset, .unset] [(.long (pJ &&& (9007199254740991 : Int64)))])) _
    refine XS.lload X3.here hx rfl (hb hby at_33) rfl ?_
    show Steps p.tables e below (T3.setTop (mkF m 35 #[.val (.long pJ), .second, .val (.long q), .second, .val (.long r), .second, .val (.long (pJ &&& (9007199254740991 : Int64))), .second, .val (.ref b1), .unset, .unset, .unset, .unset] [(.long (pJ &&& (9007199254740991 : Int64))), (.long (pJ &&& (9007199254740991 : Int64)))])) _
    refine XS.lcmp X3.here hx rfl (hb hby at_35) rfl ?_
    show Steps p.tables e below (T3.setTop (mkF m 36 #[.val (.long pJ), .second, .val (.long q), .second, .val (.long r), .second, .val (.long (pJ &&& (9007199254740991 : Int64))), .second, .val (.ref b1), .unset, .unset, .unset, .unset] [(.int (lcmpW (pJ &&& (9007199254740991 : Int64)) (pJ &&& (9007199254740991 : Int64))))])) _
    refine XS.ifYes X3.here hx rfl (pc0 := 36) (pc' := 41) rfl (hb hby at_36) rfl ((if0 _ _).trans (teq ((lw_eq _ _).mpr rfl : (lcmpW (pJ &&& (9007199254740991 : Int64)) (pJ &&& (9007199254740991 : Int64))) = (0 : Int32))).1) (by decide) (by decide) ?_
    show Steps p.tables e below (T3.setTop (mkF m 41 #[.val (.long pJ), .second, .val (.long q), .second, .val (.long r), .second, .val (.long (pJ &&& (9007199254740991 : Int64))), .second, .val (.ref b1), .unset, .unset, .unset, .unset] [])) _
    refine XS.aload X3.here hx rfl (hb hby at_41) rfl rfl ?_
    show Steps p.tables e below (T3.setTop (mkF m 43 #[.val (.long pJ), .second, .val (.long q), .second, .val (.long r), .second, .val (.long (pJ &&& (9007199254740991 : Int64))), .second, .val (.ref b1), .unset, .unset, .unset, .unset] [(.ref b1)])) _
    refine XS.lloadN X3.here hx rfl (hb hby at_43) rfl ?_
    show Steps p.tables e below (T3.setTop (mkF m 44 #[.val (.long pJ), .second, .val (.long q), .second, .val (.long r), .second, .val (.long (pJ &&& (9007199254740991 : Int64))), .second, .val (.ref b1), .unset, .unset, .unset, .unset] [(.long q), (.ref b1)])) _
    refine st4.trans ?_
    show Steps p.tables e below (T4.setTop (mkF m 47 #[.val (.long pJ), .second, .val (.long q), .second, .val (.long r), .second, .val (.long (pJ &&& (9007199254740991 : Int64))), .second, .val (.ref b1), .unset, .unset, .unset, .unset] [])) _
    refine XS.lload X4.here hx rfl (hb hby at_47) rfl ?_
    show Steps p.tables e below (T4.setTop (mkF m 49 #[.val (.long pJ), .second, .val (.long q), .second, .val (.long r), .second, .val (.long (pJ &&& (9007199254740991 : Int64))), .second, .val (.ref b1), .unset, .unset, .unset, .unset] [(.long (pJ &&& (9007199254740991 : Int64)))])) _
    refine XS.lstore X4.here hx rfl (hb hby at_49) rfl (l' := #[.val (.long pJ), .second, .val (.long q), .second, .val (.long r), .second, .val (.long (pJ &&& (9007199254740991 : Int64))), .second, .val (.ref b1), .val (.long (pJ &&& (9007199254740991 : Int64))), .second, .unset, .unset]) rfl ?_
    show Steps p.tables e below (T4.setTop (mkF m 51 #[.val (.long pJ), .second, .val (.long q), .second, .val (.long r), .second, .val (.long (pJ &&& (9007199254740991 : Int64))), .second, .val (.ref b1), .val (.long (pJ &&& (9007199254740991 : Int64))), .second, .unset, .unset] [])) _
    refine XS.lloadN X4.here hx rfl (hb hby at_51) rfl ?_
    show Steps p.tables e below (T4.setTop (mkF m 52 #[.val (.long pJ), .second, .val (.long q), .second, .val (.long r), .second, .val (.long (pJ &&& (9007199254740991 : Int64))), .second, .val (.ref b1), .val (.long (pJ &&& (9007199254740991 : Int64))), .second, .unset, .unset] [(.long q)])) _
    refine XS.lload X4.here hx rfl (hb hby at_52) rfl ?_
    show Steps p.tables e below (T4.setTop (mkF m 54 #[.val (.long pJ), .second, .val (.long q), .second, .val (.long r), .second, .val (.long (pJ &&& (9007199254740991 : Int64))), .second, .val (.ref b1), .val (.long (pJ &&& (9007199254740991 : Int64))), .second, .unset, .unset] [(.long (pJ &&& (9007199254740991 : Int64))), (.long q)])) _
    refine XS.lcmp X4.here hx rfl (hb hby at_54) rfl ?_
    show Steps p.tables e below (T4.setTop (mkF m 55 #[.val (.long pJ), .second, .val (.long q), .second, .val (.long r), .second, .val (.long (pJ &&& (9007199254740991 : Int64))), .second, .val (.ref b1), .val (.long (pJ &&& (9007199254740991 : Int64))), .second, .unset, .unset] [(.int (lcmpW q (pJ &&& (9007199254740991 : Int64))))])) _
    refine XS.ifYes X4.here hx rfl (pc0 := 55) (pc' := 61) rfl (hb hby at_55) rfl ((if0 _ _).trans (flt hc55).2.2.2) (by decide) (by decide) ?_
    show Steps p.tables e below (T4.setTop (mkF m 61 #[.val (.long pJ), .second, .val (.long q), .second, .val (.long r), .second, .val (.long (pJ &&& (9007199254740991 : Int64))), .second, .val (.ref b1), .val (.long (pJ &&& (9007199254740991 : Int64))), .second, .unset, .unset] [])) _
    refine XS.aload X4.here hx rfl (hb hby at_61) rfl rfl ?_
    show Steps p.tables e below (T4.setTop (mkF m 63 #[.val (.long pJ), .second, .val (.long q), .second, .val (.long r), .second, .val (.long (pJ &&& (9007199254740991 : Int64))), .second, .val (.ref b1), .val (.long (pJ &&& (9007199254740991 : Int64))), .second, .unset, .unset] [(.ref b1)])) _
    refine st5.trans ?_
    show Steps p.tables e below (T5.setTop (mkF m 66 #[.val (.long pJ), .second, .val (.long q), .second, .val (.long r), .second, .val (.long (pJ &&& (9007199254740991 : Int64))), .second, .val (.ref b1), .val (.long (pJ &&& (9007199254740991 : Int64))), .second, .unset, .unset] [(.long (own_max (pJ &&& (9007199254740991 : Int64)) q))])) _
    refine XS.lload X5.here hx rfl (hb hby at_66) rfl ?_
    show Steps p.tables e below (T5.setTop (mkF m 68 #[.val (.long pJ), .second, .val (.long q), .second, .val (.long r), .second, .val (.long (pJ &&& (9007199254740991 : Int64))), .second, .val (.ref b1), .val (.long (pJ &&& (9007199254740991 : Int64))), .second, .unset, .unset] [(.long (pJ &&& (9007199254740991 : Int64))), (.long (own_max (pJ &&& (9007199254740991 : Int64)) q))])) _
    refine XS.lcmp X5.here hx rfl (hb hby at_68) rfl ?_
    show Steps p.tables e below (T5.setTop (mkF m 69 #[.val (.long pJ), .second, .val (.long q), .second, .val (.long r), .second, .val (.long (pJ &&& (9007199254740991 : Int64))), .second, .val (.ref b1), .val (.long (pJ &&& (9007199254740991 : Int64))), .second, .unset, .unset] [(.int (lcmpW (own_max (pJ &&& (9007199254740991 : Int64)) q) (pJ &&& (9007199254740991 : Int64))))])) _
    refine XS.ifYes X5.here hx rfl (pc0 := 69) (pc' := 74) rfl (hb hby at_69) rfl ((if0 _ _).trans (teq ((lw_eq _ _).mpr (own_max_le hc55) : (lcmpW (own_max (pJ &&& (9007199254740991 : Int64)) q) (pJ &&& (9007199254740991 : Int64))) = (0 : Int32))).1) (by decide) (by decide) ?_
    show Steps p.tables e below (T5.setTop (mkF m 74 #[.val (.long pJ), .second, .val (.long q), .second, .val (.long r), .second, .val (.long (pJ &&& (9007199254740991 : Int64))), .second, .val (.ref b1), .val (.long (pJ &&& (9007199254740991 : Int64))), .second, .unset, .unset] [])) _
    refine XS.aload X5.here hx rfl (hb hby at_74) rfl rfl ?_
    show Steps p.tables e below (T5.setTop (mkF m 76 #[.val (.long pJ), .second, .val (.long q), .second, .val (.long r), .second, .val (.long (pJ &&& (9007199254740991 : Int64))), .second, .val (.ref b1), .val (.long (pJ &&& (9007199254740991 : Int64))), .second, .unset, .unset] [(.ref b1)])) _
    refine XS.lload X5.here hx rfl (hb hby at_76) rfl ?_
    show Steps p.tables e below (T5.setTop (mkF m 78 #[.val (.long pJ), .second, .val (.long q), .second, .val (.long r), .second, .val (.long (pJ &&& (9007199254740991 : Int64))), .second, .val (.ref b1), .val (.long (pJ &&& (9007199254740991 : Int64))), .second, .unset, .unset] [(.long r), (.ref b1)])) _
    refine st6.trans ?_
    show Steps p.tables e below (T6.setTop (mkF m 81 #[.val (.long pJ), .second, .val (.long q), .second, .val (.long r), .second, .val (.long (pJ &&& (9007199254740991 : Int64))), .second, .val (.ref b1), .val (.long (pJ &&& (9007199254740991 : Int64))), .second, .unset, .unset] [])) _
    refine XS.lload X6.here hx rfl (hb hby at_81) rfl ?_
    show Steps p.tables e below (T6.setTop (mkF m 83 #[.val (.long pJ), .second, .val (.long q), .second, .val (.long r), .second, .val (.long (pJ &&& (9007199254740991 : Int64))), .second, .val (.ref b1), .val (.long (pJ &&& (9007199254740991 : Int64))), .second, .unset, .unset] [(.long (pJ &&& (9007199254740991 : Int64)))])) _
    refine XS.lstore X6.here hx rfl (hb hby at_83) rfl (l' := #[.val (.long pJ), .second, .val (.long q), .second, .val (.long r), .second, .val (.long (pJ &&& (9007199254740991 : Int64))), .second, .val (.ref b1), .val (.long (pJ &&& (9007199254740991 : Int64))), .second, .val (.long (pJ &&& (9007199254740991 : Int64))), .second]) rfl ?_
    show Steps p.tables e below (T6.setTop (mkF m 85 #[.val (.long pJ), .second, .val (.long q), .second, .val (.long r), .second, .val (.long (pJ &&& (9007199254740991 : Int64))), .second, .val (.ref b1), .val (.long (pJ &&& (9007199254740991 : Int64))), .second, .val (.long (pJ &&& (9007199254740991 : Int64))), .second] [])) _
    refine XS.lload X6.here hx rfl (hb hby at_85) rfl ?_
    show Steps p.tables e below (T6.setTop (mkF m 87 #[.val (.long pJ), .second, .val (.long q), .second, .val (.long r), .second, .val (.long (pJ &&& (9007199254740991 : Int64))), .second, .val (.ref b1), .val (.long (pJ &&& (9007199254740991 : Int64))), .second, .val (.long (pJ &&& (9007199254740991 : Int64))), .second] [(.long r)])) _
    refine XS.lload X6.here hx rfl (hb hby at_87) rfl ?_
    show Steps p.tables e below (T6.setTop (mkF m 89 #[.val (.long pJ), .second, .val (.long q), .second, .val (.long r), .second, .val (.long (pJ &&& (9007199254740991 : Int64))), .second, .val (.ref b1), .val (.long (pJ &&& (9007199254740991 : Int64))), .second, .val (.long (pJ &&& (9007199254740991 : Int64))), .second] [(.long (pJ &&& (9007199254740991 : Int64))), (.long r)])) _
    refine XS.lcmp X6.here hx rfl (hb hby at_89) rfl ?_
    show Steps p.tables e below (T6.setTop (mkF m 90 #[.val (.long pJ), .second, .val (.long q), .second, .val (.long r), .second, .val (.long (pJ &&& (9007199254740991 : Int64))), .second, .val (.ref b1), .val (.long (pJ &&& (9007199254740991 : Int64))), .second, .val (.long (pJ &&& (9007199254740991 : Int64))), .second] [(.int (lcmpW r (pJ &&& (9007199254740991 : Int64))))])) _
    refine XS.ifYes X6.here hx rfl (pc0 := 90) (pc' := 97) rfl (hb hby at_90) rfl ((if0 _ _).trans (flt hc90).2.2.2) (by decide) (by decide) ?_
    show Steps p.tables e below (T6.setTop (mkF m 97 #[.val (.long pJ), .second, .val (.long q), .second, .val (.long r), .second, .val (.long (pJ &&& (9007199254740991 : Int64))), .second, .val (.ref b1), .val (.long (pJ &&& (9007199254740991 : Int64))), .second, .val (.long (pJ &&& (9007199254740991 : Int64))), .second] [])) _
    refine XS.aload X6.here hx rfl (hb hby at_97) rfl rfl ?_
    show Steps p.tables e below (T6.setTop (mkF m 99 #[.val (.long pJ), .second, .val (.long q), .second, .val (.long r), .second, .val (.long (pJ &&& (9007199254740991 : Int64))), .second, .val (.ref b1), .val (.long (pJ &&& (9007199254740991 : Int64))), .second, .val (.long (pJ &&& (9007199254740991 : Int64))), .second] [(.ref b1)])) _
    refine st7.trans ?_
    show Steps p.tables e below (T7.setTop (mkF m 102 #[.val (.long pJ), .second, .val (.long q), .second, .val (.long r), .second, .val (.long (pJ &&& (9007199254740991 : Int64))), .second, .val (.ref b1), .val (.long (pJ &&& (9007199254740991 : Int64))), .second, .val (.long (pJ &&& (9007199254740991 : Int64))), .second] [(.long (own_max (own_max (pJ &&& (9007199254740991 : Int64)) q) r))])) _
    refine XS.lload X7.here hx rfl (hb hby at_102) rfl ?_
    show Steps p.tables e below (T7.setTop (mkF m 104 #[.val (.long pJ), .second, .val (.long q), .second, .val (.long r), .second, .val (.long (pJ &&& (9007199254740991 : Int64))), .second, .val (.ref b1), .val (.long (pJ &&& (9007199254740991 : Int64))), .second, .val (.long (pJ &&& (9007199254740991 : Int64))), .second] [(.long (pJ &&& (9007199254740991 : Int64))), (.long (own_max (own_max (pJ &&& (9007199254740991 : Int64)) q) r))])) _
    refine XS.lcmp X7.here hx rfl (hb hby at_104) rfl ?_
    show Steps p.tables e below (T7.setTop (mkF m 105 #[.val (.long pJ), .second, .val (.long q), .second, .val (.long r), .second, .val (.long (pJ &&& (9007199254740991 : Int64))), .second, .val (.ref b1), .val (.long (pJ &&& (9007199254740991 : Int64))), .second, .val (.long (pJ &&& (9007199254740991 : Int64))), .second] [(.int (lcmpW (own_max (own_max (pJ &&& (9007199254740991 : Int64)) q) r) (pJ &&& (9007199254740991 : Int64))))])) _
    refine XS.ifNo X7.here hx rfl (hb hby at_105) rfl ((if0 _ _).trans (teq ((lw_eq _ _).mpr (by rw [own_max_le hc55]; exact own_max_le hc90) : (lcmpW (own_max (own_max (pJ &&& (9007199254740991 : Int64)) q) r) (pJ &&& (9007199254740991 : Int64))) = (0 : Int32))).2) ?_
    show Steps p.tables e below (T7.setTop (mkF m 108 #[.val (.long pJ), .second, .val (.long q), .second, .val (.long r), .second, .val (.long (pJ &&& (9007199254740991 : Int64))), .second, .val (.ref b1), .val (.long (pJ &&& (9007199254740991 : Int64))), .second, .val (.long (pJ &&& (9007199254740991 : Int64))), .second] [])) _
    refine XS.iconst X7.here hx rfl (hb hby at_108) ?_
    show Steps p.tables e below (T7.setTop (mkF m 109 #[.val (.long pJ), .second, .val (.long q), .second, .val (.long r), .second, .val (.long (pJ &&& (9007199254740991 : Int64))), .second, .val (.ref b1), .val (.long (pJ &&& (9007199254740991 : Int64))), .second, .val (.long (pJ &&& (9007199254740991 : Int64))), .second] [(.int (1 : Int32))])) _
    refine XS.goto X7.here hx rfl (pc0 := 109) (pc' := 113) rfl (hb hby at_109) (by decide) (by decide) ?_
    show Steps p.tables e below (T7.setTop (mkF m 113 #[.val (.long pJ), .second, .val (.long q), .second, .val (.long r), .second, .val (.long (pJ &&& (9007199254740991 : Int64))), .second, .val (.ref b1), .val (.long (pJ &&& (9007199254740991 : Int64))), .second, .val (.long (pJ &&& (9007199254740991 : Int64))), .second] [(.int (1 : Int32))])) _
    exact retN X7 hx (t := .boolean) Bd.returns (by simp) (hb hby at_113) hr
  · show Qd10 Z pJ q r h0 n0 _ T7.heap _
    rw [e7]
    exact ⟨rfl, N7⟩
theorem rm0 (l : Launch) (Z : State) (a0 : Array Value) (hw : ∀ d ∈ tables_1, d.before a0 Z = true) (ws : List Jvm.Cond) (pJ q r : Int64) (h0 : Heap) (n0 : Nat) (O0 : Old Z n0 h0) :
    MetFree l x (head1 (Jvm.Cond.code x code maxLocals ret :: ws) room_1) (fun qq U => qq = #[(.long pJ), (.long q), (.long r)] ∧ Z.Warmed39 U.vm ∧ U.heap = h0) (fun _ _ _ _ _ => True) (fun _ UU oo UU' => ∃ vv LL, oo = .returned vv ∧ Qd10 Z pJ q r h0 n0 vv UU'.heap LL ∧ FrameEnd UU oo UU' LL room_1.cells room_1.slots) := by
  by_cases h0z : lcmpW (pJ &&& (9007199254740991 : Int64)) (0 : Int64) = (0 : Int32)
  · by_cases h1 : (0 : Int32) < lcmpW q (1 : Int64)
    · by_cases h2 : (0 : Int32) < lcmpW r q
      · exact rm0fff l Z a0 hw ws pJ q r h0 n0 O0 h0z h1 h2
      · exact rm0fft l Z a0 hw ws pJ q r h0 n0 O0 h0z h1 h2
    · by_cases h2 : (0 : Int32) < lcmpW r (1 : Int64)
      · exact rm0ftf l Z a0 hw ws pJ q r h0 n0 O0 h0z h1 h2
      · exact rm0ftt l Z a0 hw ws pJ q r h0 n0 O0 h0z h1 h2
  · by_cases h1 : (0 : Int32) < lcmpW q (pJ &&& (9007199254740991 : Int64))
    · by_cases h2 : (0 : Int32) < lcmpW r q
      · exact rm0tff l Z a0 hw ws pJ q r h0 n0 O0 h0z h1 h2
      · exact rm0tft l Z a0 hw ws pJ q r h0 n0 O0 h0z h1 h2
    · by_cases h2 : (0 : Int32) < lcmpW r (pJ &&& (9007199254740991 : Int64))
      · exact rm0ttf l Z a0 hw ws pJ q r h0 n0 O0 h0z h1 h2
      · exact rm0ttt l Z a0 hw ws pJ q r h0 n0 O0 h0z h1 h2
set_option maxRecDepth 65536 in
set_option maxHeartbeats 40000000 in
theorem comes_1 {Post : Tables → Env → Array Value → State → Outcome → State → Prop} (hpost : ∀ tb e args s v u, (limb_1_1.after args s (.returned v) u = true ∧ limb_1_2.after args s (.returned v) u = true ∧ True) → FrameEnd s (.returned v) u (Jvm.fieldLocs frame_1_writes args s ++ Jvm.arrayLocs frame_1_arrays args s ++ Jvm.staticLocs frame_1_statics s) 24 192 → Post tb e args s (.returned v) u) :
    ArmFor flags0 classFile x code maxLocals ret World_1 tables_1 room_1 Calls_1 rest_1 Pre_1 Post := by
  intro l hfl _ _ p e ha hc hk s m args below hf hA hF happ hP
  obtain ⟨hcalls, hrest, hpre⟩ := hP
  obtain ⟨-, -, -, hnamed, -, -, -, hat⟩ := (Spec.applies_iff hf).mp happ
  obtain ⟨hg, hn⟩ := and_e (Cond.before_iff.mp (show (Jvm.Cond.and given_1 narrow_1).before args s = true from hpre))
  obtain ⟨g5, hg⟩ := and_e hg
  obtain ⟨g6, hg⟩ := and_e hg
  obtain ⟨g7, g8⟩ := and_e hg
  obtain ⟨w0, w1, w2, rfl⟩ : ∃ w0 w1 w2 : Value, args = #[w0, w1, w2] := by
    have hs : args.size = 3 := by simpa [Cond.value, given_1] using g5
    obtain ⟨L⟩ := args
    match L, hs with
    | [w0, w1, w2], _ => exact ⟨w0, w1, w2, rfl⟩
  have hw := fun d (hd : d ∈ tables_1) => atoms_spec (ws := Jvm.Cond.code x code maxLocals ret :: tables_1) hat d (List.mem_cons_of_mem _ hd)
  obtain ⟨i0, ei0⟩ := isL_v g6
  obtain rfl : w0 = (.long i0) := Option.some.inj ei0
  obtain ⟨i1, ei1⟩ := isL_v g7
  obtain rfl : w1 = (.long i1) := Option.some.inj ei1
  obtain ⟨i2, ei2⟩ := isL_v g8
  obtain rfl : w2 = (.long i2) := Option.some.inj ei2
  obtain ⟨n, o, h1, h2, h3, _, L, rfl, ⟨rfl, N⟩, hq⟩ := rm0 l s _ hw tables_1 i0 i1 i2 s.heap s.heap.size (Old.start s) p e ha hc hk s m _ below hf ((Spec.applies_iff_loose hf).mp happ).1 ⟨rfl, State.Warmed39.refl s, rfl⟩ trivial
  refine ⟨n, _, h1, h2, h3, hpost _ _ _ _ _ _ ⟨Cond.after_iff.mpr rfl, Cond.after_iff.mpr (eq_i res_at (Term.int_eval (1)) rfl), trivial⟩ ⟨hq.1, hq.2.1, (hq.2.2.sift fun y hy => Or.inr (N y hy)).mono (by decide) (by decide)⟩⟩
theorem main_1_1 : Claimed_1_1 := comes_1 fun _ _ _ _ _ _ h hF => ⟨h.1, ReturnedEndW.of_narrow hF.1 hF.2.1 hF.2.2⟩
theorem main_1_2 : Claimed_1_2 := comes_1 fun _ _ _ _ _ _ h hF => ⟨h.2.1, ReturnedEndW.of_narrow hF.1 hF.2.1 hF.2.2⟩
end Jvm.Pilot.@@N@@
namespace Jvm.Pilot.@@N@@
open Jvm Jvm.ClassFile Sem Op Lib Jvm.Free Jvm.Stand Jvm.Pilot.@@N@@.Jvm.D
/-! MADE BY PROGRAM (witnessworld.py) out of the Statement's table words and the real class files: 32 classes; the members and pool entries that the words name. The judged class is class 1, her method 1. -/
namespace start1
open Jvm.ClassFile
def u (s : String) : CpInfo := .utf8 (stringToUtf16 s)
/-- a pool by its gaps: so many unusable entries, then the entry; so many at the end -/
def gap : Nat → List CpInfo → List CpInfo
  | 0, r => r
  | n + 1, r => .unusable :: gap n r
def poolList (es : List (Nat × CpInfo)) (last : Nat) : List CpInfo := es.foldr (fun e r => gap e.1 (e.2 :: r)) (gap last [])
def pool (es : List (Nat × CpInfo)) (last : Nat) : Array CpInfo := ⟨poolList es last⟩
def fileOf (pool : Array CpInfo) (this : Nat) (attrs : Array Attribute := #[]) (ms : Array MethodInfo := #[]) (fl : Nat := 33) (sup : Nat := 0) (ifs : Array Nat := #[]) (fds : Array FieldInfo := #[]) : ClassFile where
  minorVersion := 0
  majorVersion := 65
  constantPool := pool
  accessFlags := fl
  thisClass := this
  superClass := sup
  interfaces := ifs
  fields := fds
  methods := ms
  attributes := attrs
def plain (name : String) (sup : Option ClassId) : Class where
  name := name
  kind := .ordinary
  loader := none
  accessFlags := 33
  super := sup
  interfaces := #[]
  cf := none
  fields := #[]
  methods := #[]
  instanceTypes := #[]
  staticTypes := #[]
  resolved := #[]
  callSites := []
  init := .initialized
  statics := none
  mirror := none

def pool0 : Array CpInfo := pool [(5, u "<init>"), (0, u "()V"), (1, .class_ 10), (1, u "java/lang/Object")] 113

def k0c0 : Code := { maxStack := 0, maxLocals := 1, code := object_method_1_code, exceptionTable := #[], attributes := #[] }
def k0m0 : Method := { name := "<init>", desc := "()V", sig := { parameters := [], returnType := none }, accessFlags := 1, code := some k0c0 }
/-- java/lang/Object -/
def k0 : Class := { plain "java/lang/Object" none with
  accessFlags := 33
  interfaces := #[]
  cf := some (fileOf pool0 8 #[] #[{ accessFlags := 1, nameIndex := 5, descriptorIndex := 6, attributes := #[] }] 33 0 #[] #[])
  fields := #[]
  methods := #[k0m0]
  instanceTypes := #[]
  staticTypes := #[]
  resolved := Array.replicate 124 none
  statics := none }

def pool1 : Array CpInfo := pool [(2, .class_ 4), (1, u "java/lang/Object"), (0, u "<init>"), (0, u "()V"), (0, .class_ 8), (0, u "com/example/riverside/riverside/Arbiter"), (0, .long 9007199254740991), (1, .methodref 7 12), (0, .nameAndType 5 13), (0, u "(J)V"), (0, .methodref 7 15), (0, .nameAndType 16 17), (0, u "nextFence"), (0, u "()J"), (0, .methodref 7 19), (0, .nameAndType 20 13), (0, u "advanceFences"), (0, .class_ 22), (0, u "com/example/riverside/riverside/ArbiterAdvanceFencesPinLaw"), (2, u "law"), (0, u "(JJJ)Z")] 3

def k1m0 : Method := { name := "<init>", desc := "()V", sig := { parameters := [], returnType := none }, accessFlags := 2, code := none }
def k1c1 : Code := { maxStack := 4, maxLocals := 13, code := code, exceptionTable := #[], attributes := #[] }
def k1m1 : Method := { name := "law", desc := "(JJJ)Z", sig := { parameters := [.long, .long, .long], returnType := some .boolean }, accessFlags := 9, code := some k1c1 }
/-- com/example/riverside/riverside/ArbiterAdvanceFencesPinLaw -/
def k1 : Class := { plain "com/example/riverside/riverside/ArbiterAdvanceFencesPinLaw" (some 0) with
  accessFlags := 49
  interfaces := #[]
  cf := some (fileOf pool1 21 #[] #[{ accessFlags := 2, nameIndex := 5, descriptorIndex := 6, attributes := #[] }, { accessFlags := 9, nameIndex := 25, descriptorIndex := 26, attributes := #[] }] 49 2 #[] #[])
  fields := #[]
  methods := #[k1m0, k1m1]
  instanceTypes := #[]
  staticTypes := #[]
  resolved := Array.replicate 30 none
  statics := none }

def pool2 : Array CpInfo := pool [(1, .methodref 2 3), (0, .class_ 4), (0, .nameAndType 5 6), (0, u "java/lang/Object"), (0, u "<init>"), (0, u "()V"), (0, .class_ 8), (0, u "java/util/HashMap"), (0, .methodref 7 3), (0, .fieldref 11 12), (0, .class_ 13), (0, .nameAndType 14 15), (0, u "com/example/riverside/riverside/Arbiter"), (0, u "keys"), (0, u "Ljava/util/Map;"), (0, .fieldref 11 17), (0, .nameAndType 18 15), (0, u "openKeys"), (0, .class_ 20), (0, u "java/util/LinkedHashSet"), (0, .methodref 19 3), (0, .fieldref 11 23), (0, .nameAndType 24 25), (0, u "blocked"), (0, u "Ljava/util/Set;"), (0, .invokeDynamic 0 27), (0, .nameAndType 28 29), (0, u "getAsLong"), (0, u "()Ljava/util/function/LongSupplier;"), (0, .fieldref 11 31), (0, .nameAndType 32 33), (0, u "fenceLimit"), (0, u "Ljava/util/function/LongSupplier;"), (0, .long 9007199254740992), (10, .fieldref 11 46), (0, .nameAndType 47 48), (0, u "nextFence"), (0, u "J"), (6, .class_ 56), (0, u "com/example/riverside/riverside/Arbiter$KeyState"), (17, u "(J)V"), (28, .class_ 104), (0, u "com/example/riverside/riverside/Arbiter$Waiter"), (28, .class_ 135), (1, u "com/example/riverside/riverside/Arbiter$Client"), (22, u "()J"), (53, .methodref 213 214), (0, .class_ 215), (0, .nameAndType 216 217), (0, u "java/lang/Math"), (0, u "max"), (0, u "(JJ)J"), (100, u "FENCE_LIMIT"), (25, u "advanceFences"), (13, u "lambda$new$0"), (4, .methodType 158), (0, .methodHandle 6 365), (0, .methodref 11 366), (0, .nameAndType 358 158), (43, .methodHandle 6 411), (0, .methodref 412 413), (0, .class_ 414), (0, .nameAndType 415 416), (0, u "java/lang/invoke/LambdaMetafactory"), (0, u "metafactory"), (0, u "(Ljava/lang/invoke/MethodHandles$Lookup;Ljava/lang/String;Ljava/lang/invoke/MethodType;Ljava/lang/invoke/MethodType;Ljava/lang/invoke/MethodHandle;Ljava/lang/invoke/MethodType;)Ljava/lang/invoke/CallSite;")] 16

def k2c0 : Code := { maxStack := 4, maxLocals := 3, code := prog_1_method_1_code, exceptionTable := #[], attributes := #[] }
def k2m0 : Method := { name := "<init>", desc := "(J)V", sig := { parameters := [.long], returnType := none }, accessFlags := 0, code := some k2c0 }
def k2c1 : Code := { maxStack := 2, maxLocals := 1, code := prog_1_method_12_code, exceptionTable := #[], attributes := #[] }
def k2m1 : Method := { name := "nextFence", desc := "()J", sig := { parameters := [], returnType := some .long }, accessFlags := 0, code := some k2c1 }
def k2c2 : Code := { maxStack := 5, maxLocals := 3, code := prog_1_method_13_code, exceptionTable := #[], attributes := #[] }
def k2m2 : Method := { name := "advanceFences", desc := "(J)V", sig := { parameters := [.long], returnType := none }, accessFlags := 0, code := some k2c2 }
def k2c3 : Code := { maxStack := 2, maxLocals := 0, code := ⟨#[0x14, 0x01, 0x3c, 0xad]⟩, exceptionTable := #[], attributes := #[] }
def k2m3 : Method := { name := "lambda$new$0", desc := "()J", sig := { parameters := [], returnType := some .long }, accessFlags := 4106, code := some k2c3 }
/-- com/example/riverside/riverside/Arbiter -/
def k2 : Class := { plain "com/example/riverside/riverside/Arbiter" (some 0) with
  accessFlags := 48
  interfaces := #[]
  cf := some (fileOf pool2 11 #[.nestMembers #[103, 55, 133], .bootstrapMethods #[⟨410, #[363, 364, 363]⟩, ⟨0, #[]⟩, ⟨0, #[]⟩, ⟨0, #[]⟩, ⟨0, #[]⟩, ⟨0, #[]⟩, ⟨0, #[]⟩, ⟨0, #[]⟩, ⟨0, #[]⟩, ⟨0, #[]⟩, ⟨0, #[]⟩, ⟨0, #[]⟩, ⟨0, #[]⟩, ⟨0, #[]⟩]] #[{ accessFlags := 0, nameIndex := 5, descriptorIndex := 74, attributes := #[] }, { accessFlags := 0, nameIndex := 47, descriptorIndex := 158, attributes := #[] }, { accessFlags := 0, nameIndex := 344, descriptorIndex := 74, attributes := #[] }, { accessFlags := 4106, nameIndex := 358, descriptorIndex := 158, attributes := #[] }] 48 2 #[] #[{ accessFlags := 24, nameIndex := 318, descriptorIndex := 48, attributes := #[] }, { accessFlags := 18, nameIndex := 14, descriptorIndex := 15, attributes := #[] }, { accessFlags := 18, nameIndex := 18, descriptorIndex := 15, attributes := #[] }, { accessFlags := 18, nameIndex := 24, descriptorIndex := 25, attributes := #[] }, { accessFlags := 2, nameIndex := 47, descriptorIndex := 48, attributes := #[] }, { accessFlags := 2, nameIndex := 32, descriptorIndex := 33, attributes := #[] }])
  fields := #[{ name := "FENCE_LIMIT", type := .long, accessFlags := 24, slot := 0, constantValue := 0 }, { name := "keys", type := (.object "java/util/Map"), accessFlags := 18, slot := 0, constantValue := 0 }, { name := "openKeys", type := (.object "java/util/Map"), accessFlags := 18, slot := 1, constantValue := 0 }, { name := "blocked", type := (.object "java/util/Set"), accessFlags := 18, slot := 2, constantValue := 0 }, { name := "nextFence", type := .long, accessFlags := 2, slot := 3, constantValue := 0 }, { name := "fenceLimit", type := (.object "java/util/function/LongSupplier"), accessFlags := 2, slot := 4, constantValue := 0 }]
  methods := #[k2m0, k2m1, k2m2, k2m3]
  instanceTypes := #[(.object "java/util/Map"), (.object "java/util/Map"), (.object "java/util/Set"), .long, (.object "java/util/function/LongSupplier")]
  staticTypes := #[.long]
  resolved := Array.replicate 433 none
  callSites := [(0, 38, .constant 0)]
  statics := none }

def pool3 : Array CpInfo := pool [(2, .class_ 4), (1, u "java/util/Map"), (31, .class_ 37), (0, u "java/util/Map$Entry"), (55, .class_ 94), (0, u "java/lang/Object")] 168

/-- java/util/Map -/
def k3 : Class := { plain "java/util/Map" (some 0) with
  accessFlags := 1537
  interfaces := #[]
  cf := some (fileOf pool3 2 #[.nestMembers #[36]] #[] 1537 93 #[] #[])
  fields := #[]
  methods := #[]
  instanceTypes := #[]
  staticTypes := #[]
  resolved := Array.replicate 263 none
  statics := none }

def pool4 : Array CpInfo := pool [(1, .methodref 2 3), (0, .class_ 4), (0, .nameAndType 5 6), (0, u "java/lang/Object"), (0, u "<init>"), (0, u "()V"), (1, .class_ 10), (1, u "java/util/AbstractMap"), (42, .class_ 54), (0, u "java/util/Map"), (9, u "keySet"), (0, u "Ljava/util/Set;"), (0, .class_ 67), (0, u "java/util/AbstractMap$1"), (5, u "values"), (0, u "Ljava/util/Collection;"), (0, .class_ 76), (0, u "java/util/AbstractMap$2"), (104, .class_ 182), (0, u "java/util/AbstractMap$ViewCollection"), (0, .class_ 184), (0, u "java/util/AbstractMap$SimpleImmutableEntry"), (0, .class_ 186), (0, u "java/util/AbstractMap$SimpleEntry"), (0, .class_ 188), (0, u "java/util/AbstractMap$2$1"), (0, .class_ 190), (0, u "java/util/AbstractMap$1$1")] 5

def k4c0 : Code := { maxStack := 1, maxLocals := 1, code := jdk_71_method_1_code, exceptionTable := #[], attributes := #[] }
def k4m0 : Method := { name := "<init>", desc := "()V", sig := { parameters := [], returnType := none }, accessFlags := 4, code := some k4c0 }
/-- java/util/AbstractMap -/
def k4 : Class := { plain "java/util/AbstractMap" (some 0) with
  accessFlags := 1057
  interfaces := #[3]
  cf := some (fileOf pool4 8 #[.nestMembers #[181, 183, 185, 75, 187, 66, 189]] #[{ accessFlags := 4, nameIndex := 5, descriptorIndex := 6, attributes := #[] }] 1057 2 #[53] #[{ accessFlags := 128, nameIndex := 64, descriptorIndex := 65, attributes := #[] }, { accessFlags := 128, nameIndex := 73, descriptorIndex := 74, attributes := #[] }])
  fields := #[{ name := "keySet", type := (.object "java/util/Set"), accessFlags := 128, slot := 0, constantValue := 0 }, { name := "values", type := (.object "java/util/Collection"), accessFlags := 128, slot := 1, constantValue := 0 }]
  methods := #[k4m0]
  instanceTypes := #[(.object "java/util/Set"), (.object "java/util/Collection")]
  staticTypes := #[]
  resolved := Array.replicate 196 none
  statics := none }

def pool5 : Array CpInfo := pool [(1, .class_ 2), (0, u "java/lang/Cloneable"), (0, .class_ 4), (0, u "java/lang/Object")] 2

/-- java/lang/Cloneable -/
def k5 : Class := { plain "java/lang/Cloneable" (some 0) with
  accessFlags := 1537
  interfaces := #[]
  cf := some (fileOf pool5 1 #[] #[] 1537 3 #[] #[])
  fields := #[]
  methods := #[]
  instanceTypes := #[]
  staticTypes := #[]
  resolved := Array.replicate 7 none
  statics := none }

def pool6 : Array CpInfo := pool [(1, .class_ 2), (0, u "java/io/Serializable"), (0, .class_ 4), (0, u "java/lang/Object")] 2

/-- java/io/Serializable -/
def k6 : Class := { plain "java/io/Serializable" (some 0) with
  accessFlags := 1537
  interfaces := #[]
  cf := some (fileOf pool6 1 #[] #[] 1537 3 #[] #[])
  fields := #[]
  methods := #[]
  instanceTypes := #[]
  staticTypes := #[]
  resolved := Array.replicate 7 none
  statics := none }

def pool7 : Array CpInfo := pool [(34, .methodref 35 36), (0, .class_ 37), (0, .nameAndType 38 39), (0, u "java/lang/Integer"), (0, u "numberOfLeadingZeros"), (0, u "(I)I"), (0, .class_ 41), (0, u "java/util/HashMap"), (0, .integer 1073741824), (0, .methodref 44 45), (0, .class_ 46), (0, .nameAndType 47 48), (0, u "java/util/AbstractMap"), (0, u "<init>"), (0, u "()V"), (21, .methodref 71 72), (0, .class_ 73), (0, .nameAndType 74 75), (0, u "java/lang/Float"), (0, u "isNaN"), (0, u "(F)Z"), (5, .fieldref 40 82), (0, .nameAndType 83 84), (0, u "loadFactor"), (0, u "F"), (0, .methodref 40 86), (0, .nameAndType 87 39), (0, u "tableSizeFor"), (0, .fieldref 40 89), (0, .nameAndType 90 91), (0, u "threshold"), (0, u "I"), (0, .float 1061158912), (2, u "(IF)V"), (5, .class_ 103), (1, u "java/util/Map"), (0, u "size"), (2, u "table"), (0, u "[Ljava/util/HashMap$Node;"), (14, u "entrySet"), (39, .class_ 165), (1, u "java/util/HashMap$Node"), (14, .class_ 181), (0, u "java/util/HashMap$TreeNode"), (22, u "modCount"), (37, u "Ljava/util/Set;"), (0, .class_ 244), (0, u "java/util/HashMap$KeySet"), (18, .class_ 264), (0, u "java/util/HashMap$Values"), (3, .class_ 269), (0, u "java/util/HashMap$EntrySet"), (76, .class_ 348), (1, u "java/util/HashMap$UnsafeHolder"), (43, .class_ 393), (0, u "java/lang/Cloneable"), (0, .class_ 395), (0, u "java/io/Serializable"), (0, u "serialVersionUID"), (0, u "J"), (3, u "DEFAULT_INITIAL_CAPACITY"), (1, u "MAXIMUM_CAPACITY"), (0, u "DEFAULT_LOAD_FACTOR"), (0, u "TREEIFY_THRESHOLD"), (1, u "UNTREEIFY_THRESHOLD"), (1, u "MIN_TREEIFY_CAPACITY"), (186, .class_ 597), (0, u "java/util/HashMap$EntrySpliterator"), (0, .class_ 599), (0, u "java/util/HashMap$ValueSpliterator"), (0, .class_ 601), (0, u "java/util/HashMap$KeySpliterator"), (0, .class_ 603), (0, u "java/util/HashMap$HashMapSpliterator"), (0, .class_ 605), (0, u "java/util/HashMap$EntryIterator"), (0, .class_ 607), (0, u "java/util/HashMap$ValueIterator"), (0, .class_ 609), (0, u "java/util/HashMap$KeyIterator"), (0, .class_ 611), (0, u "java/util/HashMap$HashIterator")] 17

def k7c0 : Code := { maxStack := 3, maxLocals := 2, code := jdk_69_method_4_code, exceptionTable := #[], attributes := #[] }
def k7m0 : Method := { name := "tableSizeFor", desc := "(I)I", sig := { parameters := [.int], returnType := some .int }, accessFlags := 24, code := some k7c0 }
def k7c1 : Code := { maxStack := 4, maxLocals := 3, code := jdk_69_method_5_code, exceptionTable := #[], attributes := #[] }
def k7m1 : Method := { name := "<init>", desc := "(IF)V", sig := { parameters := [.int, .float], returnType := none }, accessFlags := 1, code := some k7c1 }
def k7c2 : Code := { maxStack := 2, maxLocals := 1, code := jdk_69_method_7_code, exceptionTable := #[], attributes := #[] }
def k7m2 : Method := { name := "<init>", desc := "()V", sig := { parameters := [], returnType := none }, accessFlags := 1, code := some k7c2 }
/-- java/util/HashMap -/
def k7 : Class := { plain "java/util/HashMap" (some 4) with
  accessFlags := 33
  interfaces := #[3, 5, 6]
  cf := some (fileOf pool7 40 #[.nestMembers #[180, 596, 598, 600, 602, 604, 606, 608, 610, 346, 268, 263, 243, 163]] #[{ accessFlags := 24, nameIndex := 87, descriptorIndex := 39, attributes := #[] }, { accessFlags := 1, nameIndex := 47, descriptorIndex := 95, attributes := #[] }, { accessFlags := 1, nameIndex := 47, descriptorIndex := 48, attributes := #[] }] 33 44 #[101, 392, 394] #[{ accessFlags := 26, nameIndex := 396, descriptorIndex := 397, attributes := #[] }, { accessFlags := 24, nameIndex := 401, descriptorIndex := 91, attributes := #[] }, { accessFlags := 24, nameIndex := 403, descriptorIndex := 91, attributes := #[] }, { accessFlags := 24, nameIndex := 404, descriptorIndex := 84, attributes := #[] }, { accessFlags := 24, nameIndex := 405, descriptorIndex := 91, attributes := #[] }, { accessFlags := 24, nameIndex := 407, descriptorIndex := 91, attributes := #[] }, { accessFlags := 24, nameIndex := 409, descriptorIndex := 91, attributes := #[] }, { accessFlags := 128, nameIndex := 107, descriptorIndex := 108, attributes := #[] }, { accessFlags := 128, nameIndex := 123, descriptorIndex := 242, attributes := #[] }, { accessFlags := 128, nameIndex := 104, descriptorIndex := 91, attributes := #[] }, { accessFlags := 128, nameIndex := 204, descriptorIndex := 91, attributes := #[] }, { accessFlags := 0, nameIndex := 90, descriptorIndex := 91, attributes := #[] }, { accessFlags := 16, nameIndex := 83, descriptorIndex := 84, attributes := #[] }])
  fields := #[{ name := "serialVersionUID", type := .long, accessFlags := 26, slot := 0, constantValue := 0 }, { name := "DEFAULT_INITIAL_CAPACITY", type := .int, accessFlags := 24, slot := 1, constantValue := 0 }, { name := "MAXIMUM_CAPACITY", type := .int, accessFlags := 24, slot := 2, constantValue := 0 }, { name := "DEFAULT_LOAD_FACTOR", type := .float, accessFlags := 24, slot := 3, constantValue := 0 }, { name := "TREEIFY_THRESHOLD", type := .int, accessFlags := 24, slot := 4, constantValue := 0 }, { name := "UNTREEIFY_THRESHOLD", type := .int, accessFlags := 24, slot := 5, constantValue := 0 }, { name := "MIN_TREEIFY_CAPACITY", type := .int, accessFlags := 24, slot := 6, constantValue := 0 }, { name := "table", type := (.array (.object "java/util/HashMap$Node")), accessFlags := 128, slot := 2, constantValue := 0 }, { name := "entrySet", type := (.object "java/util/Set"), accessFlags := 128, slot := 3, constantValue := 0 }, { name := "size", type := .int, accessFlags := 128, slot := 4, constantValue := 0 }, { name := "modCount", type := .int, accessFlags := 128, slot := 5, constantValue := 0 }, { name := "threshold", type := .int, accessFlags := 0, slot := 6, constantValue := 0 }, { name := "loadFactor", type := .float, accessFlags := 16, slot := 7, constantValue := 0 }]
  methods := #[k7m0, k7m1, k7m2]
  instanceTypes := #[(.object "java/util/Set"), (.object "java/util/Collection"), (.array (.object "java/util/HashMap$Node")), (.object "java/util/Set"), .int, .int, .int, .float]
  staticTypes := #[.long, .int, .int, .float, .int, .int, .int]
  resolved := Array.replicate 629 none
  statics := none }

def pool8 : Array CpInfo := pool [(8, .class_ 10), (1, u "java/lang/Iterable"), (24, .class_ 36), (0, u "java/lang/Object")] 25

/-- java/lang/Iterable -/
def k8 : Class := { plain "java/lang/Iterable" (some 0) with
  accessFlags := 1537
  interfaces := #[]
  cf := some (fileOf pool8 8 #[] #[] 1537 35 #[] #[])
  fields := #[]
  methods := #[]
  instanceTypes := #[]
  staticTypes := #[]
  resolved := Array.replicate 62 none
  statics := none }

def pool9 : Array CpInfo := pool [(10, .class_ 12), (1, u "java/util/Collection"), (47, .class_ 61), (0, u "java/lang/Object"), (0, .class_ 63), (0, u "java/lang/Iterable")] 51

/-- java/util/Collection -/
def k9 : Class := { plain "java/util/Collection" (some 0) with
  accessFlags := 1537
  interfaces := #[8]
  cf := some (fileOf pool9 10 #[] #[] 1537 60 #[62] #[])
  fields := #[]
  methods := #[]
  instanceTypes := #[]
  staticTypes := #[]
  resolved := Array.replicate 115 none
  statics := none }

def pool10 : Array CpInfo := pool [(1, .methodref 2 3), (0, .class_ 4), (0, .nameAndType 5 6), (0, u "java/lang/Object"), (0, u "<init>"), (0, u "()V"), (1, .class_ 10), (1, u "java/util/AbstractCollection"), (66, .class_ 78), (0, u "java/util/Collection")] 81

def k10c0 : Code := { maxStack := 1, maxLocals := 1, code := jdk_22_method_1_code, exceptionTable := #[], attributes := #[] }
def k10m0 : Method := { name := "<init>", desc := "()V", sig := { parameters := [], returnType := none }, accessFlags := 4, code := some k10c0 }
/-- java/util/AbstractCollection -/
def k10 : Class := { plain "java/util/AbstractCollection" (some 0) with
  accessFlags := 1057
  interfaces := #[9]
  cf := some (fileOf pool10 8 #[] #[{ accessFlags := 4, nameIndex := 5, descriptorIndex := 6, attributes := #[] }] 1057 2 #[77] #[])
  fields := #[]
  methods := #[k10m0]
  instanceTypes := #[]
  staticTypes := #[]
  resolved := Array.replicate 160 none
  statics := none }

def pool11 : Array CpInfo := pool [(26, .class_ 27), (0, u "java/lang/Object"), (5, .class_ 34), (0, u "java/util/Set"), (1, .class_ 38), (1, u "java/util/Collection")] 105

/-- java/util/Set -/
def k11 : Class := { plain "java/util/Set" (some 0) with
  accessFlags := 1537
  interfaces := #[9]
  cf := some (fileOf pool11 33 #[] #[] 1537 26 #[36] #[])
  fields := #[]
  methods := #[]
  instanceTypes := #[]
  staticTypes := #[]
  resolved := Array.replicate 144 none
  statics := none }

def pool12 : Array CpInfo := pool [(1, .methodref 2 3), (0, .class_ 4), (0, .nameAndType 5 6), (0, u "java/util/AbstractCollection"), (0, u "<init>"), (0, u "()V"), (0, .class_ 8), (0, u "java/util/Set"), (7, .class_ 17), (0, u "java/util/AbstractSet")] 78

def k12c0 : Code := { maxStack := 1, maxLocals := 1, code := jdk_91_method_1_code, exceptionTable := #[], attributes := #[] }
def k12m0 : Method := { name := "<init>", desc := "()V", sig := { parameters := [], returnType := none }, accessFlags := 4, code := some k12c0 }
/-- java/util/AbstractSet -/
def k12 : Class := { plain "java/util/AbstractSet" (some 10) with
  accessFlags := 1057
  interfaces := #[11]
  cf := some (fileOf pool12 16 #[] #[{ accessFlags := 4, nameIndex := 5, descriptorIndex := 6, attributes := #[] }] 1057 2 #[7] #[])
  fields := #[]
  methods := #[k12m0]
  instanceTypes := #[]
  staticTypes := #[]
  resolved := Array.replicate 96 none
  statics := none }

def pool13 : Array CpInfo := pool [(1, .methodref 2 3), (0, .class_ 4), (0, .nameAndType 5 6), (0, u "java/util/AbstractSet"), (0, u "<init>"), (0, u "()V"), (3, .fieldref 11 12), (0, .class_ 13), (0, .nameAndType 14 15), (0, u "java/util/HashSet"), (0, u "map"), (0, u "Ljava/util/HashMap;"), (21, .nameAndType 5 38), (0, u "(IF)V"), (3, .class_ 43), (0, u "java/util/LinkedHashMap"), (0, .methodref 42 37), (5, .class_ 52), (1, u "java/util/Set"), (13, u "PRESENT"), (0, u "Ljava/lang/Object;"), (158, .class_ 227), (0, u "java/lang/Cloneable"), (0, .class_ 229), (0, u "java/io/Serializable"), (0, u "serialVersionUID"), (0, u "J"), (20, u "(IFZ)V")] 50

def k13m0 : Method := { name := "<init>", desc := "()V", sig := { parameters := [], returnType := none }, accessFlags := 1, code := none }
def k13c1 : Code := { maxStack := 5, maxLocals := 4, code := jdk_93_method_5_code, exceptionTable := #[], attributes := #[] }
def k13m1 : Method := { name := "<init>", desc := "(IFZ)V", sig := { parameters := [.int, .float, .boolean], returnType := none }, accessFlags := 0, code := some k13c1 }
/-- java/util/HashSet -/
def k13 : Class := { plain "java/util/HashSet" (some 12) with
  accessFlags := 33
  interfaces := #[11, 5, 6]
  cf := some (fileOf pool13 11 #[] #[{ accessFlags := 1, nameIndex := 5, descriptorIndex := 6, attributes := #[] }, { accessFlags := 0, nameIndex := 5, descriptorIndex := 252, attributes := #[] }] 33 2 #[50, 226, 228] #[{ accessFlags := 24, nameIndex := 230, descriptorIndex := 231, attributes := #[] }, { accessFlags := 128, nameIndex := 14, descriptorIndex := 15, attributes := #[] }, { accessFlags := 24, nameIndex := 66, descriptorIndex := 67, attributes := #[] }])
  fields := #[{ name := "serialVersionUID", type := .long, accessFlags := 24, slot := 0, constantValue := 0 }, { name := "map", type := (.object "java/util/HashMap"), accessFlags := 128, slot := 0, constantValue := 0 }, { name := "PRESENT", type := (.object "java/lang/Object"), accessFlags := 24, slot := 1, constantValue := 0 }]
  methods := #[k13m0, k13m1]
  instanceTypes := #[(.object "java/util/HashMap")]
  staticTypes := #[.long, (.object "java/lang/Object")]
  resolved := Array.replicate 303 none
  statics := none }

def pool14 : Array CpInfo := pool [(8, .class_ 10), (1, u "java/util/SequencedCollection"), (15, .class_ 27), (0, u "java/lang/Object"), (0, .class_ 29), (0, u "java/util/Collection")] 27

/-- java/util/SequencedCollection -/
def k14 : Class := { plain "java/util/SequencedCollection" (some 0) with
  accessFlags := 1537
  interfaces := #[9]
  cf := some (fileOf pool14 8 #[] #[] 1537 26 #[28] #[])
  fields := #[]
  methods := #[]
  instanceTypes := #[]
  staticTypes := #[]
  resolved := Array.replicate 57 none
  statics := none }

def pool15 : Array CpInfo := pool [(2, .class_ 4), (1, u "java/util/SequencedSet"), (2, .class_ 8), (0, u "java/lang/Object"), (0, .class_ 10), (0, u "java/util/SequencedCollection"), (0, .class_ 12), (0, u "java/util/Set")] 13

/-- java/util/SequencedSet -/
def k15 : Class := { plain "java/util/SequencedSet" (some 0) with
  accessFlags := 1537
  interfaces := #[14, 11]
  cf := some (fileOf pool15 2 #[] #[] 1537 7 #[9, 11] #[])
  fields := #[]
  methods := #[]
  instanceTypes := #[]
  staticTypes := #[]
  resolved := Array.replicate 26 none
  statics := none }

def pool16 : Array CpInfo := pool [(1, .methodref 2 3), (0, .class_ 4), (0, .nameAndType 5 6), (0, u "java/util/HashSet"), (0, u "<init>"), (0, u "(IFZ)V"), (0, .float 1061158912), (19, .class_ 29), (1, u "java/util/LinkedHashSet"), (16, u "()V"), (44, .class_ 93), (1, u "java/util/SequencedSet"), (11, .class_ 106), (0, u "java/util/LinkedHashSet$1ReverseLinkedHashSetView"), (6, .class_ 114), (0, u "java/lang/Cloneable"), (0, .class_ 116), (0, u "java/io/Serializable"), (0, u "serialVersionUID"), (0, u "J")] 44

def k16c0 : Code := { maxStack := 4, maxLocals := 1, code := jdk_2620_method_3_code, exceptionTable := #[], attributes := #[] }
def k16m0 : Method := { name := "<init>", desc := "()V", sig := { parameters := [], returnType := none }, accessFlags := 1, code := some k16c0 }
/-- java/util/LinkedHashSet -/
def k16 : Class := { plain "java/util/LinkedHashSet" (some 13) with
  accessFlags := 33
  interfaces := #[15, 5, 6]
  cf := some (fileOf pool16 27 #[.nestMembers #[105]] #[{ accessFlags := 1, nameIndex := 5, descriptorIndex := 46, attributes := #[] }] 33 2 #[91, 113, 115] #[{ accessFlags := 26, nameIndex := 117, descriptorIndex := 118, attributes := #[] }])
  fields := #[{ name := "serialVersionUID", type := .long, accessFlags := 26, slot := 0, constantValue := 0 }]
  methods := #[k16m0]
  instanceTypes := #[(.object "java/util/HashMap")]
  staticTypes := #[.long]
  resolved := Array.replicate 163 none
  statics := none }

def pool17 : Array CpInfo := pool [(2, .class_ 4), (1, u "java/util/SequencedMap"), (38, .class_ 44), (0, u "java/util/SequencedMap$1SeqKeySet"), (3, .class_ 49), (0, u "java/util/SequencedMap$1SeqValues"), (1, .class_ 52), (0, u "java/util/SequencedMap$1SeqEntrySet"), (1, .class_ 55), (0, u "java/lang/Object"), (0, .class_ 57), (0, u "java/util/Map")] 48

/-- java/util/SequencedMap -/
def k17 : Class := { plain "java/util/SequencedMap" (some 0) with
  accessFlags := 1537
  interfaces := #[3]
  cf := some (fileOf pool17 2 #[.nestMembers #[51, 48, 43]] #[] 1537 54 #[56] #[])
  fields := #[]
  methods := #[]
  instanceTypes := #[]
  staticTypes := #[]
  resolved := Array.replicate 106 none
  statics := none }

def pool18 : Array CpInfo := pool [(1, .fieldref 2 3), (0, .class_ 4), (0, .nameAndType 5 6), (0, u "java/util/LinkedHashMap"), (0, u "putMode"), (0, u "I"), (2, u "head"), (0, u "Ljava/util/LinkedHashMap$Entry;"), (2, u "tail"), (1, .class_ 17), (1, u "java/util/LinkedHashMap$Entry"), (5, .class_ 25), (1, u "java/util/HashMap"), (1, u "()V"), (2, u "<init>"), (33, .fieldref 2 65), (0, .nameAndType 66 67), (0, u "accessOrder"), (0, u "Z"), (13, .methodref 23 82), (0, .nameAndType 30 83), (0, u "(IF)V"), (37, .class_ 122), (0, u "java/util/LinkedHashMap$LinkedKeySet"), (20, .class_ 144), (0, u "java/util/LinkedHashMap$LinkedValues"), (9, .class_ 155), (0, u "java/util/LinkedHashMap$LinkedEntrySet"), (44, .class_ 201), (0, u "java/util/LinkedHashMap$ReversedLinkedHashMapView"), (3, .class_ 206), (0, u "java/util/SequencedMap"), (0, u "serialVersionUID"), (0, u "J"), (5, u "PUT_NORM"), (1, u "PUT_FIRST"), (1, u "PUT_LAST"), (143, .class_ 363), (0, u "java/util/LinkedHashMap$LinkedEntryIterator"), (0, .class_ 365), (0, u "java/util/LinkedHashMap$LinkedValueIterator"), (0, .class_ 367), (0, u "java/util/LinkedHashMap$LinkedKeyIterator"), (0, .class_ 369), (0, u "java/util/LinkedHashMap$LinkedHashIterator")] 16

def k18c0 : Code := { maxStack := 3, maxLocals := 3, code := jdk_94_method_14_code, exceptionTable := #[], attributes := #[] }
def k18m0 : Method := { name := "<init>", desc := "(IF)V", sig := { parameters := [.int, .float], returnType := none }, accessFlags := 1, code := some k18c0 }
def k18m1 : Method := { name := "<init>", desc := "()V", sig := { parameters := [], returnType := none }, accessFlags := 1, code := none }
/-- java/util/LinkedHashMap -/
def k18 : Class := { plain "java/util/LinkedHashMap" (some 7) with
  accessFlags := 33
  interfaces := #[17]
  cf := some (fileOf pool18 2 #[.nestMembers #[200, 362, 364, 366, 368, 154, 143, 121, 15]] #[{ accessFlags := 1, nameIndex := 30, descriptorIndex := 83, attributes := #[] }, { accessFlags := 1, nameIndex := 30, descriptorIndex := 27, attributes := #[] }] 33 23 #[205] #[{ accessFlags := 26, nameIndex := 207, descriptorIndex := 208, attributes := #[] }, { accessFlags := 128, nameIndex := 9, descriptorIndex := 10, attributes := #[] }, { accessFlags := 128, nameIndex := 13, descriptorIndex := 10, attributes := #[] }, { accessFlags := 16, nameIndex := 66, descriptorIndex := 67, attributes := #[] }, { accessFlags := 24, nameIndex := 214, descriptorIndex := 6, attributes := #[] }, { accessFlags := 24, nameIndex := 216, descriptorIndex := 6, attributes := #[] }, { accessFlags := 24, nameIndex := 218, descriptorIndex := 6, attributes := #[] }, { accessFlags := 128, nameIndex := 5, descriptorIndex := 6, attributes := #[] }])
  fields := #[{ name := "serialVersionUID", type := .long, accessFlags := 26, slot := 0, constantValue := 0 }, { name := "head", type := (.object "java/util/LinkedHashMap$Entry"), accessFlags := 128, slot := 8, constantValue := 0 }, { name := "tail", type := (.object "java/util/LinkedHashMap$Entry"), accessFlags := 128, slot := 9, constantValue := 0 }, { name := "accessOrder", type := .boolean, accessFlags := 16, slot := 10, constantValue := 0 }, { name := "PUT_NORM", type := .int, accessFlags := 24, slot := 1, constantValue := 0 }, { name := "PUT_FIRST", type := .int, accessFlags := 24, slot := 2, constantValue := 0 }, { name := "PUT_LAST", type := .int, accessFlags := 24, slot := 3, constantValue := 0 }, { name := "putMode", type := .int, accessFlags := 128, slot := 11, constantValue := 0 }]
  methods := #[k18m0, k18m1]
  instanceTypes := #[(.object "java/util/Set"), (.object "java/util/Collection"), (.array (.object "java/util/HashMap$Node")), (.object "java/util/Set"), .int, .int, .int, .float, (.object "java/util/LinkedHashMap$Entry"), (.object "java/util/LinkedHashMap$Entry"), .boolean, .int]
  staticTypes := #[.long, .int, .int, .int]
  resolved := Array.replicate 386 none
  statics := none }

def pool19 : Array CpInfo := pool [(2, .class_ 4), (1, u "java/lang/Object"), (0, u "<init>"), (0, u "()V"), (1, .class_ 10), (1, u "java/lang/Number"), (2, .class_ 14), (0, u "java/io/Serializable"), (0, u "serialVersionUID"), (0, u "J")] 20

def k19m0 : Method := { name := "<init>", desc := "()V", sig := { parameters := [], returnType := none }, accessFlags := 1, code := none }
/-- java/lang/Number -/
def k19 : Class := { plain "java/lang/Number" (some 0) with
  accessFlags := 1057
  interfaces := #[6]
  cf := some (fileOf pool19 8 #[] #[{ accessFlags := 1, nameIndex := 5, descriptorIndex := 6, attributes := #[] }] 1057 2 #[13] #[{ accessFlags := 26, nameIndex := 15, descriptorIndex := 16, attributes := #[] }])
  fields := #[{ name := "serialVersionUID", type := .long, accessFlags := 26, slot := 0, constantValue := 0 }]
  methods := #[k19m0]
  instanceTypes := #[]
  staticTypes := #[.long]
  resolved := Array.replicate 37 none
  statics := none }

def pool20 : Array CpInfo := pool [(1, .class_ 2), (0, u "java/lang/Comparable"), (0, .class_ 4), (0, u "java/lang/Object")] 7

/-- java/lang/Comparable -/
def k20 : Class := { plain "java/lang/Comparable" (some 0) with
  accessFlags := 1537
  interfaces := #[]
  cf := some (fileOf pool20 1 #[] #[] 1537 3 #[] #[])
  fields := #[]
  methods := #[]
  instanceTypes := #[]
  staticTypes := #[]
  resolved := Array.replicate 12 none
  statics := none }

def pool21 : Array CpInfo := pool [(1, .class_ 2), (0, u "java/lang/constant/Constable"), (0, .class_ 4), (0, u "java/lang/Object")] 6

/-- java/lang/constant/Constable -/
def k21 : Class := { plain "java/lang/constant/Constable" (some 0) with
  accessFlags := 1537
  interfaces := #[]
  cf := some (fileOf pool21 1 #[] #[] 1537 3 #[] #[])
  fields := #[]
  methods := #[]
  instanceTypes := #[]
  staticTypes := #[]
  resolved := Array.replicate 11 none
  statics := none }

def pool22 : Array CpInfo := pool [(1, .class_ 2), (0, u "java/lang/constant/ConstantDesc"), (0, .class_ 4), (0, u "java/lang/Object")] 32

/-- java/lang/constant/ConstantDesc -/
def k22 : Class := { plain "java/lang/constant/ConstantDesc" (some 0) with
  accessFlags := 1537
  interfaces := #[]
  cf := some (fileOf pool22 1 #[] #[] 1537 3 #[] #[])
  fields := #[]
  methods := #[]
  instanceTypes := #[]
  staticTypes := #[]
  resolved := Array.replicate 37 none
  statics := none }

def pool23 : Array CpInfo := pool [(1, .class_ 2), (0, u "java/lang/Float"), (48, .class_ 53), (1, u "java/lang/Number"), (3, u "value"), (0, u "F"), (2, u "isNaN"), (0, u "(F)Z"), (28, u "$assertionsDisabled"), (0, u "Z"), (52, u "TYPE"), (0, u "Ljava/lang/Class;"), (0, .class_ 148), (0, u "java/lang/Comparable"), (0, .class_ 150), (0, u "java/lang/constant/Constable"), (0, .class_ 152), (0, u "java/lang/constant/ConstantDesc"), (0, u "POSITIVE_INFINITY"), (1, u "NEGATIVE_INFINITY"), (1, u "NaN"), (1, u "MAX_VALUE"), (0, u "MIN_NORMAL"), (0, u "MIN_VALUE"), (1, u "SIZE"), (0, u "I"), (1, u "PRECISION"), (1, u "MAX_EXPONENT"), (1, u "MIN_EXPONENT"), (1, u "BYTES"), (3, u "serialVersionUID"), (0, u "J")] 101

def k23c0 : Code := { maxStack := 2, maxLocals := 1, code := jdk_118_method_6_code, exceptionTable := #[], attributes := #[] }
def k23m0 : Method := { name := "isNaN", desc := "(F)Z", sig := { parameters := [.float], returnType := some .boolean }, accessFlags := 9, code := some k23c0 }
/-- java/lang/Float -/
def k23 : Class := { plain "java/lang/Float" (some 19) with
  accessFlags := 49
  interfaces := #[20, 21, 22]
  cf := some (fileOf pool23 1 #[] #[{ accessFlags := 9, nameIndex := 61, descriptorIndex := 62, attributes := #[] }] 49 51 #[147, 149, 151] #[{ accessFlags := 25, nameIndex := 153, descriptorIndex := 58, attributes := #[] }, { accessFlags := 25, nameIndex := 155, descriptorIndex := 58, attributes := #[] }, { accessFlags := 25, nameIndex := 157, descriptorIndex := 58, attributes := #[] }, { accessFlags := 25, nameIndex := 159, descriptorIndex := 58, attributes := #[] }, { accessFlags := 25, nameIndex := 160, descriptorIndex := 58, attributes := #[] }, { accessFlags := 25, nameIndex := 161, descriptorIndex := 58, attributes := #[] }, { accessFlags := 25, nameIndex := 163, descriptorIndex := 164, attributes := #[] }, { accessFlags := 25, nameIndex := 166, descriptorIndex := 164, attributes := #[] }, { accessFlags := 25, nameIndex := 168, descriptorIndex := 164, attributes := #[] }, { accessFlags := 25, nameIndex := 170, descriptorIndex := 164, attributes := #[] }, { accessFlags := 25, nameIndex := 172, descriptorIndex := 164, attributes := #[] }, { accessFlags := 25, nameIndex := 145, descriptorIndex := 146, attributes := #[] }, { accessFlags := 18, nameIndex := 57, descriptorIndex := 58, attributes := #[] }, { accessFlags := 26, nameIndex := 176, descriptorIndex := 177, attributes := #[] }, { accessFlags := 4120, nameIndex := 91, descriptorIndex := 92, attributes := #[] }])
  fields := #[{ name := "POSITIVE_INFINITY", type := .float, accessFlags := 25, slot := 0, constantValue := 0 }, { name := "NEGATIVE_INFINITY", type := .float, accessFlags := 25, slot := 1, constantValue := 0 }, { name := "NaN", type := .float, accessFlags := 25, slot := 2, constantValue := 0 }, { name := "MAX_VALUE", type := .float, accessFlags := 25, slot := 3, constantValue := 0 }, { name := "MIN_NORMAL", type := .float, accessFlags := 25, slot := 4, constantValue := 0 }, { name := "MIN_VALUE", type := .float, accessFlags := 25, slot := 5, constantValue := 0 }, { name := "SIZE", type := .int, accessFlags := 25, slot := 6, constantValue := 0 }, { name := "PRECISION", type := .int, accessFlags := 25, slot := 7, constantValue := 0 }, { name := "MAX_EXPONENT", type := .int, accessFlags := 25, slot := 8, constantValue := 0 }, { name := "MIN_EXPONENT", type := .int, accessFlags := 25, slot := 9, constantValue := 0 }, { name := "BYTES", type := .int, accessFlags := 25, slot := 10, constantValue := 0 }, { name := "TYPE", type := (.object "java/lang/Class"), accessFlags := 25, slot := 11, constantValue := 0 }, { name := "value", type := .float, accessFlags := 18, slot := 0, constantValue := 0 }, { name := "serialVersionUID", type := .long, accessFlags := 26, slot := 12, constantValue := 0 }, { name := "$assertionsDisabled", type := .boolean, accessFlags := 4120, slot := 13, constantValue := 0 }]
  methods := #[k23m0]
  instanceTypes := #[.float]
  staticTypes := #[.float, .float, .float, .float, .float, .float, .int, .int, .int, .int, .int, (.object "java/lang/Class"), .long, .boolean]
  resolved := Array.replicate 279 none
  statics := none }

def pool24 : Array CpInfo := pool [(1, .class_ 2), (0, u "java/lang/Integer"), (16, u "digits"), (0, u "[C"), (32, u "numberOfLeadingZeros"), (0, u "(I)I"), (30, u "DigitOnes"), (0, u "[B"), (2, u "DigitTens"), (99, .class_ 190), (0, u "java/lang/Integer$IntegerCache"), (3, u "I"), (8, .class_ 204), (0, u "java/lang/Number"), (2, u "value"), (56, .integer 65536), (37, u "TYPE"), (0, u "Ljava/lang/Class;"), (0, .class_ 305), (0, u "java/lang/Comparable"), (0, .class_ 307), (0, u "java/lang/constant/Constable"), (0, .class_ 309), (0, u "java/lang/constant/ConstantDesc"), (0, u "MIN_VALUE"), (1, u "MAX_VALUE"), (3, u "SIZE"), (1, u "BYTES"), (1, u "serialVersionUID"), (0, u "J")] 131

def k24c0 : Code := { maxStack := 3, maxLocals := 2, code := jdk_33_method_47_code, exceptionTable := #[], attributes := #[] }
def k24m0 : Method := { name := "numberOfLeadingZeros", desc := "(I)I", sig := { parameters := [.int], returnType := some .int }, accessFlags := 9, code := some k24c0 }
/-- java/lang/Integer -/
def k24 : Class := { plain "java/lang/Integer" (some 19) with
  accessFlags := 49
  interfaces := #[20, 21, 22]
  cf := some (fileOf pool24 1 #[.nestMembers #[189]] #[{ accessFlags := 9, nameIndex := 53, descriptorIndex := 54, attributes := #[] }] 49 203 #[304, 306, 308] #[{ accessFlags := 25, nameIndex := 310, descriptorIndex := 194, attributes := #[] }, { accessFlags := 25, nameIndex := 312, descriptorIndex := 194, attributes := #[] }, { accessFlags := 25, nameIndex := 302, descriptorIndex := 303, attributes := #[] }, { accessFlags := 24, nameIndex := 19, descriptorIndex := 20, attributes := #[] }, { accessFlags := 24, nameIndex := 89, descriptorIndex := 86, attributes := #[] }, { accessFlags := 24, nameIndex := 85, descriptorIndex := 86, attributes := #[] }, { accessFlags := 18, nameIndex := 207, descriptorIndex := 194, attributes := #[] }, { accessFlags := 25, nameIndex := 316, descriptorIndex := 194, attributes := #[] }, { accessFlags := 25, nameIndex := 318, descriptorIndex := 194, attributes := #[] }, { accessFlags := 26, nameIndex := 320, descriptorIndex := 321, attributes := #[] }])
  fields := #[{ name := "MIN_VALUE", type := .int, accessFlags := 25, slot := 0, constantValue := 0 }, { name := "MAX_VALUE", type := .int, accessFlags := 25, slot := 1, constantValue := 0 }, { name := "TYPE", type := (.object "java/lang/Class"), accessFlags := 25, slot := 2, constantValue := 0 }, { name := "digits", type := (.array .char), accessFlags := 24, slot := 3, constantValue := 0 }, { name := "DigitTens", type := (.array .byte), accessFlags := 24, slot := 4, constantValue := 0 }, { name := "DigitOnes", type := (.array .byte), accessFlags := 24, slot := 5, constantValue := 0 }, { name := "value", type := .int, accessFlags := 18, slot := 0, constantValue := 0 }, { name := "SIZE", type := .int, accessFlags := 25, slot := 6, constantValue := 0 }, { name := "BYTES", type := .int, accessFlags := 25, slot := 7, constantValue := 0 }, { name := "serialVersionUID", type := .long, accessFlags := 26, slot := 8, constantValue := 0 }]
  methods := #[k24m0]
  instanceTypes := #[.int]
  staticTypes := #[.int, .int, (.object "java/lang/Class"), (.array .char), (.array .byte), (.array .byte), .int, .int, .long]
  resolved := Array.replicate 453 none
  statics := none }

def pool25 : Array CpInfo := pool [(1, .class_ 2), (0, u "java/util/function/LongSupplier"), (0, .class_ 4), (0, u "java/lang/Object"), (0, u "getAsLong"), (0, u "()J")] 4

def k25m0 : Method := { name := "getAsLong", desc := "()J", sig := { parameters := [], returnType := some .long }, accessFlags := 1025, code := none }
/-- java/util/function/LongSupplier -/
def k25 : Class := { plain "java/util/function/LongSupplier" (some 0) with
  accessFlags := 1537
  interfaces := #[]
  cf := some (fileOf pool25 1 #[] #[{ accessFlags := 1025, nameIndex := 5, descriptorIndex := 6, attributes := #[] }] 1537 3 #[] #[])
  fields := #[]
  methods := #[k25m0]
  instanceTypes := #[]
  staticTypes := #[]
  resolved := Array.replicate 11 none
  statics := none }

def pool26 : Array CpInfo := pool [(1, .class_ 2), (0, u "java/lang/Math"), (1, .class_ 6), (1, u "java/lang/Object"), (0, u "<init>"), (0, u "()V"), (89, .class_ 100), (1, u "java/lang/Math$RandomNumberGeneratorHolder"), (20, u "(JJ)J"), (50, u "negativeZeroFloatBits"), (0, u "J"), (2, u "negativeZeroDoubleBits"), (21, u "max"), (46, u "$assertionsDisabled"), (0, u "Z"), (91, u "twoToTheDoubleScaleDown"), (0, u "D"), (4, u "twoToTheDoubleScaleUp"), (9, u "E"), (3, u "PI"), (2, u "TAU"), (2, u "DEGREES_TO_RADIANS"), (0, u "RADIANS_TO_DEGREES")] 94

def k26m0 : Method := { name := "<init>", desc := "()V", sig := { parameters := [], returnType := none }, accessFlags := 2, code := none }
def k26c1 : Code := { maxStack := 4, maxLocals := 4, code := jdk_29_method_66_code, exceptionTable := #[], attributes := #[] }
def k26m1 : Method := { name := "max", desc := "(JJ)J", sig := { parameters := [.long, .long], returnType := some .long }, accessFlags := 9, code := some k26c1 }
/-- java/lang/Math -/
def k26 : Class := { plain "java/lang/Math" (some 0) with
  accessFlags := 49
  interfaces := #[]
  cf := some (fileOf pool26 1 #[.nestMembers #[98]] #[{ accessFlags := 2, nameIndex := 7, descriptorIndex := 8, attributes := #[] }, { accessFlags := 9, nameIndex := 198, descriptorIndex := 121, attributes := #[] }] 49 4 #[] #[{ accessFlags := 25, nameIndex := 354, descriptorIndex := 339, attributes := #[] }, { accessFlags := 25, nameIndex := 358, descriptorIndex := 339, attributes := #[] }, { accessFlags := 25, nameIndex := 361, descriptorIndex := 339, attributes := #[] }, { accessFlags := 26, nameIndex := 364, descriptorIndex := 339, attributes := #[] }, { accessFlags := 26, nameIndex := 365, descriptorIndex := 339, attributes := #[] }, { accessFlags := 26, nameIndex := 172, descriptorIndex := 173, attributes := #[] }, { accessFlags := 26, nameIndex := 176, descriptorIndex := 173, attributes := #[] }, { accessFlags := 8, nameIndex := 344, descriptorIndex := 339, attributes := #[] }, { accessFlags := 8, nameIndex := 338, descriptorIndex := 339, attributes := #[] }, { accessFlags := 4120, nameIndex := 245, descriptorIndex := 246, attributes := #[] }])
  fields := #[{ name := "E", type := .double, accessFlags := 25, slot := 0, constantValue := 0 }, { name := "PI", type := .double, accessFlags := 25, slot := 1, constantValue := 0 }, { name := "TAU", type := .double, accessFlags := 25, slot := 2, constantValue := 0 }, { name := "DEGREES_TO_RADIANS", type := .double, accessFlags := 26, slot := 3, constantValue := 0 }, { name := "RADIANS_TO_DEGREES", type := .double, accessFlags := 26, slot := 4, constantValue := 0 }, { name := "negativeZeroFloatBits", type := .long, accessFlags := 26, slot := 5, constantValue := 0 }, { name := "negativeZeroDoubleBits", type := .long, accessFlags := 26, slot := 6, constantValue := 0 }, { name := "twoToTheDoubleScaleUp", type := .double, accessFlags := 8, slot := 7, constantValue := 0 }, { name := "twoToTheDoubleScaleDown", type := .double, accessFlags := 8, slot := 8, constantValue := 0 }, { name := "$assertionsDisabled", type := .boolean, accessFlags := 4120, slot := 9, constantValue := 0 }]
  methods := #[k26m0, k26m1]
  instanceTypes := #[]
  staticTypes := #[.double, .double, .double, .double, .double, .long, .long, .double, .double, .boolean]
  resolved := Array.replicate 460 none
  statics := none }

/-- the primitive byte -/
def k27 : Class := { plain "byte" none with kind := .primitive 'B', accessFlags := 0x411 }
/-- [B -/
def k28 : Class := { plain "[B" (some 0) with kind := .array 27 .byte, interfaces := #[5, 6], accessFlags := 1041 }

/-- the primitive int -/
def k29 : Class := { plain "int" none with kind := .primitive 'I', accessFlags := 0x411 }
/-- [I -/
def k30 : Class := { plain "[I" (some 0) with kind := .array 29 .int, interfaces := #[5, 6], accessFlags := 1041 }

def classes0 : Array Class := #[k0, k1, k2, k3, k4, k5, k6, k7, k8, k9, k10, k11, k12, k13, k14, k15, k16, k17, k18, k19, k20, k21, k22, k23, k24, k25, k26, k27, k28, k29, k30]
/-- the class that the rule has made for the site at 38 of com/example/riverside/riverside/Arbiter.<init> -/
def k31 : Class := Jvm.LamKit.madeRec { classes := classes0 } "com/example/riverside/riverside/Arbiter" (Jvm.Lambda.Shape.mk "java/util/function/LongSupplier" "getAsLong" (Jvm.ClassFile.MethodDescriptor.mk ([] : List Jvm.ClassFile.FieldType) (Option.some Jvm.ClassFile.FieldType.long)) ([] : List Jvm.ClassFile.FieldType) (6 : Nat) "com/example/riverside/riverside/Arbiter" "lambda$new$0" (Jvm.ClassFile.MethodDescriptor.mk ([] : List Jvm.ClassFile.FieldType) (Option.some Jvm.ClassFile.FieldType.long)) false (Jvm.ClassFile.MethodDescriptor.mk ([] : List Jvm.ClassFile.FieldType) (Option.some Jvm.ClassFile.FieldType.long))) 31

def heap : Heap := #[{ cls := 31, slots := #[], vm := .none }]
def classes : Array Class := #[k0, k1, k2, k3, k4, k5, k6, k7, k8, k9, k10, k11, k12, k13, k14, k15, k16, k17, k18, k19, k20, k21, k22, k23, k24, k25, k26, k27, k28, k29, k30, k31]
def interned : List (Array UInt16 × Addr) := []
def slotsUsed : Nat := 0
def theMethod : MethodId := ⟨1, 1⟩
def args0 : Array Value := #[.long 5, .long 7, .long 9]
def aboutOver (below : List Frame) : State where
  vm := { classes := classes, interned := interned.toArray }
  heap := heap
  slotsUsed := slotsUsed
  threads := #[{ frames := .invoking theMethod args0 :: below }]
def below0 : List Frame := [.native { method := ⟨0, 0⟩, args := #[] }]
def about1 : State := aboutOver below0
def p0 : Program := .bare "" "" ""
def e0 : Env := launch0.env 0 0 0
theorem w_frames : about1.frames = Frame.invoking theMethod args0 :: below0 := rfl
set_option maxRecDepth 65536 in
theorem w_args : argsFit about1.vm theMethod args0 = true := by decide +kernel
set_option maxRecDepth 65536 in
theorem w_heap : heapFits about1 = true := by decide +kernel
set_option maxRecDepth 65536 in
theorem w_runnable : about1.curStatus? = some .runnable := by decide +kernel
set_option maxRecDepth 65536 in
theorem w_alone : about1.alone = true := by decide +kernel
set_option maxRecDepth 65536 in
theorem w_named : about1.methodNamed? x = some theMethod := by decide +kernel
set_option maxRecDepth 65536 in
theorem w_hears : about1.hears theMethod below0 = true := by decide +kernel
set_option maxRecDepth 65536 in
theorem w_ripe : about1.ripe theMethod args0 below0 = true := by decide +kernel
theorem w_running : about1.status = .running := rfl
set_option maxRecDepth 65536 in
theorem w_room : about1.hasRoom e0.platform room_1 = true :=
  launch0.hasRoom_least _ room_1 (by decide +kernel) (by decide +kernel) (by decide +kernel) (by decide +kernel) (by decide +kernel) (by decide +kernel)
theorem allAtoms_all (ts : List Jvm.Cond) (a : Array Jvm.Value) (st : Jvm.State) : (allAtoms ts).before a st = ts.all (fun c => c.before a st) := by
  induction ts with
  | nil => rfl
  | cons c t ih =>
    show (Jvm.Cond.and c (allAtoms t)).before a st = _
    rw [Jvm.Cond.before_and, ih, List.all_cons]
def words1 : List Jvm.Cond := Jvm.Cond.code x code maxLocals ret :: tables_1
/-- a 'code' word, met by the world's own term for the bytes: nothing is compared byte by byte -/
theorem code_word {y : MethodName} {bytes : ByteArray} {mx : Nat} {rt : Option FieldType} {a : Array Value} {s : State} {m : MethodId} {meth : Method} {c : Code} (h1 : s.methodNamed? y = some m) (h2 : s.vm.method? m = some meth) (h3 : meth.code = some c) (h4 : c.code = bytes)
    (h5 : (c.maxLocals == mx && c.exceptionTable.isEmpty && decide (c.maxStack ≤ mostOperands) && decide (meth.sig.returnType = rt) && !meth.locks && decide (parseMethodDescriptor y.desc = some meth.sig)) = true) : (Jvm.Cond.code y bytes mx rt).before a s = true := by
  simp only [Bool.and_eq_true, beq_iff_eq, Bool.not_eq_true', decide_eq_true_eq] at h5
  obtain ⟨⟨⟨⟨⟨g1, g2⟩, g3⟩, g4⟩, g5⟩, g6⟩ := h5
  simp [Cond.before, Cond.holds, Cond.value, h1, h2, h3, h4, g1, g2, g3, g4, g5, g6]
def isCode : Jvm.Cond → Bool
  | .code _ _ _ _ => true
  | _ => false
theorem all_split {L : List Jvm.Cond} {P : Jvm.Cond → Bool} (h1 : L.all (fun c => isCode c || P c) = true) (h2 : ∀ c ∈ L.filter isCode, P c = true) : L.all P = true := by
  refine List.all_eq_true.mpr fun c hc => ?_
  have h := List.all_eq_true.mp h1 c hc
  rcases Bool.eq_false_or_eq_true (isCode c) with hi | hi
  · exact h2 c (List.mem_filter.mpr ⟨hc, hi⟩)
  · simpa [hi] using h
set_option maxRecDepth 65536 in
theorem w_c0 : (Jvm.Cond.code x code maxLocals ret).before args0 about1 = true := code_word (m := ⟨1, 1⟩) (meth := k1m1) (c := k1c1) (by decide +kernel) rfl rfl rfl (by decide +kernel)
set_option maxRecDepth 65536 in
theorem w_c1 : (Jvm.Cond.code ({ cls := "com/example/riverside/riverside/Arbiter", name := "<init>", desc := "(J)V" } : Jvm.MethodName) prog_1_method_1_code (3 : Nat) (Option.none : Option Jvm.ClassFile.FieldType)).before args0 about1 = true := code_word (m := ⟨2, 0⟩) (meth := k2m0) (c := k2c0) (by decide +kernel) rfl rfl rfl (by decide +kernel)
set_option maxRecDepth 65536 in
theorem w_c2 : (Jvm.Cond.code ({ cls := "java/lang/Object", name := "<init>", desc := "()V" } : Jvm.MethodName) object_method_1_code (1 : Nat) (Option.none : Option Jvm.ClassFile.FieldType)).before args0 about1 = true := code_word (m := ⟨0, 0⟩) (meth := k0m0) (c := k0c0) (by decide +kernel) rfl rfl rfl (by decide +kernel)
set_option maxRecDepth 65536 in
theorem w_c3 : (Jvm.Cond.code ({ cls := "java/util/HashMap", name := "<init>", desc := "()V" } : Jvm.MethodName) jdk_69_method_7_code (1 : Nat) (Option.none : Option Jvm.ClassFile.FieldType)).before args0 about1 = true := code_word (m := ⟨7, 2⟩) (meth := k7m2) (c := k7c2) (by decide +kernel) rfl rfl rfl (by decide +kernel)
set_option maxRecDepth 65536 in
theorem w_c4 : (Jvm.Cond.code ({ cls := "java/util/AbstractMap", name := "<init>", desc := "()V" } : Jvm.MethodName) jdk_71_method_1_code (1 : Nat) (Option.none : Option Jvm.ClassFile.FieldType)).before args0 about1 = true := code_word (m := ⟨4, 0⟩) (meth := k4m0) (c := k4c0) (by decide +kernel) rfl rfl rfl (by decide +kernel)
set_option maxRecDepth 65536 in
theorem w_c5 : (Jvm.Cond.code ({ cls := "java/util/LinkedHashSet", name := "<init>", desc := "()V" } : Jvm.MethodName) jdk_2620_method_3_code (1 : Nat) (Option.none : Option Jvm.ClassFile.FieldType)).before args0 about1 = true := code_word (m := ⟨16, 0⟩) (meth := k16m0) (c := k16c0) (by decide +kernel) rfl rfl rfl (by decide +kernel)
set_option maxRecDepth 65536 in
theorem w_c6 : (Jvm.Cond.code ({ cls := "java/util/HashSet", name := "<init>", desc := "(IFZ)V" } : Jvm.MethodName) jdk_93_method_5_code (4 : Nat) (Option.none : Option Jvm.ClassFile.FieldType)).before args0 about1 = true := code_word (m := ⟨13, 1⟩) (meth := k13m1) (c := k13c1) (by decide +kernel) rfl rfl rfl (by decide +kernel)
set_option maxRecDepth 65536 in
theorem w_c7 : (Jvm.Cond.code ({ cls := "java/util/AbstractSet", name := "<init>", desc := "()V" } : Jvm.MethodName) jdk_91_method_1_code (1 : Nat) (Option.none : Option Jvm.ClassFile.FieldType)).before args0 about1 = true := code_word (m := ⟨12, 0⟩) (meth := k12m0) (c := k12c0) (by decide +kernel) rfl rfl rfl (by decide +kernel)
set_option maxRecDepth 65536 in
theorem w_c8 : (Jvm.Cond.code ({ cls := "java/util/AbstractCollection", name := "<init>", desc := "()V" } : Jvm.MethodName) jdk_22_method_1_code (1 : Nat) (Option.none : Option Jvm.ClassFile.FieldType)).before args0 about1 = true := code_word (m := ⟨10, 0⟩) (meth := k10m0) (c := k10c0) (by decide +kernel) rfl rfl rfl (by decide +kernel)
set_option maxRecDepth 65536 in
theorem w_c9 : (Jvm.Cond.code ({ cls := "java/util/LinkedHashMap", name := "<init>", desc := "(IF)V" } : Jvm.MethodName) jdk_94_method_14_code (3 : Nat) (Option.none : Option Jvm.ClassFile.FieldType)).before args0 about1 = true := code_word (m := ⟨18, 0⟩) (meth := k18m0) (c := k18c0) (by decide +kernel) rfl rfl rfl (by decide +kernel)
set_option maxRecDepth 65536 in
theorem w_c10 : (Jvm.Cond.code ({ cls := "java/util/HashMap", name := "<init>", desc := "(IF)V" } : Jvm.MethodName) jdk_69_method_5_code (3 : Nat) (Option.none : Option Jvm.ClassFile.FieldType)).before args0 about1 = true := code_word (m := ⟨7, 1⟩) (meth := k7m1) (c := k7c1) (by decide +kernel) rfl rfl rfl (by decide +kernel)
set_option maxRecDepth 65536 in
theorem w_c11 : (Jvm.Cond.code ({ cls := "java/lang/Float", name := "isNaN", desc := "(F)Z" } : Jvm.MethodName) jdk_118_method_6_code (1 : Nat) (Option.some Jvm.ClassFile.FieldType.boolean)).before args0 about1 = true := code_word (m := ⟨23, 0⟩) (meth := k23m0) (c := k23c0) (by decide +kernel) rfl rfl rfl (by decide +kernel)
set_option maxRecDepth 65536 in
theorem w_c12 : (Jvm.Cond.code ({ cls := "java/util/HashMap", name := "tableSizeFor", desc := "(I)I" } : Jvm.MethodName) jdk_69_method_4_code (2 : Nat) (Option.some Jvm.ClassFile.FieldType.int)).before args0 about1 = true := code_word (m := ⟨7, 0⟩) (meth := k7m0) (c := k7c0) (by decide +kernel) rfl rfl rfl (by decide +kernel)
set_option maxRecDepth 65536 in
theorem w_c13 : (Jvm.Cond.code ({ cls := "java/lang/Integer", name := "numberOfLeadingZeros", desc := "(I)I" } : Jvm.MethodName) jdk_33_method_47_code (2 : Nat) (Option.some Jvm.ClassFile.FieldType.int)).before args0 about1 = true := code_word (m := ⟨24, 0⟩) (meth := k24m0) (c := k24c0) (by decide +kernel) rfl rfl rfl (by decide +kernel)
set_option maxRecDepth 65536 in
theorem w_c14 : (Jvm.Cond.code ({ cls := "com/example/riverside/riverside/Arbiter", name := "nextFence", desc := "()J" } : Jvm.MethodName) prog_1_method_12_code (1 : Nat) (Option.some Jvm.ClassFile.FieldType.long)).before args0 about1 = true := code_word (m := ⟨2, 1⟩) (meth := k2m1) (c := k2c1) (by decide +kernel) rfl rfl rfl (by decide +kernel)
set_option maxRecDepth 65536 in
theorem w_c15 : (Jvm.Cond.code ({ cls := "com/example/riverside/riverside/Arbiter", name := "advanceFences", desc := "(J)V" } : Jvm.MethodName) prog_1_method_13_code (3 : Nat) (Option.none : Option Jvm.ClassFile.FieldType)).before args0 about1 = true := code_word (m := ⟨2, 2⟩) (meth := k2m2) (c := k2c2) (by decide +kernel) rfl rfl rfl (by decide +kernel)
set_option maxRecDepth 65536 in
theorem w_c16 : (Jvm.Cond.code ({ cls := "java/lang/Math", name := "max", desc := "(JJ)J" } : Jvm.MethodName) jdk_29_method_66_code (4 : Nat) (Option.some Jvm.ClassFile.FieldType.long)).before args0 about1 = true := code_word (m := ⟨26, 1⟩) (meth := k26m1) (c := k26c1) (by decide +kernel) rfl rfl rfl (by decide +kernel)
def codes1 : List Jvm.Cond := [Jvm.Cond.code x code maxLocals ret, Jvm.Cond.code ({ cls := "com/example/riverside/riverside/Arbiter", name := "<init>", desc := "(J)V" } : Jvm.MethodName) prog_1_method_1_code (3 : Nat) (Option.none : Option Jvm.ClassFile.FieldType), Jvm.Cond.code ({ cls := "java/lang/Object", name := "<init>", desc := "()V" } : Jvm.MethodName) object_method_1_code (1 : Nat) (Option.none : Option Jvm.ClassFile.FieldType), Jvm.Cond.code ({ cls := "java/util/HashMap", name := "<init>", desc := "()V" } : Jvm.MethodName) jdk_69_method_7_code (1 : Nat) (Option.none : Option Jvm.ClassFile.FieldType), Jvm.Cond.code ({ cls := "java/util/AbstractMap", name := "<init>", desc := "()V" } : Jvm.MethodName) jdk_71_method_1_code (1 : Nat) (Option.none : Option Jvm.ClassFile.FieldType), Jvm.Cond.code ({ cls := "java/util/LinkedHashSet", name := "<init>", desc := "()V" } : Jvm.MethodName) jdk_2620_method_3_code (1 : Nat) (Option.none : Option Jvm.ClassFile.FieldType), Jvm.Cond.code ({ cls := "java/util/HashSet", name := "<init>", desc := "(IFZ)V" } : Jvm.MethodName) jdk_93_method_5_code (4 : Nat) (Option.none : Option Jvm.ClassFile.FieldType), Jvm.Cond.code ({ cls := "java/util/AbstractSet", name := "<init>", desc := "()V" } : Jvm.MethodName) jdk_91_method_1_code (1 : Nat) (Option.none : Option Jvm.ClassFile.FieldType), Jvm.Cond.code ({ cls := "java/util/AbstractCollection", name := "<init>", desc := "()V" } : Jvm.MethodName) jdk_22_method_1_code (1 : Nat) (Option.none : Option Jvm.ClassFile.FieldType), Jvm.Cond.code ({ cls := "java/util/LinkedHashMap", name := "<init>", desc := "(IF)V" } : Jvm.MethodName) jdk_94_method_14_code (3 : Nat) (Option.none : Option Jvm.ClassFile.FieldType), Jvm.Cond.code ({ cls := "java/util/HashMap", name := "<init>", desc := "(IF)V" } : Jvm.MethodName) jdk_69_method_5_code (3 : Nat) (Option.none : Option Jvm.ClassFile.FieldType), Jvm.Cond.code ({ cls := "java/lang/Float", name := "isNaN", desc := "(F)Z" } : Jvm.MethodName) jdk_118_method_6_code (1 : Nat) (Option.some Jvm.ClassFile.FieldType.boolean), Jvm.Cond.code ({ cls := "java/util/HashMap", name := "tableSizeFor", desc := "(I)I" } : Jvm.MethodName) jdk_69_method_4_code (2 : Nat) (Option.some Jvm.ClassFile.FieldType.int), Jvm.Cond.code ({ cls := "java/lang/Integer", name := "numberOfLeadingZeros", desc := "(I)I" } : Jvm.MethodName) jdk_33_method_47_code (2 : Nat) (Option.some Jvm.ClassFile.FieldType.int), Jvm.Cond.code ({ cls := "com/example/riverside/riverside/Arbiter", name := "nextFence", desc := "()J" } : Jvm.MethodName) prog_1_method_12_code (1 : Nat) (Option.some Jvm.ClassFile.FieldType.long), Jvm.Cond.code ({ cls := "com/example/riverside/riverside/Arbiter", name := "advanceFences", desc := "(J)V" } : Jvm.MethodName) prog_1_method_13_code (3 : Nat) (Option.none : Option Jvm.ClassFile.FieldType), Jvm.Cond.code ({ cls := "java/lang/Math", name := "max", desc := "(JJ)J" } : Jvm.MethodName) jdk_29_method_66_code (4 : Nat) (Option.some Jvm.ClassFile.FieldType.long)]
set_option maxRecDepth 65536 in
theorem codes_eq : words1.filter isCode = codes1 := rfl
theorem w_codes : ∀ c ∈ words1.filter isCode, c.before args0 about1 = true := by
  rw [codes_eq]
  intro c hc
  simp only [codes1, List.mem_cons, List.not_mem_nil, or_false] at hc
  rcases hc with rfl | rfl | rfl | rfl | rfl | rfl | rfl | rfl | rfl | rfl | rfl | rfl | rfl | rfl | rfl | rfl | rfl
  · exact w_c0
  · exact w_c1
  · exact w_c2
  · exact w_c3
  · exact w_c4
  · exact w_c5
  · exact w_c6
  · exact w_c7
  · exact w_c8
  · exact w_c9
  · exact w_c10
  · exact w_c11
  · exact w_c12
  · exact w_c13
  · exact w_c14
  · exact w_c15
  · exact w_c16
set_option maxRecDepth 65536 in
theorem w_t1 : (words1.take 24).all (fun c => isCode c || c.before args0 about1) = true := by decide +kernel
set_option maxRecDepth 65536 in
theorem w_t2 : ((words1.drop 24).take 24).all (fun c => isCode c || c.before args0 about1) = true := by decide +kernel
set_option maxRecDepth 65536 in
theorem w_t3 : (((words1.drop 24).drop 24).take 24).all (fun c => isCode c || c.before args0 about1) = true := by decide +kernel
set_option maxRecDepth 65536 in
theorem w_t4 : ((((words1.drop 24).drop 24).drop 24).take 24).all (fun c => isCode c || c.before args0 about1) = true := by decide +kernel
set_option maxRecDepth 65536 in
theorem w_t5 : ((((words1.drop 24).drop 24).drop 24).drop 24).all (fun c => isCode c || c.before args0 about1) = true := by decide +kernel
theorem w_tables : (allAtoms (Jvm.Cond.code x code maxLocals ret :: tables_1)).before args0 about1 = true := by
  rw [allAtoms_all]
  show words1.all (fun c => c.before args0 about1) = true
  refine all_split ?_ w_codes
  rw [← List.take_append_drop 24 words1, List.all_append, w_t1, ← List.take_append_drop 24 (words1.drop 24), List.all_append, w_t2, ← List.take_append_drop 24 ((words1.drop 24).drop 24), List.all_append, w_t3, ← List.take_append_drop 24 (((words1.drop 24).drop 24).drop 24), List.all_append, w_t4, w_t5]
  rfl
set_option maxRecDepth 65536 in
theorem w_case : (Jvm.Cond.and given_1 narrow_1).before args0 about1 = true := by decide +kernel
theorem w_applies : (headSpec (Jvm.Cond.code x code maxLocals ret :: tables_1) room_1).applies x e0.platform about1 = true :=
  (Spec.applies_iff w_frames).mpr ⟨w_running, w_runnable, w_alone, w_named, w_hears, w_ripe, w_room, w_tables⟩
theorem atStart : AtStart classFile x code maxLocals ret World_1 tables_1 room_1 Calls_1 rest_1 Pre_1 launch0 p0 e0 about1 theMethod args0 below0 :=
  ⟨lists_1, trivial, launch0.admits_env _ _ _, launch0.least_env, fairChoices_fair.cas, fairChoices_fair.clock, w_frames, w_args, w_heap, w_applies, trivial, trivial, w_case⟩
end start1
theorem witness_1 : WitnessClaimed_1 := ⟨start1.p0, start1.e0, start1.about1, start1.theMethod, start1.args0, start1.below0, start1.atStart⟩
end Jvm.Pilot.@@N@@
