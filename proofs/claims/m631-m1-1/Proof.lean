import JvmDerived
import JvmDerived.Pilot.@@N@@Statement
import JvmDerived.Pilot.@@N@@Code
set_option linter.unusedVariables false
set_option linter.unusedSimpArgs false
namespace Jvm.RoadKit
open Sem ClassFile Op Lib Jvm.Stand Jvm.Free Jvm.LawKit
section New
variable {p : Program} {l : Launch} {e : Env} {R : Room} {s : State} {m : MethodId} {args : Array Value} {below : List Frame} {meth : Method} {c : Code} {T : State} {locs : List Loc} {cells slots : Nat}
theorem retI (X : Stand p l e R s m args below meth c T locs cells slots) (hx : p.tables.exec = Jvm.exec) {pc : Nat} {Ls : Array Slot} {z : Int32} {rest : List Value} (hret : meth.sig.returnType = some .int) (hd : decode c.code pc = .ok (.ireturn, 1)) {fs : List Frame}
    (hl : ∀ (f : JFrame) (acts : List Action), f.method = m → f.locked = none → f.entered = [] → (doReturn e (T.setTop f) acts (some (.int z))).1 = T.setFrames fs) : Steps p.tables e below (T.setTop (mkF m pc Ls (.int z :: rest))) (T.setFrames fs) := by
  have hm' : T.vm.method? m = some meth := X.method'
  have hn : narrow .int (.int z) = .int z := rfl
  show Steps p.tables e below (T.setTop { method := m, pc := pc, locals := Ls, stack := _ :: rest, locked := none }) _
  jvm_step X.here [X.here.top, hx, hd, hm', hret, hn]
  first | (intro acts; rw [hl _ acts rfl rfl rfl]) | rw [hl _ _ rfl rfl rfl]
  exact Steps.refl _
theorem own_lremM {g : JFrame} {target : State} (X : Stand p l e R s m args below meth c T locs cells slots) (hx : p.tables.exec = Jvm.exec) (hg : g.method = m) {x y : Int64} {rest : List Value} (hd : decode c.code g.pc = .ok (.lrem, 1)) (hs : g.stack = .long y :: .long x :: rest) (hy : y ≠ 0)
    (hr : Steps p.tables e below (T.setTop { g with pc := g.pc + 1, stack := .long (x % y) :: rest }) target) : Steps p.tables e below (T.setTop g) target := by
  have q : x - x / y * y = x % y := lrem_mod x y
  exact XS.lrem X.here hx hg hd hs hy (by rw [q]; exact hr)
theorem own_narB (P : Prop) [Decidable P] : nar .boolean (if P then (1 : Int32) else 0) = if P then (1 : Int32) else 0 := by split <;> rfl
end New
end Jvm.RoadKit
namespace Jvm.Pilot.@@N@@
open Jvm Jvm.ClassFile Sem Op Lib Jvm.Free Jvm.Free.Fl Jvm.Stand Jvm.LawKit Jvm.RoadKit Bundle Jvm.Pilot.@@N@@.Jvm.D
section Dbl
variable {p : Program} {l : Launch} {e : Env} {R : Room} {s : State} {m : MethodId} {args : Array Value} {below : List Frame} {meth : Method} {c : Code} {T : State} {locs : List Loc} {cells slots : Nat}
theorem own_dloadN {g : JFrame} {target : State} (X : Stand p l e R s m args below meth c T locs cells slots) (hx : p.tables.exec = Jvm.exec) (hg : g.method = m) {k : Fin 4} {v : UInt64} (hd : decode c.code g.pc = .ok (.dload_n k, 1)) (hl : g.locals[k.val]? = some (.val (.double v)))
    (hr : Steps p.tables e below (T.setTop { g with pc := g.pc + 1, stack := .double v :: g.stack }) target) : Steps p.tables e below (T.setTop g) target := by
  subst hg
  jvm_step X.here [X.here.top, hx, hd, hl]
  exact hr
theorem own_dload {g : JFrame} {target : State} (X : Stand p l e R s m args below meth c T locs cells slots) (hx : p.tables.exec = Jvm.exec) (hg : g.method = m) {k : Nat} {v : UInt64} (hd : decode c.code g.pc = .ok (.dload k, 2)) (hl : g.locals[k]? = some (.val (.double v)))
    (hr : Steps p.tables e below (T.setTop { g with pc := g.pc + 2, stack := .double v :: g.stack }) target) : Steps p.tables e below (T.setTop g) target := by
  subst hg
  jvm_step X.here [X.here.top, hx, hd, hl]
  exact hr
theorem own_dstoreN {g : JFrame} {target : State} (X : Stand p l e R s m args below meth c T locs cells slots) (hx : p.tables.exec = Jvm.exec) (hg : g.method = m) {k : Fin 4} {v : UInt64} {rest : List Value} {l' : Array Slot} (hd : decode c.code g.pc = .ok (.dstore_n k, 1)) (hs : g.stack = .double v :: rest) (hl : storeLocals g.locals k.val (.double v) = some l')
    (hr : Steps p.tables e below (T.setTop { g with pc := g.pc + 1, locals := l', stack := rest }) target) : Steps p.tables e below (T.setTop g) target := by
  subst hg
  jvm_step X.here [X.here.top, hx, hd, hs, hl]
  exact hr
theorem own_dstore {g : JFrame} {target : State} (X : Stand p l e R s m args below meth c T locs cells slots) (hx : p.tables.exec = Jvm.exec) (hg : g.method = m) {k : Nat} {v : UInt64} {rest : List Value} {l' : Array Slot} (hd : decode c.code g.pc = .ok (.dstore k, 2)) (hs : g.stack = .double v :: rest) (hl : storeLocals g.locals k (.double v) = some l')
    (hr : Steps p.tables e below (T.setTop { g with pc := g.pc + 2, locals := l', stack := rest }) target) : Steps p.tables e below (T.setTop g) target := by
  subst hg
  jvm_step X.here [X.here.top, hx, hd, hs, hl]
  exact hr
theorem own_i2d {g : JFrame} {target : State} (X : Stand p l e R s m args below meth c T locs cells slots) (hx : p.tables.exec = Jvm.exec) (hg : g.method = m) {x : Int32} {rest : List Value} (hd : decode c.code g.pc = .ok (.i2d, 1)) (hs : g.stack = .int x :: rest)
    (hr : Steps p.tables e below (T.setTop { g with pc := g.pc + 1, stack := .double (FP.i2d x) :: rest }) target) : Steps p.tables e below (T.setTop g) target := by
  subst hg
  jvm_step X.here [X.here.top, hx, hd, hs]
  exact hr
theorem own_dconst0 {g : JFrame} {target : State} (X : Stand p l e R s m args below meth c T locs cells slots) (hx : p.tables.exec = Jvm.exec) (hg : g.method = m) (hd : decode c.code g.pc = .ok (.dconst 0, 1))
    (hr : Steps p.tables e below (T.setTop { g with pc := g.pc + 1, stack := .double FP.dconst0 :: g.stack }) target) : Steps p.tables e below (T.setTop g) target := by
  subst hg
  jvm_step X.here [X.here.top, hx, hd]
  exact hr
theorem own_dconst1 {g : JFrame} {target : State} (X : Stand p l e R s m args below meth c T locs cells slots) (hx : p.tables.exec = Jvm.exec) (hg : g.method = m) (hd : decode c.code g.pc = .ok (.dconst 1, 1))
    (hr : Steps p.tables e below (T.setTop { g with pc := g.pc + 1, stack := .double FP.dconst1 :: g.stack }) target) : Steps p.tables e below (T.setTop g) target := by
  subst hg
  jvm_step X.here [X.here.top, hx, hd]
  exact hr
theorem own_dmul {g : JFrame} {target : State} (X : Stand p l e R s m args below meth c T locs cells slots) (hx : p.tables.exec = Jvm.exec) (hg : g.method = m) {x y : UInt64} {rest : List Value} (hd : decode c.code g.pc = .ok (.dmul, 1)) (hs : g.stack = .double y :: .double x :: rest) (hn : NoNaN64 (FP.dmul x y))
    (hr : Steps p.tables e below (T.setTop { g with pc := g.pc + 1, stack := .double (FP.dmul x y) :: rest }) target) : Steps p.tables e below (T.setTop g) target := by
  subst hg
  jvm_step X.here [X.here.top, hx, hd, Op.dmul.wp_number (s := T) (f := g) X.here.top hs hn]
  exact hr
theorem own_ddiv {g : JFrame} {target : State} (X : Stand p l e R s m args below meth c T locs cells slots) (hx : p.tables.exec = Jvm.exec) (hg : g.method = m) {x y : UInt64} {rest : List Value} (hd : decode c.code g.pc = .ok (.ddiv, 1)) (hs : g.stack = .double y :: .double x :: rest) (hn : NoNaN64 (FP.ddiv x y))
    (hr : Steps p.tables e below (T.setTop { g with pc := g.pc + 1, stack := .double (FP.ddiv x y) :: rest }) target) : Steps p.tables e below (T.setTop g) target := by
  subst hg
  jvm_step X.here [X.here.top, hx, hd, Op.ddiv.wp_number (s := T) (f := g) X.here.top hs hn]
  exact hr
theorem own_dadd {g : JFrame} {target : State} (X : Stand p l e R s m args below meth c T locs cells slots) (hx : p.tables.exec = Jvm.exec) (hg : g.method = m) {x y : UInt64} {rest : List Value} (hd : decode c.code g.pc = .ok (.dadd, 1)) (hs : g.stack = .double y :: .double x :: rest) (hn : NoNaN64 (FP.dadd x y))
    (hr : Steps p.tables e below (T.setTop { g with pc := g.pc + 1, stack := .double (FP.dadd x y) :: rest }) target) : Steps p.tables e below (T.setTop g) target := by
  subst hg
  jvm_step X.here [X.here.top, hx, hd, Op.dadd.wp_number (s := T) (f := g) X.here.top hs hn]
  exact hr
theorem own_dcmp {g : JFrame} {target : State} (X : Stand p l e R s m args below meth c T locs cells slots) (hx : p.tables.exec = Jvm.exec) (hg : g.method = m) {x y : UInt64} {o : CmpOp} {rest : List Value} (hd : decode c.code g.pc = .ok (.dcmp o, 1)) (hs : g.stack = .double y :: .double x :: rest)
    (hr : Steps p.tables e below (T.setTop { g with pc := g.pc + 1, stack := .int (cmpValue (FP.dcmp x y) o) :: rest }) target) : Steps p.tables e below (T.setTop g) target := by
  subst hg
  jvm_step X.here [X.here.top, hx, hd, hs]
  exact hr
end Dbl
theorem own_miss {k : Int32} (h1 : ¬ k = (49 : Int32)) (h2 : ¬ k = (97 : Int32)) (h3 : ¬ k = (100 : Int32)) : (#[(49, 36), (97, 49), (100, 67)] : Array (Int × Int)).find? (·.1 == k.toInt) = none := by
  refine find_miss (fun p hp => ?_)
  have hp' : p = (49, 36) ∨ p = (97, 49) ∨ p = (100, 67) := by simpa using hp
  rcases hp' with rfl | rfl | rfl
  · exact fun q => h1 (Int32.toInt_inj.mp q.symm)
  · exact fun q => h2 (Int32.toInt_inj.mp q.symm)
  · exact fun q => h3 (Int32.toInt_inj.mp q.symm)
theorem own_1f : Fin64 FP.dconst1 := by unfold Fin64; decide
theorem own_nzd {v : Int32} (h : v ≠ 0) : Nz64 (FP.i2d v) := (nz64_iff _).mpr (FP.Core.i2d_ne_zero h)
theorem own_q {n v : Int32} (h : v ≠ 0) : NoNaN64 (FP.ddiv (FP.i2d n) (FP.i2d v)) := ddiv_out (i2d_fin _).noNaN (i2d_fin _) (own_nzd h)
def own_w (cw dv p : Int32) (a b : UInt64) : UInt64 := if cw = (49 : Int32) then (if p = (0 : Int32) then b else a) else (if cw = (97 : Int32) then (if p = (0 : Int32) then FP.dconst0 else (FP.ddiv a (FP.i2d dv))) else (if cw = (100 : Int32) then (if p = (0 : Int32) then (FP.ddiv b (FP.i2d dv)) else FP.dconst0) else FP.dconst0))
theorem dR_0 : decode jdk_30_method_1_code 0 = .ok (.aload_n 0, 1) := by decide +kernel
theorem dR_1 : decode jdk_30_method_1_code 1 = .ok (.invokespecial 1, 3) := by decide +kernel
theorem dR_4 : decode jdk_30_method_1_code 4 = .ok (.return_, 1) := by decide +kernel
theorem pnR : plainName "java/lang/Record" = true := by first | (simp [plainName, overriddenIn]; done) | decide +kernel
theorem efR (m : MethodId) (r0 : Addr) : entryFrame m #[(.ref r0)] 1 = mkF m 0 #[.val (.ref r0)] [] := by first | (simp [entryFrame, mkF, argsToLocals, Value.category]; done) | rfl
abbrev own_roomR : Room := { frames := 1, cells := 0, slots := 0, locals := 12 }
def QR (Z : State) (r0 : Addr) (h0 : Heap) (n0 : Nat) (v : Option Value) (h : Heap) (L : List Loc) : Prop := v = none ∧ Fr n0 L ∧ h = h0
set_option maxRecDepth 65536 in
set_option maxHeartbeats 40000000 in
theorem rmR (l : Launch) (Z : State) (a0 : Array Value) (hw : ∀ d ∈ tables_1, d.before a0 Z = true) (ws : List Jvm.Cond) (r0 : Addr) (h0 : Heap) (n0 : Nat) (Z0 : n0 ≤ h0.size) :
    MetFree l (⟨"java/lang/Record", "<init>", "()V"⟩ : MethodName) (head1 (Jvm.Cond.code (⟨"java/lang/Record", "<init>", "()V"⟩ : MethodName) jdk_30_method_1_code 1 none :: ws) own_roomR) (fun a U => a = #[(.ref r0)] ∧ Z.Warmed39 U.vm ∧ U.heap = h0) (fun _ _ _ _ _ => True) (fun _ U o U' => ∃ v L, o = .returned v ∧ QR Z r0 h0 n0 v U'.heap L ∧ FrameEnd U o U' L own_roomR.cells own_roomR.slots) := by
  refine MetFree.of_bodySF (plainFor_of_name pnR) hisR ?_
  intro p e s m args below meth c s₁ Bd hml0 hP hK
  obtain ⟨rfl, hZ, hh⟩ := hP
  have hx := Bd.exec
  have hby := Bd.bytes
  have hml : c.maxLocals = 1 := hml0
  have hown : s.vm.findClass "java/lang/Record" = some m.cls := findClass_of_methodNamed Bd.named
  have hnm := (name_of_methodNamed Bd.named Bd.method).1
  have X0 : Stand p l e own_roomR s m #[(.ref r0)] below meth c s₁ [] 0 0 := Stand.of_body Bd
  have e0 : s₁.heap = h0 := by rw [← hh, Bd.state]; rfl
  have N0 := Fr.nil n0
  have pre0 : ∀ t, Steps p.tables e below (s₁.setTop (mkF m 0 #[.val (.ref r0)] [])) t → Steps p.tables e below (s₁.setTop (entryFrame m #[(.ref r0)] 1)) t := fun t k => castTop (efR m r0) k
  have pre1 : ∀ t, Steps p.tables e below (s₁.setTop (mkF m 1 #[.val (.ref r0)] [(.ref r0)])) t → Steps p.tables e below (s₁.setTop (entryFrame m #[(.ref r0)] 1)) t := fun t k => pre0 t (by
    show Steps p.tables e below (s₁.setTop (mkF m 0 #[.val (.ref r0)] [])) t
    refine XS.aloadN X0.here hx rfl (hb hby dR_0) rfl rfl ?_
    show Steps p.tables e below (s₁.setTop (mkF m 1 #[.val (.ref r0)] [(.ref r0)])) _
    exact k)
  obtain ⟨T1, X1, e1, st1⟩ := initO X0 hx hZ hown (hw _ (List.mem_of_getElem? (i := 12) rfl)) (hw _ (List.mem_of_getElem? (i := 13) rfl)) (hw _ (List.mem_of_getElem? (i := 14) rfl)) e0 (g := (mkF m 1 #[.val (.ref r0)] [(.ref r0)])) rfl (by rw [hml]; rfl) rfl (hb hby dR_1) (by decide) (W := 0) (by show 2 * 0 + _ ≤ _; exact Nat.le_of_eq rfl) (by decide)
  have pre4 : ∀ t, Steps p.tables e below (T1.setTop (mkF m 4 #[.val (.ref r0)] [])) t → Steps p.tables e below (s₁.setTop (entryFrame m #[(.ref r0)] 1)) t := fun t k => pre1 t (st1 _ k)
  obtain ⟨fs, hr, hrun, hended, hW, hsame⟩ := X1.leave (v := none) (fun _ => rfl)
  refine ⟨_, _, pre4 _ ?_, hrun, hended, _, _, rfl, ?_, ⟨_, rfl⟩, hW, hsame.mono (by decide) (by decide)⟩
  · show Steps p.tables e below (T1.setTop (mkF m 4 #[.val (.ref r0)] [])) _
    exact X1.returnOut hx Bd.returns (hb hby dR_4) hr
  · show QR Z r0 h0 n0 _ T1.heap _
    rw [e1]
    exact ⟨rfl, N0, rfl⟩
theorem dH_0 : decode prog_24_method_1_code 0 = .ok (.aload_n 0, 1) := by decide +kernel
theorem dH_1 : decode prog_24_method_1_code 1 = .ok (.invokespecial 1, 3) := by decide +kernel
theorem dH_4 : decode prog_24_method_1_code 4 = .ok (.aload_n 0, 1) := by decide +kernel
theorem dH_5 : decode prog_24_method_1_code 5 = .ok (.iload_n 1, 1) := by decide +kernel
theorem dH_6 : decode prog_24_method_1_code 6 = .ok (.putfield 7, 3) := by decide +kernel
theorem dH_9 : decode prog_24_method_1_code 9 = .ok (.aload_n 0, 1) := by decide +kernel
theorem dH_10 : decode prog_24_method_1_code 10 = .ok (.iload_n 2, 1) := by decide +kernel
theorem dH_11 : decode prog_24_method_1_code 11 = .ok (.putfield 13, 3) := by decide +kernel
theorem dH_14 : decode prog_24_method_1_code 14 = .ok (.return_, 1) := by decide +kernel
theorem pnH : plainName "com/example/kindred/kindred/NullFieldRule" = true := by first | (simp [plainName, overriddenIn]; done) | decide +kernel
theorem pdH_0 : parseMethodDescriptor "()V" = some ⟨[], none⟩ := by decide +kernel
theorem efH (m : MethodId) (r0 : Addr) (p1 : Int32) (p2 : Int32) : entryFrame m #[(.ref r0), (.int p1), (.int p2)] 3 = mkF m 0 #[.val (.ref r0), .val (.int p1), .val (.int p2)] [] := by first | (simp [entryFrame, mkF, argsToLocals, Value.category]; done) | rfl
abbrev own_roomH : Room := { frames := 2, cells := 0, slots := 0, locals := 24 }
def QH (Z : State) (r0 : Addr) (p1 : Int32) (p2 : Int32) (h0 : Heap) (n0 : Nat) (v : Option Value) (h : Heap) (L : List Loc) : Prop := v = none ∧ Fr n0 L ∧ Keep h0 h [r0] ∧ Exa Z h r0 "com/example/kindred/kindred/NullFieldRule" ∧ Fld Z h r0 "com/example/kindred/kindred/NullFieldRule" "code" "C" (.int (nar .char p1)) ∧ Fld Z h r0 "com/example/kindred/kindred/NullFieldRule" "divisor" "I" (.int p2)
set_option maxRecDepth 65536 in
set_option maxHeartbeats 40000000 in
theorem rmH (l : Launch) (Z : State) (a0 : Array Value) (hw : ∀ d ∈ tables_1, d.before a0 Z = true) (ws : List Jvm.Cond) (r0 : Addr) (p1 : Int32) (p2 : Int32) (h0 : Heap) (n0 : Nat) (Z0 : n0 ≤ h0.size) (g_r0 : n0 ≤ r0) (E0 : Exa Z h0 r0 "com/example/kindred/kindred/NullFieldRule") (F1 : Fld Z h0 r0 "com/example/kindred/kindred/NullFieldRule" "code" "C" (.int (0 : Int32))) (F2 : Fld Z h0 r0 "com/example/kindred/kindred/NullFieldRule" "divisor" "I" (.int (0 : Int32))) :
    MetFree l (⟨"com/example/kindred/kindred/NullFieldRule", "<init>", "(CI)V"⟩ : MethodName) (head1 (Jvm.Cond.code (⟨"com/example/kindred/kindred/NullFieldRule", "<init>", "(CI)V"⟩ : MethodName) prog_24_method_1_code 3 none :: ws) own_roomH) (fun a U => a = #[(.ref r0), (.int p1), (.int p2)] ∧ Z.Warmed39 U.vm ∧ U.heap = h0) (fun _ _ _ _ _ => True) (fun _ U o U' => ∃ v L, o = .returned v ∧ QH Z r0 p1 p2 h0 n0 v U'.heap L ∧ FrameEnd U o U' L own_roomH.cells own_roomH.slots) := by
  refine MetFree.of_bodySF (plainFor_of_name pnH) hisR ?_
  intro p e s m args below meth c s₁ Bd hml0 hP hK
  obtain ⟨rfl, hZ, hh⟩ := hP
  have hx := Bd.exec
  have hby := Bd.bytes
  have hml : c.maxLocals = 3 := hml0
  have hown : s.vm.findClass "com/example/kindred/kindred/NullFieldRule" = some m.cls := findClass_of_methodNamed Bd.named
  have hnm := (name_of_methodNamed Bd.named Bd.method).1
  have X0 : Stand p l e own_roomH s m #[(.ref r0), (.int p1), (.int p2)] below meth c s₁ [] 0 0 := Stand.of_body Bd
  have e0 : s₁.heap = h0 := by rw [← hh, Bd.state]; rfl
  have N0 := Fr.nil n0
  have pre0 : ∀ t, Steps p.tables e below (s₁.setTop (mkF m 0 #[.val (.ref r0), .val (.int p1), .val (.int p2)] [])) t → Steps p.tables e below (s₁.setTop (entryFrame m #[(.ref r0), (.int p1), (.int p2)] 3)) t := fun t k => castTop (efH m r0 p1 p2) k
  have pre1 : ∀ t, Steps p.tables e below (s₁.setTop (mkF m 1 #[.val (.ref r0), .val (.int p1), .val (.int p2)] [(.ref r0)])) t → Steps p.tables e below (s₁.setTop (entryFrame m #[(.ref r0), (.int p1), (.int p2)] 3)) t := fun t k => pre0 t (by
    show Steps p.tables e below (s₁.setTop (mkF m 0 #[.val (.ref r0), .val (.int p1), .val (.int p2)] [])) t
    refine XS.aloadN X0.here hx rfl (hb hby dH_0) rfl rfl ?_
    show Steps p.tables e below (s₁.setTop (mkF m 1 #[.val (.ref r0), .val (.int p1), .val (.int p2)] [(.ref r0)])) _
    exact k)
  obtain ⟨_, _, ⟨T1, L1, k1, n1⟩, -, X1, ⟨Lc1, hQ1, l1, y1, z1⟩, st1⟩ := X0.specialBack hx (y := (⟨"java/lang/Record", "<init>", "()V"⟩ : MethodName)) rfl hown (mvT hZ (hw _ (List.mem_of_getElem? (i := 7) rfl))) (mvT hZ (hw _ (List.mem_of_getElem? (i := 8) rfl))) (mvT hZ (hw _ (List.mem_of_getElem? (i := 11) rfl))) (by decide) (backOf (W := 0) (rmR l Z a0 hw [] r0  h0 n0 Z0 ) hZ (hw _ (List.mem_of_getElem? (i := 11) rfl)) (hw _ (List.mem_of_getElem? (i := 10) rfl)) (by decide) (by decide)) (g := (mkF m 1 #[.val (.ref r0), .val (.int p1), .val (.int p2)] [(.ref r0)])) rfl (by rw [hml]; rfl) (Steps.refl _) (a := r0) (argsL := []) (rest := []) (lenOf pdH_0 rfl) rfl (by show 2 * 0 + _ ≤ _; exact Nat.le_of_eq rfl) (hb hby dH_1) (fun _ _ => ⟨rfl, e0, (by decide : 0 + 0 ≤ _), (by decide : 0 + 0 ≤ _)⟩)
  dsimp only [Pt.U, Pt.locs, Pt.cells, Pt.slots] at X1 l1 y1 z1 st1 hQ1
  subst l1 y1 z1
  obtain ⟨rfl, N1q, e1⟩ := hQ1
  have N1 := Fr.app N0 N1q
  have pre4 : ∀ t, Steps p.tables e below (T1.setTop (mkF m 4 #[.val (.ref r0), .val (.int p1), .val (.int p2)] [])) t → Steps p.tables e below (s₁.setTop (entryFrame m #[(.ref r0), (.int p1), (.int p2)] 3)) t := fun t k => pre1 t (st1.trans k)
  have pre6 : ∀ t, Steps p.tables e below (T1.setTop (mkF m 6 #[.val (.ref r0), .val (.int p1), .val (.int p2)] [(.int p1), (.ref r0)])) t → Steps p.tables e below (s₁.setTop (entryFrame m #[(.ref r0), (.int p1), (.int p2)] 3)) t := fun t k => pre4 t (by
    show Steps p.tables e below (T1.setTop (mkF m 4 #[.val (.ref r0), .val (.int p1), .val (.int p2)] [])) t
    refine XS.aloadN X1.here hx rfl (hb hby dH_4) rfl rfl ?_
    show Steps p.tables e below (T1.setTop (mkF m 5 #[.val (.ref r0), .val (.int p1), .val (.int p2)] [(.ref r0)])) _
    refine XS.iloadN X1.here hx rfl (hb hby dH_5) rfl ?_
    show Steps p.tables e below (T1.setTop (mkF m 6 #[.val (.ref r0), .val (.int p1), .val (.int p2)] [(.int p1), (.ref r0)])) _
    exact k)
  obtain ⟨T6, h6, X6, e6, W6, st6⟩ := putFN X1 hx hZ hown (hw _ (List.mem_of_getElem? (i := 15) rfl)) Via.refl e1 F1 E0 (Or.inr ⟨(hw _ (List.mem_of_getElem? (i := 16) rfl)), rfl, hnm⟩) (hw _ (List.mem_of_getElem? (i := 2) rfl)) (ty := .char) (v' := (.int (nar .char p1))) (by decide) rfl (fits_nar_char _) (g := (mkF m 6 #[.val (.ref r0), .val (.int p1), .val (.int p2)] [(.int p1), (.ref r0)])) rfl rfl (hb hby dH_6)
  have E0_c6 := Exa.wr W6 E0
  have F2_c6 := Fld.other W6 F2 (Or.inr (slot_ne (Or.inr (hw _ (List.mem_of_getElem? (i := 18) rfl))) (Or.inr (hw _ (List.mem_of_getElem? (i := 16) rfl))) (by decide) (t := .int) (t' := .char) (by decide) (by decide)))
  have F_code_r0_6 : Fld Z h6 r0 "com/example/kindred/kindred/NullFieldRule" "code" "C" (.int (nar .char p1)) := F1.same W6
  have N6 := Fr.snoc X6 N1 g_r0
  have ZS6 : n0 ≤ h6.size := Nat.le_trans Z0 (Keep.of_wr W6).1
  have pre9 : ∀ t, Steps p.tables e below (T6.setTop (mkF m 9 #[.val (.ref r0), .val (.int p1), .val (.int p2)] [])) t → Steps p.tables e below (s₁.setTop (entryFrame m #[(.ref r0), (.int p1), (.int p2)] 3)) t := fun t k => pre6 t (st6 _ k)
  have pre11 : ∀ t, Steps p.tables e below (T6.setTop (mkF m 11 #[.val (.ref r0), .val (.int p1), .val (.int p2)] [(.int p2), (.ref r0)])) t → Steps p.tables e below (s₁.setTop (entryFrame m #[(.ref r0), (.int p1), (.int p2)] 3)) t := fun t k => pre9 t (by
    show Steps p.tables e below (T6.setTop (mkF m 9 #[.val (.ref r0), .val (.int p1), .val (.int p2)] [])) t
    refine XS.aloadN X6.here hx rfl (hb hby dH_9) rfl rfl ?_
    show Steps p.tables e below (T6.setTop (mkF m 10 #[.val (.ref r0), .val (.int p1), .val (.int p2)] [(.ref r0)])) _
    refine XS.iloadN X6.here hx rfl (hb hby dH_10) rfl ?_
    show Steps p.tables e below (T6.setTop (mkF m 11 #[.val (.ref r0), .val (.int p1), .val (.int p2)] [(.int p2), (.ref r0)])) _
    exact k)
  obtain ⟨T11, h11, X11, e11, W11, st11⟩ := putF X6 hx hZ hown (host := "") (Or.inl (hw _ (List.mem_of_getElem? (i := 17) rfl))) Via.refl e6 F2_c6 E0_c6 (Or.inr ⟨(hw _ (List.mem_of_getElem? (i := 18) rfl)), rfl, hnm⟩) (hw _ (List.mem_of_getElem? (i := 2) rfl)) (ty := .int) (by decide) rfl rfl (g := (mkF m 11 #[.val (.ref r0), .val (.int p1), .val (.int p2)] [(.int p2), (.ref r0)])) rfl rfl (hb hby dH_11)
  have E0_c11 := Exa.wr W11 E0_c6
  have F_code_r0_6_c11 := Fld.other W11 F_code_r0_6 (Or.inr (slot_ne (Or.inr (hw _ (List.mem_of_getElem? (i := 16) rfl))) (Or.inr (hw _ (List.mem_of_getElem? (i := 18) rfl))) (by decide) (t := .char) (t' := .int) (by decide) (by decide)))
  have F_divisor_r0_11 : Fld Z h11 r0 "com/example/kindred/kindred/NullFieldRule" "divisor" "I" (.int p2) := F2_c6.same W11
  have N11 := Fr.snoc X11 N6 g_r0
  have ZS11 : n0 ≤ h11.size := Nat.le_trans ZS6 (Keep.of_wr W11).1
  have pre14 : ∀ t, Steps p.tables e below (T11.setTop (mkF m 14 #[.val (.ref r0), .val (.int p1), .val (.int p2)] [])) t → Steps p.tables e below (s₁.setTop (entryFrame m #[(.ref r0), (.int p1), (.int p2)] 3)) t := fun t k => pre11 t (st11 _ k)
  obtain ⟨fs, hr, hrun, hended, hW, hsame⟩ := X11.leave (v := none) (fun _ => rfl)
  refine ⟨_, _, pre14 _ ?_, hrun, hended, _, _, rfl, ?_, ⟨_, rfl⟩, hW, hsame.mono (by decide) (by decide)⟩
  · show Steps p.tables e below (T11.setTop (mkF m 14 #[.val (.ref r0), .val (.int p1), .val (.int p2)] [])) _
    exact X11.returnOut hx Bd.returns (hb hby dH_14) hr
  · show QH Z r0 p1 p2 h0 n0 _ T11.heap _
    rw [e11]
    exact ⟨rfl, N11, (((Keep.refl h0 [r0]).wr W6 (Or.inl (List.mem_of_getElem? (i := 0) rfl))).wr W11 (Or.inl (List.mem_of_getElem? (i := 0) rfl))), E0_c11, F_code_r0_6_c11, F_divisor_r0_11⟩
theorem dW_0 : decode prog_24_method_3_code 0 = .ok (.aload_n 0, 1) := by decide +kernel
theorem dW_1 : decode prog_24_method_3_code 1 = .ok (.getfield 7, 3) := by decide +kernel
theorem dW_4 : decode prog_24_method_3_code 4 = .ok (.lookupswitch 86 #[(49, 36), (97, 49), (100, 67)], 36) := by decide +kernel
theorem dW_40 : decode prog_24_method_3_code 40 = .ok (.iload_n 1, 1) := by decide +kernel
theorem dW_41 : decode prog_24_method_3_code 41 = .ok (.ifCond .eq 7, 3) := by decide +kernel
theorem dW_44 : decode prog_24_method_3_code 44 = .ok (.dload_n 2, 1) := by decide +kernel
theorem dW_45 : decode prog_24_method_3_code 45 = .ok (.goto 46, 3) := by decide +kernel
theorem dW_48 : decode prog_24_method_3_code 48 = .ok (.dload 4, 2) := by decide +kernel
theorem dW_50 : decode prog_24_method_3_code 50 = .ok (.goto 41, 3) := by decide +kernel
theorem dW_53 : decode prog_24_method_3_code 53 = .ok (.iload_n 1, 1) := by decide +kernel
theorem dW_54 : decode prog_24_method_3_code 54 = .ok (.ifCond .eq 13, 3) := by decide +kernel
theorem dW_57 : decode prog_24_method_3_code 57 = .ok (.dload_n 2, 1) := by decide +kernel
theorem dW_58 : decode prog_24_method_3_code 58 = .ok (.aload_n 0, 1) := by decide +kernel
theorem dW_59 : decode prog_24_method_3_code 59 = .ok (.getfield 13, 3) := by decide +kernel
theorem dW_62 : decode prog_24_method_3_code 62 = .ok (.i2d, 1) := by decide +kernel
theorem dW_63 : decode prog_24_method_3_code 63 = .ok (.ddiv, 1) := by decide +kernel
theorem dW_64 : decode prog_24_method_3_code 64 = .ok (.goto 27, 3) := by decide +kernel
theorem dW_67 : decode prog_24_method_3_code 67 = .ok (.dconst 0, 1) := by decide +kernel
theorem dW_68 : decode prog_24_method_3_code 68 = .ok (.goto 23, 3) := by decide +kernel
theorem dW_71 : decode prog_24_method_3_code 71 = .ok (.iload_n 1, 1) := by decide +kernel
theorem dW_72 : decode prog_24_method_3_code 72 = .ok (.ifCond .eq 7, 3) := by decide +kernel
theorem dW_75 : decode prog_24_method_3_code 75 = .ok (.dconst 0, 1) := by decide +kernel
theorem dW_76 : decode prog_24_method_3_code 76 = .ok (.goto 15, 3) := by decide +kernel
theorem dW_79 : decode prog_24_method_3_code 79 = .ok (.dload 4, 2) := by decide +kernel
theorem dW_81 : decode prog_24_method_3_code 81 = .ok (.aload_n 0, 1) := by decide +kernel
theorem dW_82 : decode prog_24_method_3_code 82 = .ok (.getfield 13, 3) := by decide +kernel
theorem dW_85 : decode prog_24_method_3_code 85 = .ok (.i2d, 1) := by decide +kernel
theorem dW_86 : decode prog_24_method_3_code 86 = .ok (.ddiv, 1) := by decide +kernel
theorem dW_87 : decode prog_24_method_3_code 87 = .ok (.goto 4, 3) := by decide +kernel
theorem dW_90 : decode prog_24_method_3_code 90 = .ok (.dconst 0, 1) := by decide +kernel
theorem dW_91 : decode prog_24_method_3_code 91 = .ok (.dreturn, 1) := by decide +kernel
theorem pnW : plainName "com/example/kindred/kindred/NullFieldRule" = true := by first | (simp [plainName, overriddenIn]; done) | decide +kernel
theorem efW (m : MethodId) (r0 : Addr) (p1 : Int32) (d2 : UInt64) (d3 : UInt64) : entryFrame m #[(.ref r0), (.int p1), (.double d2), (.double d3)] 6 = mkF m 0 #[.val (.ref r0), .val (.int p1), .val (.double d2), .second, .val (.double d3), .second] [] := by first | (simp [entryFrame, mkF, argsToLocals, Value.category]; done) | rfl
abbrev own_roomW : Room := { frames := 0, cells := 0, slots := 0, locals := 0 }
def QW (Z : State) (r0 : Addr) (p1 : Int32) (d2 : UInt64) (d3 : UInt64) (cw : Int32) (dv : Int32) (h0 : Heap) (n0 : Nat) (v : Option Value) (h : Heap) (L : List Loc) : Prop := v = some (.double (own_w cw dv p1 d2 d3)) ∧ Fr n0 L ∧ h = h0
set_option maxRecDepth 65536 in
set_option maxHeartbeats 40000000 in
theorem rmW (l : Launch) (Z : State) (a0 : Array Value) (hw : ∀ d ∈ tables_1, d.before a0 Z = true) (ws : List Jvm.Cond) (r0 : Addr) (p1 : Int32) (d2 : UInt64) (d3 : UInt64) (cw : Int32) (dv : Int32) (h0 : Heap) (n0 : Nat) (Z0 : n0 ≤ h0.size) (F1 : Fld Z h0 r0 "com/example/kindred/kindred/NullFieldRule" "code" "C" (.int cw)) (F2 : Fld Z h0 r0 "com/example/kindred/kindred/NullFieldRule" "divisor" "I" (.int dv)) (hn2 : NoNaN64 (FP.ddiv d2 (FP.i2d dv))) (hn3 : NoNaN64 (FP.ddiv d3 (FP.i2d dv))) :
    MetFree l (⟨"com/example/kindred/kindred/NullFieldRule", "weigh", "(ZDD)D"⟩ : MethodName) (head1 (Jvm.Cond.code (⟨"com/example/kindred/kindred/NullFieldRule", "weigh", "(ZDD)D"⟩ : MethodName) prog_24_method_3_code 6 (some .double) :: ws) own_roomW) (fun a U => a = #[(.ref r0), (.int p1), (.double d2), (.double d3)] ∧ Z.Warmed39 U.vm ∧ U.heap = h0) (fun _ _ _ _ _ => True) (fun _ U o U' => ∃ v L, o = .returned v ∧ QW Z r0 p1 d2 d3 cw dv h0 n0 v U'.heap L ∧ FrameEnd U o U' L own_roomW.cells own_roomW.slots) := by
  refine MetFree.of_bodySF (plainFor_of_name pnW) hisR ?_
  intro p e s m args below meth c s₁ Bd hml0 hP hK
  obtain ⟨rfl, hZ, hh⟩ := hP
  have hx := Bd.exec
  have hby := Bd.bytes
  have hml : c.maxLocals = 6 := hml0
  have hown : s.vm.findClass "com/example/kindred/kindred/NullFieldRule" = some m.cls := findClass_of_methodNamed Bd.named
  have hnm := (name_of_methodNamed Bd.named Bd.method).1
  have X0 : Stand p l e own_roomW s m #[(.ref r0), (.int p1), (.double d2), (.double d3)] below meth c s₁ [] 0 0 := Stand.of_body Bd
  have e0 : s₁.heap = h0 := by rw [← hh, Bd.state]; rfl
  have N0 := Fr.nil n0
  have pre0 : ∀ t, Steps p.tables e below (s₁.setTop (mkF m 0 #[.val (.ref r0), .val (.int p1), .val (.double d2), .second, .val (.double d3), .second] [])) t → Steps p.tables e below (s₁.setTop (entryFrame m #[(.ref r0), (.int p1), (.double d2), (.double d3)] 6)) t := fun t k => castTop (efW m r0 p1 d2 d3) k
  have pre1 : ∀ t, Steps p.tables e below (s₁.setTop (mkF m 1 #[.val (.ref r0), .val (.int p1), .val (.double d2), .second, .val (.double d3), .second] [(.ref r0)])) t → Steps p.tables e below (s₁.setTop (entryFrame m #[(.ref r0), (.int p1), (.double d2), (.double d3)] 6)) t := fun t k => pre0 t (by
    show Steps p.tables e below (s₁.setTop (mkF m 0 #[.val (.ref r0), .val (.int p1), .val (.double d2), .second, .val (.double d3), .second] [])) t
    refine XS.aloadN X0.here hx rfl (hb hby dW_0) rfl rfl ?_
    show Steps p.tables e below (s₁.setTop (mkF m 1 #[.val (.ref r0), .val (.int p1), .val (.double d2), .second, .val (.double d3), .second] [(.ref r0)])) _
    exact k)
  obtain ⟨T1, X1, e1, st1⟩ := getF X0 hx hZ hown (host := "") (Or.inl (hw _ (List.mem_of_getElem? (i := 15) rfl))) Via.refl e0 F1 (g := (mkF m 1 #[.val (.ref r0), .val (.int p1), .val (.double d2), .second, .val (.double d3), .second] [(.ref r0)])) rfl rfl (hb hby dW_1)
  have pre4 : ∀ t, Steps p.tables e below (T1.setTop (mkF m 4 #[.val (.ref r0), .val (.int p1), .val (.double d2), .second, .val (.double d3), .second] [(.int cw)])) t → Steps p.tables e below (s₁.setTop (entryFrame m #[(.ref r0), (.int p1), (.double d2), (.double d3)] 6)) t := fun t k => pre1 t (st1 _ k)
  by_cases hs4_49 : cw = (49 : Int32)
  · -- cw = (49 : Int32)
    have pre40 : ∀ t, Steps p.tables e below (T1.setTop (mkF m 40 #[.val (.ref r0), .val (.int p1), .val (.double d2), .second, .val (.double d3), .second] [])) t → Steps p.tables e below (s₁.setTop (entryFrame m #[(.ref r0), (.int p1), (.double d2), (.double d3)] 6)) t := fun t k => pre4 t (by
      show Steps p.tables e below (T1.setTop (mkF m 4 #[.val (.ref r0), .val (.int p1), .val (.double d2), .second, .val (.double d3), .second] [(.int cw)])) t
      refine X1.lookupswitchHit hx (g := (mkF m 4 #[.val (.ref r0), .val (.int p1), .val (.double d2), .second, .val (.double d3), .second] [(.int cw)])) rfl rfl (hb hby dW_4) (by decide) (a := 49) (off := 36) (by rw [hs4_49]; decide) (by show (0 : Int) ≤ ((4 : Nat) : Int) + (36); decide) _ ?_
      exact k)
    have pre41 : ∀ t, Steps p.tables e below (T1.setTop (mkF m 41 #[.val (.ref r0), .val (.int p1), .val (.double d2), .second, .val (.double d3), .second] [(.int p1)])) t → Steps p.tables e below (s₁.setTop (entryFrame m #[(.ref r0), (.int p1), (.double d2), (.double d3)] 6)) t := fun t k => pre40 t (by
      show Steps p.tables e below (T1.setTop (mkF m 40 #[.val (.ref r0), .val (.int p1), .val (.double d2), .second, .val (.double d3), .second] [])) t
      refine XS.iloadN X1.here hx rfl (hb hby dW_40) rfl ?_
      show Steps p.tables e below (T1.setTop (mkF m 41 #[.val (.ref r0), .val (.int p1), .val (.double d2), .second, .val (.double d3), .second] [(.int p1)])) _
      exact k)
    by_cases hc41 : p1 = (0 : Int32)
    · -- p1 = (0 : Int32)
      have pre48 : ∀ t, Steps p.tables e below (T1.setTop (mkF m 48 #[.val (.ref r0), .val (.int p1), .val (.double d2), .second, .val (.double d3), .second] [])) t → Steps p.tables e below (s₁.setTop (entryFrame m #[(.ref r0), (.int p1), (.double d2), (.double d3)] 6)) t := fun t k => pre41 t (by
        show Steps p.tables e below (T1.setTop (mkF m 41 #[.val (.ref r0), .val (.int p1), .val (.double d2), .second, .val (.double d3), .second] [(.int p1)])) t
        refine XS.ifYes X1.here hx rfl (pc0 := 41) (pc' := 48) rfl (hb hby dW_41) rfl ((if0 _ _).trans (teq hc41).1) (by decide) (by decide) ?_
        exact k)
      have pre91 : ∀ t, Steps p.tables e below (T1.setTop (mkF m 91 #[.val (.ref r0), .val (.int p1), .val (.double d2), .second, .val (.double d3), .second] [(.double d3)])) t → Steps p.tables e below (s₁.setTop (entryFrame m #[(.ref r0), (.int p1), (.double d2), (.double d3)] 6)) t := fun t k => pre48 t (by
        show Steps p.tables e below (T1.setTop (mkF m 48 #[.val (.ref r0), .val (.int p1), .val (.double d2), .second, .val (.double d3), .second] [])) t
        refine own_dload X1 hx rfl (hb hby dW_48) rfl ?_
        show Steps p.tables e below (T1.setTop (mkF m 50 #[.val (.ref r0), .val (.int p1), .val (.double d2), .second, .val (.double d3), .second] [(.double d3)])) _
        refine XS.goto X1.here hx rfl (pc0 := 50) (pc' := 91) rfl (hb hby dW_50) (by decide) (by decide) ?_
        show Steps p.tables e below (T1.setTop (mkF m 91 #[.val (.ref r0), .val (.int p1), .val (.double d2), .second, .val (.double d3), .second] [(.double d3)])) _
        exact k)
      obtain ⟨fs, hr, hrun, hended, hW, hsame⟩ := X1.leave (v := some (.double d3)) (fun h => by rw [Bd.returns] at h; cases h)
      refine ⟨_, _, pre91 _ ?_, hrun, hended, _, _, rfl, ?_, ⟨_, rfl⟩, hW, hsame.mono (by decide) (by decide)⟩
      · show Steps p.tables e below (T1.setTop (mkF m 91 #[.val (.ref r0), .val (.int p1), .val (.double d2), .second, .val (.double d3), .second] [(.double d3)])) _
        exact retOut X1 hx Bd.returns rfl (Or.inr (Or.inr (Or.inl ⟨rfl, rfl, _, rfl⟩))) (hb hby dW_91) hr
      · show QW Z r0 p1 d2 d3 cw dv h0 n0 _ T1.heap _
        rw [e1]
        have hres : d3 = (own_w cw dv p1 d2 d3) := by
          rw [own_w, if_pos hs4_49, if_pos hc41]
        exact ⟨congrArg (fun q => some (Value.double q)) hres, N0, rfl⟩
    · -- not p1 = (0 : Int32)
      have pre44 : ∀ t, Steps p.tables e below (T1.setTop (mkF m 44 #[.val (.ref r0), .val (.int p1), .val (.double d2), .second, .val (.double d3), .second] [])) t → Steps p.tables e below (s₁.setTop (entryFrame m #[(.ref r0), (.int p1), (.double d2), (.double d3)] 6)) t := fun t k => pre41 t (by
        show Steps p.tables e below (T1.setTop (mkF m 41 #[.val (.ref r0), .val (.int p1), .val (.double d2), .second, .val (.double d3), .second] [(.int p1)])) t
        refine XS.ifNo X1.here hx rfl (hb hby dW_41) rfl ((if0 _ _).trans (feq hc41).1) ?_
        exact k)
      have pre91 : ∀ t, Steps p.tables e below (T1.setTop (mkF m 91 #[.val (.ref r0), .val (.int p1), .val (.double d2), .second, .val (.double d3), .second] [(.double d2)])) t → Steps p.tables e below (s₁.setTop (entryFrame m #[(.ref r0), (.int p1), (.double d2), (.double d3)] 6)) t := fun t k => pre44 t (by
        show Steps p.tables e below (T1.setTop (mkF m 44 #[.val (.ref r0), .val (.int p1), .val (.double d2), .second, .val (.double d3), .second] [])) t
        refine own_dloadN X1 hx rfl (hb hby dW_44) rfl ?_
        show Steps p.tables e below (T1.setTop (mkF m 45 #[.val (.ref r0), .val (.int p1), .val (.double d2), .second, .val (.double d3), .second] [(.double d2)])) _
        refine XS.goto X1.here hx rfl (pc0 := 45) (pc' := 91) rfl (hb hby dW_45) (by decide) (by decide) ?_
        show Steps p.tables e below (T1.setTop (mkF m 91 #[.val (.ref r0), .val (.int p1), .val (.double d2), .second, .val (.double d3), .second] [(.double d2)])) _
        exact k)
      obtain ⟨fs, hr, hrun, hended, hW, hsame⟩ := X1.leave (v := some (.double d2)) (fun h => by rw [Bd.returns] at h; cases h)
      refine ⟨_, _, pre91 _ ?_, hrun, hended, _, _, rfl, ?_, ⟨_, rfl⟩, hW, hsame.mono (by decide) (by decide)⟩
      · show Steps p.tables e below (T1.setTop (mkF m 91 #[.val (.ref r0), .val (.int p1), .val (.double d2), .second, .val (.double d3), .second] [(.double d2)])) _
        exact retOut X1 hx Bd.returns rfl (Or.inr (Or.inr (Or.inl ⟨rfl, rfl, _, rfl⟩))) (hb hby dW_91) hr
      · show QW Z r0 p1 d2 d3 cw dv h0 n0 _ T1.heap _
        rw [e1]
        have hres : d2 = (own_w cw dv p1 d2 d3) := by
          rw [own_w, if_pos hs4_49, if_neg hc41]
        exact ⟨congrArg (fun q => some (Value.double q)) hres, N0, rfl⟩
  · -- not
    by_cases hs4_97 : cw = (97 : Int32)
    · -- cw = (97 : Int32)
      have pre53 : ∀ t, Steps p.tables e below (T1.setTop (mkF m 53 #[.val (.ref r0), .val (.int p1), .val (.double d2), .second, .val (.double d3), .second] [])) t → Steps p.tables e below (s₁.setTop (entryFrame m #[(.ref r0), (.int p1), (.double d2), (.double d3)] 6)) t := fun t k => pre4 t (by
        show Steps p.tables e below (T1.setTop (mkF m 4 #[.val (.ref r0), .val (.int p1), .val (.double d2), .second, .val (.double d3), .second] [(.int cw)])) t
        refine X1.lookupswitchHit hx (g := (mkF m 4 #[.val (.ref r0), .val (.int p1), .val (.double d2), .second, .val (.double d3), .second] [(.int cw)])) rfl rfl (hb hby dW_4) (by decide) (a := 97) (off := 49) (by rw [hs4_97]; decide) (by show (0 : Int) ≤ ((4 : Nat) : Int) + (49); decide) _ ?_
        exact k)
      have pre54 : ∀ t, Steps p.tables e below (T1.setTop (mkF m 54 #[.val (.ref r0), .val (.int p1), .val (.double d2), .second, .val (.double d3), .second] [(.int p1)])) t → Steps p.tables e below (s₁.setTop (entryFrame m #[(.ref r0), (.int p1), (.double d2), (.double d3)] 6)) t := fun t k => pre53 t (by
        show Steps p.tables e below (T1.setTop (mkF m 53 #[.val (.ref r0), .val (.int p1), .val (.double d2), .second, .val (.double d3), .second] [])) t
        refine XS.iloadN X1.here hx rfl (hb hby dW_53) rfl ?_
        show Steps p.tables e below (T1.setTop (mkF m 54 #[.val (.ref r0), .val (.int p1), .val (.double d2), .second, .val (.double d3), .second] [(.int p1)])) _
        exact k)
      by_cases hc54 : p1 = (0 : Int32)
      · -- p1 = (0 : Int32)
        have pre67 : ∀ t, Steps p.tables e below (T1.setTop (mkF m 67 #[.val (.ref r0), .val (.int p1), .val (.double d2), .second, .val (.double d3), .second] [])) t → Steps p.tables e below (s₁.setTop (entryFrame m #[(.ref r0), (.int p1), (.double d2), (.double d3)] 6)) t := fun t k => pre54 t (by
          show Steps p.tables e below (T1.setTop (mkF m 54 #[.val (.ref r0), .val (.int p1), .val (.double d2), .second, .val (.double d3), .second] [(.int p1)])) t
          refine XS.ifYes X1.here hx rfl (pc0 := 54) (pc' := 67) rfl (hb hby dW_54) rfl ((if0 _ _).trans (teq hc54).1) (by decide) (by decide) ?_
          exact k)
        have pre91 : ∀ t, Steps p.tables e below (T1.setTop (mkF m 91 #[.val (.ref r0), .val (.int p1), .val (.double d2), .second, .val (.double d3), .second] [(.double FP.dconst0)])) t → Steps p.tables e below (s₁.setTop (entryFrame m #[(.ref r0), (.int p1), (.double d2), (.double d3)] 6)) t := fun t k => pre67 t (by
          show Steps p.tables e below (T1.setTop (mkF m 67 #[.val (.ref r0), .val (.int p1), .val (.double d2), .second, .val (.double d3), .second] [])) t
          refine own_dconst0 X1 hx rfl (hb hby dW_67) ?_
          show Steps p.tables e below (T1.setTop (mkF m 68 #[.val (.ref r0), .val (.int p1), .val (.double d2), .second, .val (.double d3), .second] [(.double FP.dconst0)])) _
          refine XS.goto X1.here hx rfl (pc0 := 68) (pc' := 91) rfl (hb hby dW_68) (by decide) (by decide) ?_
          show Steps p.tables e below (T1.setTop (mkF m 91 #[.val (.ref r0), .val (.int p1), .val (.double d2), .second, .val (.double d3), .second] [(.double FP.dconst0)])) _
          exact k)
        obtain ⟨fs, hr, hrun, hended, hW, hsame⟩ := X1.leave (v := some (.double FP.dconst0)) (fun h => by rw [Bd.returns] at h; cases h)
        refine ⟨_, _, pre91 _ ?_, hrun, hended, _, _, rfl, ?_, ⟨_, rfl⟩, hW, hsame.mono (by decide) (by decide)⟩
        · show Steps p.tables e below (T1.setTop (mkF m 91 #[.val (.ref r0), .val (.int p1), .val (.double d2), .second, .val (.double d3), .second] [(.double FP.dconst0)])) _
          exact retOut X1 hx Bd.returns rfl (Or.inr (Or.inr (Or.inl ⟨rfl, rfl, _, rfl⟩))) (hb hby dW_91) hr
        · show QW Z r0 p1 d2 d3 cw dv h0 n0 _ T1.heap _
          rw [e1]
          have hres : FP.dconst0 = (own_w cw dv p1 d2 d3) := by
            rw [own_w, if_neg hs4_49, if_pos hs4_97, if_pos hc54]
          exact ⟨congrArg (fun q => some (Value.double q)) hres, N0, rfl⟩
      · -- not p1 = (0 : Int32)
        have pre57 : ∀ t, Steps p.tables e below (T1.setTop (mkF m 57 #[.val (.ref r0), .val (.int p1), .val (.double d2), .second, .val (.double d3), .second] [])) t → Steps p.tables e below (s₁.setTop (entryFrame m #[(.ref r0), (.int p1), (.double d2), (.double d3)] 6)) t := fun t k => pre54 t (by
          show Steps p.tables e below (T1.setTop (mkF m 54 #[.val (.ref r0), .val (.int p1), .val (.double d2), .second, .val (.double d3), .second] [(.int p1)])) t
          refine XS.ifNo X1.here hx rfl (hb hby dW_54) rfl ((if0 _ _).trans (feq hc54).1) ?_
          exact k)
        have pre59 : ∀ t, Steps p.tables e below (T1.setTop (mkF m 59 #[.val (.ref r0), .val (.int p1), .val (.double d2), .second, .val (.double d3), .second] [(.ref r0), (.double d2)])) t → Steps p.tables e below (s₁.setTop (entryFrame m #[(.ref r0), (.int p1), (.double d2), (.double d3)] 6)) t := fun t k => pre57 t (by
          show Steps p.tables e below (T1.setTop (mkF m 57 #[.val (.ref r0), .val (.int p1), .val (.double d2), .second, .val (.double d3), .second] [])) t
          refine own_dloadN X1 hx rfl (hb hby dW_57) rfl ?_
          show Steps p.tables e below (T1.setTop (mkF m 58 #[.val (.ref r0), .val (.int p1), .val (.double d2), .second, .val (.double d3), .second] [(.double d2)])) _
          refine XS.aloadN X1.here hx rfl (hb hby dW_58) rfl rfl ?_
          show Steps p.tables e below (T1.setTop (mkF m 59 #[.val (.ref r0), .val (.int p1), .val (.double d2), .second, .val (.double d3), .second] [(.ref r0), (.double d2)])) _
          exact k)
        obtain ⟨T59, X59, e59, st59⟩ := getF X1 hx hZ hown (host := "") (Or.inl (hw _ (List.mem_of_getElem? (i := 17) rfl))) Via.refl e1 F2 (g := (mkF m 59 #[.val (.ref r0), .val (.int p1), .val (.double d2), .second, .val (.double d3), .second] [(.ref r0), (.double d2)])) rfl rfl (hb hby dW_59)
        have pre62 : ∀ t, Steps p.tables e below (T59.setTop (mkF m 62 #[.val (.ref r0), .val (.int p1), .val (.double d2), .second, .val (.double d3), .second] [(.int dv), (.double d2)])) t → Steps p.tables e below (s₁.setTop (entryFrame m #[(.ref r0), (.int p1), (.double d2), (.double d3)] 6)) t := fun t k => pre59 t (st59 _ k)
        have pre91 : ∀ t, Steps p.tables e below (T59.setTop (mkF m 91 #[.val (.ref r0), .val (.int p1), .val (.double d2), .second, .val (.double d3), .second] [(.double (FP.ddiv d2 (FP.i2d dv)))])) t → Steps p.tables e below (s₁.setTop (entryFrame m #[(.ref r0), (.int p1), (.double d2), (.double d3)] 6)) t := fun t k => pre62 t (by
          show Steps p.tables e below (T59.setTop (mkF m 62 #[.val (.ref r0), .val (.int p1), .val (.double d2), .second, .val (.double d3), .second] [(.int dv), (.double d2)])) t
          refine own_i2d X59 hx rfl (hb hby dW_62) rfl ?_
          show Steps p.tables e below (T59.setTop (mkF m 63 #[.val (.ref r0), .val (.int p1), .val (.double d2), .second, .val (.double d3), .second] [(.double (FP.i2d dv)), (.double d2)])) _
          refine own_ddiv X59 hx rfl (hb hby dW_63) rfl hn2 ?_
          show Steps p.tables e below (T59.setTop (mkF m 64 #[.val (.ref r0), .val (.int p1), .val (.double d2), .second, .val (.double d3), .second] [(.double (FP.ddiv d2 (FP.i2d dv)))])) _
          refine XS.goto X59.here hx rfl (pc0 := 64) (pc' := 91) rfl (hb hby dW_64) (by decide) (by decide) ?_
          show Steps p.tables e below (T59.setTop (mkF m 91 #[.val (.ref r0), .val (.int p1), .val (.double d2), .second, .val (.double d3), .second] [(.double (FP.ddiv d2 (FP.i2d dv)))])) _
          exact k)
        obtain ⟨fs, hr, hrun, hended, hW, hsame⟩ := X59.leave (v := some (.double (FP.ddiv d2 (FP.i2d dv)))) (fun h => by rw [Bd.returns] at h; cases h)
        refine ⟨_, _, pre91 _ ?_, hrun, hended, _, _, rfl, ?_, ⟨_, rfl⟩, hW, hsame.mono (by decide) (by decide)⟩
        · show Steps p.tables e below (T59.setTop (mkF m 91 #[.val (.ref r0), .val (.int p1), .val (.double d2), .second, .val (.double d3), .second] [(.double (FP.ddiv d2 (FP.i2d dv)))])) _
          exact retOut X59 hx Bd.returns rfl (Or.inr (Or.inr (Or.inl ⟨rfl, rfl, _, rfl⟩))) (hb hby dW_91) hr
        · show QW Z r0 p1 d2 d3 cw dv h0 n0 _ T59.heap _
          rw [e59]
          have hres : (FP.ddiv d2 (FP.i2d dv)) = (own_w cw dv p1 d2 d3) := by
            rw [own_w, if_neg hs4_49, if_pos hs4_97, if_neg hc54]
          exact ⟨congrArg (fun q => some (Value.double q)) hres, N0, rfl⟩
    · -- not
      by_cases hs4_100 : cw = (100 : Int32)
      · -- cw = (100 : Int32)
        have pre71 : ∀ t, Steps p.tables e below (T1.setTop (mkF m 71 #[.val (.ref r0), .val (.int p1), .val (.double d2), .second, .val (.double d3), .second] [])) t → Steps p.tables e below (s₁.setTop (entryFrame m #[(.ref r0), (.int p1), (.double d2), (.double d3)] 6)) t := fun t k => pre4 t (by
          show Steps p.tables e below (T1.setTop (mkF m 4 #[.val (.ref r0), .val (.int p1), .val (.double d2), .second, .val (.double d3), .second] [(.int cw)])) t
          refine X1.lookupswitchHit hx (g := (mkF m 4 #[.val (.ref r0), .val (.int p1), .val (.double d2), .second, .val (.double d3), .second] [(.int cw)])) rfl rfl (hb hby dW_4) (by decide) (a := 100) (off := 67) (by rw [hs4_100]; decide) (by show (0 : Int) ≤ ((4 : Nat) : Int) + (67); decide) _ ?_
          exact k)
        have pre72 : ∀ t, Steps p.tables e below (T1.setTop (mkF m 72 #[.val (.ref r0), .val (.int p1), .val (.double d2), .second, .val (.double d3), .second] [(.int p1)])) t → Steps p.tables e below (s₁.setTop (entryFrame m #[(.ref r0), (.int p1), (.double d2), (.double d3)] 6)) t := fun t k => pre71 t (by
          show Steps p.tables e below (T1.setTop (mkF m 71 #[.val (.ref r0), .val (.int p1), .val (.double d2), .second, .val (.double d3), .second] [])) t
          refine XS.iloadN X1.here hx rfl (hb hby dW_71) rfl ?_
          show Steps p.tables e below (T1.setTop (mkF m 72 #[.val (.ref r0), .val (.int p1), .val (.double d2), .second, .val (.double d3), .second] [(.int p1)])) _
          exact k)
        by_cases hc72 : p1 = (0 : Int32)
        · -- p1 = (0 : Int32)
          have pre79 : ∀ t, Steps p.tables e below (T1.setTop (mkF m 79 #[.val (.ref r0), .val (.int p1), .val (.double d2), .second, .val (.double d3), .second] [])) t → Steps p.tables e below (s₁.setTop (entryFrame m #[(.ref r0), (.int p1), (.double d2), (.double d3)] 6)) t := fun t k => pre72 t (by
            show Steps p.tables e below (T1.setTop (mkF m 72 #[.val (.ref r0), .val (.int p1), .val (.double d2), .second, .val (.double d3), .second] [(.int p1)])) t
            refine XS.ifYes X1.here hx rfl (pc0 := 72) (pc' := 79) rfl (hb hby dW_72) rfl ((if0 _ _).trans (teq hc72).1) (by decide) (by decide) ?_
            exact k)
          have pre82 : ∀ t, Steps p.tables e below (T1.setTop (mkF m 82 #[.val (.ref r0), .val (.int p1), .val (.double d2), .second, .val (.double d3), .second] [(.ref r0), (.double d3)])) t → Steps p.tables e below (s₁.setTop (entryFrame m #[(.ref r0), (.int p1), (.double d2), (.double d3)] 6)) t := fun t k => pre79 t (by
            show Steps p.tables e below (T1.setTop (mkF m 79 #[.val (.ref r0), .val (.int p1), .val (.double d2), .second, .val (.double d3), .second] [])) t
            refine own_dload X1 hx rfl (hb hby dW_79) rfl ?_
            show Steps p.tables e below (T1.setTop (mkF m 81 #[.val (.ref r0), .val (.int p1), .val (.double d2), .second, .val (.double d3), .second] [(.double d3)])) _
            refine XS.aloadN X1.here hx rfl (hb hby dW_81) rfl rfl ?_
            show Steps p.tables e below (T1.setTop (mkF m 82 #[.val (.ref r0), .val (.int p1), .val (.double d2), .second, .val (.double d3), .second] [(.ref r0), (.double d3)])) _
            exact k)
          obtain ⟨T82, X82, e82, st82⟩ := getF X1 hx hZ hown (host := "") (Or.inl (hw _ (List.mem_of_getElem? (i := 17) rfl))) Via.refl e1 F2 (g := (mkF m 82 #[.val (.ref r0), .val (.int p1), .val (.double d2), .second, .val (.double d3), .second] [(.ref r0), (.double d3)])) rfl rfl (hb hby dW_82)
          have pre85 : ∀ t, Steps p.tables e below (T82.setTop (mkF m 85 #[.val (.ref r0), .val (.int p1), .val (.double d2), .second, .val (.double d3), .second] [(.int dv), (.double d3)])) t → Steps p.tables e below (s₁.setTop (entryFrame m #[(.ref r0), (.int p1), (.double d2), (.double d3)] 6)) t := fun t k => pre82 t (st82 _ k)
          have pre91 : ∀ t, Steps p.tables e below (T82.setTop (mkF m 91 #[.val (.ref r0), .val (.int p1), .val (.double d2), .second, .val (.double d3), .second] [(.double (FP.ddiv d3 (FP.i2d dv)))])) t → Steps p.tables e below (s₁.setTop (entryFrame m #[(.ref r0), (.int p1), (.double d2), (.double d3)] 6)) t := fun t k => pre85 t (by
            show Steps p.tables e below (T82.setTop (mkF m 85 #[.val (.ref r0), .val (.int p1), .val (.double d2), .second, .val (.double d3), .second] [(.int dv), (.double d3)])) t
            refine own_i2d X82 hx rfl (hb hby dW_85) rfl ?_
            show Steps p.tables e below (T82.setTop (mkF m 86 #[.val (.ref r0), .val (.int p1), .val (.double d2), .second, .val (.double d3), .second] [(.double (FP.i2d dv)), (.double d3)])) _
            refine own_ddiv X82 hx rfl (hb hby dW_86) rfl hn3 ?_
            show Steps p.tables e below (T82.setTop (mkF m 87 #[.val (.ref r0), .val (.int p1), .val (.double d2), .second, .val (.double d3), .second] [(.double (FP.ddiv d3 (FP.i2d dv)))])) _
            refine XS.goto X82.here hx rfl (pc0 := 87) (pc' := 91) rfl (hb hby dW_87) (by decide) (by decide) ?_
            show Steps p.tables e below (T82.setTop (mkF m 91 #[.val (.ref r0), .val (.int p1), .val (.double d2), .second, .val (.double d3), .second] [(.double (FP.ddiv d3 (FP.i2d dv)))])) _
            exact k)
          obtain ⟨fs, hr, hrun, hended, hW, hsame⟩ := X82.leave (v := some (.double (FP.ddiv d3 (FP.i2d dv)))) (fun h => by rw [Bd.returns] at h; cases h)
          refine ⟨_, _, pre91 _ ?_, hrun, hended, _, _, rfl, ?_, ⟨_, rfl⟩, hW, hsame.mono (by decide) (by decide)⟩
          · show Steps p.tables e below (T82.setTop (mkF m 91 #[.val (.ref r0), .val (.int p1), .val (.double d2), .second, .val (.double d3), .second] [(.double (FP.ddiv d3 (FP.i2d dv)))])) _
            exact retOut X82 hx Bd.returns rfl (Or.inr (Or.inr (Or.inl ⟨rfl, rfl, _, rfl⟩))) (hb hby dW_91) hr
          · show QW Z r0 p1 d2 d3 cw dv h0 n0 _ T82.heap _
            rw [e82]
            have hres : (FP.ddiv d3 (FP.i2d dv)) = (own_w cw dv p1 d2 d3) := by
              rw [own_w, if_neg hs4_49, if_neg hs4_97, if_pos hs4_100, if_pos hc72]
            exact ⟨congrArg (fun q => some (Value.double q)) hres, N0, rfl⟩
        · -- not p1 = (0 : Int32)
          have pre75 : ∀ t, Steps p.tables e below (T1.setTop (mkF m 75 #[.val (.ref r0), .val (.int p1), .val (.double d2), .second, .val (.double d3), .second] [])) t → Steps p.tables e below (s₁.setTop (entryFrame m #[(.ref r0), (.int p1), (.double d2), (.double d3)] 6)) t := fun t k => pre72 t (by
            show Steps p.tables e below (T1.setTop (mkF m 72 #[.val (.ref r0), .val (.int p1), .val (.double d2), .second, .val (.double d3), .second] [(.int p1)])) t
            refine XS.ifNo X1.here hx rfl (hb hby dW_72) rfl ((if0 _ _).trans (feq hc72).1) ?_
            exact k)
          have pre91 : ∀ t, Steps p.tables e below (T1.setTop (mkF m 91 #[.val (.ref r0), .val (.int p1), .val (.double d2), .second, .val (.double d3), .second] [(.double FP.dconst0)])) t → Steps p.tables e below (s₁.setTop (entryFrame m #[(.ref r0), (.int p1), (.double d2), (.double d3)] 6)) t := fun t k => pre75 t (by
            show Steps p.tables e below (T1.setTop (mkF m 75 #[.val (.ref r0), .val (.int p1), .val (.double d2), .second, .val (.double d3), .second] [])) t
            refine own_dconst0 X1 hx rfl (hb hby dW_75) ?_
            show Steps p.tables e below (T1.setTop (mkF m 76 #[.val (.ref r0), .val (.int p1), .val (.double d2), .second, .val (.double d3), .second] [(.double FP.dconst0)])) _
            refine XS.goto X1.here hx rfl (pc0 := 76) (pc' := 91) rfl (hb hby dW_76) (by decide) (by decide) ?_
            show Steps p.tables e below (T1.setTop (mkF m 91 #[.val (.ref r0), .val (.int p1), .val (.double d2), .second, .val (.double d3), .second] [(.double FP.dconst0)])) _
            exact k)
          obtain ⟨fs, hr, hrun, hended, hW, hsame⟩ := X1.leave (v := some (.double FP.dconst0)) (fun h => by rw [Bd.returns] at h; cases h)
          refine ⟨_, _, pre91 _ ?_, hrun, hended, _, _, rfl, ?_, ⟨_, rfl⟩, hW, hsame.mono (by decide) (by decide)⟩
          · show Steps p.tables e below (T1.setTop (mkF m 91 #[.val (.ref r0), .val (.int p1), .val (.double d2), .second, .val (.double d3), .second] [(.double FP.dconst0)])) _
            exact retOut X1 hx Bd.returns rfl (Or.inr (Or.inr (Or.inl ⟨rfl, rfl, _, rfl⟩))) (hb hby dW_91) hr
          · show QW Z r0 p1 d2 d3 cw dv h0 n0 _ T1.heap _
            rw [e1]
            have hres : FP.dconst0 = (own_w cw dv p1 d2 d3) := by
              rw [own_w, if_neg hs4_49, if_neg hs4_97, if_pos hs4_100, if_neg hc72]
            exact ⟨congrArg (fun q => some (Value.double q)) hres, N0, rfl⟩
      · -- not
        have pre90 : ∀ t, Steps p.tables e below (T1.setTop (mkF m 90 #[.val (.ref r0), .val (.int p1), .val (.double d2), .second, .val (.double d3), .second] [])) t → Steps p.tables e below (s₁.setTop (entryFrame m #[(.ref r0), (.int p1), (.double d2), (.double d3)] 6)) t := fun t k => pre4 t (by
          show Steps p.tables e below (T1.setTop (mkF m 4 #[.val (.ref r0), .val (.int p1), .val (.double d2), .second, .val (.double d3), .second] [(.int cw)])) t
          refine X1.lookupswitchMiss hx (g := (mkF m 4 #[.val (.ref r0), .val (.int p1), .val (.double d2), .second, .val (.double d3), .second] [(.int cw)])) rfl rfl (hb hby dW_4) (by decide) (own_miss hs4_49 hs4_97 hs4_100) (by show (0 : Int) ≤ ((4 : Nat) : Int) + (86); decide) _ ?_
          exact k)
        have pre91 : ∀ t, Steps p.tables e below (T1.setTop (mkF m 91 #[.val (.ref r0), .val (.int p1), .val (.double d2), .second, .val (.double d3), .second] [(.double FP.dconst0)])) t → Steps p.tables e below (s₁.setTop (entryFrame m #[(.ref r0), (.int p1), (.double d2), (.double d3)] 6)) t := fun t k => pre90 t (by
          show Steps p.tables e below (T1.setTop (mkF m 90 #[.val (.ref r0), .val (.int p1), .val (.double d2), .second, .val (.double d3), .second] [])) t
          refine own_dconst0 X1 hx rfl (hb hby dW_90) ?_
          show Steps p.tables e below (T1.setTop (mkF m 91 #[.val (.ref r0), .val (.int p1), .val (.double d2), .second, .val (.double d3), .second] [(.double FP.dconst0)])) _
          exact k)
        obtain ⟨fs, hr, hrun, hended, hW, hsame⟩ := X1.leave (v := some (.double FP.dconst0)) (fun h => by rw [Bd.returns] at h; cases h)
        refine ⟨_, _, pre91 _ ?_, hrun, hended, _, _, rfl, ?_, ⟨_, rfl⟩, hW, hsame.mono (by decide) (by decide)⟩
        · show Steps p.tables e below (T1.setTop (mkF m 91 #[.val (.ref r0), .val (.int p1), .val (.double d2), .second, .val (.double d3), .second] [(.double FP.dconst0)])) _
          exact retOut X1 hx Bd.returns rfl (Or.inr (Or.inr (Or.inl ⟨rfl, rfl, _, rfl⟩))) (hb hby dW_91) hr
        · show QW Z r0 p1 d2 d3 cw dv h0 n0 _ T1.heap _
          rw [e1]
          have hres : FP.dconst0 = (own_w cw dv p1 d2 d3) := by
            rw [own_w, if_neg hs4_49, if_neg hs4_97, if_neg hs4_100]
          exact ⟨congrArg (fun q => some (Value.double q)) hres, N0, rfl⟩
theorem dN_0 : decode method_3_code 0 = .ok (.iload_n 3, 1) := by decide +kernel
theorem dN_1 : decode method_3_code 1 = .ok (.ifCond .ne 16, 3) := by decide +kernel
theorem dN_4 : decode method_3_code 4 = .ok (.dload_n 0, 1) := by decide +kernel
theorem dN_5 : decode method_3_code 5 = .ok (.iload_n 2, 1) := by decide +kernel
theorem dN_6 : decode method_3_code 6 = .ok (.i2d, 1) := by decide +kernel
theorem dN_7 : decode method_3_code 7 = .ok (.dcmp .l, 1) := by decide +kernel
theorem dN_8 : decode method_3_code 8 = .ok (.ifCond .ne 7, 3) := by decide +kernel
theorem dN_11 : decode method_3_code 11 = .ok (.iconst 1, 1) := by decide +kernel
theorem dN_12 : decode method_3_code 12 = .ok (.goto 4, 3) := by decide +kernel
theorem dN_15 : decode method_3_code 15 = .ok (.iconst 0, 1) := by decide +kernel
theorem dN_16 : decode method_3_code 16 = .ok (.ireturn, 1) := by decide +kernel
theorem dN_17 : decode method_3_code 17 = .ok (.iload_n 2, 1) := by decide +kernel
theorem dN_18 : decode method_3_code 18 = .ok (.i2d, 1) := by decide +kernel
theorem dN_19 : decode method_3_code 19 = .ok (.dload_n 0, 1) := by decide +kernel
theorem dN_20 : decode method_3_code 20 = .ok (.dcmp .g, 1) := by decide +kernel
theorem dN_21 : decode method_3_code 21 = .ok (.ifCond .ge 16, 3) := by decide +kernel
theorem dN_24 : decode method_3_code 24 = .ok (.dload_n 0, 1) := by decide +kernel
theorem dN_25 : decode method_3_code 25 = .ok (.iload_n 2, 1) := by decide +kernel
theorem dN_26 : decode method_3_code 26 = .ok (.i2d, 1) := by decide +kernel
theorem dN_27 : decode method_3_code 27 = .ok (.dconst 1, 1) := by decide +kernel
theorem dN_28 : decode method_3_code 28 = .ok (.dadd, 1) := by decide +kernel
theorem dN_29 : decode method_3_code 29 = .ok (.dcmp .g, 1) := by decide +kernel
theorem dN_30 : decode method_3_code 30 = .ok (.ifCond .ge 7, 3) := by decide +kernel
theorem dN_33 : decode method_3_code 33 = .ok (.iconst 1, 1) := by decide +kernel
theorem dN_34 : decode method_3_code 34 = .ok (.goto 4, 3) := by decide +kernel
theorem dN_37 : decode method_3_code 37 = .ok (.iconst 0, 1) := by decide +kernel
theorem dN_38 : decode method_3_code 38 = .ok (.ireturn, 1) := by decide +kernel
theorem pnN : plainName "com/example/kindred/kindred/NullFieldRuleWeighPinLaw" = true := by first | (simp [plainName, overriddenIn]; done) | decide +kernel
theorem efN (m : MethodId) (d0 : UInt64) (p1 : Int32) (p2 : Int32) : entryFrame m #[(.double d0), (.int p1), (.int p2)] 4 = mkF m 0 #[.val (.double d0), .second, .val (.int p1), .val (.int p2)] [] := by first | (simp [entryFrame, mkF, argsToLocals, Value.category]; done) | rfl
def own_fN (d0 : UInt64) (p1 : Int32) (p2 : Int32) : Int32 := (if p2 = (0 : Int32) then ((if ((cmpValue (FP.dcmp d0 (FP.i2d p1)) .l) = (0 : Int32)) then (1 : Int32) else 0)) else ((if (((cmpValue (FP.dcmp (FP.i2d p1) d0) .g) < (0 : Int32)) ∧ ((cmpValue (FP.dcmp d0 (FP.dadd (FP.i2d p1) FP.dconst1)) .g) < (0 : Int32))) then (1 : Int32) else 0)))
abbrev own_roomN : Room := { frames := 0, cells := 0, slots := 0, locals := 0 }
def QN (Z : State) (d0 : UInt64) (p1 : Int32) (p2 : Int32) (h0 : Heap) (n0 : Nat) (v : Option Value) (h : Heap) (L : List Loc) : Prop := v = some (.int (own_fN d0 p1 p2)) ∧ Fr n0 L ∧ h = h0
set_option maxRecDepth 65536 in
set_option maxHeartbeats 40000000 in
theorem rmN (l : Launch) (Z : State) (a0 : Array Value) (hw : ∀ d ∈ tables_1, d.before a0 Z = true) (ws : List Jvm.Cond) (d0 : UInt64) (p1 : Int32) (p2 : Int32) (h0 : Heap) (n0 : Nat) (Z0 : n0 ≤ h0.size) :
    MetFree l (⟨"com/example/kindred/kindred/NullFieldRuleWeighPinLaw", "near", "(DII)Z"⟩ : MethodName) (head1 (Jvm.Cond.code (⟨"com/example/kindred/kindred/NullFieldRuleWeighPinLaw", "near", "(DII)Z"⟩ : MethodName) method_3_code 4 (some .boolean) :: ws) own_roomN) (fun a U => a = #[(.double d0), (.int p1), (.int p2)] ∧ Z.Warmed39 U.vm ∧ U.heap = h0) (fun _ _ _ _ _ => True) (fun _ U o U' => ∃ v L, o = .returned v ∧ QN Z d0 p1 p2 h0 n0 v U'.heap L ∧ FrameEnd U o U' L own_roomN.cells own_roomN.slots) := by
  refine MetFree.of_bodySF (plainFor_of_name pnN) hisR ?_
  intro p e s m args below meth c s₁ Bd hml0 hP hK
  obtain ⟨rfl, hZ, hh⟩ := hP
  have hx := Bd.exec
  have hby := Bd.bytes
  have hml : c.maxLocals = 4 := hml0
  have hown : s.vm.findClass "com/example/kindred/kindred/NullFieldRuleWeighPinLaw" = some m.cls := findClass_of_methodNamed Bd.named
  have hnm := (name_of_methodNamed Bd.named Bd.method).1
  have X0 : Stand p l e own_roomN s m #[(.double d0), (.int p1), (.int p2)] below meth c s₁ [] 0 0 := Stand.of_body Bd
  have e0 : s₁.heap = h0 := by rw [← hh, Bd.state]; rfl
  have N0 := Fr.nil n0
  have pre0 : ∀ t, Steps p.tables e below (s₁.setTop (mkF m 0 #[.val (.double d0), .second, .val (.int p1), .val (.int p2)] [])) t → Steps p.tables e below (s₁.setTop (entryFrame m #[(.double d0), (.int p1), (.int p2)] 4)) t := fun t k => castTop (efN m d0 p1 p2) k
  have pre1 : ∀ t, Steps p.tables e below (s₁.setTop (mkF m 1 #[.val (.double d0), .second, .val (.int p1), .val (.int p2)] [(.int p2)])) t → Steps p.tables e below (s₁.setTop (entryFrame m #[(.double d0), (.int p1), (.int p2)] 4)) t := fun t k => pre0 t (by
    show Steps p.tables e below (s₁.setTop (mkF m 0 #[.val (.double d0), .second, .val (.int p1), .val (.int p2)] [])) t
    refine XS.iloadN X0.here hx rfl (hb hby dN_0) rfl ?_
    show Steps p.tables e below (s₁.setTop (mkF m 1 #[.val (.double d0), .second, .val (.int p1), .val (.int p2)] [(.int p2)])) _
    exact k)
  by_cases hc1 : p2 = (0 : Int32)
  · -- p2 = (0 : Int32)
    have pre4 : ∀ t, Steps p.tables e below (s₁.setTop (mkF m 4 #[.val (.double d0), .second, .val (.int p1), .val (.int p2)] [])) t → Steps p.tables e below (s₁.setTop (entryFrame m #[(.double d0), (.int p1), (.int p2)] 4)) t := fun t k => pre1 t (by
      show Steps p.tables e below (s₁.setTop (mkF m 1 #[.val (.double d0), .second, .val (.int p1), .val (.int p2)] [(.int p2)])) t
      refine XS.ifNo X0.here hx rfl (hb hby dN_1) rfl ((if0 _ _).trans (teq hc1).2) ?_
      exact k)
    have pre8 : ∀ t, Steps p.tables e below (s₁.setTop (mkF m 8 #[.val (.double d0), .second, .val (.int p1), .val (.int p2)] [(.int (cmpValue (FP.dcmp d0 (FP.i2d p1)) .l))])) t → Steps p.tables e below (s₁.setTop (entryFrame m #[(.double d0), (.int p1), (.int p2)] 4)) t := fun t k => pre4 t (by
      show Steps p.tables e below (s₁.setTop (mkF m 4 #[.val (.double d0), .second, .val (.int p1), .val (.int p2)] [])) t
      refine own_dloadN X0 hx rfl (hb hby dN_4) rfl ?_
      show Steps p.tables e below (s₁.setTop (mkF m 5 #[.val (.double d0), .second, .val (.int p1), .val (.int p2)] [(.double d0)])) _
      refine XS.iloadN X0.here hx rfl (hb hby dN_5) rfl ?_
      show Steps p.tables e below (s₁.setTop (mkF m 6 #[.val (.double d0), .second, .val (.int p1), .val (.int p2)] [(.int p1), (.double d0)])) _
      refine own_i2d X0 hx rfl (hb hby dN_6) rfl ?_
      show Steps p.tables e below (s₁.setTop (mkF m 7 #[.val (.double d0), .second, .val (.int p1), .val (.int p2)] [(.double (FP.i2d p1)), (.double d0)])) _
      refine own_dcmp X0 hx rfl (hb hby dN_7) rfl ?_
      show Steps p.tables e below (s₁.setTop (mkF m 8 #[.val (.double d0), .second, .val (.int p1), .val (.int p2)] [(.int (cmpValue (FP.dcmp d0 (FP.i2d p1)) .l))])) _
      exact k)
    obtain ⟨v16_s0, hv16_s0⟩ : ∃ z : Int32, z = if ((cmpValue (FP.dcmp d0 (FP.i2d p1)) .l) = (0 : Int32)) then (1 : Int32) else 0 := ⟨_, rfl⟩
    have pre16 : ∀ t, Steps p.tables e below (s₁.setTop (mkF m 16 #[.val (.double d0), .second, .val (.int p1), .val (.int p2)] [(.int v16_s0)])) t → Steps p.tables e below (s₁.setTop (entryFrame m #[(.double d0), (.int p1), (.int p2)] 4)) t := by
      by_cases hc8 : (cmpValue (FP.dcmp d0 (FP.i2d p1)) .l) = (0 : Int32)
      · -- (cmpValue (FP.dcmp d0 (FP.i2d p1)) .l) = (0 : Int32)
        have pre11 : ∀ t, Steps p.tables e below (s₁.setTop (mkF m 11 #[.val (.double d0), .second, .val (.int p1), .val (.int p2)] [])) t → Steps p.tables e below (s₁.setTop (entryFrame m #[(.double d0), (.int p1), (.int p2)] 4)) t := fun t k => pre8 t (by
          show Steps p.tables e below (s₁.setTop (mkF m 8 #[.val (.double d0), .second, .val (.int p1), .val (.int p2)] [(.int (cmpValue (FP.dcmp d0 (FP.i2d p1)) .l))])) t
          refine XS.ifNo X0.here hx rfl (hb hby dN_8) rfl ((if0 _ _).trans (teq hc8).2) ?_
          exact k)
        have pre16 : ∀ t, Steps p.tables e below (s₁.setTop (mkF m 16 #[.val (.double d0), .second, .val (.int p1), .val (.int p2)] [(.int (1 : Int32))])) t → Steps p.tables e below (s₁.setTop (entryFrame m #[(.double d0), (.int p1), (.int p2)] 4)) t := fun t k => pre11 t (by
          show Steps p.tables e below (s₁.setTop (mkF m 11 #[.val (.double d0), .second, .val (.int p1), .val (.int p2)] [])) t
          refine XS.iconst X0.here hx rfl (hb hby dN_11) ?_
          show Steps p.tables e below (s₁.setTop (mkF m 12 #[.val (.double d0), .second, .val (.int p1), .val (.int p2)] [(.int (1 : Int32))])) _
          refine XS.goto X0.here hx rfl (pc0 := 12) (pc' := 16) rfl (hb hby dN_12) (by decide) (by decide) ?_
          show Steps p.tables e below (s₁.setTop (mkF m 16 #[.val (.double d0), .second, .val (.int p1), .val (.int p2)] [(.int (1 : Int32))])) _
          exact k)
        have ehv16_s0 := hv16_s0.trans (if_pos hc8)
        exact fun t k => pre16 t (by subst ehv16_s0; exact k)
      · -- not (cmpValue (FP.dcmp d0 (FP.i2d p1)) .l) = (0 : Int32)
        have pre15 : ∀ t, Steps p.tables e below (s₁.setTop (mkF m 15 #[.val (.double d0), .second, .val (.int p1), .val (.int p2)] [])) t → Steps p.tables e below (s₁.setTop (entryFrame m #[(.double d0), (.int p1), (.int p2)] 4)) t := fun t k => pre8 t (by
          show Steps p.tables e below (s₁.setTop (mkF m 8 #[.val (.double d0), .second, .val (.int p1), .val (.int p2)] [(.int (cmpValue (FP.dcmp d0 (FP.i2d p1)) .l))])) t
          refine XS.ifYes X0.here hx rfl (pc0 := 8) (pc' := 15) rfl (hb hby dN_8) rfl ((if0 _ _).trans (feq hc8).2) (by decide) (by decide) ?_
          exact k)
        have pre16 : ∀ t, Steps p.tables e below (s₁.setTop (mkF m 16 #[.val (.double d0), .second, .val (.int p1), .val (.int p2)] [(.int (0 : Int32))])) t → Steps p.tables e below (s₁.setTop (entryFrame m #[(.double d0), (.int p1), (.int p2)] 4)) t := fun t k => pre15 t (by
          show Steps p.tables e below (s₁.setTop (mkF m 15 #[.val (.double d0), .second, .val (.int p1), .val (.int p2)] [])) t
          refine XS.iconst X0.here hx rfl (hb hby dN_15) ?_
          show Steps p.tables e below (s₁.setTop (mkF m 16 #[.val (.double d0), .second, .val (.int p1), .val (.int p2)] [(.int (0 : Int32))])) _
          exact k)
        have ehv16_s0 := hv16_s0.trans (if_neg hc8)
        exact fun t k => pre16 t (by subst ehv16_s0; exact k)
    obtain ⟨fs, hr, hrun, hended, hW, hsame⟩ := X0.leave (v := some (.int (nar .boolean v16_s0))) (fun h => by rw [Bd.returns] at h; cases h)
    refine ⟨_, _, pre16 _ ?_, hrun, hended, _, _, rfl, ?_, ⟨_, rfl⟩, hW, hsame.mono (by decide) (by decide)⟩
    · show Steps p.tables e below (s₁.setTop (mkF m 16 #[.val (.double d0), .second, .val (.int p1), .val (.int p2)] [(.int v16_s0)])) _
      exact retN X0 hx (t := .boolean) Bd.returns (by simp) (hb hby dN_16) hr
    · show QN Z d0 p1 p2 h0 n0 _ s₁.heap _
      rw [e0]
      have hres : (nar .boolean v16_s0) = (own_fN d0 p1 p2) := by
        try subst hv16_s0
        rw [own_fN, if_pos hc1]
        first | done | rfl | exact own_narB _
      exact ⟨congrArg (fun q => some (Value.int q)) hres, N0, rfl⟩
  · -- not p2 = (0 : Int32)
    have pre17 : ∀ t, Steps p.tables e below (s₁.setTop (mkF m 17 #[.val (.double d0), .second, .val (.int p1), .val (.int p2)] [])) t → Steps p.tables e below (s₁.setTop (entryFrame m #[(.double d0), (.int p1), (.int p2)] 4)) t := fun t k => pre1 t (by
      show Steps p.tables e below (s₁.setTop (mkF m 1 #[.val (.double d0), .second, .val (.int p1), .val (.int p2)] [(.int p2)])) t
      refine XS.ifYes X0.here hx rfl (pc0 := 1) (pc' := 17) rfl (hb hby dN_1) rfl ((if0 _ _).trans (feq hc1).2) (by decide) (by decide) ?_
      exact k)
    have pre21 : ∀ t, Steps p.tables e below (s₁.setTop (mkF m 21 #[.val (.double d0), .second, .val (.int p1), .val (.int p2)] [(.int (cmpValue (FP.dcmp (FP.i2d p1) d0) .g))])) t → Steps p.tables e below (s₁.setTop (entryFrame m #[(.double d0), (.int p1), (.int p2)] 4)) t := fun t k => pre17 t (by
      show Steps p.tables e below (s₁.setTop (mkF m 17 #[.val (.double d0), .second, .val (.int p1), .val (.int p2)] [])) t
      refine XS.iloadN X0.here hx rfl (hb hby dN_17) rfl ?_
      show Steps p.tables e below (s₁.setTop (mkF m 18 #[.val (.double d0), .second, .val (.int p1), .val (.int p2)] [(.int p1)])) _
      refine own_i2d X0 hx rfl (hb hby dN_18) rfl ?_
      show Steps p.tables e below (s₁.setTop (mkF m 19 #[.val (.double d0), .second, .val (.int p1), .val (.int p2)] [(.double (FP.i2d p1))])) _
      refine own_dloadN X0 hx rfl (hb hby dN_19) rfl ?_
      show Steps p.tables e below (s₁.setTop (mkF m 20 #[.val (.double d0), .second, .val (.int p1), .val (.int p2)] [(.double d0), (.double (FP.i2d p1))])) _
      refine own_dcmp X0 hx rfl (hb hby dN_20) rfl ?_
      show Steps p.tables e below (s₁.setTop (mkF m 21 #[.val (.double d0), .second, .val (.int p1), .val (.int p2)] [(.int (cmpValue (FP.dcmp (FP.i2d p1) d0) .g))])) _
      exact k)
    obtain ⟨v38_s0, hv38_s0⟩ : ∃ z : Int32, z = if (((cmpValue (FP.dcmp (FP.i2d p1) d0) .g) < (0 : Int32)) ∧ ((cmpValue (FP.dcmp d0 (FP.dadd (FP.i2d p1) FP.dconst1)) .g) < (0 : Int32))) then (1 : Int32) else 0 := ⟨_, rfl⟩
    have pre38 : ∀ t, Steps p.tables e below (s₁.setTop (mkF m 38 #[.val (.double d0), .second, .val (.int p1), .val (.int p2)] [(.int v38_s0)])) t → Steps p.tables e below (s₁.setTop (entryFrame m #[(.double d0), (.int p1), (.int p2)] 4)) t := by
      by_cases hc21 : (cmpValue (FP.dcmp (FP.i2d p1) d0) .g) < (0 : Int32)
      · -- (cmpValue (FP.dcmp (FP.i2d p1) d0) .g) < (0 : Int32)
        have pre24 : ∀ t, Steps p.tables e below (s₁.setTop (mkF m 24 #[.val (.double d0), .second, .val (.int p1), .val (.int p2)] [])) t → Steps p.tables e below (s₁.setTop (entryFrame m #[(.double d0), (.int p1), (.int p2)] 4)) t := fun t k => pre21 t (by
          show Steps p.tables e below (s₁.setTop (mkF m 21 #[.val (.double d0), .second, .val (.int p1), .val (.int p2)] [(.int (cmpValue (FP.dcmp (FP.i2d p1) d0) .g))])) t
          refine XS.ifNo X0.here hx rfl (hb hby dN_21) rfl ((if0 _ _).trans (tlt hc21).2.1) ?_
          exact k)
        have pre30 : ∀ t, Steps p.tables e below (s₁.setTop (mkF m 30 #[.val (.double d0), .second, .val (.int p1), .val (.int p2)] [(.int (cmpValue (FP.dcmp d0 (FP.dadd (FP.i2d p1) FP.dconst1)) .g))])) t → Steps p.tables e below (s₁.setTop (entryFrame m #[(.double d0), (.int p1), (.int p2)] 4)) t := fun t k => pre24 t (by
          show Steps p.tables e below (s₁.setTop (mkF m 24 #[.val (.double d0), .second, .val (.int p1), .val (.int p2)] [])) t
          refine own_dloadN X0 hx rfl (hb hby dN_24) rfl ?_
          show Steps p.tables e below (s₁.setTop (mkF m 25 #[.val (.double d0), .second, .val (.int p1), .val (.int p2)] [(.double d0)])) _
          refine XS.iloadN X0.here hx rfl (hb hby dN_25) rfl ?_
          show Steps p.tables e below (s₁.setTop (mkF m 26 #[.val (.double d0), .second, .val (.int p1), .val (.int p2)] [(.int p1), (.double d0)])) _
          refine own_i2d X0 hx rfl (hb hby dN_26) rfl ?_
          show Steps p.tables e below (s₁.setTop (mkF m 27 #[.val (.double d0), .second, .val (.int p1), .val (.int p2)] [(.double (FP.i2d p1)), (.double d0)])) _
          refine own_dconst1 X0 hx rfl (hb hby dN_27) ?_
          show Steps p.tables e below (s₁.setTop (mkF m 28 #[.val (.double d0), .second, .val (.int p1), .val (.int p2)] [(.double FP.dconst1), (.double (FP.i2d p1)), (.double d0)])) _
          refine own_dadd X0 hx rfl (hb hby dN_28) rfl (dadd_out (i2d_fin _).noNaN own_1f) ?_
          show Steps p.tables e below (s₁.setTop (mkF m 29 #[.val (.double d0), .second, .val (.int p1), .val (.int p2)] [(.double (FP.dadd (FP.i2d p1) FP.dconst1)), (.double d0)])) _
          refine own_dcmp X0 hx rfl (hb hby dN_29) rfl ?_
          show Steps p.tables e below (s₁.setTop (mkF m 30 #[.val (.double d0), .second, .val (.int p1), .val (.int p2)] [(.int (cmpValue (FP.dcmp d0 (FP.dadd (FP.i2d p1) FP.dconst1)) .g))])) _
          exact k)
        by_cases hc30 : (cmpValue (FP.dcmp d0 (FP.dadd (FP.i2d p1) FP.dconst1)) .g) < (0 : Int32)
        · -- (cmpValue (FP.dcmp d0 (FP.dadd (FP.i2d p1) FP.dconst1)) .g) < (0 : Int32)
          have pre33 : ∀ t, Steps p.tables e below (s₁.setTop (mkF m 33 #[.val (.double d0), .second, .val (.int p1), .val (.int p2)] [])) t → Steps p.tables e below (s₁.setTop (entryFrame m #[(.double d0), (.int p1), (.int p2)] 4)) t := fun t k => pre30 t (by
            show Steps p.tables e below (s₁.setTop (mkF m 30 #[.val (.double d0), .second, .val (.int p1), .val (.int p2)] [(.int (cmpValue (FP.dcmp d0 (FP.dadd (FP.i2d p1) FP.dconst1)) .g))])) t
            refine XS.ifNo X0.here hx rfl (hb hby dN_30) rfl ((if0 _ _).trans (tlt hc30).2.1) ?_
            exact k)
          have pre38 : ∀ t, Steps p.tables e below (s₁.setTop (mkF m 38 #[.val (.double d0), .second, .val (.int p1), .val (.int p2)] [(.int (1 : Int32))])) t → Steps p.tables e below (s₁.setTop (entryFrame m #[(.double d0), (.int p1), (.int p2)] 4)) t := fun t k => pre33 t (by
            show Steps p.tables e below (s₁.setTop (mkF m 33 #[.val (.double d0), .second, .val (.int p1), .val (.int p2)] [])) t
            refine XS.iconst X0.here hx rfl (hb hby dN_33) ?_
            show Steps p.tables e below (s₁.setTop (mkF m 34 #[.val (.double d0), .second, .val (.int p1), .val (.int p2)] [(.int (1 : Int32))])) _
            refine XS.goto X0.here hx rfl (pc0 := 34) (pc' := 38) rfl (hb hby dN_34) (by decide) (by decide) ?_
            show Steps p.tables e below (s₁.setTop (mkF m 38 #[.val (.double d0), .second, .val (.int p1), .val (.int p2)] [(.int (1 : Int32))])) _
            exact k)
          have ehv38_s0 := hv38_s0.trans (if_pos ⟨hc21, hc30⟩)
          exact fun t k => pre38 t (by subst ehv38_s0; exact k)
        · -- not (cmpValue (FP.dcmp d0 (FP.dadd (FP.i2d p1) FP.dconst1)) .g) < (0 : Int32)
          have pre37 : ∀ t, Steps p.tables e below (s₁.setTop (mkF m 37 #[.val (.double d0), .second, .val (.int p1), .val (.int p2)] [])) t → Steps p.tables e below (s₁.setTop (entryFrame m #[(.double d0), (.int p1), (.int p2)] 4)) t := fun t k => pre30 t (by
            show Steps p.tables e below (s₁.setTop (mkF m 30 #[.val (.double d0), .second, .val (.int p1), .val (.int p2)] [(.int (cmpValue (FP.dcmp d0 (FP.dadd (FP.i2d p1) FP.dconst1)) .g))])) t
            refine XS.ifYes X0.here hx rfl (pc0 := 30) (pc' := 37) rfl (hb hby dN_30) rfl ((if0 _ _).trans (flt hc30).2.1) (by decide) (by decide) ?_
            exact k)
          have pre38 : ∀ t, Steps p.tables e below (s₁.setTop (mkF m 38 #[.val (.double d0), .second, .val (.int p1), .val (.int p2)] [(.int (0 : Int32))])) t → Steps p.tables e below (s₁.setTop (entryFrame m #[(.double d0), (.int p1), (.int p2)] 4)) t := fun t k => pre37 t (by
            show Steps p.tables e below (s₁.setTop (mkF m 37 #[.val (.double d0), .second, .val (.int p1), .val (.int p2)] [])) t
            refine XS.iconst X0.here hx rfl (hb hby dN_37) ?_
            show Steps p.tables e below (s₁.setTop (mkF m 38 #[.val (.double d0), .second, .val (.int p1), .val (.int p2)] [(.int (0 : Int32))])) _
            exact k)
          have ehv38_s0 := hv38_s0.trans (if_neg (fun r => hc30 r.2))
          exact fun t k => pre38 t (by subst ehv38_s0; exact k)
      · -- not (cmpValue (FP.dcmp (FP.i2d p1) d0) .g) < (0 : Int32)
        have pre37 : ∀ t, Steps p.tables e below (s₁.setTop (mkF m 37 #[.val (.double d0), .second, .val (.int p1), .val (.int p2)] [])) t → Steps p.tables e below (s₁.setTop (entryFrame m #[(.double d0), (.int p1), (.int p2)] 4)) t := fun t k => pre21 t (by
          show Steps p.tables e below (s₁.setTop (mkF m 21 #[.val (.double d0), .second, .val (.int p1), .val (.int p2)] [(.int (cmpValue (FP.dcmp (FP.i2d p1) d0) .g))])) t
          refine XS.ifYes X0.here hx rfl (pc0 := 21) (pc' := 37) rfl (hb hby dN_21) rfl ((if0 _ _).trans (flt hc21).2.1) (by decide) (by decide) ?_
          exact k)
        have pre38 : ∀ t, Steps p.tables e below (s₁.setTop (mkF m 38 #[.val (.double d0), .second, .val (.int p1), .val (.int p2)] [(.int (0 : Int32))])) t → Steps p.tables e below (s₁.setTop (entryFrame m #[(.double d0), (.int p1), (.int p2)] 4)) t := fun t k => pre37 t (by
          show Steps p.tables e below (s₁.setTop (mkF m 37 #[.val (.double d0), .second, .val (.int p1), .val (.int p2)] [])) t
          refine XS.iconst X0.here hx rfl (hb hby dN_37) ?_
          show Steps p.tables e below (s₁.setTop (mkF m 38 #[.val (.double d0), .second, .val (.int p1), .val (.int p2)] [(.int (0 : Int32))])) _
          exact k)
        have ehv38_s0 := hv38_s0.trans (if_neg (fun q => hc21 q.1))
        exact fun t k => pre38 t (by subst ehv38_s0; exact k)
    obtain ⟨fs, hr, hrun, hended, hW, hsame⟩ := X0.leave (v := some (.int (nar .boolean v38_s0))) (fun h => by rw [Bd.returns] at h; cases h)
    refine ⟨_, _, pre38 _ ?_, hrun, hended, _, _, rfl, ?_, ⟨_, rfl⟩, hW, hsame.mono (by decide) (by decide)⟩
    · show Steps p.tables e below (s₁.setTop (mkF m 38 #[.val (.double d0), .second, .val (.int p1), .val (.int p2)] [(.int v38_s0)])) _
      exact retN X0 hx (t := .boolean) Bd.returns (by simp) (hb hby dN_38) hr
    · show QN Z d0 p1 p2 h0 n0 _ s₁.heap _
      rw [e0]
      have hres : (nar .boolean v38_s0) = (own_fN d0 p1 p2) := by
        try subst hv38_s0
        try subst hv16_s0
        rw [own_fN, if_neg hc1]
        first | done | rfl | exact own_narB _
      exact ⟨congrArg (fun q => some (Value.int q)) hres, N0, rfl⟩
theorem own_zw {i : Int} {a : UInt64} (h : FP.Core.DInt i a) : FP.Core.val64 a ≠ .nan ∧ FP.Core.zval FP.Core.b64 (FP.Core.val64 a) = i * ((2 ^ 1074 : Nat) : Int) := by
  have hf := FP.Core.val64_fits a
  unfold FP.Core.DInt at h
  cases hv : FP.Core.val64 a with
  | nan => rw [hv] at h; exact h.elim
  | inf s => rw [hv] at h; exact h.elim
  | fin s c q =>
    rw [hv] at h hf
    have hq : (-1074 : Int) ≤ q := by have := hf.2.1; rw [FP.Core.qmin_b64] at this; exact this
    have h1 := FP.Core.whole_units h (e := -1074) hq
    have e1 : (-1074 : Int).toNat = 0 := rfl
    have e2 : (-(-1074 : Int)).toNat = 1074 := rfl
    rw [e1, e2, Nat.pow_zero] at h1
    refine ⟨(by intro z; cases z), ?_⟩
    show FP.Core.signed s (FP.Core.inUnits c q FP.Core.b64.qmin) = _
    rw [FP.Core.qmin_b64]
    rw [← h1]
    exact (Int.mul_one _).symm
theorem own_quot (n d : Int32) (hd : 0 < d.toInt) : ∃ s : Bool, (n.toInt ≠ 0 → s = decide (n.toInt < 0)) ∧ FP.Core.val64 (FP.ddiv (FP.i2d n) (FP.i2d d)) = FP.Core.roundRatio FP.Core.b64 s n.toInt.natAbs d.toInt.natAbs 0 := by
  have hn : FP.Core.Whole n.toInt (FP.Core.val64 (FP.i2d n)) := FP.Core.i2d_int n
  have hdd : FP.Core.Whole d.toInt (FP.Core.val64 (FP.i2d d)) := FP.Core.i2d_int d
  have hq : FP.Core.val64 (FP.ddiv (FP.i2d n) (FP.i2d d)) = FP.Core.quotient FP.Core.b64 (FP.Core.val64 (FP.i2d n)) (FP.Core.val64 (FP.i2d d)) := FP.Core.val64_ddiv _ _
  rw [hq]
  cases hv : FP.Core.val64 (FP.i2d n) with
  | nan => rw [hv] at hn; exact hn.elim
  | inf s => rw [hv] at hn; exact hn.elim
  | fin s c q =>
  cases hu : FP.Core.val64 (FP.i2d d) with
  | nan => rw [hu] at hdd; exact hdd.elim
  | inf s => rw [hu] at hdd; exact hdd.elim
  | fin t e r =>
    rw [hv] at hn
    rw [hu] at hdd
    have ht : t = false := by
      rw [FP.Core.whole_sign hdd (by omega)]
      exact decide_eq_false (by omega)
    have hc := FP.Core.whole_natAbs hn
    have he := FP.Core.whole_natAbs hdd
    have e0 : e ≠ 0 := fun z => by have := (FP.Core.whole_zero hdd).mp z; omega
    refine ⟨s != t, fun h => ?_, ?_⟩
    · rw [ht, FP.Core.whole_sign hn h]; simp
    · show (if e = 0 then _ else FP.Core.roundRatio FP.Core.b64 (s != t) c e (q - r)) = _
      rw [if_neg e0]
      apply FP.Core.roundRatio_congr (Nat.pos_of_ne_zero e0) (by omega)
      apply Nat.eq_of_mul_eq_mul_right (Nat.two_pow_pos (q.toNat + (-r).toNat))
      generalize n.toInt.natAbs = N at *
      generalize d.toInt.natAbs = D at *
      have x1 : c * D * 2 ^ (q - r - 0).toNat * 2 ^ (q.toNat + (-r).toNat) = (c * 2 ^ q.toNat) * (D * 2 ^ (-r).toNat) * 2 ^ (q - r - 0).toNat := by rw [Nat.pow_add]; ac_rfl
      have x2 : N * e * 2 ^ (0 - (q - r)).toNat * 2 ^ (q.toNat + (-r).toNat) = N * e * 2 ^ ((0 - (q - r)).toNat + (q.toNat + (-r).toNat)) := by rw [Nat.pow_add 2 (0 - (q - r)).toNat]; ac_rfl
      have x3 : (N * 2 ^ (-q).toNat) * (e * 2 ^ r.toNat) * 2 ^ (q - r - 0).toNat = N * e * 2 ^ ((-q).toNat + r.toNat + (q - r - 0).toNat) := by rw [Nat.pow_add, Nat.pow_add]; ac_rfl
      rw [x1, x2, hc, ← he, x3]
      congr 2
      omega
theorem own_V (M : Nat) (hM : M < 2 ^ 53) : ∃ V, FP.Core.fits FP.Core.b64 V ∧ V ≠ .nan ∧ FP.Core.zmag FP.Core.b64 V = M * 2 ^ 1070 := by
  obtain ⟨c', q', h1, h2⟩ := FP.Core.round_exact FP.Core.good_b64 false (c := M) (q := -4) hM (by rw [FP.Core.qmin_b64]; decide) (by decide)
  refine ⟨FP.Core.round FP.Core.b64 (.fin false M (-4)), FP.Core.round_fits FP.Core.good_b64 _, (by rw [h1]; intro h; cases h), ?_⟩
  rw [h1]
  show FP.Core.inUnits c' q' FP.Core.b64.qmin = _
  rw [h2, FP.Core.qmin_b64]
  show M * 2 ^ ((-4 : Int) - (-1074)).toNat = _
  have e : ((-4 : Int) - (-1074)).toNat = 1070 := rfl
  rw [e]
theorem own_16 : (2 : Nat) ^ 1074 = 16 * 2 ^ 1070 := by
  have : (2 : Nat) ^ 1074 = 2 ^ (4 + 1070) := rfl
  rw [this, Nat.pow_add]
theorem own_bnd {s : Bool} {A B L H : Nat} (hB : 0 < B) (hL : L < 2 ^ 53) (hH : H < 2 ^ 53) (h1 : L * B ≤ 16 * A) (h2 : 16 * A ≤ H * B) :
    L * 2 ^ 1070 ≤ FP.Core.zmag FP.Core.b64 (FP.Core.roundRatio FP.Core.b64 s A B 0) ∧ FP.Core.zmag FP.Core.b64 (FP.Core.roundRatio FP.Core.b64 s A B 0) ≤ H * 2 ^ 1070 := by
  obtain ⟨V, v1, v2, v3⟩ := own_V L hL
  obtain ⟨W, w1, w2, w3⟩ := own_V H hH
  have q0 : (-1074 : Int) ≤ FP.Core.b64.qmin := by rw [FP.Core.qmin_b64]; exact Int.le_refl _
  have e0 : (FP.Core.b64.qmin - (-1074 : Int)).toNat = 0 := by rw [FP.Core.qmin_b64]; rfl
  have e1 : FP.Core.inUnits A 0 (-1074) = A * (16 * 2 ^ 1070) := by
    rw [← own_16]
    show A * 2 ^ ((0 : Int) - (-1074)).toNat = _
    have e : ((0 : Int) - (-1074)).toNat = 1074 := rfl
    rw [e]
  constructor
  · rw [← v3]
    refine FP.Core.zmag_roundRatio_ge FP.Core.good_b64 hB v1 q0 (by decide) ?_
    rw [e0, e1, v3, Nat.pow_zero, Nat.mul_one]
    generalize (2 : Nat) ^ 1070 = U
    calc L * U * B = (L * B) * U := by ac_rfl
      _ ≤ (16 * A) * U := Nat.mul_le_mul_right _ h1
      _ = A * (16 * U) := by ac_rfl
  · rw [← w3]
    refine FP.Core.zmag_roundRatio_le FP.Core.good_b64 hB w1 w2 q0 (by decide) ?_
    rw [e0, e1, w3, Nat.pow_zero, Nat.mul_one]
    generalize (2 : Nat) ^ 1070 = U
    calc A * (16 * U) = (16 * A) * U := by ac_rfl
      _ ≤ (H * B) * U := Nat.mul_le_mul_right _ h2
      _ = H * U * B := by ac_rfl
theorem own_nearOK {q d r n : Int32} (hd : 1 ≤ d.toInt ∧ d.toInt ≤ 10) (hq : -4194304 ≤ q.toInt ∧ q.toInt ≤ 4194303) (hr : 0 ≤ r.toInt ∧ r.toInt < d.toInt) (hn : n.toInt = q.toInt * d.toInt + r.toInt) :
    own_fN (FP.ddiv (FP.i2d n) (FP.i2d d)) q r = 1 := by
  obtain ⟨s, hs, hv⟩ := own_quot n d (by omega)
  generalize hw : FP.ddiv (FP.i2d n) (FP.i2d d) = w at *
  have wn : FP.Core.val64 w ≠ .nan := by rw [hv]; exact FP.Core.roundRatio_ne_nan _ _ _ _ _
  have wz : FP.Core.zval FP.Core.b64 (FP.Core.val64 w) = FP.Core.signed s (FP.Core.zmag FP.Core.b64 (FP.Core.val64 w)) := by
    have : FP.Core.sgn (FP.Core.val64 w) = s := by rw [hv]; exact FP.Core.sgn_roundRatio _ _ _ _ _
    show FP.Core.signed (FP.Core.sgn (FP.Core.val64 w)) _ = _
    rw [this]
  obtain ⟨qn, qz⟩ := own_zw (FP.Core.i2d_int q)
  have qz' : FP.Core.zval FP.Core.b64 (FP.Core.val64 (FP.i2d q)) = q.toInt * ((16 * 2 ^ 1070 : Nat) : Int) := by rw [← own_16]; exact qz
  -- the product, by the ten divisors
  have hprod : ∃ P : Int, P = q.toInt * d.toInt ∧ (0 ≤ q.toInt → 0 ≤ P) ∧ (q.toInt < 0 → P + d.toInt ≤ 0) := by
    refine ⟨_, rfl, fun h => Int.mul_nonneg h (by omega), fun h => ?_⟩
    have : (q.toInt + 1) * d.toInt ≤ 0 := Int.mul_nonpos_of_nonpos_of_nonneg (by omega) (by omega)
    rw [Int.add_mul, Int.one_mul] at this
    exact this
  obtain ⟨P, hP, hP0, hP1⟩ := hprod
  have hdn : 0 < d.toInt.natAbs := by omega
  have hQD : ((q.toInt.natAbs * d.toInt.natAbs : Nat) : Int) = if 0 ≤ q.toInt then P else -P := by
    rw [Int.natCast_mul]
    have hdc : (d.toInt.natAbs : Int) = d.toInt := by omega
    rw [hdc]
    split
    · have : (q.toInt.natAbs : Int) = q.toInt := by omega
      rw [this, hP]
    · have : (q.toInt.natAbs : Int) = -q.toInt := by omega
      rw [this, hP, Int.neg_mul]
  rw [← hP] at hn
  by_cases h0 : r = (0 : Int32)
  · have r0 : r.toInt = 0 := by rw [h0]; rfl
    rw [own_fN, if_pos h0]
    refine if_pos ?_
    have hb := own_bnd (s := s) (A := n.toInt.natAbs) (B := d.toInt.natAbs) (L := 16 * q.toInt.natAbs) (H := 16 * q.toInt.natAbs) hdn (by omega) (by omega)
      (by rw [Nat.mul_assoc]; split at hQD <;> omega) (by rw [Nat.mul_assoc]; split at hQD <;> omega)
    rw [← hv] at hb
    have hcmp : FP.dcmp w (FP.i2d q) = some .eq := by
      refine FP.Core.dcmp_eq.mpr ⟨wn, qn, ?_⟩
      rw [wz, qz']
      have hm : FP.Core.zmag FP.Core.b64 (FP.Core.val64 w) = q.toInt.natAbs * (16 * 2 ^ 1070) := by
        have e : q.toInt.natAbs * (16 * 2 ^ 1070) = 16 * q.toInt.natAbs * 2 ^ 1070 := by rw [← Nat.mul_assoc, Nat.mul_comm q.toInt.natAbs 16]
        rw [e]; exact Nat.le_antisymm hb.2 hb.1
      rw [hm]
      generalize (16 * 2 ^ 1070 : Nat) = U
      by_cases z : q.toInt = 0
      · rw [z]
        show FP.Core.signed s (0 * U) = 0 * _
        rw [Nat.zero_mul, FP.Core.signed_zero, Int.zero_mul]
      · have nz : n.toInt ≠ 0 := by
          intro e
          have h1 := hP0
          have h2 := hP1
          by_cases y : 0 ≤ q.toInt
          · have : 0 < q.toInt * d.toInt := Int.mul_pos (by omega) (by omega)
            omega
          · have := hP1 (by omega)
            omega
        rw [FP.Core.signed_mul]
        congr 1
        rw [hs nz]
        unfold FP.Core.signed
        by_cases y : 0 ≤ q.toInt
        · have := hP0 y
          rw [if_neg (by rw [decide_eq_true_iff]; omega)]
          omega
        · have := hP1 (by omega)
          rw [if_pos (decide_eq_true (by omega))]
          omega
    rw [hcmp]; rfl
  · have r1 : 1 ≤ r.toInt := by
      have : r.toInt ≠ 0 := fun z => h0 (Int32.toInt_inj.mp z)
      omega
    rw [own_fN, if_neg h0]
    have hadd : FP.Core.DInt (q.toInt + 1) (FP.dadd (FP.i2d q) FP.dconst1) := by
      refine FP.Core.dadd_int (FP.Core.i2d_int q) ?_ (by omega)
      show FP.Core.Whole 1 (FP.Core.val64 FP.Core.dconst1)
      rw [FP.Core.val64_dconst1]
      show FP.Core.signed false (2 ^ 52 * 2 ^ (-52 : Int).toNat) = 1 * ((2 ^ (-(-52 : Int)).toNat : Nat) : Int)
      decide
    obtain ⟨pn, pz⟩ := own_zw hadd
    have pz' : FP.Core.zval FP.Core.b64 (FP.Core.val64 (FP.dadd (FP.i2d q) FP.dconst1)) = (q.toInt + 1) * ((16 * 2 ^ 1070 : Nat) : Int) := by rw [← own_16]; exact pz
    have key : (16 * q.toInt + 1) * ((2 ^ 1070 : Nat) : Int) ≤ FP.Core.zval FP.Core.b64 (FP.Core.val64 w) ∧ FP.Core.zval FP.Core.b64 (FP.Core.val64 w) ≤ (16 * q.toInt + 15) * ((2 ^ 1070 : Nat) : Int) := by
      rw [wz]
      by_cases y : 0 ≤ q.toInt
      · have nn := hP0 y
        have hb := own_bnd (s := s) (A := n.toInt.natAbs) (B := d.toInt.natAbs) (L := 16 * q.toInt.natAbs + 1) (H := 16 * q.toInt.natAbs + 15) hdn (by omega) (by omega)
          (by rw [Nat.add_mul, Nat.mul_assoc]; rw [if_pos y] at hQD; omega) (by rw [Nat.add_mul, Nat.mul_assoc]; rw [if_pos y] at hQD; omega)
        rw [← hv] at hb
        have hsf : s = false := by rw [hs (by omega)]; exact decide_eq_false (by omega)
        rw [hsf]
        show _ ≤ (FP.Core.zmag FP.Core.b64 (FP.Core.val64 w) : Int) ∧ (FP.Core.zmag FP.Core.b64 (FP.Core.val64 w) : Int) ≤ _
        have e1 : (16 * q.toInt + 1) = ((16 * q.toInt.natAbs + 1 : Nat) : Int) := by omega
        have e2 : (16 * q.toInt + 15) = ((16 * q.toInt.natAbs + 15 : Nat) : Int) := by omega
        rw [e1, e2, ← Int.natCast_mul, ← Int.natCast_mul]
        exact ⟨Int.ofNat_le.mpr hb.1, Int.ofNat_le.mpr hb.2⟩
      · have nn := hP1 (by omega)
        have hb := own_bnd (s := s) (A := n.toInt.natAbs) (B := d.toInt.natAbs) (L := 16 * q.toInt.natAbs - 15) (H := 16 * q.toInt.natAbs - 1) hdn (by omega) (by omega)
          (by rw [Nat.sub_mul, Nat.mul_assoc]; rw [if_neg y] at hQD; omega) (by rw [Nat.sub_mul, Nat.mul_assoc]; rw [if_neg y] at hQD; omega)
        rw [← hv] at hb
        have hst : s = true := by rw [hs (by omega)]; exact decide_eq_true (by omega)
        rw [hst]
        show _ ≤ -(FP.Core.zmag FP.Core.b64 (FP.Core.val64 w) : Int) ∧ -(FP.Core.zmag FP.Core.b64 (FP.Core.val64 w) : Int) ≤ _
        have e1 : (16 * q.toInt + 1) = -((16 * q.toInt.natAbs - 1 : Nat) : Int) := by omega
        have e2 : (16 * q.toInt + 15) = -((16 * q.toInt.natAbs - 15 : Nat) : Int) := by omega
        rw [e1, e2, Int.neg_mul, Int.neg_mul, ← Int.natCast_mul, ← Int.natCast_mul]
        exact ⟨Int.neg_le_neg (Int.ofNat_le.mpr hb.2), Int.neg_le_neg (Int.ofNat_le.mpr hb.1)⟩
    have Upos : (0 : Int) < ((2 ^ 1070 : Nat) : Int) := Int.ofNat_lt.mpr (Nat.two_pow_pos 1070)
    have e16 : ((16 * 2 ^ 1070 : Nat) : Int) = 16 * ((2 ^ 1070 : Nat) : Int) := Int.natCast_mul 16 _
    have c1 : FP.dcmp (FP.i2d q) w = some .lt := by
      refine FP.Core.dcmp_lt.mpr ⟨qn, wn, Int.lt_of_lt_of_le ?_ key.1⟩
      rw [qz', e16]
      generalize ((2 ^ 1070 : Nat) : Int) = U at *
      rw [Int.add_mul, Int.one_mul, ← Int.mul_assoc, Int.mul_comm q.toInt 16]
      omega
    have c2 : FP.dcmp w (FP.dadd (FP.i2d q) FP.dconst1) = some .lt := by
      refine FP.Core.dcmp_lt.mpr ⟨wn, pn, Int.lt_of_le_of_lt key.2 ?_⟩
      rw [pz', e16]
      generalize ((2 ^ 1070 : Nat) : Int) = U at *
      rw [Int.add_mul, Int.add_mul, Int.one_mul, ← Int.mul_assoc, Int.mul_comm q.toInt 16]
      omega
    refine if_pos ⟨?_, ?_⟩
    · rw [c1]; decide
    · rw [c2]; decide
theorem own_dr {x3 p1 v : Int32} (h : v = (if x3 < (2 : Int32) then (1 : Int32) else ((1 : Int32) + ((p1 &&& (2147483647 : Int32)) % (10 : Int32))))) : 1 ≤ v.toInt ∧ v.toInt ≤ 10 := by
  subst h
  split
  · exact ⟨by decide, by decide⟩
  · have h1 := c_mask p1 (2147483647 : Int32) 31 (by decide) (by decide)
    have h2 := c_irem (p1 &&& (2147483647 : Int32)) (10 : Int32) 10 (by decide)
    have h3 : (0 : Int) ≤ (p1 &&& (2147483647 : Int32)).toInt := by rw [h1]; omega
    have h4 := h2.1 h3
    have h5 := c_iadd (1 : Int32) ((p1 &&& (2147483647 : Int32)) % (10 : Int32))
    have h6 := rng32 ((1 : Int32) + ((p1 &&& (2147483647 : Int32)) % (10 : Int32)))
    have z : (1 : Int32).toInt = 1 := rfl
    omega
theorem own_dn {v : Int32} (h : 1 ≤ v.toInt ∧ v.toInt ≤ 10) : v ≠ 0 := fun q => by rw [q] at h; exact absurd h.1 (by decide)
theorem own_na {p q d r n : Int32} (hd : 1 ≤ d.toInt ∧ d.toInt ≤ 10) (hq : q = p >>> ((9 : Int32) &&& 31)) (hr : 0 ≤ r.toInt ∧ r.toInt < d.toInt) (hn : n = (q * d) + r) : (-4194304 ≤ q.toInt ∧ q.toInt ≤ 4194303) ∧ n.toInt = q.toInt * d.toInt + r.toInt := by
  have h1 := c_ishr p (9 : Int32) 9 (by decide)
  rw [← hq] at h1
  have e : (((2 : Nat) ^ 9 : Nat) : Int) = 512 := rfl
  rw [e] at h1
  have h2 := rng32 p
  have hb : -4194304 ≤ q.toInt ∧ q.toInt ≤ 4194303 := by omega
  refine ⟨hb, ?_⟩
  have h3 := c_imul q d
  have h4 := c_iadd (q * d) r
  rw [← hn] at h4
  have h5 := rng32 n
  have h6 : -41943040 ≤ q.toInt * d.toInt ∧ q.toInt * d.toInt ≤ 41943030 := by
    have hc : d.toInt = 1 ∨ d.toInt = 2 ∨ d.toInt = 3 ∨ d.toInt = 4 ∨ d.toInt = 5 ∨ d.toInt = 6 ∨ d.toInt = 7 ∨ d.toInt = 8 ∨ d.toInt = 9 ∨ d.toInt = 10 := by omega
    rcases hc with c | c | c | c | c | c | c | c | c | c <;> rw [c] <;> omega
  omega
theorem own_ra {p d r : Int32} (hd : 1 ≤ d.toInt ∧ d.toInt ≤ 10) (hr : r = (p &&& (65535 : Int32)) % d) : 0 ≤ r.toInt ∧ r.toInt < d.toInt := by
  have h1 := c_mask p (65535 : Int32) 16 (by decide) (by decide)
  have h2 := (c_iremV (p &&& (65535 : Int32)) d).1 (by rw [h1]; omega) (by omega)
  rw [hr]; exact ⟨h2.1, h2.2.1⟩
theorem own_rd {p d r : Int32} (hd : 1 ≤ d.toInt ∧ d.toInt ≤ 10) (hr : r = ((p.toUInt32 >>> ((16 : Int32) &&& 31).toUInt32).toInt32) % d) : 0 ≤ r.toInt ∧ r.toInt < d.toInt := by
  have h1 := c_iushr p (16 : Int32) 16 (by decide) (by decide)
  have h2 := (c_iremV ((p.toUInt32 >>> ((16 : Int32) &&& 31).toUInt32).toInt32) d).1 (by rw [h1]; exact Int.ediv_nonneg (by omega) (by omega)) (by omega)
  rw [hr]; exact ⟨h2.1, h2.2.1⟩
theorem own_zz : cmpValue (FP.dcmp FP.dconst0 FP.dconst0) .l = (0 : Int32) := by decide +kernel
theorem own_ii (n : Int32) : cmpValue (FP.dcmp (FP.i2d n) (FP.i2d n)) .l = (0 : Int32) := by
  have : FP.dcmp (FP.i2d n) (FP.i2d n) = some .eq := FP.Core.dcmp_self (own_zw (FP.Core.i2d_int n)).1
  rw [this]; rfl
theorem own_c {x3 c : Int32} (h : c = (if x3 = (0 : Int32) then (48 : Int32) else (if x3 = (1 : Int32) then (49 : Int32) else (if x3 = (2 : Int32) then (97 : Int32) else (100 : Int32))))) :
    (x3 = 0 → nar .char c = 48) ∧ (¬ x3 = 0 → x3 = 1 → nar .char c = 49) ∧ (¬ x3 = 0 → ¬ x3 = 1 → x3 = 2 → nar .char c = 97) ∧ (¬ x3 = 0 → ¬ x3 = 1 → ¬ x3 = 2 → nar .char c = 100) := by
  refine ⟨fun a => ?_, fun a b => ?_, fun a b d => ?_, fun a b d => ?_⟩
  · rw [h, if_pos a]; decide
  · rw [h, if_neg a, if_pos b]; decide
  · rw [h, if_neg a, if_neg b, if_pos d]; decide
  · rw [h, if_neg a, if_neg b, if_neg d]; decide
theorem own_k0 {cw dv p : Int32} {a b w : UInt64} (h : cw = 48) (hw : w = own_w cw dv p a b) : cmpValue (FP.dcmp w FP.dconst0) .l = (0 : Int32) := by
  rw [hw, own_w, h, if_neg (by decide), if_neg (by decide), if_neg (by decide)]; exact own_zz
theorem own_k1 {cw dv p n k : Int32} {a b w : UInt64} {B : Prop} [Decidable B] (h : cw = 49) (hw : w = own_w cw dv p a b) (ha : a = FP.i2d n) (hb : b = FP.i2d k) (hp : p = if B then (1 : Int32) else 0) :
    ((B ∧ (cmpValue (FP.dcmp w a) .l) = (0 : Int32)) ∨ ((¬ B) ∧ (cmpValue (FP.dcmp w b) .l) = (0 : Int32))) := by
  rw [own_w, h, if_pos rfl] at hw
  by_cases q : B
  · left; rw [hp, if_pos q, if_neg (by decide)] at hw; rw [hw, ha]; exact ⟨q, own_ii n⟩
  · right; rw [hp, if_neg q, if_pos rfl] at hw; rw [hw, hb]; exact ⟨q, own_ii k⟩
theorem own_k2 {cw dv p n q r v : Int32} {a b w : UInt64} {B : Prop} [Decidable B] (h : cw = 97) (hw : w = own_w cw dv p a b) (ha : a = FP.i2d n) (hp : p = if B then (1 : Int32) else 0) (hN : own_fN (FP.ddiv (FP.i2d n) (FP.i2d dv)) q r = 1)
    (hv : v = (if B then (own_fN w q r) else (if (cmpValue (FP.dcmp w FP.dconst0) .l) = (0 : Int32) then (1 : Int32) else (0 : Int32)))) : nar .boolean v = 1 := by
  rw [own_w, h, if_neg (by decide), if_pos rfl] at hw
  have : v = 1 := by
    by_cases z : B
    · rw [hp, if_pos z, if_neg (by decide), ha] at hw
      rw [hv, if_pos z, hw]; exact hN
    · rw [hp, if_neg z, if_pos rfl] at hw
      rw [hv, if_neg z, hw]; exact if_pos own_zz
  rw [this]; rfl
theorem own_k3 {cw dv p n q r v : Int32} {a b w : UInt64} {B : Prop} [Decidable B] (h : cw = 100) (hw : w = own_w cw dv p a b) (hb : b = FP.i2d n) (hp : p = if B then (1 : Int32) else 0) (hN : own_fN (FP.ddiv (FP.i2d n) (FP.i2d dv)) q r = 1)
    (hv : v = (if B then (if (cmpValue (FP.dcmp w FP.dconst0) .l) = (0 : Int32) then (1 : Int32) else (0 : Int32)) else (own_fN w q r))) : nar .boolean v = 1 := by
  rw [own_w, h, if_neg (by decide), if_neg (by decide), if_pos rfl] at hw
  have : v = 1 := by
    by_cases z : B
    · rw [hp, if_pos z, if_neg (by decide)] at hw
      rw [hv, if_pos z, hw]; exact if_pos own_zz
    · rw [hp, if_neg z, if_pos rfl, hb] at hw
      rw [hv, if_neg z, hw]; exact hN
  rw [this]; rfl
theorem pn0 : plainName "com/example/kindred/kindred/NullFieldRuleWeighPinLaw" = true := by first | (simp [plainName, overriddenIn]; done) | decide +kernel
theorem pd0_0 : parseMethodDescriptor "(CI)V" = some ⟨[.char, .int], none⟩ := by decide +kernel
theorem pd0_1 : parseMethodDescriptor "(ZDD)D" = some ⟨[.boolean, .double, .double], some .double⟩ := by decide +kernel
theorem pd0_2 : parseMethodDescriptor "(DII)Z" = some ⟨[.double, .int, .int], some .boolean⟩ := by decide +kernel
theorem ef0 (m : MethodId) (p0 : Int32) (p1 : Int32) (p2 : Int32) (p3 : Int32) (p4 : Int32) (p5 : Int32) : entryFrame m #[(.int p0), (.int p1), (.int p2), (.int p3), (.int p4), (.int p5)] maxLocals = mkF m 0 #[.val (.int p0), .val (.int p1), .val (.int p2), .val (.int p3), .val (.int p4), .val (.int p5), .unset, .unset, .unset, .unset, .unset, .unset, .unset, .unset, .unset, .unset, .unset, .unset, .unset, .unset, .unset, .unset] [] := by first | (simp [entryFrame, mkF, argsToLocals, Value.category, maxLocals]; done) | rfl
def Q0 (Z : State) (p0 : Int32) (p1 : Int32) (p2 : Int32) (p3 : Int32) (p4 : Int32) (p5 : Int32) (h0 : Heap) (n0 : Nat) (v : Option Value) (h : Heap) (L : List Loc) : Prop := v = some (.int (1 : Int32)) ∧ Fr n0 L
set_option maxRecDepth 65536 in
set_option maxHeartbeats 40000000 in
theorem rm0 (l : Launch) (Z : State) (a0 : Array Value) (hw : ∀ d ∈ tables_1, d.before a0 Z = true) (ws : List Jvm.Cond) (p0 : Int32) (p1 : Int32) (p2 : Int32) (p3 : Int32) (p4 : Int32) (p5 : Int32) (h0 : Heap) (n0 : Nat) (Z0 : n0 ≤ h0.size) :
    MetFree l x (head1 (Jvm.Cond.code x code maxLocals ret :: ws) room_1) (fun a U => a = #[(.int p0), (.int p1), (.int p2), (.int p3), (.int p4), (.int p5)] ∧ Z.Warmed39 U.vm ∧ U.heap = h0) (fun _ _ _ _ _ => True) (fun _ U o U' => ∃ v L, o = .returned v ∧ Q0 Z p0 p1 p2 p3 p4 p5 h0 n0 v U'.heap L ∧ FrameEnd U o U' L room_1.cells room_1.slots) := by
  refine MetFree.of_bodySF (plainFor_of_name pn0) hisR ?_
  intro p e s m args below meth c s₁ Bd hml0 hP hK
  obtain ⟨rfl, hZ, hh⟩ := hP
  have hx := Bd.exec
  have hby := Bd.bytes
  have hml : c.maxLocals = 22 := hml0
  have hown : s.vm.findClass "com/example/kindred/kindred/NullFieldRuleWeighPinLaw" = some m.cls := findClass_of_methodNamed Bd.named
  have hnm := (name_of_methodNamed Bd.named Bd.method).1
  have X0 : Stand p l e room_1 s m #[(.int p0), (.int p1), (.int p2), (.int p3), (.int p4), (.int p5)] below meth c s₁ [] 0 0 := Stand.of_body Bd
  have e0 : s₁.heap = h0 := by rw [← hh, Bd.state]; rfl
  have N0 := Fr.nil n0
  have pre0 : ∀ t, Steps p.tables e below (s₁.setTop (mkF m 0 #[.val (.int p0), .val (.int p1), .val (.int p2), .val (.int p3), .val (.int p4), .val (.int p5), .unset, .unset, .unset, .unset, .unset, .unset, .unset, .unset, .unset, .unset, .unset, .unset, .unset, .unset, .unset, .unset] [])) t → Steps p.tables e below (s₁.setTop (entryFrame m #[(.int p0), (.int p1), (.int p2), (.int p3), (.int p4), (.int p5)] maxLocals)) t := fun t k => castTop (ef0 m p0 p1 p2 p3 p4 p5) k
  obtain ⟨x3, hx3⟩ : ∃ z : Int32, z = (p0 &&& (3 : Int32)) := ⟨_, rfl⟩
  have pre5 : ∀ t, Steps p.tables e below (s₁.setTop (mkF m 5 #[.val (.int p0), .val (.int p1), .val (.int p2), .val (.int p3), .val (.int p4), .val (.int p5), .val (.int x3), .unset, .unset, .unset, .unset, .unset, .unset, .unset, .unset, .unset, .unset, .unset, .unset, .unset, .unset, .unset] [])) t → Steps p.tables e below (s₁.setTop (entryFrame m #[(.int p0), (.int p1), (.int p2), (.int p3), (.int p4), (.int p5)] maxLocals)) t := fun t k => pre0 t (by
    show Steps p.tables e below (s₁.setTop (mkF m 0 #[.val (.int p0), .val (.int p1), .val (.int p2), .val (.int p3), .val (.int p4), .val (.int p5), .unset, .unset, .unset, .unset, .unset, .unset, .unset, .unset, .unset, .unset, .unset, .unset, .unset, .unset, .unset, .unset] [])) t
    refine XS.iloadN X0.here hx rfl (hb hby at_0) rfl ?_
    show Steps p.tables e below (s₁.setTop (mkF m 1 #[.val (.int p0), .val (.int p1), .val (.int p2), .val (.int p3), .val (.int p4), .val (.int p5), .unset, .unset, .unset, .unset, .unset, .unset, .unset, .unset, .unset, .unset, .unset, .unset, .unset, .unset, .unset, .unset] [(.int p0)])) _
    refine XS.iconst X0.here hx rfl (hb hby at_1) ?_
    show Steps p.tables e below (s₁.setTop (mkF m 2 #[.val (.int p0), .val (.int p1), .val (.int p2), .val (.int p3), .val (.int p4), .val (.int p5), .unset, .unset, .unset, .unset, .unset, .unset, .unset, .unset, .unset, .unset, .unset, .unset, .unset, .unset, .unset, .unset] [(.int (3 : Int32)), (.int p0)])) _
    refine XS.iand X0.here hx rfl (hb hby at_2) rfl ?_
    show Steps p.tables e below (s₁.setTop (mkF m 3 #[.val (.int p0), .val (.int p1), .val (.int p2), .val (.int p3), .val (.int p4), .val (.int p5), .unset, .unset, .unset, .unset, .unset, .unset, .unset, .unset, .unset, .unset, .unset, .unset, .unset, .unset, .unset, .unset] [(.int (p0 &&& (3 : Int32)))])) _
    refine XS.istore X0.here hx rfl (hb hby at_3) rfl (l' := #[.val (.int p0), .val (.int p1), .val (.int p2), .val (.int p3), .val (.int p4), .val (.int p5), .val (.int (p0 &&& (3 : Int32))), .unset, .unset, .unset, .unset, .unset, .unset, .unset, .unset, .unset, .unset, .unset, .unset, .unset, .unset, .unset]) rfl ?_
    show Steps p.tables e below (s₁.setTop (mkF m 5 #[.val (.int p0), .val (.int p1), .val (.int p2), .val (.int p3), .val (.int p4), .val (.int p5), .val (.int (p0 &&& (3 : Int32))), .unset, .unset, .unset, .unset, .unset, .unset, .unset, .unset, .unset, .unset, .unset, .unset, .unset, .unset, .unset] [])) _
    subst hx3
    exact k)
  have pre7 : ∀ t, Steps p.tables e below (s₁.setTop (mkF m 7 #[.val (.int p0), .val (.int p1), .val (.int p2), .val (.int p3), .val (.int p4), .val (.int p5), .val (.int x3), .unset, .unset, .unset, .unset, .unset, .unset, .unset, .unset, .unset, .unset, .unset, .unset, .unset, .unset, .unset] [(.int x3)])) t → Steps p.tables e below (s₁.setTop (entryFrame m #[(.int p0), (.int p1), (.int p2), (.int p3), (.int p4), (.int p5)] maxLocals)) t := fun t k => pre5 t (by
    show Steps p.tables e below (s₁.setTop (mkF m 5 #[.val (.int p0), .val (.int p1), .val (.int p2), .val (.int p3), .val (.int p4), .val (.int p5), .val (.int x3), .unset, .unset, .unset, .unset, .unset, .unset, .unset, .unset, .unset, .unset, .unset, .unset, .unset, .unset, .unset] [])) t
    refine XS.iload X0.here hx rfl (hb hby at_5) rfl ?_
    show Steps p.tables e below (s₁.setTop (mkF m 7 #[.val (.int p0), .val (.int p1), .val (.int p2), .val (.int p3), .val (.int p4), .val (.int p5), .val (.int x3), .unset, .unset, .unset, .unset, .unset, .unset, .unset, .unset, .unset, .unset, .unset, .unset, .unset, .unset, .unset] [(.int x3)])) _
    exact k)
  obtain ⟨v39_s0, hv39_s0⟩ : ∃ z : Int32, z = (if x3 = (0 : Int32) then (48 : Int32) else (if x3 = (1 : Int32) then (49 : Int32) else (if x3 = (2 : Int32) then (97 : Int32) else (100 : Int32)))) := ⟨_, rfl⟩
  have pre39 : ∀ t, Steps p.tables e below (s₁.setTop (mkF m 39 #[.val (.int p0), .val (.int p1), .val (.int p2), .val (.int p3), .val (.int p4), .val (.int p5), .val (.int x3), .unset, .unset, .unset, .unset, .unset, .unset, .unset, .unset, .unset, .unset, .unset, .unset, .unset, .unset, .unset] [(.int v39_s0)])) t → Steps p.tables e below (s₁.setTop (entryFrame m #[(.int p0), (.int p1), (.int p2), (.int p3), (.int p4), (.int p5)] maxLocals)) t := by
    by_cases hc7 : x3 = (0 : Int32)
    · -- x3 = (0 : Int32)
      have pre10 : ∀ t, Steps p.tables e below (s₁.setTop (mkF m 10 #[.val (.int p0), .val (.int p1), .val (.int p2), .val (.int p3), .val (.int p4), .val (.int p5), .val (.int x3), .unset, .unset, .unset, .unset, .unset, .unset, .unset, .unset, .unset, .unset, .unset, .unset, .unset, .unset, .unset] [])) t → Steps p.tables e below (s₁.setTop (entryFrame m #[(.int p0), (.int p1), (.int p2), (.int p3), (.int p4), (.int p5)] maxLocals)) t := fun t k => pre7 t (by
        show Steps p.tables e below (s₁.setTop (mkF m 7 #[.val (.int p0), .val (.int p1), .val (.int p2), .val (.int p3), .val (.int p4), .val (.int p5), .val (.int x3), .unset, .unset, .unset, .unset, .unset, .unset, .unset, .unset, .unset, .unset, .unset, .unset, .unset, .unset, .unset] [(.int x3)])) t
        refine XS.ifNo X0.here hx rfl (hb hby at_7) rfl ((if0 _ _).trans (teq hc7).2) ?_
        exact k)
      have pre39 : ∀ t, Steps p.tables e below (s₁.setTop (mkF m 39 #[.val (.int p0), .val (.int p1), .val (.int p2), .val (.int p3), .val (.int p4), .val (.int p5), .val (.int x3), .unset, .unset, .unset, .unset, .unset, .unset, .unset, .unset, .unset, .unset, .unset, .unset, .unset, .unset, .unset] [(.int (48 : Int32))])) t → Steps p.tables e below (s₁.setTop (entryFrame m #[(.int p0), (.int p1), (.int p2), (.int p3), (.int p4), (.int p5)] maxLocals)) t := fun t k => pre10 t (by
        show Steps p.tables e below (s₁.setTop (mkF m 10 #[.val (.int p0), .val (.int p1), .val (.int p2), .val (.int p3), .val (.int p4), .val (.int p5), .val (.int x3), .unset, .unset, .unset, .unset, .unset, .unset, .unset, .unset, .unset, .unset, .unset, .unset, .unset, .unset, .unset] [])) t
        refine XS.bipush X0.here hx rfl (hb hby at_10) ?_
        show Steps p.tables e below (s₁.setTop (mkF m 12 #[.val (.int p0), .val (.int p1), .val (.int p2), .val (.int p3), .val (.int p4), .val (.int p5), .val (.int x3), .unset, .unset, .unset, .unset, .unset, .unset, .unset, .unset, .unset, .unset, .unset, .unset, .unset, .unset, .unset] [(.int (48 : Int32))])) _
        refine XS.goto X0.here hx rfl (pc0 := 12) (pc' := 39) rfl (hb hby at_12) (by decide) (by decide) ?_
        show Steps p.tables e below (s₁.setTop (mkF m 39 #[.val (.int p0), .val (.int p1), .val (.int p2), .val (.int p3), .val (.int p4), .val (.int p5), .val (.int x3), .unset, .unset, .unset, .unset, .unset, .unset, .unset, .unset, .unset, .unset, .unset, .unset, .unset, .unset, .unset] [(.int (48 : Int32))])) _
        exact k)
      have ehv39_s0 := hv39_s0.trans (if_pos hc7)
      exact fun t k => pre39 t (by subst ehv39_s0; exact k)
    · -- not x3 = (0 : Int32)
      have pre15 : ∀ t, Steps p.tables e below (s₁.setTop (mkF m 15 #[.val (.int p0), .val (.int p1), .val (.int p2), .val (.int p3), .val (.int p4), .val (.int p5), .val (.int x3), .unset, .unset, .unset, .unset, .unset, .unset, .unset, .unset, .unset, .unset, .unset, .unset, .unset, .unset, .unset] [])) t → Steps p.tables e below (s₁.setTop (entryFrame m #[(.int p0), (.int p1), (.int p2), (.int p3), (.int p4), (.int p5)] maxLocals)) t := fun t k => pre7 t (by
        show Steps p.tables e below (s₁.setTop (mkF m 7 #[.val (.int p0), .val (.int p1), .val (.int p2), .val (.int p3), .val (.int p4), .val (.int p5), .val (.int x3), .unset, .unset, .unset, .unset, .unset, .unset, .unset, .unset, .unset, .unset, .unset, .unset, .unset, .unset, .unset] [(.int x3)])) t
        refine XS.ifYes X0.here hx rfl (pc0 := 7) (pc' := 15) rfl (hb hby at_7) rfl ((if0 _ _).trans (feq hc7).2) (by decide) (by decide) ?_
        exact k)
      have pre18 : ∀ t, Steps p.tables e below (s₁.setTop (mkF m 18 #[.val (.int p0), .val (.int p1), .val (.int p2), .val (.int p3), .val (.int p4), .val (.int p5), .val (.int x3), .unset, .unset, .unset, .unset, .unset, .unset, .unset, .unset, .unset, .unset, .unset, .unset, .unset, .unset, .unset] [(.int (1 : Int32)), (.int x3)])) t → Steps p.tables e below (s₁.setTop (entryFrame m #[(.int p0), (.int p1), (.int p2), (.int p3), (.int p4), (.int p5)] maxLocals)) t := fun t k => pre15 t (by
        show Steps p.tables e below (s₁.setTop (mkF m 15 #[.val (.int p0), .val (.int p1), .val (.int p2), .val (.int p3), .val (.int p4), .val (.int p5), .val (.int x3), .unset, .unset, .unset, .unset, .unset, .unset, .unset, .unset, .unset, .unset, .unset, .unset, .unset, .unset, .unset] [])) t
        refine XS.iload X0.here hx rfl (hb hby at_15) rfl ?_
        show Steps p.tables e below (s₁.setTop (mkF m 17 #[.val (.int p0), .val (.int p1), .val (.int p2), .val (.int p3), .val (.int p4), .val (.int p5), .val (.int x3), .unset, .unset, .unset, .unset, .unset, .unset, .unset, .unset, .unset, .unset, .unset, .unset, .unset, .unset, .unset] [(.int x3)])) _
        refine XS.iconst X0.here hx rfl (hb hby at_17) ?_
        show Steps p.tables e below (s₁.setTop (mkF m 18 #[.val (.int p0), .val (.int p1), .val (.int p2), .val (.int p3), .val (.int p4), .val (.int p5), .val (.int x3), .unset, .unset, .unset, .unset, .unset, .unset, .unset, .unset, .unset, .unset, .unset, .unset, .unset, .unset, .unset] [(.int (1 : Int32)), (.int x3)])) _
        exact k)
      by_cases hc18 : x3 = (1 : Int32)
      · -- x3 = (1 : Int32)
        have pre21 : ∀ t, Steps p.tables e below (s₁.setTop (mkF m 21 #[.val (.int p0), .val (.int p1), .val (.int p2), .val (.int p3), .val (.int p4), .val (.int p5), .val (.int x3), .unset, .unset, .unset, .unset, .unset, .unset, .unset, .unset, .unset, .unset, .unset, .unset, .unset, .unset, .unset] [])) t → Steps p.tables e below (s₁.setTop (entryFrame m #[(.int p0), (.int p1), (.int p2), (.int p3), (.int p4), (.int p5)] maxLocals)) t := fun t k => pre18 t (by
          show Steps p.tables e below (s₁.setTop (mkF m 18 #[.val (.int p0), .val (.int p1), .val (.int p2), .val (.int p3), .val (.int p4), .val (.int p5), .val (.int x3), .unset, .unset, .unset, .unset, .unset, .unset, .unset, .unset, .unset, .unset, .unset, .unset, .unset, .unset, .unset] [(.int (1 : Int32)), (.int x3)])) t
          refine XS.icmpNo X0.here hx rfl (hb hby at_18) rfl (teq hc18).2 ?_
          exact k)
        have pre39 : ∀ t, Steps p.tables e below (s₁.setTop (mkF m 39 #[.val (.int p0), .val (.int p1), .val (.int p2), .val (.int p3), .val (.int p4), .val (.int p5), .val (.int x3), .unset, .unset, .unset, .unset, .unset, .unset, .unset, .unset, .unset, .unset, .unset, .unset, .unset, .unset, .unset] [(.int (49 : Int32))])) t → Steps p.tables e below (s₁.setTop (entryFrame m #[(.int p0), (.int p1), (.int p2), (.int p3), (.int p4), (.int p5)] maxLocals)) t := fun t k => pre21 t (by
          show Steps p.tables e below (s₁.setTop (mkF m 21 #[.val (.int p0), .val (.int p1), .val (.int p2), .val (.int p3), .val (.int p4), .val (.int p5), .val (.int x3), .unset, .unset, .unset, .unset, .unset, .unset, .unset, .unset, .unset, .unset, .unset, .unset, .unset, .unset, .unset] [])) t
          refine XS.bipush X0.here hx rfl (hb hby at_21) ?_
          show Steps p.tables e below (s₁.setTop (mkF m 23 #[.val (.int p0), .val (.int p1), .val (.int p2), .val (.int p3), .val (.int p4), .val (.int p5), .val (.int x3), .unset, .unset, .unset, .unset, .unset, .unset, .unset, .unset, .unset, .unset, .unset, .unset, .unset, .unset, .unset] [(.int (49 : Int32))])) _
          refine XS.goto X0.here hx rfl (pc0 := 23) (pc' := 39) rfl (hb hby at_23) (by decide) (by decide) ?_
          show Steps p.tables e below (s₁.setTop (mkF m 39 #[.val (.int p0), .val (.int p1), .val (.int p2), .val (.int p3), .val (.int p4), .val (.int p5), .val (.int x3), .unset, .unset, .unset, .unset, .unset, .unset, .unset, .unset, .unset, .unset, .unset, .unset, .unset, .unset, .unset] [(.int (49 : Int32))])) _
          exact k)
        have ehv39_s0 := hv39_s0.trans ((if_neg hc7).trans (if_pos hc18))
        exact fun t k => pre39 t (by subst ehv39_s0; exact k)
      · -- not x3 = (1 : Int32)
        have pre26 : ∀ t, Steps p.tables e below (s₁.setTop (mkF m 26 #[.val (.int p0), .val (.int p1), .val (.int p2), .val (.int p3), .val (.int p4), .val (.int p5), .val (.int x3), .unset, .unset, .unset, .unset, .unset, .unset, .unset, .unset, .unset, .unset, .unset, .unset, .unset, .unset, .unset] [])) t → Steps p.tables e below (s₁.setTop (entryFrame m #[(.int p0), (.int p1), (.int p2), (.int p3), (.int p4), (.int p5)] maxLocals)) t := fun t k => pre18 t (by
          show Steps p.tables e below (s₁.setTop (mkF m 18 #[.val (.int p0), .val (.int p1), .val (.int p2), .val (.int p3), .val (.int p4), .val (.int p5), .val (.int x3), .unset, .unset, .unset, .unset, .unset, .unset, .unset, .unset, .unset, .unset, .unset, .unset, .unset, .unset, .unset] [(.int (1 : Int32)), (.int x3)])) t
          refine XS.icmpYes X0.here hx rfl (pc0 := 18) (pc' := 26) rfl (hb hby at_18) rfl (feq hc18).2 (by decide) (by decide) ?_
          exact k)
        have pre29 : ∀ t, Steps p.tables e below (s₁.setTop (mkF m 29 #[.val (.int p0), .val (.int p1), .val (.int p2), .val (.int p3), .val (.int p4), .val (.int p5), .val (.int x3), .unset, .unset, .unset, .unset, .unset, .unset, .unset, .unset, .unset, .unset, .unset, .unset, .unset, .unset, .unset] [(.int (2 : Int32)), (.int x3)])) t → Steps p.tables e below (s₁.setTop (entryFrame m #[(.int p0), (.int p1), (.int p2), (.int p3), (.int p4), (.int p5)] maxLocals)) t := fun t k => pre26 t (by
          show Steps p.tables e below (s₁.setTop (mkF m 26 #[.val (.int p0), .val (.int p1), .val (.int p2), .val (.int p3), .val (.int p4), .val (.int p5), .val (.int x3), .unset, .unset, .unset, .unset, .unset, .unset, .unset, .unset, .unset, .unset, .unset, .unset, .unset, .unset, .unset] [])) t
          refine XS.iload X0.here hx rfl (hb hby at_26) rfl ?_
          show Steps p.tables e below (s₁.setTop (mkF m 28 #[.val (.int p0), .val (.int p1), .val (.int p2), .val (.int p3), .val (.int p4), .val (.int p5), .val (.int x3), .unset, .unset, .unset, .unset, .unset, .unset, .unset, .unset, .unset, .unset, .unset, .unset, .unset, .unset, .unset] [(.int x3)])) _
          refine XS.iconst X0.here hx rfl (hb hby at_28) ?_
          show Steps p.tables e below (s₁.setTop (mkF m 29 #[.val (.int p0), .val (.int p1), .val (.int p2), .val (.int p3), .val (.int p4), .val (.int p5), .val (.int x3), .unset, .unset, .unset, .unset, .unset, .unset, .unset, .unset, .unset, .unset, .unset, .unset, .unset, .unset, .unset] [(.int (2 : Int32)), (.int x3)])) _
          exact k)
        by_cases hc29 : x3 = (2 : Int32)
        · -- x3 = (2 : Int32)
          have pre32 : ∀ t, Steps p.tables e below (s₁.setTop (mkF m 32 #[.val (.int p0), .val (.int p1), .val (.int p2), .val (.int p3), .val (.int p4), .val (.int p5), .val (.int x3), .unset, .unset, .unset, .unset, .unset, .unset, .unset, .unset, .unset, .unset, .unset, .unset, .unset, .unset, .unset] [])) t → Steps p.tables e below (s₁.setTop (entryFrame m #[(.int p0), (.int p1), (.int p2), (.int p3), (.int p4), (.int p5)] maxLocals)) t := fun t k => pre29 t (by
            show Steps p.tables e below (s₁.setTop (mkF m 29 #[.val (.int p0), .val (.int p1), .val (.int p2), .val (.int p3), .val (.int p4), .val (.int p5), .val (.int x3), .unset, .unset, .unset, .unset, .unset, .unset, .unset, .unset, .unset, .unset, .unset, .unset, .unset, .unset, .unset] [(.int (2 : Int32)), (.int x3)])) t
            refine XS.icmpNo X0.here hx rfl (hb hby at_29) rfl (teq hc29).2 ?_
            exact k)
          have pre39 : ∀ t, Steps p.tables e below (s₁.setTop (mkF m 39 #[.val (.int p0), .val (.int p1), .val (.int p2), .val (.int p3), .val (.int p4), .val (.int p5), .val (.int x3), .unset, .unset, .unset, .unset, .unset, .unset, .unset, .unset, .unset, .unset, .unset, .unset, .unset, .unset, .unset] [(.int (97 : Int32))])) t → Steps p.tables e below (s₁.setTop (entryFrame m #[(.int p0), (.int p1), (.int p2), (.int p3), (.int p4), (.int p5)] maxLocals)) t := fun t k => pre32 t (by
            show Steps p.tables e below (s₁.setTop (mkF m 32 #[.val (.int p0), .val (.int p1), .val (.int p2), .val (.int p3), .val (.int p4), .val (.int p5), .val (.int x3), .unset, .unset, .unset, .unset, .unset, .unset, .unset, .unset, .unset, .unset, .unset, .unset, .unset, .unset, .unset] [])) t
            refine XS.bipush X0.here hx rfl (hb hby at_32) ?_
            show Steps p.tables e below (s₁.setTop (mkF m 34 #[.val (.int p0), .val (.int p1), .val (.int p2), .val (.int p3), .val (.int p4), .val (.int p5), .val (.int x3), .unset, .unset, .unset, .unset, .unset, .unset, .unset, .unset, .unset, .unset, .unset, .unset, .unset, .unset, .unset] [(.int (97 : Int32))])) _
            refine XS.goto X0.here hx rfl (pc0 := 34) (pc' := 39) rfl (hb hby at_34) (by decide) (by decide) ?_
            show Steps p.tables e below (s₁.setTop (mkF m 39 #[.val (.int p0), .val (.int p1), .val (.int p2), .val (.int p3), .val (.int p4), .val (.int p5), .val (.int x3), .unset, .unset, .unset, .unset, .unset, .unset, .unset, .unset, .unset, .unset, .unset, .unset, .unset, .unset, .unset] [(.int (97 : Int32))])) _
            exact k)
          have ehv39_s0 := hv39_s0.trans ((if_neg hc7).trans ((if_neg hc18).trans (if_pos hc29)))
          exact fun t k => pre39 t (by subst ehv39_s0; exact k)
        · -- not x3 = (2 : Int32)
          have pre37 : ∀ t, Steps p.tables e below (s₁.setTop (mkF m 37 #[.val (.int p0), .val (.int p1), .val (.int p2), .val (.int p3), .val (.int p4), .val (.int p5), .val (.int x3), .unset, .unset, .unset, .unset, .unset, .unset, .unset, .unset, .unset, .unset, .unset, .unset, .unset, .unset, .unset] [])) t → Steps p.tables e below (s₁.setTop (entryFrame m #[(.int p0), (.int p1), (.int p2), (.int p3), (.int p4), (.int p5)] maxLocals)) t := fun t k => pre29 t (by
            show Steps p.tables e below (s₁.setTop (mkF m 29 #[.val (.int p0), .val (.int p1), .val (.int p2), .val (.int p3), .val (.int p4), .val (.int p5), .val (.int x3), .unset, .unset, .unset, .unset, .unset, .unset, .unset, .unset, .unset, .unset, .unset, .unset, .unset, .unset, .unset] [(.int (2 : Int32)), (.int x3)])) t
            refine XS.icmpYes X0.here hx rfl (pc0 := 29) (pc' := 37) rfl (hb hby at_29) rfl (feq hc29).2 (by decide) (by decide) ?_
            exact k)
          have pre39 : ∀ t, Steps p.tables e below (s₁.setTop (mkF m 39 #[.val (.int p0), .val (.int p1), .val (.int p2), .val (.int p3), .val (.int p4), .val (.int p5), .val (.int x3), .unset, .unset, .unset, .unset, .unset, .unset, .unset, .unset, .unset, .unset, .unset, .unset, .unset, .unset, .unset] [(.int (100 : Int32))])) t → Steps p.tables e below (s₁.setTop (entryFrame m #[(.int p0), (.int p1), (.int p2), (.int p3), (.int p4), (.int p5)] maxLocals)) t := fun t k => pre37 t (by
            show Steps p.tables e below (s₁.setTop (mkF m 37 #[.val (.int p0), .val (.int p1), .val (.int p2), .val (.int p3), .val (.int p4), .val (.int p5), .val (.int x3), .unset, .unset, .unset, .unset, .unset, .unset, .unset, .unset, .unset, .unset, .unset, .unset, .unset, .unset, .unset] [])) t
            refine XS.bipush X0.here hx rfl (hb hby at_37) ?_
            show Steps p.tables e below (s₁.setTop (mkF m 39 #[.val (.int p0), .val (.int p1), .val (.int p2), .val (.int p3), .val (.int p4), .val (.int p5), .val (.int x3), .unset, .unset, .unset, .unset, .unset, .unset, .unset, .unset, .unset, .unset, .unset, .unset, .unset, .unset, .unset] [(.int (100 : Int32))])) _
            exact k)
          have ehv39_s0 := hv39_s0.trans ((if_neg hc7).trans ((if_neg hc18).trans (if_neg hc29)))
          exact fun t k => pre39 t (by subst ehv39_s0; exact k)
  have pre44 : ∀ t, Steps p.tables e below (s₁.setTop (mkF m 44 #[.val (.int p0), .val (.int p1), .val (.int p2), .val (.int p3), .val (.int p4), .val (.int p5), .val (.int x3), .val (.int v39_s0), .unset, .unset, .unset, .unset, .unset, .unset, .unset, .unset, .unset, .unset, .unset, .unset, .unset, .unset] [(.int (2 : Int32)), (.int x3)])) t → Steps p.tables e below (s₁.setTop (entryFrame m #[(.int p0), (.int p1), (.int p2), (.int p3), (.int p4), (.int p5)] maxLocals)) t := fun t k => pre39 t (by
    show Steps p.tables e below (s₁.setTop (mkF m 39 #[.val (.int p0), .val (.int p1), .val (.int p2), .val (.int p3), .val (.int p4), .val (.int p5), .val (.int x3), .unset, .unset, .unset, .unset, .unset, .unset, .unset, .unset, .unset, .unset, .unset, .unset, .unset, .unset, .unset] [(.int v39_s0)])) t
    refine XS.istore X0.here hx rfl (hb hby at_39) rfl (l' := #[.val (.int p0), .val (.int p1), .val (.int p2), .val (.int p3), .val (.int p4), .val (.int p5), .val (.int x3), .val (.int v39_s0), .unset, .unset, .unset, .unset, .unset, .unset, .unset, .unset, .unset, .unset, .unset, .unset, .unset, .unset]) rfl ?_
    show Steps p.tables e below (s₁.setTop (mkF m 41 #[.val (.int p0), .val (.int p1), .val (.int p2), .val (.int p3), .val (.int p4), .val (.int p5), .val (.int x3), .val (.int v39_s0), .unset, .unset, .unset, .unset, .unset, .unset, .unset, .unset, .unset, .unset, .unset, .unset, .unset, .unset] [])) _
    refine XS.iload X0.here hx rfl (hb hby at_41) rfl ?_
    show Steps p.tables e below (s₁.setTop (mkF m 43 #[.val (.int p0), .val (.int p1), .val (.int p2), .val (.int p3), .val (.int p4), .val (.int p5), .val (.int x3), .val (.int v39_s0), .unset, .unset, .unset, .unset, .unset, .unset, .unset, .unset, .unset, .unset, .unset, .unset, .unset, .unset] [(.int x3)])) _
    refine XS.iconst X0.here hx rfl (hb hby at_43) ?_
    show Steps p.tables e below (s₁.setTop (mkF m 44 #[.val (.int p0), .val (.int p1), .val (.int p2), .val (.int p3), .val (.int p4), .val (.int p5), .val (.int x3), .val (.int v39_s0), .unset, .unset, .unset, .unset, .unset, .unset, .unset, .unset, .unset, .unset, .unset, .unset, .unset, .unset] [(.int (2 : Int32)), (.int x3)])) _
    exact k)
  obtain ⟨v60_s0, hv60_s0⟩ : ∃ z : Int32, z = (if x3 < (2 : Int32) then (1 : Int32) else ((1 : Int32) + ((p1 &&& (2147483647 : Int32)) % (10 : Int32)))) := ⟨_, rfl⟩
  have pre60 : ∀ t, Steps p.tables e below (s₁.setTop (mkF m 60 #[.val (.int p0), .val (.int p1), .val (.int p2), .val (.int p3), .val (.int p4), .val (.int p5), .val (.int x3), .val (.int v39_s0), .unset, .unset, .unset, .unset, .unset, .unset, .unset, .unset, .unset, .unset, .unset, .unset, .unset, .unset] [(.int v60_s0)])) t → Steps p.tables e below (s₁.setTop (entryFrame m #[(.int p0), (.int p1), (.int p2), (.int p3), (.int p4), (.int p5)] maxLocals)) t := by
    by_cases hc44 : x3 < (2 : Int32)
    · -- x3 < (2 : Int32)
      have pre59 : ∀ t, Steps p.tables e below (s₁.setTop (mkF m 59 #[.val (.int p0), .val (.int p1), .val (.int p2), .val (.int p3), .val (.int p4), .val (.int p5), .val (.int x3), .val (.int v39_s0), .unset, .unset, .unset, .unset, .unset, .unset, .unset, .unset, .unset, .unset, .unset, .unset, .unset, .unset] [])) t → Steps p.tables e below (s₁.setTop (entryFrame m #[(.int p0), (.int p1), (.int p2), (.int p3), (.int p4), (.int p5)] maxLocals)) t := fun t k => pre44 t (by
        show Steps p.tables e below (s₁.setTop (mkF m 44 #[.val (.int p0), .val (.int p1), .val (.int p2), .val (.int p3), .val (.int p4), .val (.int p5), .val (.int x3), .val (.int v39_s0), .unset, .unset, .unset, .unset, .unset, .unset, .unset, .unset, .unset, .unset, .unset, .unset, .unset, .unset] [(.int (2 : Int32)), (.int x3)])) t
        refine XS.icmpYes X0.here hx rfl (pc0 := 44) (pc' := 59) rfl (hb hby at_44) rfl (tlt hc44).1 (by decide) (by decide) ?_
        exact k)
      have pre60 : ∀ t, Steps p.tables e below (s₁.setTop (mkF m 60 #[.val (.int p0), .val (.int p1), .val (.int p2), .val (.int p3), .val (.int p4), .val (.int p5), .val (.int x3), .val (.int v39_s0), .unset, .unset, .unset, .unset, .unset, .unset, .unset, .unset, .unset, .unset, .unset, .unset, .unset, .unset] [(.int (1 : Int32))])) t → Steps p.tables e below (s₁.setTop (entryFrame m #[(.int p0), (.int p1), (.int p2), (.int p3), (.int p4), (.int p5)] maxLocals)) t := fun t k => pre59 t (by
        show Steps p.tables e below (s₁.setTop (mkF m 59 #[.val (.int p0), .val (.int p1), .val (.int p2), .val (.int p3), .val (.int p4), .val (.int p5), .val (.int x3), .val (.int v39_s0), .unset, .unset, .unset, .unset, .unset, .unset, .unset, .unset, .unset, .unset, .unset, .unset, .unset, .unset] [])) t
        refine XS.iconst X0.here hx rfl (hb hby at_59) ?_
        show Steps p.tables e below (s₁.setTop (mkF m 60 #[.val (.int p0), .val (.int p1), .val (.int p2), .val (.int p3), .val (.int p4), .val (.int p5), .val (.int x3), .val (.int v39_s0), .unset, .unset, .unset, .unset, .unset, .unset, .unset, .unset, .unset, .unset, .unset, .unset, .unset, .unset] [(.int (1 : Int32))])) _
        exact k)
      have ehv60_s0 := hv60_s0.trans (if_pos hc44)
      exact fun t k => pre60 t (by subst ehv60_s0; exact k)
    · -- not x3 < (2 : Int32)
      have pre47 : ∀ t, Steps p.tables e below (s₁.setTop (mkF m 47 #[.val (.int p0), .val (.int p1), .val (.int p2), .val (.int p3), .val (.int p4), .val (.int p5), .val (.int x3), .val (.int v39_s0), .unset, .unset, .unset, .unset, .unset, .unset, .unset, .unset, .unset, .unset, .unset, .unset, .unset, .unset] [])) t → Steps p.tables e below (s₁.setTop (entryFrame m #[(.int p0), (.int p1), (.int p2), (.int p3), (.int p4), (.int p5)] maxLocals)) t := fun t k => pre44 t (by
        show Steps p.tables e below (s₁.setTop (mkF m 44 #[.val (.int p0), .val (.int p1), .val (.int p2), .val (.int p3), .val (.int p4), .val (.int p5), .val (.int x3), .val (.int v39_s0), .unset, .unset, .unset, .unset, .unset, .unset, .unset, .unset, .unset, .unset, .unset, .unset, .unset, .unset] [(.int (2 : Int32)), (.int x3)])) t
        refine XS.icmpNo X0.here hx rfl (hb hby at_44) rfl (flt hc44).1 ?_
        exact k)
      have pre60 : ∀ t, Steps p.tables e below (s₁.setTop (mkF m 60 #[.val (.int p0), .val (.int p1), .val (.int p2), .val (.int p3), .val (.int p4), .val (.int p5), .val (.int x3), .val (.int v39_s0), .unset, .unset, .unset, .unset, .unset, .unset, .unset, .unset, .unset, .unset, .unset, .unset, .unset, .unset] [(.int ((1 : Int32) + ((p1 &&& (2147483647 : Int32)) % (10 : Int32))))])) t → Steps p.tables e below (s₁.setTop (entryFrame m #[(.int p0), (.int p1), (.int p2), (.int p3), (.int p4), (.int p5)] maxLocals)) t := fun t k => pre47 t (by
        show Steps p.tables e below (s₁.setTop (mkF m 47 #[.val (.int p0), .val (.int p1), .val (.int p2), .val (.int p3), .val (.int p4), .val (.int p5), .val (.int x3), .val (.int v39_s0), .unset, .unset, .unset, .unset, .unset, .unset, .unset, .unset, .unset, .unset, .unset, .unset, .unset, .unset] [])) t
        refine XS.iconst X0.here hx rfl (hb hby at_47) ?_
        show Steps p.tables e below (s₁.setTop (mkF m 48 #[.val (.int p0), .val (.int p1), .val (.int p2), .val (.int p3), .val (.int p4), .val (.int p5), .val (.int x3), .val (.int v39_s0), .unset, .unset, .unset, .unset, .unset, .unset, .unset, .unset, .unset, .unset, .unset, .unset, .unset, .unset] [(.int (1 : Int32))])) _
        refine XS.iloadN X0.here hx rfl (hb hby at_48) rfl ?_
        show Steps p.tables e below (s₁.setTop (mkF m 49 #[.val (.int p0), .val (.int p1), .val (.int p2), .val (.int p3), .val (.int p4), .val (.int p5), .val (.int x3), .val (.int v39_s0), .unset, .unset, .unset, .unset, .unset, .unset, .unset, .unset, .unset, .unset, .unset, .unset, .unset, .unset] [(.int p1), (.int (1 : Int32))])) _
        refine X0.ldcInt hx hown (mvT hZ (hw _ (List.mem_of_getElem? (i := 24) rfl))) (g := (mkF m 49 #[.val (.int p0), .val (.int p1), .val (.int p2), .val (.int p3), .val (.int p4), .val (.int p5), .val (.int x3), .val (.int v39_s0), .unset, .unset, .unset, .unset, .unset, .unset, .unset, .unset, .unset, .unset, .unset, .unset, .unset, .unset] [(.int p1), (.int (1 : Int32))])) rfl (hb hby at_49) _ ?_
        show Steps p.tables e below (s₁.setTop (mkF m 51 #[.val (.int p0), .val (.int p1), .val (.int p2), .val (.int p3), .val (.int p4), .val (.int p5), .val (.int x3), .val (.int v39_s0), .unset, .unset, .unset, .unset, .unset, .unset, .unset, .unset, .unset, .unset, .unset, .unset, .unset, .unset] [(.int (2147483647 : Int32)), (.int p1), (.int (1 : Int32))])) _
        refine XS.iand X0.here hx rfl (hb hby at_51) rfl ?_
        show Steps p.tables e below (s₁.setTop (mkF m 52 #[.val (.int p0), .val (.int p1), .val (.int p2), .val (.int p3), .val (.int p4), .val (.int p5), .val (.int x3), .val (.int v39_s0), .unset, .unset, .unset, .unset, .unset, .unset, .unset, .unset, .unset, .unset, .unset, .unset, .unset, .unset] [(.int (p1 &&& (2147483647 : Int32))), (.int (1 : Int32))])) _
        refine XS.bipush X0.here hx rfl (hb hby at_52) ?_
        show Steps p.tables e below (s₁.setTop (mkF m 54 #[.val (.int p0), .val (.int p1), .val (.int p2), .val (.int p3), .val (.int p4), .val (.int p5), .val (.int x3), .val (.int v39_s0), .unset, .unset, .unset, .unset, .unset, .unset, .unset, .unset, .unset, .unset, .unset, .unset, .unset, .unset] [(.int (10 : Int32)), (.int (p1 &&& (2147483647 : Int32))), (.int (1 : Int32))])) _
        refine iremM X0 hx rfl (hb hby at_54) rfl (by decide) ?_
        show Steps p.tables e below (s₁.setTop (mkF m 55 #[.val (.int p0), .val (.int p1), .val (.int p2), .val (.int p3), .val (.int p4), .val (.int p5), .val (.int x3), .val (.int v39_s0), .unset, .unset, .unset, .unset, .unset, .unset, .unset, .unset, .unset, .unset, .unset, .unset, .unset, .unset] [(.int ((p1 &&& (2147483647 : Int32)) % (10 : Int32))), (.int (1 : Int32))])) _
        refine XS.iadd X0.here hx rfl (hb hby at_55) rfl ?_
        show Steps p.tables e below (s₁.setTop (mkF m 56 #[.val (.int p0), .val (.int p1), .val (.int p2), .val (.int p3), .val (.int p4), .val (.int p5), .val (.int x3), .val (.int v39_s0), .unset, .unset, .unset, .unset, .unset, .unset, .unset, .unset, .unset, .unset, .unset, .unset, .unset, .unset] [(.int ((1 : Int32) + ((p1 &&& (2147483647 : Int32)) % (10 : Int32))))])) _
        refine XS.goto X0.here hx rfl (pc0 := 56) (pc' := 60) rfl (hb hby at_56) (by decide) (by decide) ?_
        show Steps p.tables e below (s₁.setTop (mkF m 60 #[.val (.int p0), .val (.int p1), .val (.int p2), .val (.int p3), .val (.int p4), .val (.int p5), .val (.int x3), .val (.int v39_s0), .unset, .unset, .unset, .unset, .unset, .unset, .unset, .unset, .unset, .unset, .unset, .unset, .unset, .unset] [(.int ((1 : Int32) + ((p1 &&& (2147483647 : Int32)) % (10 : Int32))))])) _
        exact k)
      have ehv60_s0 := hv60_s0.trans (if_neg hc44)
      exact fun t k => pre60 t (by subst ehv60_s0; exact k)
  have hdr := own_dr hv60_s0
  have hdn : v60_s0 ≠ 0 := own_dn hdr
  have pre65 : ∀ t, Steps p.tables e below (s₁.setTop (mkF m 65 #[.val (.int p0), .val (.int p1), .val (.int p2), .val (.int p3), .val (.int p4), .val (.int p5), .val (.int x3), .val (.int v39_s0), .val (.int v60_s0), .unset, .unset, .unset, .unset, .unset, .unset, .unset, .unset, .unset, .unset, .unset, .unset, .unset] [(.int (p2 &&& (1 : Int32)))])) t → Steps p.tables e below (s₁.setTop (entryFrame m #[(.int p0), (.int p1), (.int p2), (.int p3), (.int p4), (.int p5)] maxLocals)) t := fun t k => pre60 t (by
    show Steps p.tables e below (s₁.setTop (mkF m 60 #[.val (.int p0), .val (.int p1), .val (.int p2), .val (.int p3), .val (.int p4), .val (.int p5), .val (.int x3), .val (.int v39_s0), .unset, .unset, .unset, .unset, .unset, .unset, .unset, .unset, .unset, .unset, .unset, .unset, .unset, .unset] [(.int v60_s0)])) t
    refine XS.istore X0.here hx rfl (hb hby at_60) rfl (l' := #[.val (.int p0), .val (.int p1), .val (.int p2), .val (.int p3), .val (.int p4), .val (.int p5), .val (.int x3), .val (.int v39_s0), .val (.int v60_s0), .unset, .unset, .unset, .unset, .unset, .unset, .unset, .unset, .unset, .unset, .unset, .unset, .unset]) rfl ?_
    show Steps p.tables e below (s₁.setTop (mkF m 62 #[.val (.int p0), .val (.int p1), .val (.int p2), .val (.int p3), .val (.int p4), .val (.int p5), .val (.int x3), .val (.int v39_s0), .val (.int v60_s0), .unset, .unset, .unset, .unset, .unset, .unset, .unset, .unset, .unset, .unset, .unset, .unset, .unset] [])) _
    refine XS.iloadN X0.here hx rfl (hb hby at_62) rfl ?_
    show Steps p.tables e below (s₁.setTop (mkF m 63 #[.val (.int p0), .val (.int p1), .val (.int p2), .val (.int p3), .val (.int p4), .val (.int p5), .val (.int x3), .val (.int v39_s0), .val (.int v60_s0), .unset, .unset, .unset, .unset, .unset, .unset, .unset, .unset, .unset, .unset, .unset, .unset, .unset] [(.int p2)])) _
    refine XS.iconst X0.here hx rfl (hb hby at_63) ?_
    show Steps p.tables e below (s₁.setTop (mkF m 64 #[.val (.int p0), .val (.int p1), .val (.int p2), .val (.int p3), .val (.int p4), .val (.int p5), .val (.int x3), .val (.int v39_s0), .val (.int v60_s0), .unset, .unset, .unset, .unset, .unset, .unset, .unset, .unset, .unset, .unset, .unset, .unset, .unset] [(.int (1 : Int32)), (.int p2)])) _
    refine XS.iand X0.here hx rfl (hb hby at_64) rfl ?_
    show Steps p.tables e below (s₁.setTop (mkF m 65 #[.val (.int p0), .val (.int p1), .val (.int p2), .val (.int p3), .val (.int p4), .val (.int p5), .val (.int x3), .val (.int v39_s0), .val (.int v60_s0), .unset, .unset, .unset, .unset, .unset, .unset, .unset, .unset, .unset, .unset, .unset, .unset, .unset] [(.int (p2 &&& (1 : Int32)))])) _
    exact k)
  obtain ⟨v73_s0, hv73_s0⟩ : ∃ z : Int32, z = if (¬ ((p2 &&& (1 : Int32)) = (0 : Int32))) then (1 : Int32) else 0 := ⟨_, rfl⟩
  have pre73 : ∀ t, Steps p.tables e below (s₁.setTop (mkF m 73 #[.val (.int p0), .val (.int p1), .val (.int p2), .val (.int p3), .val (.int p4), .val (.int p5), .val (.int x3), .val (.int v39_s0), .val (.int v60_s0), .unset, .unset, .unset, .unset, .unset, .unset, .unset, .unset, .unset, .unset, .unset, .unset, .unset] [(.int v73_s0)])) t → Steps p.tables e below (s₁.setTop (entryFrame m #[(.int p0), (.int p1), (.int p2), (.int p3), (.int p4), (.int p5)] maxLocals)) t := by
    by_cases hc65 : (p2 &&& (1 : Int32)) = (0 : Int32)
    · -- (p2 &&& (1 : Int32)) = (0 : Int32)
      have pre72 : ∀ t, Steps p.tables e below (s₁.setTop (mkF m 72 #[.val (.int p0), .val (.int p1), .val (.int p2), .val (.int p3), .val (.int p4), .val (.int p5), .val (.int x3), .val (.int v39_s0), .val (.int v60_s0), .unset, .unset, .unset, .unset, .unset, .unset, .unset, .unset, .unset, .unset, .unset, .unset, .unset] [])) t → Steps p.tables e below (s₁.setTop (entryFrame m #[(.int p0), (.int p1), (.int p2), (.int p3), (.int p4), (.int p5)] maxLocals)) t := fun t k => pre65 t (by
        show Steps p.tables e below (s₁.setTop (mkF m 65 #[.val (.int p0), .val (.int p1), .val (.int p2), .val (.int p3), .val (.int p4), .val (.int p5), .val (.int x3), .val (.int v39_s0), .val (.int v60_s0), .unset, .unset, .unset, .unset, .unset, .unset, .unset, .unset, .unset, .unset, .unset, .unset, .unset] [(.int (p2 &&& (1 : Int32)))])) t
        refine XS.ifYes X0.here hx rfl (pc0 := 65) (pc' := 72) rfl (hb hby at_65) rfl ((if0 _ _).trans (teq hc65).1) (by decide) (by decide) ?_
        exact k)
      have pre73 : ∀ t, Steps p.tables e below (s₁.setTop (mkF m 73 #[.val (.int p0), .val (.int p1), .val (.int p2), .val (.int p3), .val (.int p4), .val (.int p5), .val (.int x3), .val (.int v39_s0), .val (.int v60_s0), .unset, .unset, .unset, .unset, .unset, .unset, .unset, .unset, .unset, .unset, .unset, .unset, .unset] [(.int (0 : Int32))])) t → Steps p.tables e below (s₁.setTop (entryFrame m #[(.int p0), (.int p1), (.int p2), (.int p3), (.int p4), (.int p5)] maxLocals)) t := fun t k => pre72 t (by
        show Steps p.tables e below (s₁.setTop (mkF m 72 #[.val (.int p0), .val (.int p1), .val (.int p2), .val (.int p3), .val (.int p4), .val (.int p5), .val (.int x3), .val (.int v39_s0), .val (.int v60_s0), .unset, .unset, .unset, .unset, .unset, .unset, .unset, .unset, .unset, .unset, .unset, .unset, .unset] [])) t
        refine XS.iconst X0.here hx rfl (hb hby at_72) ?_
        show Steps p.tables e below (s₁.setTop (mkF m 73 #[.val (.int p0), .val (.int p1), .val (.int p2), .val (.int p3), .val (.int p4), .val (.int p5), .val (.int x3), .val (.int v39_s0), .val (.int v60_s0), .unset, .unset, .unset, .unset, .unset, .unset, .unset, .unset, .unset, .unset, .unset, .unset, .unset] [(.int (0 : Int32))])) _
        exact k)
      have ehv73_s0 := hv73_s0.trans (if_neg (fun q => q hc65))
      exact fun t k => pre73 t (by subst ehv73_s0; exact k)
    · -- not (p2 &&& (1 : Int32)) = (0 : Int32)
      have pre68 : ∀ t, Steps p.tables e below (s₁.setTop (mkF m 68 #[.val (.int p0), .val (.int p1), .val (.int p2), .val (.int p3), .val (.int p4), .val (.int p5), .val (.int x3), .val (.int v39_s0), .val (.int v60_s0), .unset, .unset, .unset, .unset, .unset, .unset, .unset, .unset, .unset, .unset, .unset, .unset, .unset] [])) t → Steps p.tables e below (s₁.setTop (entryFrame m #[(.int p0), (.int p1), (.int p2), (.int p3), (.int p4), (.int p5)] maxLocals)) t := fun t k => pre65 t (by
        show Steps p.tables e below (s₁.setTop (mkF m 65 #[.val (.int p0), .val (.int p1), .val (.int p2), .val (.int p3), .val (.int p4), .val (.int p5), .val (.int x3), .val (.int v39_s0), .val (.int v60_s0), .unset, .unset, .unset, .unset, .unset, .unset, .unset, .unset, .unset, .unset, .unset, .unset, .unset] [(.int (p2 &&& (1 : Int32)))])) t
        refine XS.ifNo X0.here hx rfl (hb hby at_65) rfl ((if0 _ _).trans (feq hc65).1) ?_
        exact k)
      have pre73 : ∀ t, Steps p.tables e below (s₁.setTop (mkF m 73 #[.val (.int p0), .val (.int p1), .val (.int p2), .val (.int p3), .val (.int p4), .val (.int p5), .val (.int x3), .val (.int v39_s0), .val (.int v60_s0), .unset, .unset, .unset, .unset, .unset, .unset, .unset, .unset, .unset, .unset, .unset, .unset, .unset] [(.int (1 : Int32))])) t → Steps p.tables e below (s₁.setTop (entryFrame m #[(.int p0), (.int p1), (.int p2), (.int p3), (.int p4), (.int p5)] maxLocals)) t := fun t k => pre68 t (by
        show Steps p.tables e below (s₁.setTop (mkF m 68 #[.val (.int p0), .val (.int p1), .val (.int p2), .val (.int p3), .val (.int p4), .val (.int p5), .val (.int x3), .val (.int v39_s0), .val (.int v60_s0), .unset, .unset, .unset, .unset, .unset, .unset, .unset, .unset, .unset, .unset, .unset, .unset, .unset] [])) t
        refine XS.iconst X0.here hx rfl (hb hby at_68) ?_
        show Steps p.tables e below (s₁.setTop (mkF m 69 #[.val (.int p0), .val (.int p1), .val (.int p2), .val (.int p3), .val (.int p4), .val (.int p5), .val (.int x3), .val (.int v39_s0), .val (.int v60_s0), .unset, .unset, .unset, .unset, .unset, .unset, .unset, .unset, .unset, .unset, .unset, .unset, .unset] [(.int (1 : Int32))])) _
        refine XS.goto X0.here hx rfl (pc0 := 69) (pc' := 73) rfl (hb hby at_69) (by decide) (by decide) ?_
        show Steps p.tables e below (s₁.setTop (mkF m 73 #[.val (.int p0), .val (.int p1), .val (.int p2), .val (.int p3), .val (.int p4), .val (.int p5), .val (.int x3), .val (.int v39_s0), .val (.int v60_s0), .unset, .unset, .unset, .unset, .unset, .unset, .unset, .unset, .unset, .unset, .unset, .unset, .unset] [(.int (1 : Int32))])) _
        exact k)
      have ehv73_s0 := hv73_s0.trans (if_pos hc65)
      exact fun t k => pre73 t (by subst ehv73_s0; exact k)
  obtain ⟨x79, hx79⟩ : ∃ z : Int32, z = (p3 >>> ((9 : Int32) &&& 31)) := ⟨_, rfl⟩
  have pre81 : ∀ t, Steps p.tables e below (s₁.setTop (mkF m 81 #[.val (.int p0), .val (.int p1), .val (.int p2), .val (.int p3), .val (.int p4), .val (.int p5), .val (.int x3), .val (.int v39_s0), .val (.int v60_s0), .val (.int v73_s0), .val (.int x79), .unset, .unset, .unset, .unset, .unset, .unset, .unset, .unset, .unset, .unset, .unset] [])) t → Steps p.tables e below (s₁.setTop (entryFrame m #[(.int p0), (.int p1), (.int p2), (.int p3), (.int p4), (.int p5)] maxLocals)) t := fun t k => pre73 t (by
    show Steps p.tables e below (s₁.setTop (mkF m 73 #[.val (.int p0), .val (.int p1), .val (.int p2), .val (.int p3), .val (.int p4), .val (.int p5), .val (.int x3), .val (.int v39_s0), .val (.int v60_s0), .unset, .unset, .unset, .unset, .unset, .unset, .unset, .unset, .unset, .unset, .unset, .unset, .unset] [(.int v73_s0)])) t
    refine XS.istore X0.here hx rfl (hb hby at_73) rfl (l' := #[.val (.int p0), .val (.int p1), .val (.int p2), .val (.int p3), .val (.int p4), .val (.int p5), .val (.int x3), .val (.int v39_s0), .val (.int v60_s0), .val (.int v73_s0), .unset, .unset, .unset, .unset, .unset, .unset, .unset, .unset, .unset, .unset, .unset, .unset]) rfl ?_
    show Steps p.tables e below (s₁.setTop (mkF m 75 #[.val (.int p0), .val (.int p1), .val (.int p2), .val (.int p3), .val (.int p4), .val (.int p5), .val (.int x3), .val (.int v39_s0), .val (.int v60_s0), .val (.int v73_s0), .unset, .unset, .unset, .unset, .unset, .unset, .unset, .unset, .unset, .unset, .unset, .unset] [])) _
    refine XS.iloadN X0.here hx rfl (hb hby at_75) rfl ?_
    show Steps p.tables e below (s₁.setTop (mkF m 76 #[.val (.int p0), .val (.int p1), .val (.int p2), .val (.int p3), .val (.int p4), .val (.int p5), .val (.int x3), .val (.int v39_s0), .val (.int v60_s0), .val (.int v73_s0), .unset, .unset, .unset, .unset, .unset, .unset, .unset, .unset, .unset, .unset, .unset, .unset] [(.int p3)])) _
    refine XS.bipush X0.here hx rfl (hb hby at_76) ?_
    show Steps p.tables e below (s₁.setTop (mkF m 78 #[.val (.int p0), .val (.int p1), .val (.int p2), .val (.int p3), .val (.int p4), .val (.int p5), .val (.int x3), .val (.int v39_s0), .val (.int v60_s0), .val (.int v73_s0), .unset, .unset, .unset, .unset, .unset, .unset, .unset, .unset, .unset, .unset, .unset, .unset] [(.int (9 : Int32)), (.int p3)])) _
    refine XS.ishr X0.here hx rfl (hb hby at_78) rfl ?_
    show Steps p.tables e below (s₁.setTop (mkF m 79 #[.val (.int p0), .val (.int p1), .val (.int p2), .val (.int p3), .val (.int p4), .val (.int p5), .val (.int x3), .val (.int v39_s0), .val (.int v60_s0), .val (.int v73_s0), .unset, .unset, .unset, .unset, .unset, .unset, .unset, .unset, .unset, .unset, .unset, .unset] [(.int (p3 >>> ((9 : Int32) &&& 31)))])) _
    refine XS.istore X0.here hx rfl (hb hby at_79) rfl (l' := #[.val (.int p0), .val (.int p1), .val (.int p2), .val (.int p3), .val (.int p4), .val (.int p5), .val (.int x3), .val (.int v39_s0), .val (.int v60_s0), .val (.int v73_s0), .val (.int (p3 >>> ((9 : Int32) &&& 31))), .unset, .unset, .unset, .unset, .unset, .unset, .unset, .unset, .unset, .unset, .unset]) rfl ?_
    show Steps p.tables e below (s₁.setTop (mkF m 81 #[.val (.int p0), .val (.int p1), .val (.int p2), .val (.int p3), .val (.int p4), .val (.int p5), .val (.int x3), .val (.int v39_s0), .val (.int v60_s0), .val (.int v73_s0), .val (.int (p3 >>> ((9 : Int32) &&& 31))), .unset, .unset, .unset, .unset, .unset, .unset, .unset, .unset, .unset, .unset, .unset] [])) _
    subst hx79
    exact k)
  obtain ⟨x89, hx89⟩ : ∃ z : Int32, z = ((p5 &&& (65535 : Int32)) % v60_s0) := ⟨_, rfl⟩
  have pre91 : ∀ t, Steps p.tables e below (s₁.setTop (mkF m 91 #[.val (.int p0), .val (.int p1), .val (.int p2), .val (.int p3), .val (.int p4), .val (.int p5), .val (.int x3), .val (.int v39_s0), .val (.int v60_s0), .val (.int v73_s0), .val (.int x79), .val (.int x89), .unset, .unset, .unset, .unset, .unset, .unset, .unset, .unset, .unset, .unset] [])) t → Steps p.tables e below (s₁.setTop (entryFrame m #[(.int p0), (.int p1), (.int p2), (.int p3), (.int p4), (.int p5)] maxLocals)) t := fun t k => pre81 t (by
    show Steps p.tables e below (s₁.setTop (mkF m 81 #[.val (.int p0), .val (.int p1), .val (.int p2), .val (.int p3), .val (.int p4), .val (.int p5), .val (.int x3), .val (.int v39_s0), .val (.int v60_s0), .val (.int v73_s0), .val (.int x79), .unset, .unset, .unset, .unset, .unset, .unset, .unset, .unset, .unset, .unset, .unset] [])) t
    refine XS.iload X0.here hx rfl (hb hby at_81) rfl ?_
    show Steps p.tables e below (s₁.setTop (mkF m 83 #[.val (.int p0), .val (.int p1), .val (.int p2), .val (.int p3), .val (.int p4), .val (.int p5), .val (.int x3), .val (.int v39_s0), .val (.int v60_s0), .val (.int v73_s0), .val (.int x79), .unset, .unset, .unset, .unset, .unset, .unset, .unset, .unset, .unset, .unset, .unset] [(.int p5)])) _
    refine X0.ldcInt hx hown (mvT hZ (hw _ (List.mem_of_getElem? (i := 0) rfl))) (g := (mkF m 83 #[.val (.int p0), .val (.int p1), .val (.int p2), .val (.int p3), .val (.int p4), .val (.int p5), .val (.int x3), .val (.int v39_s0), .val (.int v60_s0), .val (.int v73_s0), .val (.int x79), .unset, .unset, .unset, .unset, .unset, .unset, .unset, .unset, .unset, .unset, .unset] [(.int p5)])) rfl (hb hby at_83) _ ?_
    show Steps p.tables e below (s₁.setTop (mkF m 85 #[.val (.int p0), .val (.int p1), .val (.int p2), .val (.int p3), .val (.int p4), .val (.int p5), .val (.int x3), .val (.int v39_s0), .val (.int v60_s0), .val (.int v73_s0), .val (.int x79), .unset, .unset, .unset, .unset, .unset, .unset, .unset, .unset, .unset, .unset, .unset] [(.int (65535 : Int32)), (.int p5)])) _
    refine XS.iand X0.here hx rfl (hb hby at_85) rfl ?_
    show Steps p.tables e below (s₁.setTop (mkF m 86 #[.val (.int p0), .val (.int p1), .val (.int p2), .val (.int p3), .val (.int p4), .val (.int p5), .val (.int x3), .val (.int v39_s0), .val (.int v60_s0), .val (.int v73_s0), .val (.int x79), .unset, .unset, .unset, .unset, .unset, .unset, .unset, .unset, .unset, .unset, .unset] [(.int (p5 &&& (65535 : Int32)))])) _
    refine XS.iload X0.here hx rfl (hb hby at_86) rfl ?_
    show Steps p.tables e below (s₁.setTop (mkF m 88 #[.val (.int p0), .val (.int p1), .val (.int p2), .val (.int p3), .val (.int p4), .val (.int p5), .val (.int x3), .val (.int v39_s0), .val (.int v60_s0), .val (.int v73_s0), .val (.int x79), .unset, .unset, .unset, .unset, .unset, .unset, .unset, .unset, .unset, .unset, .unset] [(.int v60_s0), (.int (p5 &&& (65535 : Int32)))])) _
    refine iremM X0 hx rfl (hb hby at_88) rfl hdn ?_
    show Steps p.tables e below (s₁.setTop (mkF m 89 #[.val (.int p0), .val (.int p1), .val (.int p2), .val (.int p3), .val (.int p4), .val (.int p5), .val (.int x3), .val (.int v39_s0), .val (.int v60_s0), .val (.int v73_s0), .val (.int x79), .unset, .unset, .unset, .unset, .unset, .unset, .unset, .unset, .unset, .unset, .unset] [(.int ((p5 &&& (65535 : Int32)) % v60_s0))])) _
    refine XS.istore X0.here hx rfl (hb hby at_89) rfl (l' := #[.val (.int p0), .val (.int p1), .val (.int p2), .val (.int p3), .val (.int p4), .val (.int p5), .val (.int x3), .val (.int v39_s0), .val (.int v60_s0), .val (.int v73_s0), .val (.int x79), .val (.int ((p5 &&& (65535 : Int32)) % v60_s0)), .unset, .unset, .unset, .unset, .unset, .unset, .unset, .unset, .unset, .unset]) rfl ?_
    show Steps p.tables e below (s₁.setTop (mkF m 91 #[.val (.int p0), .val (.int p1), .val (.int p2), .val (.int p3), .val (.int p4), .val (.int p5), .val (.int x3), .val (.int v39_s0), .val (.int v60_s0), .val (.int v73_s0), .val (.int x79), .val (.int ((p5 &&& (65535 : Int32)) % v60_s0)), .unset, .unset, .unset, .unset, .unset, .unset, .unset, .unset, .unset, .unset] [])) _
    subst hx89
    exact k)
  obtain ⟨x96, hx96⟩ : ∃ z : Int32, z = (p4 >>> ((9 : Int32) &&& 31)) := ⟨_, rfl⟩
  have pre98 : ∀ t, Steps p.tables e below (s₁.setTop (mkF m 98 #[.val (.int p0), .val (.int p1), .val (.int p2), .val (.int p3), .val (.int p4), .val (.int p5), .val (.int x3), .val (.int v39_s0), .val (.int v60_s0), .val (.int v73_s0), .val (.int x79), .val (.int x89), .val (.int x96), .unset, .unset, .unset, .unset, .unset, .unset, .unset, .unset, .unset] [])) t → Steps p.tables e below (s₁.setTop (entryFrame m #[(.int p0), (.int p1), (.int p2), (.int p3), (.int p4), (.int p5)] maxLocals)) t := fun t k => pre91 t (by
    show Steps p.tables e below (s₁.setTop (mkF m 91 #[.val (.int p0), .val (.int p1), .val (.int p2), .val (.int p3), .val (.int p4), .val (.int p5), .val (.int x3), .val (.int v39_s0), .val (.int v60_s0), .val (.int v73_s0), .val (.int x79), .val (.int x89), .unset, .unset, .unset, .unset, .unset, .unset, .unset, .unset, .unset, .unset] [])) t
    refine XS.iload X0.here hx rfl (hb hby at_91) rfl ?_
    show Steps p.tables e below (s₁.setTop (mkF m 93 #[.val (.int p0), .val (.int p1), .val (.int p2), .val (.int p3), .val (.int p4), .val (.int p5), .val (.int x3), .val (.int v39_s0), .val (.int v60_s0), .val (.int v73_s0), .val (.int x79), .val (.int x89), .unset, .unset, .unset, .unset, .unset, .unset, .unset, .unset, .unset, .unset] [(.int p4)])) _
    refine XS.bipush X0.here hx rfl (hb hby at_93) ?_
    show Steps p.tables e below (s₁.setTop (mkF m 95 #[.val (.int p0), .val (.int p1), .val (.int p2), .val (.int p3), .val (.int p4), .val (.int p5), .val (.int x3), .val (.int v39_s0), .val (.int v60_s0), .val (.int v73_s0), .val (.int x79), .val (.int x89), .unset, .unset, .unset, .unset, .unset, .unset, .unset, .unset, .unset, .unset] [(.int (9 : Int32)), (.int p4)])) _
    refine XS.ishr X0.here hx rfl (hb hby at_95) rfl ?_
    show Steps p.tables e below (s₁.setTop (mkF m 96 #[.val (.int p0), .val (.int p1), .val (.int p2), .val (.int p3), .val (.int p4), .val (.int p5), .val (.int x3), .val (.int v39_s0), .val (.int v60_s0), .val (.int v73_s0), .val (.int x79), .val (.int x89), .unset, .unset, .unset, .unset, .unset, .unset, .unset, .unset, .unset, .unset] [(.int (p4 >>> ((9 : Int32) &&& 31)))])) _
    refine XS.istore X0.here hx rfl (hb hby at_96) rfl (l' := #[.val (.int p0), .val (.int p1), .val (.int p2), .val (.int p3), .val (.int p4), .val (.int p5), .val (.int x3), .val (.int v39_s0), .val (.int v60_s0), .val (.int v73_s0), .val (.int x79), .val (.int x89), .val (.int (p4 >>> ((9 : Int32) &&& 31))), .unset, .unset, .unset, .unset, .unset, .unset, .unset, .unset, .unset]) rfl ?_
    show Steps p.tables e below (s₁.setTop (mkF m 98 #[.val (.int p0), .val (.int p1), .val (.int p2), .val (.int p3), .val (.int p4), .val (.int p5), .val (.int x3), .val (.int v39_s0), .val (.int v60_s0), .val (.int v73_s0), .val (.int x79), .val (.int x89), .val (.int (p4 >>> ((9 : Int32) &&& 31))), .unset, .unset, .unset, .unset, .unset, .unset, .unset, .unset, .unset] [])) _
    subst hx96
    exact k)
  obtain ⟨x106, hx106⟩ : ∃ z : Int32, z = (((p5.toUInt32 >>> ((16 : Int32) &&& 31).toUInt32).toInt32) % v60_s0) := ⟨_, rfl⟩
  have pre108 : ∀ t, Steps p.tables e below (s₁.setTop (mkF m 108 #[.val (.int p0), .val (.int p1), .val (.int p2), .val (.int p3), .val (.int p4), .val (.int p5), .val (.int x3), .val (.int v39_s0), .val (.int v60_s0), .val (.int v73_s0), .val (.int x79), .val (.int x89), .val (.int x96), .val (.int x106), .unset, .unset, .unset, .unset, .unset, .unset, .unset, .unset] [])) t → Steps p.tables e below (s₁.setTop (entryFrame m #[(.int p0), (.int p1), (.int p2), (.int p3), (.int p4), (.int p5)] maxLocals)) t := fun t k => pre98 t (by
    show Steps p.tables e below (s₁.setTop (mkF m 98 #[.val (.int p0), .val (.int p1), .val (.int p2), .val (.int p3), .val (.int p4), .val (.int p5), .val (.int x3), .val (.int v39_s0), .val (.int v60_s0), .val (.int v73_s0), .val (.int x79), .val (.int x89), .val (.int x96), .unset, .unset, .unset, .unset, .unset, .unset, .unset, .unset, .unset] [])) t
    refine XS.iload X0.here hx rfl (hb hby at_98) rfl ?_
    show Steps p.tables e below (s₁.setTop (mkF m 100 #[.val (.int p0), .val (.int p1), .val (.int p2), .val (.int p3), .val (.int p4), .val (.int p5), .val (.int x3), .val (.int v39_s0), .val (.int v60_s0), .val (.int v73_s0), .val (.int x79), .val (.int x89), .val (.int x96), .unset, .unset, .unset, .unset, .unset, .unset, .unset, .unset, .unset] [(.int p5)])) _
    refine XS.bipush X0.here hx rfl (hb hby at_100) ?_
    show Steps p.tables e below (s₁.setTop (mkF m 102 #[.val (.int p0), .val (.int p1), .val (.int p2), .val (.int p3), .val (.int p4), .val (.int p5), .val (.int x3), .val (.int v39_s0), .val (.int v60_s0), .val (.int v73_s0), .val (.int x79), .val (.int x89), .val (.int x96), .unset, .unset, .unset, .unset, .unset, .unset, .unset, .unset, .unset] [(.int (16 : Int32)), (.int p5)])) _
    refine XS.iushr X0.here hx rfl (hb hby at_102) rfl ?_
    show Steps p.tables e below (s₁.setTop (mkF m 103 #[.val (.int p0), .val (.int p1), .val (.int p2), .val (.int p3), .val (.int p4), .val (.int p5), .val (.int x3), .val (.int v39_s0), .val (.int v60_s0), .val (.int v73_s0), .val (.int x79), .val (.int x89), .val (.int x96), .unset, .unset, .unset, .unset, .unset, .unset, .unset, .unset, .unset] [(.int ((p5.toUInt32 >>> ((16 : Int32) &&& 31).toUInt32).toInt32))])) _
    refine XS.iload X0.here hx rfl (hb hby at_103) rfl ?_
    show Steps p.tables e below (s₁.setTop (mkF m 105 #[.val (.int p0), .val (.int p1), .val (.int p2), .val (.int p3), .val (.int p4), .val (.int p5), .val (.int x3), .val (.int v39_s0), .val (.int v60_s0), .val (.int v73_s0), .val (.int x79), .val (.int x89), .val (.int x96), .unset, .unset, .unset, .unset, .unset, .unset, .unset, .unset, .unset] [(.int v60_s0), (.int ((p5.toUInt32 >>> ((16 : Int32) &&& 31).toUInt32).toInt32))])) _
    refine iremM X0 hx rfl (hb hby at_105) rfl hdn ?_
    show Steps p.tables e below (s₁.setTop (mkF m 106 #[.val (.int p0), .val (.int p1), .val (.int p2), .val (.int p3), .val (.int p4), .val (.int p5), .val (.int x3), .val (.int v39_s0), .val (.int v60_s0), .val (.int v73_s0), .val (.int x79), .val (.int x89), .val (.int x96), .unset, .unset, .unset, .unset, .unset, .unset, .unset, .unset, .unset] [(.int (((p5.toUInt32 >>> ((16 : Int32) &&& 31).toUInt32).toInt32) % v60_s0))])) _
    refine XS.istore X0.here hx rfl (hb hby at_106) rfl (l' := #[.val (.int p0), .val (.int p1), .val (.int p2), .val (.int p3), .val (.int p4), .val (.int p5), .val (.int x3), .val (.int v39_s0), .val (.int v60_s0), .val (.int v73_s0), .val (.int x79), .val (.int x89), .val (.int x96), .val (.int (((p5.toUInt32 >>> ((16 : Int32) &&& 31).toUInt32).toInt32) % v60_s0)), .unset, .unset, .unset, .unset, .unset, .unset, .unset, .unset]) rfl ?_
    show Steps p.tables e below (s₁.setTop (mkF m 108 #[.val (.int p0), .val (.int p1), .val (.int p2), .val (.int p3), .val (.int p4), .val (.int p5), .val (.int x3), .val (.int v39_s0), .val (.int v60_s0), .val (.int v73_s0), .val (.int x79), .val (.int x89), .val (.int x96), .val (.int (((p5.toUInt32 >>> ((16 : Int32) &&& 31).toUInt32).toInt32) % v60_s0)), .unset, .unset, .unset, .unset, .unset, .unset, .unset, .unset] [])) _
    subst hx106
    exact k)
  obtain ⟨x116, hx116⟩ : ∃ z : Int32, z = ((x79 * v60_s0) + x89) := ⟨_, rfl⟩
  have pre118 : ∀ t, Steps p.tables e below (s₁.setTop (mkF m 118 #[.val (.int p0), .val (.int p1), .val (.int p2), .val (.int p3), .val (.int p4), .val (.int p5), .val (.int x3), .val (.int v39_s0), .val (.int v60_s0), .val (.int v73_s0), .val (.int x79), .val (.int x89), .val (.int x96), .val (.int x106), .val (.int x116), .unset, .unset, .unset, .unset, .unset, .unset, .unset] [])) t → Steps p.tables e below (s₁.setTop (entryFrame m #[(.int p0), (.int p1), (.int p2), (.int p3), (.int p4), (.int p5)] maxLocals)) t := fun t k => pre108 t (by
    show Steps p.tables e below (s₁.setTop (mkF m 108 #[.val (.int p0), .val (.int p1), .val (.int p2), .val (.int p3), .val (.int p4), .val (.int p5), .val (.int x3), .val (.int v39_s0), .val (.int v60_s0), .val (.int v73_s0), .val (.int x79), .val (.int x89), .val (.int x96), .val (.int x106), .unset, .unset, .unset, .unset, .unset, .unset, .unset, .unset] [])) t
    refine XS.iload X0.here hx rfl (hb hby at_108) rfl ?_
    show Steps p.tables e below (s₁.setTop (mkF m 110 #[.val (.int p0), .val (.int p1), .val (.int p2), .val (.int p3), .val (.int p4), .val (.int p5), .val (.int x3), .val (.int v39_s0), .val (.int v60_s0), .val (.int v73_s0), .val (.int x79), .val (.int x89), .val (.int x96), .val (.int x106), .unset, .unset, .unset, .unset, .unset, .unset, .unset, .unset] [(.int x79)])) _
    refine XS.iload X0.here hx rfl (hb hby at_110) rfl ?_
    show Steps p.tables e below (s₁.setTop (mkF m 112 #[.val (.int p0), .val (.int p1), .val (.int p2), .val (.int p3), .val (.int p4), .val (.int p5), .val (.int x3), .val (.int v39_s0), .val (.int v60_s0), .val (.int v73_s0), .val (.int x79), .val (.int x89), .val (.int x96), .val (.int x106), .unset, .unset, .unset, .unset, .unset, .unset, .unset, .unset] [(.int v60_s0), (.int x79)])) _
    refine XS.imul X0.here hx rfl (hb hby at_112) rfl ?_
    show Steps p.tables e below (s₁.setTop (mkF m 113 #[.val (.int p0), .val (.int p1), .val (.int p2), .val (.int p3), .val (.int p4), .val (.int p5), .val (.int x3), .val (.int v39_s0), .val (.int v60_s0), .val (.int v73_s0), .val (.int x79), .val (.int x89), .val (.int x96), .val (.int x106), .unset, .unset, .unset, .unset, .unset, .unset, .unset, .unset] [(.int (x79 * v60_s0))])) _
    refine XS.iload X0.here hx rfl (hb hby at_113) rfl ?_
    show Steps p.tables e below (s₁.setTop (mkF m 115 #[.val (.int p0), .val (.int p1), .val (.int p2), .val (.int p3), .val (.int p4), .val (.int p5), .val (.int x3), .val (.int v39_s0), .val (.int v60_s0), .val (.int v73_s0), .val (.int x79), .val (.int x89), .val (.int x96), .val (.int x106), .unset, .unset, .unset, .unset, .unset, .unset, .unset, .unset] [(.int x89), (.int (x79 * v60_s0))])) _
    refine XS.iadd X0.here hx rfl (hb hby at_115) rfl ?_
    show Steps p.tables e below (s₁.setTop (mkF m 116 #[.val (.int p0), .val (.int p1), .val (.int p2), .val (.int p3), .val (.int p4), .val (.int p5), .val (.int x3), .val (.int v39_s0), .val (.int v60_s0), .val (.int v73_s0), .val (.int x79), .val (.int x89), .val (.int x96), .val (.int x106), .unset, .unset, .unset, .unset, .unset, .unset, .unset, .unset] [(.int ((x79 * v60_s0) + x89))])) _
    refine XS.istore X0.here hx rfl (hb hby at_116) rfl (l' := #[.val (.int p0), .val (.int p1), .val (.int p2), .val (.int p3), .val (.int p4), .val (.int p5), .val (.int x3), .val (.int v39_s0), .val (.int v60_s0), .val (.int v73_s0), .val (.int x79), .val (.int x89), .val (.int x96), .val (.int x106), .val (.int ((x79 * v60_s0) + x89)), .unset, .unset, .unset, .unset, .unset, .unset, .unset]) rfl ?_
    show Steps p.tables e below (s₁.setTop (mkF m 118 #[.val (.int p0), .val (.int p1), .val (.int p2), .val (.int p3), .val (.int p4), .val (.int p5), .val (.int x3), .val (.int v39_s0), .val (.int v60_s0), .val (.int v73_s0), .val (.int x79), .val (.int x89), .val (.int x96), .val (.int x106), .val (.int ((x79 * v60_s0) + x89)), .unset, .unset, .unset, .unset, .unset, .unset, .unset] [])) _
    subst hx116
    exact k)
  obtain ⟨x126, hx126⟩ : ∃ z : Int32, z = ((x96 * v60_s0) + x106) := ⟨_, rfl⟩
  have pre128 : ∀ t, Steps p.tables e below (s₁.setTop (mkF m 128 #[.val (.int p0), .val (.int p1), .val (.int p2), .val (.int p3), .val (.int p4), .val (.int p5), .val (.int x3), .val (.int v39_s0), .val (.int v60_s0), .val (.int v73_s0), .val (.int x79), .val (.int x89), .val (.int x96), .val (.int x106), .val (.int x116), .val (.int x126), .unset, .unset, .unset, .unset, .unset, .unset] [])) t → Steps p.tables e below (s₁.setTop (entryFrame m #[(.int p0), (.int p1), (.int p2), (.int p3), (.int p4), (.int p5)] maxLocals)) t := fun t k => pre118 t (by
    show Steps p.tables e below (s₁.setTop (mkF m 118 #[.val (.int p0), .val (.int p1), .val (.int p2), .val (.int p3), .val (.int p4), .val (.int p5), .val (.int x3), .val (.int v39_s0), .val (.int v60_s0), .val (.int v73_s0), .val (.int x79), .val (.int x89), .val (.int x96), .val (.int x106), .val (.int x116), .unset, .unset, .unset, .unset, .unset, .unset, .unset] [])) t
    refine XS.iload X0.here hx rfl (hb hby at_118) rfl ?_
    show Steps p.tables e below (s₁.setTop (mkF m 120 #[.val (.int p0), .val (.int p1), .val (.int p2), .val (.int p3), .val (.int p4), .val (.int p5), .val (.int x3), .val (.int v39_s0), .val (.int v60_s0), .val (.int v73_s0), .val (.int x79), .val (.int x89), .val (.int x96), .val (.int x106), .val (.int x116), .unset, .unset, .unset, .unset, .unset, .unset, .unset] [(.int x96)])) _
    refine XS.iload X0.here hx rfl (hb hby at_120) rfl ?_
    show Steps p.tables e below (s₁.setTop (mkF m 122 #[.val (.int p0), .val (.int p1), .val (.int p2), .val (.int p3), .val (.int p4), .val (.int p5), .val (.int x3), .val (.int v39_s0), .val (.int v60_s0), .val (.int v73_s0), .val (.int x79), .val (.int x89), .val (.int x96), .val (.int x106), .val (.int x116), .unset, .unset, .unset, .unset, .unset, .unset, .unset] [(.int v60_s0), (.int x96)])) _
    refine XS.imul X0.here hx rfl (hb hby at_122) rfl ?_
    show Steps p.tables e below (s₁.setTop (mkF m 123 #[.val (.int p0), .val (.int p1), .val (.int p2), .val (.int p3), .val (.int p4), .val (.int p5), .val (.int x3), .val (.int v39_s0), .val (.int v60_s0), .val (.int v73_s0), .val (.int x79), .val (.int x89), .val (.int x96), .val (.int x106), .val (.int x116), .unset, .unset, .unset, .unset, .unset, .unset, .unset] [(.int (x96 * v60_s0))])) _
    refine XS.iload X0.here hx rfl (hb hby at_123) rfl ?_
    show Steps p.tables e below (s₁.setTop (mkF m 125 #[.val (.int p0), .val (.int p1), .val (.int p2), .val (.int p3), .val (.int p4), .val (.int p5), .val (.int x3), .val (.int v39_s0), .val (.int v60_s0), .val (.int v73_s0), .val (.int x79), .val (.int x89), .val (.int x96), .val (.int x106), .val (.int x116), .unset, .unset, .unset, .unset, .unset, .unset, .unset] [(.int x106), (.int (x96 * v60_s0))])) _
    refine XS.iadd X0.here hx rfl (hb hby at_125) rfl ?_
    show Steps p.tables e below (s₁.setTop (mkF m 126 #[.val (.int p0), .val (.int p1), .val (.int p2), .val (.int p3), .val (.int p4), .val (.int p5), .val (.int x3), .val (.int v39_s0), .val (.int v60_s0), .val (.int v73_s0), .val (.int x79), .val (.int x89), .val (.int x96), .val (.int x106), .val (.int x116), .unset, .unset, .unset, .unset, .unset, .unset, .unset] [(.int ((x96 * v60_s0) + x106))])) _
    refine XS.istore X0.here hx rfl (hb hby at_126) rfl (l' := #[.val (.int p0), .val (.int p1), .val (.int p2), .val (.int p3), .val (.int p4), .val (.int p5), .val (.int x3), .val (.int v39_s0), .val (.int v60_s0), .val (.int v73_s0), .val (.int x79), .val (.int x89), .val (.int x96), .val (.int x106), .val (.int x116), .val (.int ((x96 * v60_s0) + x106)), .unset, .unset, .unset, .unset, .unset, .unset]) rfl ?_
    show Steps p.tables e below (s₁.setTop (mkF m 128 #[.val (.int p0), .val (.int p1), .val (.int p2), .val (.int p3), .val (.int p4), .val (.int p5), .val (.int x3), .val (.int v39_s0), .val (.int v60_s0), .val (.int v73_s0), .val (.int x79), .val (.int x89), .val (.int x96), .val (.int x106), .val (.int x116), .val (.int ((x96 * v60_s0) + x106)), .unset, .unset, .unset, .unset, .unset, .unset] [])) _
    subst hx126
    exact k)
  obtain ⟨x131, hx131⟩ : ∃ z : UInt64, z = (FP.i2d x116) := ⟨_, rfl⟩
  have pre133 : ∀ t, Steps p.tables e below (s₁.setTop (mkF m 133 #[.val (.int p0), .val (.int p1), .val (.int p2), .val (.int p3), .val (.int p4), .val (.int p5), .val (.int x3), .val (.int v39_s0), .val (.int v60_s0), .val (.int v73_s0), .val (.int x79), .val (.int x89), .val (.int x96), .val (.int x106), .val (.int x116), .val (.int x126), .val (.double x131), .second, .unset, .unset, .unset, .unset] [])) t → Steps p.tables e below (s₁.setTop (entryFrame m #[(.int p0), (.int p1), (.int p2), (.int p3), (.int p4), (.int p5)] maxLocals)) t := fun t k => pre128 t (by
    show Steps p.tables e below (s₁.setTop (mkF m 128 #[.val (.int p0), .val (.int p1), .val (.int p2), .val (.int p3), .val (.int p4), .val (.int p5), .val (.int x3), .val (.int v39_s0), .val (.int v60_s0), .val (.int v73_s0), .val (.int x79), .val (.int x89), .val (.int x96), .val (.int x106), .val (.int x116), .val (.int x126), .unset, .unset, .unset, .unset, .unset, .unset] [])) t
    refine XS.iload X0.here hx rfl (hb hby at_128) rfl ?_
    show Steps p.tables e below (s₁.setTop (mkF m 130 #[.val (.int p0), .val (.int p1), .val (.int p2), .val (.int p3), .val (.int p4), .val (.int p5), .val (.int x3), .val (.int v39_s0), .val (.int v60_s0), .val (.int v73_s0), .val (.int x79), .val (.int x89), .val (.int x96), .val (.int x106), .val (.int x116), .val (.int x126), .unset, .unset, .unset, .unset, .unset, .unset] [(.int x116)])) _
    refine own_i2d X0 hx rfl (hb hby at_130) rfl ?_
    show Steps p.tables e below (s₁.setTop (mkF m 131 #[.val (.int p0), .val (.int p1), .val (.int p2), .val (.int p3), .val (.int p4), .val (.int p5), .val (.int x3), .val (.int v39_s0), .val (.int v60_s0), .val (.int v73_s0), .val (.int x79), .val (.int x89), .val (.int x96), .val (.int x106), .val (.int x116), .val (.int x126), .unset, .unset, .unset, .unset, .unset, .unset] [(.double (FP.i2d x116))])) _
    refine own_dstore X0 hx rfl (hb hby at_131) rfl (l' := #[.val (.int p0), .val (.int p1), .val (.int p2), .val (.int p3), .val (.int p4), .val (.int p5), .val (.int x3), .val (.int v39_s0), .val (.int v60_s0), .val (.int v73_s0), .val (.int x79), .val (.int x89), .val (.int x96), .val (.int x106), .val (.int x116), .val (.int x126), .val (.double (FP.i2d x116)), .second, .unset, .unset, .unset, .unset]) rfl ?_
    show Steps p.tables e below (s₁.setTop (mkF m 133 #[.val (.int p0), .val (.int p1), .val (.int p2), .val (.int p3), .val (.int p4), .val (.int p5), .val (.int x3), .val (.int v39_s0), .val (.int v60_s0), .val (.int v73_s0), .val (.int x79), .val (.int x89), .val (.int x96), .val (.int x106), .val (.int x116), .val (.int x126), .val (.double (FP.i2d x116)), .second, .unset, .unset, .unset, .unset] [])) _
    subst hx131
    exact k)
  obtain ⟨x136, hx136⟩ : ∃ z : UInt64, z = (FP.i2d x126) := ⟨_, rfl⟩
  have pre138 : ∀ t, Steps p.tables e below (s₁.setTop (mkF m 138 #[.val (.int p0), .val (.int p1), .val (.int p2), .val (.int p3), .val (.int p4), .val (.int p5), .val (.int x3), .val (.int v39_s0), .val (.int v60_s0), .val (.int v73_s0), .val (.int x79), .val (.int x89), .val (.int x96), .val (.int x106), .val (.int x116), .val (.int x126), .val (.double x131), .second, .val (.double x136), .second, .unset, .unset] [])) t → Steps p.tables e below (s₁.setTop (entryFrame m #[(.int p0), (.int p1), (.int p2), (.int p3), (.int p4), (.int p5)] maxLocals)) t := fun t k => pre133 t (by
    show Steps p.tables e below (s₁.setTop (mkF m 133 #[.val (.int p0), .val (.int p1), .val (.int p2), .val (.int p3), .val (.int p4), .val (.int p5), .val (.int x3), .val (.int v39_s0), .val (.int v60_s0), .val (.int v73_s0), .val (.int x79), .val (.int x89), .val (.int x96), .val (.int x106), .val (.int x116), .val (.int x126), .val (.double x131), .second, .unset, .unset, .unset, .unset] [])) t
    refine XS.iload X0.here hx rfl (hb hby at_133) rfl ?_
    show Steps p.tables e below (s₁.setTop (mkF m 135 #[.val (.int p0), .val (.int p1), .val (.int p2), .val (.int p3), .val (.int p4), .val (.int p5), .val (.int x3), .val (.int v39_s0), .val (.int v60_s0), .val (.int v73_s0), .val (.int x79), .val (.int x89), .val (.int x96), .val (.int x106), .val (.int x116), .val (.int x126), .val (.double x131), .second, .unset, .unset, .unset, .unset] [(.int x126)])) _
    refine own_i2d X0 hx rfl (hb hby at_135) rfl ?_
    show Steps p.tables e below (s₁.setTop (mkF m 136 #[.val (.int p0), .val (.int p1), .val (.int p2), .val (.int p3), .val (.int p4), .val (.int p5), .val (.int x3), .val (.int v39_s0), .val (.int v60_s0), .val (.int v73_s0), .val (.int x79), .val (.int x89), .val (.int x96), .val (.int x106), .val (.int x116), .val (.int x126), .val (.double x131), .second, .unset, .unset, .unset, .unset] [(.double (FP.i2d x126))])) _
    refine own_dstore X0 hx rfl (hb hby at_136) rfl (l' := #[.val (.int p0), .val (.int p1), .val (.int p2), .val (.int p3), .val (.int p4), .val (.int p5), .val (.int x3), .val (.int v39_s0), .val (.int v60_s0), .val (.int v73_s0), .val (.int x79), .val (.int x89), .val (.int x96), .val (.int x106), .val (.int x116), .val (.int x126), .val (.double x131), .second, .val (.double (FP.i2d x126)), .second, .unset, .unset]) rfl ?_
    show Steps p.tables e below (s₁.setTop (mkF m 138 #[.val (.int p0), .val (.int p1), .val (.int p2), .val (.int p3), .val (.int p4), .val (.int p5), .val (.int x3), .val (.int v39_s0), .val (.int v60_s0), .val (.int v73_s0), .val (.int x79), .val (.int x89), .val (.int x96), .val (.int x106), .val (.int x116), .val (.int x126), .val (.double x131), .second, .val (.double (FP.i2d x126)), .second, .unset, .unset] [])) _
    subst hx136
    exact k)
  obtain ⟨T138, h138, X138, e138, E138, A138, D138, -, st138⟩ := newO X0 hx hZ hown (hw _ (List.mem_of_getElem? (i := 1) rfl)) (hw _ (List.mem_of_getElem? (i := 2) rfl)) (hw _ (List.mem_of_getElem? (i := 3) rfl)) e0 (g := (mkF m 138 #[.val (.int p0), .val (.int p1), .val (.int p2), .val (.int p3), .val (.int p4), .val (.int p5), .val (.int x3), .val (.int v39_s0), .val (.int v60_s0), .val (.int v73_s0), .val (.int x79), .val (.int x89), .val (.int x96), .val (.int x106), .val (.int x116), .val (.int x126), .val (.double x131), .second, .val (.double x136), .second, .unset, .unset] [])) rfl (hb hby at_138) (by decide) (by decide)
  obtain ⟨b138, g138⟩ : ∃ z, z = h0.size := ⟨_, rfl⟩
  rw [← g138] at A138 D138 st138
  have g_b138 : n0 ≤ b138 := Nat.le_trans Z0 (Nat.le_of_eq g138.symm)
  have ZS138 : n0 ≤ h138.size := Nat.le_trans Z0 E138.1
  have F_code_b138 : Fld Z h138 b138 "com/example/kindred/kindred/NullFieldRule" "code" "C" (.int (0 : Int32)) := D138 (Or.inr (hw _ (List.mem_of_getElem? (i := 16) rfl))) (ty := .char) (by decide)
  have F_divisor_b138 : Fld Z h138 b138 "com/example/kindred/kindred/NullFieldRule" "divisor" "I" (.int (0 : Int32)) := D138 (Or.inr (hw _ (List.mem_of_getElem? (i := 18) rfl))) (ty := .int) (by decide)
  have pre141 : ∀ t, Steps p.tables e below (T138.setTop (mkF m 141 #[.val (.int p0), .val (.int p1), .val (.int p2), .val (.int p3), .val (.int p4), .val (.int p5), .val (.int x3), .val (.int v39_s0), .val (.int v60_s0), .val (.int v73_s0), .val (.int x79), .val (.int x89), .val (.int x96), .val (.int x106), .val (.int x116), .val (.int x126), .val (.double x131), .second, .val (.double x136), .second, .unset, .unset] [(.ref b138)])) t → Steps p.tables e below (s₁.setTop (entryFrame m #[(.int p0), (.int p1), (.int p2), (.int p3), (.int p4), (.int p5)] maxLocals)) t := fun t k => pre138 t (st138 _ k)
  have pre146 : ∀ t, Steps p.tables e below (T138.setTop (mkF m 146 #[.val (.int p0), .val (.int p1), .val (.int p2), .val (.int p3), .val (.int p4), .val (.int p5), .val (.int x3), .val (.int v39_s0), .val (.int v60_s0), .val (.int v73_s0), .val (.int x79), .val (.int x89), .val (.int x96), .val (.int x106), .val (.int x116), .val (.int x126), .val (.double x131), .second, .val (.double x136), .second, .unset, .unset] [(.int v60_s0), (.int v39_s0), (.ref b138), (.ref b138)])) t → Steps p.tables e below (s₁.setTop (entryFrame m #[(.int p0), (.int p1), (.int p2), (.int p3), (.int p4), (.int p5)] maxLocals)) t := fun t k => pre141 t (by
    show Steps p.tables e below (T138.setTop (mkF m 141 #[.val (.int p0), .val (.int p1), .val (.int p2), .val (.int p3), .val (.int p4), .val (.int p5), .val (.int x3), .val (.int v39_s0), .val (.int v60_s0), .val (.int v73_s0), .val (.int x79), .val (.int x89), .val (.int x96), .val (.int x106), .val (.int x116), .val (.int x126), .val (.double x131), .second, .val (.double x136), .second, .unset, .unset] [(.ref b138)])) t
    refine XS.dup X138.here hx rfl (hb hby at_141) rfl rfl ?_
    show Steps p.tables e below (T138.setTop (mkF m 142 #[.val (.int p0), .val (.int p1), .val (.int p2), .val (.int p3), .val (.int p4), .val (.int p5), .val (.int x3), .val (.int v39_s0), .val (.int v60_s0), .val (.int v73_s0), .val (.int x79), .val (.int x89), .val (.int x96), .val (.int x106), .val (.int x116), .val (.int x126), .val (.double x131), .second, .val (.double x136), .second, .unset, .unset] [(.ref b138), (.ref b138)])) _
    refine XS.iload X138.here hx rfl (hb hby at_142) rfl ?_
    show Steps p.tables e below (T138.setTop (mkF m 144 #[.val (.int p0), .val (.int p1), .val (.int p2), .val (.int p3), .val (.int p4), .val (.int p5), .val (.int x3), .val (.int v39_s0), .val (.int v60_s0), .val (.int v73_s0), .val (.int x79), .val (.int x89), .val (.int x96), .val (.int x106), .val (.int x116), .val (.int x126), .val (.double x131), .second, .val (.double x136), .second, .unset, .unset] [(.int v39_s0), (.ref b138), (.ref b138)])) _
    refine XS.iload X138.here hx rfl (hb hby at_144) rfl ?_
    show Steps p.tables e below (T138.setTop (mkF m 146 #[.val (.int p0), .val (.int p1), .val (.int p2), .val (.int p3), .val (.int p4), .val (.int p5), .val (.int x3), .val (.int v39_s0), .val (.int v60_s0), .val (.int v73_s0), .val (.int x79), .val (.int x89), .val (.int x96), .val (.int x106), .val (.int x116), .val (.int x126), .val (.double x131), .second, .val (.double x136), .second, .unset, .unset] [(.int v60_s0), (.int v39_s0), (.ref b138), (.ref b138)])) _
    exact k)
  obtain ⟨_, _, ⟨T146, L146, k146, n146⟩, -, X146, ⟨Lc146, hQ146, l146, y146, z146⟩, st146⟩ := X138.specialBack hx (y := (⟨"com/example/kindred/kindred/NullFieldRule", "<init>", "(CI)V"⟩ : MethodName)) rfl hown (mvT hZ (hw _ (List.mem_of_getElem? (i := 4) rfl))) (mvT hZ (hw _ (List.mem_of_getElem? (i := 5) rfl))) (mvT hZ (hw _ (List.mem_of_getElem? (i := 6) rfl))) (by decide) (backOf (W := 1) (rmH l Z a0 hw [] b138 v39_s0 v60_s0  h138 n0 ZS138 g_b138 A138 F_code_b138 F_divisor_b138) hZ (hw _ (List.mem_of_getElem? (i := 6) rfl)) (hw _ (List.mem_of_getElem? (i := 3) rfl)) (by decide) (by decide)) (g := (mkF m 146 #[.val (.int p0), .val (.int p1), .val (.int p2), .val (.int p3), .val (.int p4), .val (.int p5), .val (.int x3), .val (.int v39_s0), .val (.int v60_s0), .val (.int v73_s0), .val (.int x79), .val (.int x89), .val (.int x96), .val (.int x106), .val (.int x116), .val (.int x126), .val (.double x131), .second, .val (.double x136), .second, .unset, .unset] [(.int v60_s0), (.int v39_s0), (.ref b138), (.ref b138)])) rfl (by rw [hml]; rfl) (Steps.refl _) (a := b138) (argsL := [(.int v39_s0), (.int v60_s0)]) (rest := [(.ref b138)]) (lenOf pd0_0 rfl) rfl (by show 2 * 0 + _ ≤ _; exact Nat.le_of_eq rfl) (hb hby at_146) (fun _ _ => ⟨rfl, e138, (by decide : 1 + 0 ≤ _), (by decide : 2 + 0 ≤ _)⟩)
  dsimp only [Pt.U, Pt.locs, Pt.cells, Pt.slots] at X146 l146 y146 z146 st146 hQ146
  subst l146 y146 z146
  obtain ⟨rfl, N146q, K146, Eh146, Fa146, Fb146⟩ := hQ146
  have ZS146 : n0 ≤ T146.heap.size := Nat.le_trans ZS138 K146.1
  have N146 := Fr.app N0 N146q
  have pre149 : ∀ t, Steps p.tables e below (T146.setTop (mkF m 149 #[.val (.int p0), .val (.int p1), .val (.int p2), .val (.int p3), .val (.int p4), .val (.int p5), .val (.int x3), .val (.int v39_s0), .val (.int v60_s0), .val (.int v73_s0), .val (.int x79), .val (.int x89), .val (.int x96), .val (.int x106), .val (.int x116), .val (.int x126), .val (.double x131), .second, .val (.double x136), .second, .unset, .unset] [(.ref b138)])) t → Steps p.tables e below (s₁.setTop (entryFrame m #[(.int p0), (.int p1), (.int p2), (.int p3), (.int p4), (.int p5)] maxLocals)) t := fun t k => pre146 t (st146.trans k)
  have pre155 : ∀ t, Steps p.tables e below (T146.setTop (mkF m 155 #[.val (.int p0), .val (.int p1), .val (.int p2), .val (.int p3), .val (.int p4), .val (.int p5), .val (.int x3), .val (.int v39_s0), .val (.int v60_s0), .val (.int v73_s0), .val (.int x79), .val (.int x89), .val (.int x96), .val (.int x106), .val (.int x116), .val (.int x126), .val (.double x131), .second, .val (.double x136), .second, .unset, .unset] [(.double x136), (.double x131), (.int v73_s0), (.ref b138)])) t → Steps p.tables e below (s₁.setTop (entryFrame m #[(.int p0), (.int p1), (.int p2), (.int p3), (.int p4), (.int p5)] maxLocals)) t := fun t k => pre149 t (by
    show Steps p.tables e below (T146.setTop (mkF m 149 #[.val (.int p0), .val (.int p1), .val (.int p2), .val (.int p3), .val (.int p4), .val (.int p5), .val (.int x3), .val (.int v39_s0), .val (.int v60_s0), .val (.int v73_s0), .val (.int x79), .val (.int x89), .val (.int x96), .val (.int x106), .val (.int x116), .val (.int x126), .val (.double x131), .second, .val (.double x136), .second, .unset, .unset] [(.ref b138)])) t
    refine XS.iload X146.here hx rfl (hb hby at_149) rfl ?_
    show Steps p.tables e below (T146.setTop (mkF m 151 #[.val (.int p0), .val (.int p1), .val (.int p2), .val (.int p3), .val (.int p4), .val (.int p5), .val (.int x3), .val (.int v39_s0), .val (.int v60_s0), .val (.int v73_s0), .val (.int x79), .val (.int x89), .val (.int x96), .val (.int x106), .val (.int x116), .val (.int x126), .val (.double x131), .second, .val (.double x136), .second, .unset, .unset] [(.int v73_s0), (.ref b138)])) _
    refine own_dload X146 hx rfl (hb hby at_151) rfl ?_
    show Steps p.tables e below (T146.setTop (mkF m 153 #[.val (.int p0), .val (.int p1), .val (.int p2), .val (.int p3), .val (.int p4), .val (.int p5), .val (.int x3), .val (.int v39_s0), .val (.int v60_s0), .val (.int v73_s0), .val (.int x79), .val (.int x89), .val (.int x96), .val (.int x106), .val (.int x116), .val (.int x126), .val (.double x131), .second, .val (.double x136), .second, .unset, .unset] [(.double x131), (.int v73_s0), (.ref b138)])) _
    refine own_dload X146 hx rfl (hb hby at_153) rfl ?_
    show Steps p.tables e below (T146.setTop (mkF m 155 #[.val (.int p0), .val (.int p1), .val (.int p2), .val (.int p3), .val (.int p4), .val (.int p5), .val (.int x3), .val (.int v39_s0), .val (.int v60_s0), .val (.int v73_s0), .val (.int x79), .val (.int x89), .val (.int x96), .val (.int x106), .val (.int x116), .val (.int x126), .val (.double x131), .second, .val (.double x136), .second, .unset, .unset] [(.double x136), (.double x131), (.int v73_s0), (.ref b138)])) _
    exact k)
  obtain ⟨cq155, kq155, q155a, q155b, q155c⟩ := isOf hZ rfl Eh146
  obtain ⟨_, _, ⟨T155, L155, k155, n155⟩, -, X155, ⟨Lc155, hQ155, l155, y155, z155⟩, st155⟩ := X146.virtualBack hx (y := (⟨"com/example/kindred/kindred/NullFieldRule", "weigh", "(ZDD)D"⟩ : MethodName)) (z := (⟨"com/example/kindred/kindred/NullFieldRule", "weigh", "(ZDD)D"⟩ : MethodName)) hown (mvT hZ (hw _ (List.mem_of_getElem? (i := 19) rfl))) (mvT hZ (hw _ (List.mem_of_getElem? (i := 20) rfl))) (notFace_of_selects (args := #[]) (mvT hZ (hw _ (List.mem_of_getElem? (i := 22) rfl)))) (mvT hZ (hw _ (List.mem_of_getElem? (i := 22) rfl))) (mvT hZ (hw _ (List.mem_of_getElem? (i := 21) rfl))) (by decide) (backOf (W := 0) (rmW l Z a0 hw [] b138 v73_s0 x131 x136 (nar .char v39_s0) v60_s0 T146.heap n0 ZS146 Fa146 Fb146 (by rw [hx131]; exact own_q hdn) (by rw [hx136]; exact own_q hdn)) hZ (hw _ (List.mem_of_getElem? (i := 23) rfl)) (hw _ (List.mem_of_getElem? (i := 3) rfl)) (by decide) (by decide)) q155a q155c (g := (mkF m 155 #[.val (.int p0), .val (.int p1), .val (.int p2), .val (.int p3), .val (.int p4), .val (.int p5), .val (.int x3), .val (.int v39_s0), .val (.int v60_s0), .val (.int v73_s0), .val (.int x79), .val (.int x89), .val (.int x96), .val (.int x106), .val (.int x116), .val (.int x126), .val (.double x131), .second, .val (.double x136), .second, .unset, .unset] [(.double x136), (.double x131), (.int v73_s0), (.ref b138)])) rfl (by rw [hml]; rfl) (Steps.refl _) (argsL := [(.int v73_s0), (.double x131), (.double x136)]) (rest := []) (lenOf pd0_1 rfl) rfl (by show 2 * 0 + _ ≤ _; exact Nat.le_of_eq rfl) (hb hby at_155) (fun _ _ => ⟨rfl, rfl, (by decide : 1 + 0 ≤ _), (by decide : 2 + 0 ≤ _)⟩)
  dsimp only [Pt.U, Pt.locs, Pt.cells, Pt.slots] at X155 l155 y155 z155 st155 hQ155
  subst l155 y155 z155
  obtain ⟨rfl, N155q, e155⟩ := hQ155
  have N155 := Fr.app N146 N155q
  have pre158 : ∀ t, Steps p.tables e below (T155.setTop (mkF m 158 #[.val (.int p0), .val (.int p1), .val (.int p2), .val (.int p3), .val (.int p4), .val (.int p5), .val (.int x3), .val (.int v39_s0), .val (.int v60_s0), .val (.int v73_s0), .val (.int x79), .val (.int x89), .val (.int x96), .val (.int x106), .val (.int x116), .val (.int x126), .val (.double x131), .second, .val (.double x136), .second, .unset, .unset] [(.double (own_w (nar .char v39_s0) v60_s0 v73_s0 x131 x136))])) t → Steps p.tables e below (s₁.setTop (entryFrame m #[(.int p0), (.int p1), (.int p2), (.int p3), (.int p4), (.int p5)] maxLocals)) t := fun t k => pre155 t (st155.trans k)
  obtain ⟨x158, hx158⟩ : ∃ z : UInt64, z = (own_w (nar .char v39_s0) v60_s0 v73_s0 x131 x136) := ⟨_, rfl⟩
  have pre160 : ∀ t, Steps p.tables e below (T155.setTop (mkF m 160 #[.val (.int p0), .val (.int p1), .val (.int p2), .val (.int p3), .val (.int p4), .val (.int p5), .val (.int x3), .val (.int v39_s0), .val (.int v60_s0), .val (.int v73_s0), .val (.int x79), .val (.int x89), .val (.int x96), .val (.int x106), .val (.int x116), .val (.int x126), .val (.double x131), .second, .val (.double x136), .second, .val (.double x158), .second] [])) t → Steps p.tables e below (s₁.setTop (entryFrame m #[(.int p0), (.int p1), (.int p2), (.int p3), (.int p4), (.int p5)] maxLocals)) t := fun t k => pre158 t (by
    show Steps p.tables e below (T155.setTop (mkF m 158 #[.val (.int p0), .val (.int p1), .val (.int p2), .val (.int p3), .val (.int p4), .val (.int p5), .val (.int x3), .val (.int v39_s0), .val (.int v60_s0), .val (.int v73_s0), .val (.int x79), .val (.int x89), .val (.int x96), .val (.int x106), .val (.int x116), .val (.int x126), .val (.double x131), .second, .val (.double x136), .second, .unset, .unset] [(.double (own_w (nar .char v39_s0) v60_s0 v73_s0 x131 x136))])) t
    refine own_dstore X155 hx rfl (hb hby at_158) rfl (l' := #[.val (.int p0), .val (.int p1), .val (.int p2), .val (.int p3), .val (.int p4), .val (.int p5), .val (.int x3), .val (.int v39_s0), .val (.int v60_s0), .val (.int v73_s0), .val (.int x79), .val (.int x89), .val (.int x96), .val (.int x106), .val (.int x116), .val (.int x126), .val (.double x131), .second, .val (.double x136), .second, .val (.double (own_w (nar .char v39_s0) v60_s0 v73_s0 x131 x136)), .second]) rfl ?_
    show Steps p.tables e below (T155.setTop (mkF m 160 #[.val (.int p0), .val (.int p1), .val (.int p2), .val (.int p3), .val (.int p4), .val (.int p5), .val (.int x3), .val (.int v39_s0), .val (.int v60_s0), .val (.int v73_s0), .val (.int x79), .val (.int x89), .val (.int x96), .val (.int x106), .val (.int x116), .val (.int x126), .val (.double x131), .second, .val (.double x136), .second, .val (.double (own_w (nar .char v39_s0) v60_s0 v73_s0 x131 x136)), .second] [])) _
    subst hx158
    exact k)
  have pre162 : ∀ t, Steps p.tables e below (T155.setTop (mkF m 162 #[.val (.int p0), .val (.int p1), .val (.int p2), .val (.int p3), .val (.int p4), .val (.int p5), .val (.int x3), .val (.int v39_s0), .val (.int v60_s0), .val (.int v73_s0), .val (.int x79), .val (.int x89), .val (.int x96), .val (.int x106), .val (.int x116), .val (.int x126), .val (.double x131), .second, .val (.double x136), .second, .val (.double x158), .second] [(.int x3)])) t → Steps p.tables e below (s₁.setTop (entryFrame m #[(.int p0), (.int p1), (.int p2), (.int p3), (.int p4), (.int p5)] maxLocals)) t := fun t k => pre160 t (by
    show Steps p.tables e below (T155.setTop (mkF m 160 #[.val (.int p0), .val (.int p1), .val (.int p2), .val (.int p3), .val (.int p4), .val (.int p5), .val (.int x3), .val (.int v39_s0), .val (.int v60_s0), .val (.int v73_s0), .val (.int x79), .val (.int x89), .val (.int x96), .val (.int x106), .val (.int x116), .val (.int x126), .val (.double x131), .second, .val (.double x136), .second, .val (.double x158), .second] [])) t
    refine XS.iload X155.here hx rfl (hb hby at_160) rfl ?_
    show Steps p.tables e below (T155.setTop (mkF m 162 #[.val (.int p0), .val (.int p1), .val (.int p2), .val (.int p3), .val (.int p4), .val (.int p5), .val (.int x3), .val (.int v39_s0), .val (.int v60_s0), .val (.int v73_s0), .val (.int x79), .val (.int x89), .val (.int x96), .val (.int x106), .val (.int x116), .val (.int x126), .val (.double x131), .second, .val (.double x136), .second, .val (.double x158), .second] [(.int x3)])) _
    exact k)
  by_cases hc162 : x3 = (0 : Int32)
  · -- x3 = (0 : Int32)
    have pre165 : ∀ t, Steps p.tables e below (T155.setTop (mkF m 165 #[.val (.int p0), .val (.int p1), .val (.int p2), .val (.int p3), .val (.int p4), .val (.int p5), .val (.int x3), .val (.int v39_s0), .val (.int v60_s0), .val (.int v73_s0), .val (.int x79), .val (.int x89), .val (.int x96), .val (.int x106), .val (.int x116), .val (.int x126), .val (.double x131), .second, .val (.double x136), .second, .val (.double x158), .second] [])) t → Steps p.tables e below (s₁.setTop (entryFrame m #[(.int p0), (.int p1), (.int p2), (.int p3), (.int p4), (.int p5)] maxLocals)) t := fun t k => pre162 t (by
      show Steps p.tables e below (T155.setTop (mkF m 162 #[.val (.int p0), .val (.int p1), .val (.int p2), .val (.int p3), .val (.int p4), .val (.int p5), .val (.int x3), .val (.int v39_s0), .val (.int v60_s0), .val (.int v73_s0), .val (.int x79), .val (.int x89), .val (.int x96), .val (.int x106), .val (.int x116), .val (.int x126), .val (.double x131), .second, .val (.double x136), .second, .val (.double x158), .second] [(.int x3)])) t
      refine XS.ifNo X155.here hx rfl (hb hby at_162) rfl ((if0 _ _).trans (teq hc162).2) ?_
      exact k)
    have pre169 : ∀ t, Steps p.tables e below (T155.setTop (mkF m 169 #[.val (.int p0), .val (.int p1), .val (.int p2), .val (.int p3), .val (.int p4), .val (.int p5), .val (.int x3), .val (.int v39_s0), .val (.int v60_s0), .val (.int v73_s0), .val (.int x79), .val (.int x89), .val (.int x96), .val (.int x106), .val (.int x116), .val (.int x126), .val (.double x131), .second, .val (.double x136), .second, .val (.double x158), .second] [(.int (cmpValue (FP.dcmp x158 FP.dconst0) .l))])) t → Steps p.tables e below (s₁.setTop (entryFrame m #[(.int p0), (.int p1), (.int p2), (.int p3), (.int p4), (.int p5)] maxLocals)) t := fun t k => pre165 t (by
      show Steps p.tables e below (T155.setTop (mkF m 165 #[.val (.int p0), .val (.int p1), .val (.int p2), .val (.int p3), .val (.int p4), .val (.int p5), .val (.int x3), .val (.int v39_s0), .val (.int v60_s0), .val (.int v73_s0), .val (.int x79), .val (.int x89), .val (.int x96), .val (.int x106), .val (.int x116), .val (.int x126), .val (.double x131), .second, .val (.double x136), .second, .val (.double x158), .second] [])) t
      refine own_dload X155 hx rfl (hb hby at_165) rfl ?_
      show Steps p.tables e below (T155.setTop (mkF m 167 #[.val (.int p0), .val (.int p1), .val (.int p2), .val (.int p3), .val (.int p4), .val (.int p5), .val (.int x3), .val (.int v39_s0), .val (.int v60_s0), .val (.int v73_s0), .val (.int x79), .val (.int x89), .val (.int x96), .val (.int x106), .val (.int x116), .val (.int x126), .val (.double x131), .second, .val (.double x136), .second, .val (.double x158), .second] [(.double x158)])) _
      refine own_dconst0 X155 hx rfl (hb hby at_167) ?_
      show Steps p.tables e below (T155.setTop (mkF m 168 #[.val (.int p0), .val (.int p1), .val (.int p2), .val (.int p3), .val (.int p4), .val (.int p5), .val (.int x3), .val (.int v39_s0), .val (.int v60_s0), .val (.int v73_s0), .val (.int x79), .val (.int x89), .val (.int x96), .val (.int x106), .val (.int x116), .val (.int x126), .val (.double x131), .second, .val (.double x136), .second, .val (.double x158), .second] [(.double FP.dconst0), (.double x158)])) _
      refine own_dcmp X155 hx rfl (hb hby at_168) rfl ?_
      show Steps p.tables e below (T155.setTop (mkF m 169 #[.val (.int p0), .val (.int p1), .val (.int p2), .val (.int p3), .val (.int p4), .val (.int p5), .val (.int x3), .val (.int v39_s0), .val (.int v60_s0), .val (.int v73_s0), .val (.int x79), .val (.int x89), .val (.int x96), .val (.int x106), .val (.int x116), .val (.int x126), .val (.double x131), .second, .val (.double x136), .second, .val (.double x158), .second] [(.int (cmpValue (FP.dcmp x158 FP.dconst0) .l))])) _
      exact k)
    obtain ⟨v177_s0, hv177_s0⟩ : ∃ z : Int32, z = if ((cmpValue (FP.dcmp x158 FP.dconst0) .l) = (0 : Int32)) then (1 : Int32) else 0 := ⟨_, rfl⟩
    have pre177 : ∀ t, Steps p.tables e below (T155.setTop (mkF m 177 #[.val (.int p0), .val (.int p1), .val (.int p2), .val (.int p3), .val (.int p4), .val (.int p5), .val (.int x3), .val (.int v39_s0), .val (.int v60_s0), .val (.int v73_s0), .val (.int x79), .val (.int x89), .val (.int x96), .val (.int x106), .val (.int x116), .val (.int x126), .val (.double x131), .second, .val (.double x136), .second, .val (.double x158), .second] [(.int v177_s0)])) t → Steps p.tables e below (s₁.setTop (entryFrame m #[(.int p0), (.int p1), (.int p2), (.int p3), (.int p4), (.int p5)] maxLocals)) t := by
      by_cases hc169 : (cmpValue (FP.dcmp x158 FP.dconst0) .l) = (0 : Int32)
      · -- (cmpValue (FP.dcmp x158 FP.dconst0) .l) = (0 : Int32)
        have pre172 : ∀ t, Steps p.tables e below (T155.setTop (mkF m 172 #[.val (.int p0), .val (.int p1), .val (.int p2), .val (.int p3), .val (.int p4), .val (.int p5), .val (.int x3), .val (.int v39_s0), .val (.int v60_s0), .val (.int v73_s0), .val (.int x79), .val (.int x89), .val (.int x96), .val (.int x106), .val (.int x116), .val (.int x126), .val (.double x131), .second, .val (.double x136), .second, .val (.double x158), .second] [])) t → Steps p.tables e below (s₁.setTop (entryFrame m #[(.int p0), (.int p1), (.int p2), (.int p3), (.int p4), (.int p5)] maxLocals)) t := fun t k => pre169 t (by
          show Steps p.tables e below (T155.setTop (mkF m 169 #[.val (.int p0), .val (.int p1), .val (.int p2), .val (.int p3), .val (.int p4), .val (.int p5), .val (.int x3), .val (.int v39_s0), .val (.int v60_s0), .val (.int v73_s0), .val (.int x79), .val (.int x89), .val (.int x96), .val (.int x106), .val (.int x116), .val (.int x126), .val (.double x131), .second, .val (.double x136), .second, .val (.double x158), .second] [(.int (cmpValue (FP.dcmp x158 FP.dconst0) .l))])) t
          refine XS.ifNo X155.here hx rfl (hb hby at_169) rfl ((if0 _ _).trans (teq hc169).2) ?_
          exact k)
        have pre177 : ∀ t, Steps p.tables e below (T155.setTop (mkF m 177 #[.val (.int p0), .val (.int p1), .val (.int p2), .val (.int p3), .val (.int p4), .val (.int p5), .val (.int x3), .val (.int v39_s0), .val (.int v60_s0), .val (.int v73_s0), .val (.int x79), .val (.int x89), .val (.int x96), .val (.int x106), .val (.int x116), .val (.int x126), .val (.double x131), .second, .val (.double x136), .second, .val (.double x158), .second] [(.int (1 : Int32))])) t → Steps p.tables e below (s₁.setTop (entryFrame m #[(.int p0), (.int p1), (.int p2), (.int p3), (.int p4), (.int p5)] maxLocals)) t := fun t k => pre172 t (by
          show Steps p.tables e below (T155.setTop (mkF m 172 #[.val (.int p0), .val (.int p1), .val (.int p2), .val (.int p3), .val (.int p4), .val (.int p5), .val (.int x3), .val (.int v39_s0), .val (.int v60_s0), .val (.int v73_s0), .val (.int x79), .val (.int x89), .val (.int x96), .val (.int x106), .val (.int x116), .val (.int x126), .val (.double x131), .second, .val (.double x136), .second, .val (.double x158), .second] [])) t
          refine XS.iconst X155.here hx rfl (hb hby at_172) ?_
          show Steps p.tables e below (T155.setTop (mkF m 173 #[.val (.int p0), .val (.int p1), .val (.int p2), .val (.int p3), .val (.int p4), .val (.int p5), .val (.int x3), .val (.int v39_s0), .val (.int v60_s0), .val (.int v73_s0), .val (.int x79), .val (.int x89), .val (.int x96), .val (.int x106), .val (.int x116), .val (.int x126), .val (.double x131), .second, .val (.double x136), .second, .val (.double x158), .second] [(.int (1 : Int32))])) _
          refine XS.goto X155.here hx rfl (pc0 := 173) (pc' := 177) rfl (hb hby at_173) (by decide) (by decide) ?_
          show Steps p.tables e below (T155.setTop (mkF m 177 #[.val (.int p0), .val (.int p1), .val (.int p2), .val (.int p3), .val (.int p4), .val (.int p5), .val (.int x3), .val (.int v39_s0), .val (.int v60_s0), .val (.int v73_s0), .val (.int x79), .val (.int x89), .val (.int x96), .val (.int x106), .val (.int x116), .val (.int x126), .val (.double x131), .second, .val (.double x136), .second, .val (.double x158), .second] [(.int (1 : Int32))])) _
          exact k)
        have ehv177_s0 := hv177_s0.trans (if_pos hc169)
        exact fun t k => pre177 t (by subst ehv177_s0; exact k)
      · -- not (cmpValue (FP.dcmp x158 FP.dconst0) .l) = (0 : Int32)
        have pre176 : ∀ t, Steps p.tables e below (T155.setTop (mkF m 176 #[.val (.int p0), .val (.int p1), .val (.int p2), .val (.int p3), .val (.int p4), .val (.int p5), .val (.int x3), .val (.int v39_s0), .val (.int v60_s0), .val (.int v73_s0), .val (.int x79), .val (.int x89), .val (.int x96), .val (.int x106), .val (.int x116), .val (.int x126), .val (.double x131), .second, .val (.double x136), .second, .val (.double x158), .second] [])) t → Steps p.tables e below (s₁.setTop (entryFrame m #[(.int p0), (.int p1), (.int p2), (.int p3), (.int p4), (.int p5)] maxLocals)) t := fun t k => pre169 t (by
          show Steps p.tables e below (T155.setTop (mkF m 169 #[.val (.int p0), .val (.int p1), .val (.int p2), .val (.int p3), .val (.int p4), .val (.int p5), .val (.int x3), .val (.int v39_s0), .val (.int v60_s0), .val (.int v73_s0), .val (.int x79), .val (.int x89), .val (.int x96), .val (.int x106), .val (.int x116), .val (.int x126), .val (.double x131), .second, .val (.double x136), .second, .val (.double x158), .second] [(.int (cmpValue (FP.dcmp x158 FP.dconst0) .l))])) t
          refine XS.ifYes X155.here hx rfl (pc0 := 169) (pc' := 176) rfl (hb hby at_169) rfl ((if0 _ _).trans (feq hc169).2) (by decide) (by decide) ?_
          exact k)
        have pre177 : ∀ t, Steps p.tables e below (T155.setTop (mkF m 177 #[.val (.int p0), .val (.int p1), .val (.int p2), .val (.int p3), .val (.int p4), .val (.int p5), .val (.int x3), .val (.int v39_s0), .val (.int v60_s0), .val (.int v73_s0), .val (.int x79), .val (.int x89), .val (.int x96), .val (.int x106), .val (.int x116), .val (.int x126), .val (.double x131), .second, .val (.double x136), .second, .val (.double x158), .second] [(.int (0 : Int32))])) t → Steps p.tables e below (s₁.setTop (entryFrame m #[(.int p0), (.int p1), (.int p2), (.int p3), (.int p4), (.int p5)] maxLocals)) t := fun t k => pre176 t (by
          show Steps p.tables e below (T155.setTop (mkF m 176 #[.val (.int p0), .val (.int p1), .val (.int p2), .val (.int p3), .val (.int p4), .val (.int p5), .val (.int x3), .val (.int v39_s0), .val (.int v60_s0), .val (.int v73_s0), .val (.int x79), .val (.int x89), .val (.int x96), .val (.int x106), .val (.int x116), .val (.int x126), .val (.double x131), .second, .val (.double x136), .second, .val (.double x158), .second] [])) t
          refine XS.iconst X155.here hx rfl (hb hby at_176) ?_
          show Steps p.tables e below (T155.setTop (mkF m 177 #[.val (.int p0), .val (.int p1), .val (.int p2), .val (.int p3), .val (.int p4), .val (.int p5), .val (.int x3), .val (.int v39_s0), .val (.int v60_s0), .val (.int v73_s0), .val (.int x79), .val (.int x89), .val (.int x96), .val (.int x106), .val (.int x116), .val (.int x126), .val (.double x131), .second, .val (.double x136), .second, .val (.double x158), .second] [(.int (0 : Int32))])) _
          exact k)
        have ehv177_s0 := hv177_s0.trans (if_neg hc169)
        exact fun t k => pre177 t (by subst ehv177_s0; exact k)
    obtain ⟨fs, hr, hrun, hended, hW, hsame⟩ := X155.leave (v := some (.int (nar .boolean v177_s0))) (fun h => by rw [Bd.returns] at h; cases h)
    refine ⟨_, _, pre177 _ ?_, hrun, hended, _, _, rfl, ?_, ⟨_, rfl⟩, hW, hsame.mono (by decide) (by decide)⟩
    · show Steps p.tables e below (T155.setTop (mkF m 177 #[.val (.int p0), .val (.int p1), .val (.int p2), .val (.int p3), .val (.int p4), .val (.int p5), .val (.int x3), .val (.int v39_s0), .val (.int v60_s0), .val (.int v73_s0), .val (.int x79), .val (.int x89), .val (.int x96), .val (.int x106), .val (.int x116), .val (.int x126), .val (.double x131), .second, .val (.double x136), .second, .val (.double x158), .second] [(.int v177_s0)])) _
      exact retN X155 hx (t := .boolean) Bd.returns (by simp) (hb hby at_177) hr
    · show Q0 Z p0 p1 p2 p3 p4 p5 h0 n0 _ T155.heap _
      rw [e155]
      have hres : (nar .boolean v177_s0) = (1 : Int32) := by
        rw [hv177_s0, own_narB]
        exact if_pos (own_k0 ((own_c hv39_s0).1 hc162) hx158)
      exact ⟨congrArg (fun q => some (Value.int q)) hres, N155⟩
  · -- not x3 = (0 : Int32)
    have pre178 : ∀ t, Steps p.tables e below (T155.setTop (mkF m 178 #[.val (.int p0), .val (.int p1), .val (.int p2), .val (.int p3), .val (.int p4), .val (.int p5), .val (.int x3), .val (.int v39_s0), .val (.int v60_s0), .val (.int v73_s0), .val (.int x79), .val (.int x89), .val (.int x96), .val (.int x106), .val (.int x116), .val (.int x126), .val (.double x131), .second, .val (.double x136), .second, .val (.double x158), .second] [])) t → Steps p.tables e below (s₁.setTop (entryFrame m #[(.int p0), (.int p1), (.int p2), (.int p3), (.int p4), (.int p5)] maxLocals)) t := fun t k => pre162 t (by
      show Steps p.tables e below (T155.setTop (mkF m 162 #[.val (.int p0), .val (.int p1), .val (.int p2), .val (.int p3), .val (.int p4), .val (.int p5), .val (.int x3), .val (.int v39_s0), .val (.int v60_s0), .val (.int v73_s0), .val (.int x79), .val (.int x89), .val (.int x96), .val (.int x106), .val (.int x116), .val (.int x126), .val (.double x131), .second, .val (.double x136), .second, .val (.double x158), .second] [(.int x3)])) t
      refine XS.ifYes X155.here hx rfl (pc0 := 162) (pc' := 178) rfl (hb hby at_162) rfl ((if0 _ _).trans (feq hc162).2) (by decide) (by decide) ?_
      exact k)
    have pre181 : ∀ t, Steps p.tables e below (T155.setTop (mkF m 181 #[.val (.int p0), .val (.int p1), .val (.int p2), .val (.int p3), .val (.int p4), .val (.int p5), .val (.int x3), .val (.int v39_s0), .val (.int v60_s0), .val (.int v73_s0), .val (.int x79), .val (.int x89), .val (.int x96), .val (.int x106), .val (.int x116), .val (.int x126), .val (.double x131), .second, .val (.double x136), .second, .val (.double x158), .second] [(.int (1 : Int32)), (.int x3)])) t → Steps p.tables e below (s₁.setTop (entryFrame m #[(.int p0), (.int p1), (.int p2), (.int p3), (.int p4), (.int p5)] maxLocals)) t := fun t k => pre178 t (by
      show Steps p.tables e below (T155.setTop (mkF m 178 #[.val (.int p0), .val (.int p1), .val (.int p2), .val (.int p3), .val (.int p4), .val (.int p5), .val (.int x3), .val (.int v39_s0), .val (.int v60_s0), .val (.int v73_s0), .val (.int x79), .val (.int x89), .val (.int x96), .val (.int x106), .val (.int x116), .val (.int x126), .val (.double x131), .second, .val (.double x136), .second, .val (.double x158), .second] [])) t
      refine XS.iload X155.here hx rfl (hb hby at_178) rfl ?_
      show Steps p.tables e below (T155.setTop (mkF m 180 #[.val (.int p0), .val (.int p1), .val (.int p2), .val (.int p3), .val (.int p4), .val (.int p5), .val (.int x3), .val (.int v39_s0), .val (.int v60_s0), .val (.int v73_s0), .val (.int x79), .val (.int x89), .val (.int x96), .val (.int x106), .val (.int x116), .val (.int x126), .val (.double x131), .second, .val (.double x136), .second, .val (.double x158), .second] [(.int x3)])) _
      refine XS.iconst X155.here hx rfl (hb hby at_180) ?_
      show Steps p.tables e below (T155.setTop (mkF m 181 #[.val (.int p0), .val (.int p1), .val (.int p2), .val (.int p3), .val (.int p4), .val (.int p5), .val (.int x3), .val (.int v39_s0), .val (.int v60_s0), .val (.int v73_s0), .val (.int x79), .val (.int x89), .val (.int x96), .val (.int x106), .val (.int x116), .val (.int x126), .val (.double x131), .second, .val (.double x136), .second, .val (.double x158), .second] [(.int (1 : Int32)), (.int x3)])) _
      exact k)
    by_cases hc181 : x3 = (1 : Int32)
    · -- x3 = (1 : Int32)
      have pre184 : ∀ t, Steps p.tables e below (T155.setTop (mkF m 184 #[.val (.int p0), .val (.int p1), .val (.int p2), .val (.int p3), .val (.int p4), .val (.int p5), .val (.int x3), .val (.int v39_s0), .val (.int v60_s0), .val (.int v73_s0), .val (.int x79), .val (.int x89), .val (.int x96), .val (.int x106), .val (.int x116), .val (.int x126), .val (.double x131), .second, .val (.double x136), .second, .val (.double x158), .second] [])) t → Steps p.tables e below (s₁.setTop (entryFrame m #[(.int p0), (.int p1), (.int p2), (.int p3), (.int p4), (.int p5)] maxLocals)) t := fun t k => pre181 t (by
        show Steps p.tables e below (T155.setTop (mkF m 181 #[.val (.int p0), .val (.int p1), .val (.int p2), .val (.int p3), .val (.int p4), .val (.int p5), .val (.int x3), .val (.int v39_s0), .val (.int v60_s0), .val (.int v73_s0), .val (.int x79), .val (.int x89), .val (.int x96), .val (.int x106), .val (.int x116), .val (.int x126), .val (.double x131), .second, .val (.double x136), .second, .val (.double x158), .second] [(.int (1 : Int32)), (.int x3)])) t
        refine XS.icmpNo X155.here hx rfl (hb hby at_181) rfl (teq hc181).2 ?_
        exact k)
      have pre186 : ∀ t, Steps p.tables e below (T155.setTop (mkF m 186 #[.val (.int p0), .val (.int p1), .val (.int p2), .val (.int p3), .val (.int p4), .val (.int p5), .val (.int x3), .val (.int v39_s0), .val (.int v60_s0), .val (.int v73_s0), .val (.int x79), .val (.int x89), .val (.int x96), .val (.int x106), .val (.int x116), .val (.int x126), .val (.double x131), .second, .val (.double x136), .second, .val (.double x158), .second] [(.int v73_s0)])) t → Steps p.tables e below (s₁.setTop (entryFrame m #[(.int p0), (.int p1), (.int p2), (.int p3), (.int p4), (.int p5)] maxLocals)) t := fun t k => pre184 t (by
        show Steps p.tables e below (T155.setTop (mkF m 184 #[.val (.int p0), .val (.int p1), .val (.int p2), .val (.int p3), .val (.int p4), .val (.int p5), .val (.int x3), .val (.int v39_s0), .val (.int v60_s0), .val (.int v73_s0), .val (.int x79), .val (.int x89), .val (.int x96), .val (.int x106), .val (.int x116), .val (.int x126), .val (.double x131), .second, .val (.double x136), .second, .val (.double x158), .second] [])) t
        refine XS.iload X155.here hx rfl (hb hby at_184) rfl ?_
        show Steps p.tables e below (T155.setTop (mkF m 186 #[.val (.int p0), .val (.int p1), .val (.int p2), .val (.int p3), .val (.int p4), .val (.int p5), .val (.int x3), .val (.int v39_s0), .val (.int v60_s0), .val (.int v73_s0), .val (.int x79), .val (.int x89), .val (.int x96), .val (.int x106), .val (.int x116), .val (.int x126), .val (.double x131), .second, .val (.double x136), .second, .val (.double x158), .second] [(.int v73_s0)])) _
        exact k)
      obtain ⟨v218_s0, hv218_s0⟩ : ∃ z : Int32, z = if ((((¬ ((p2 &&& (1 : Int32)) = (0 : Int32)))) ∧ ((cmpValue (FP.dcmp x158 x131) .l) = (0 : Int32))) ∨ ((¬ ((¬ ((p2 &&& (1 : Int32)) = (0 : Int32))))) ∧ ((cmpValue (FP.dcmp x158 x136) .l) = (0 : Int32)))) then (1 : Int32) else 0 := ⟨_, rfl⟩
      have pre218 : ∀ t, Steps p.tables e below (T155.setTop (mkF m 218 #[.val (.int p0), .val (.int p1), .val (.int p2), .val (.int p3), .val (.int p4), .val (.int p5), .val (.int x3), .val (.int v39_s0), .val (.int v60_s0), .val (.int v73_s0), .val (.int x79), .val (.int x89), .val (.int x96), .val (.int x106), .val (.int x116), .val (.int x126), .val (.double x131), .second, .val (.double x136), .second, .val (.double x158), .second] [(.int v218_s0)])) t → Steps p.tables e below (s₁.setTop (entryFrame m #[(.int p0), (.int p1), (.int p2), (.int p3), (.int p4), (.int p5)] maxLocals)) t := by
        by_cases hc186 : (¬ ((p2 &&& (1 : Int32)) = (0 : Int32)))
        · -- (¬ ((p2 &&& (1 : Int32)) = (0 : Int32)))
          have pre189 : ∀ t, Steps p.tables e below (T155.setTop (mkF m 189 #[.val (.int p0), .val (.int p1), .val (.int p2), .val (.int p3), .val (.int p4), .val (.int p5), .val (.int x3), .val (.int v39_s0), .val (.int v60_s0), .val (.int v73_s0), .val (.int x79), .val (.int x89), .val (.int x96), .val (.int x106), .val (.int x116), .val (.int x126), .val (.double x131), .second, .val (.double x136), .second, .val (.double x158), .second] [])) t → Steps p.tables e below (s₁.setTop (entryFrame m #[(.int p0), (.int p1), (.int p2), (.int p3), (.int p4), (.int p5)] maxLocals)) t := fun t k => pre186 t (by
            show Steps p.tables e below (T155.setTop (mkF m 186 #[.val (.int p0), .val (.int p1), .val (.int p2), .val (.int p3), .val (.int p4), .val (.int p5), .val (.int x3), .val (.int v39_s0), .val (.int v60_s0), .val (.int v73_s0), .val (.int x79), .val (.int x89), .val (.int x96), .val (.int x106), .val (.int x116), .val (.int x126), .val (.double x131), .second, .val (.double x136), .second, .val (.double x158), .second] [(.int v73_s0)])) t
            refine XS.ifNo X155.here hx rfl (hb hby at_186) rfl ((if0 _ _).trans (feq (by rw [hv73_s0, if_pos hc186]; decide)).1) ?_
            exact k)
          have pre194 : ∀ t, Steps p.tables e below (T155.setTop (mkF m 194 #[.val (.int p0), .val (.int p1), .val (.int p2), .val (.int p3), .val (.int p4), .val (.int p5), .val (.int x3), .val (.int v39_s0), .val (.int v60_s0), .val (.int v73_s0), .val (.int x79), .val (.int x89), .val (.int x96), .val (.int x106), .val (.int x116), .val (.int x126), .val (.double x131), .second, .val (.double x136), .second, .val (.double x158), .second] [(.int (cmpValue (FP.dcmp x158 x131) .l))])) t → Steps p.tables e below (s₁.setTop (entryFrame m #[(.int p0), (.int p1), (.int p2), (.int p3), (.int p4), (.int p5)] maxLocals)) t := fun t k => pre189 t (by
            show Steps p.tables e below (T155.setTop (mkF m 189 #[.val (.int p0), .val (.int p1), .val (.int p2), .val (.int p3), .val (.int p4), .val (.int p5), .val (.int x3), .val (.int v39_s0), .val (.int v60_s0), .val (.int v73_s0), .val (.int x79), .val (.int x89), .val (.int x96), .val (.int x106), .val (.int x116), .val (.int x126), .val (.double x131), .second, .val (.double x136), .second, .val (.double x158), .second] [])) t
            refine own_dload X155 hx rfl (hb hby at_189) rfl ?_
            show Steps p.tables e below (T155.setTop (mkF m 191 #[.val (.int p0), .val (.int p1), .val (.int p2), .val (.int p3), .val (.int p4), .val (.int p5), .val (.int x3), .val (.int v39_s0), .val (.int v60_s0), .val (.int v73_s0), .val (.int x79), .val (.int x89), .val (.int x96), .val (.int x106), .val (.int x116), .val (.int x126), .val (.double x131), .second, .val (.double x136), .second, .val (.double x158), .second] [(.double x158)])) _
            refine own_dload X155 hx rfl (hb hby at_191) rfl ?_
            show Steps p.tables e below (T155.setTop (mkF m 193 #[.val (.int p0), .val (.int p1), .val (.int p2), .val (.int p3), .val (.int p4), .val (.int p5), .val (.int x3), .val (.int v39_s0), .val (.int v60_s0), .val (.int v73_s0), .val (.int x79), .val (.int x89), .val (.int x96), .val (.int x106), .val (.int x116), .val (.int x126), .val (.double x131), .second, .val (.double x136), .second, .val (.double x158), .second] [(.double x131), (.double x158)])) _
            refine own_dcmp X155 hx rfl (hb hby at_193) rfl ?_
            show Steps p.tables e below (T155.setTop (mkF m 194 #[.val (.int p0), .val (.int p1), .val (.int p2), .val (.int p3), .val (.int p4), .val (.int p5), .val (.int x3), .val (.int v39_s0), .val (.int v60_s0), .val (.int v73_s0), .val (.int x79), .val (.int x89), .val (.int x96), .val (.int x106), .val (.int x116), .val (.int x126), .val (.double x131), .second, .val (.double x136), .second, .val (.double x158), .second] [(.int (cmpValue (FP.dcmp x158 x131) .l))])) _
            exact k)
          by_cases hc194 : (cmpValue (FP.dcmp x158 x131) .l) = (0 : Int32)
          · -- (cmpValue (FP.dcmp x158 x131) .l) = (0 : Int32)
            have pre197 : ∀ t, Steps p.tables e below (T155.setTop (mkF m 197 #[.val (.int p0), .val (.int p1), .val (.int p2), .val (.int p3), .val (.int p4), .val (.int p5), .val (.int x3), .val (.int v39_s0), .val (.int v60_s0), .val (.int v73_s0), .val (.int x79), .val (.int x89), .val (.int x96), .val (.int x106), .val (.int x116), .val (.int x126), .val (.double x131), .second, .val (.double x136), .second, .val (.double x158), .second] [])) t → Steps p.tables e below (s₁.setTop (entryFrame m #[(.int p0), (.int p1), (.int p2), (.int p3), (.int p4), (.int p5)] maxLocals)) t := fun t k => pre194 t (by
              show Steps p.tables e below (T155.setTop (mkF m 194 #[.val (.int p0), .val (.int p1), .val (.int p2), .val (.int p3), .val (.int p4), .val (.int p5), .val (.int x3), .val (.int v39_s0), .val (.int v60_s0), .val (.int v73_s0), .val (.int x79), .val (.int x89), .val (.int x96), .val (.int x106), .val (.int x116), .val (.int x126), .val (.double x131), .second, .val (.double x136), .second, .val (.double x158), .second] [(.int (cmpValue (FP.dcmp x158 x131) .l))])) t
              refine XS.ifNo X155.here hx rfl (hb hby at_194) rfl ((if0 _ _).trans (teq hc194).2) ?_
              exact k)
            have pre218 : ∀ t, Steps p.tables e below (T155.setTop (mkF m 218 #[.val (.int p0), .val (.int p1), .val (.int p2), .val (.int p3), .val (.int p4), .val (.int p5), .val (.int x3), .val (.int v39_s0), .val (.int v60_s0), .val (.int v73_s0), .val (.int x79), .val (.int x89), .val (.int x96), .val (.int x106), .val (.int x116), .val (.int x126), .val (.double x131), .second, .val (.double x136), .second, .val (.double x158), .second] [(.int (1 : Int32))])) t → Steps p.tables e below (s₁.setTop (entryFrame m #[(.int p0), (.int p1), (.int p2), (.int p3), (.int p4), (.int p5)] maxLocals)) t := fun t k => pre197 t (by
              show Steps p.tables e below (T155.setTop (mkF m 197 #[.val (.int p0), .val (.int p1), .val (.int p2), .val (.int p3), .val (.int p4), .val (.int p5), .val (.int x3), .val (.int v39_s0), .val (.int v60_s0), .val (.int v73_s0), .val (.int x79), .val (.int x89), .val (.int x96), .val (.int x106), .val (.int x116), .val (.int x126), .val (.double x131), .second, .val (.double x136), .second, .val (.double x158), .second] [])) t
              refine XS.iconst X155.here hx rfl (hb hby at_197) ?_
              show Steps p.tables e below (T155.setTop (mkF m 198 #[.val (.int p0), .val (.int p1), .val (.int p2), .val (.int p3), .val (.int p4), .val (.int p5), .val (.int x3), .val (.int v39_s0), .val (.int v60_s0), .val (.int v73_s0), .val (.int x79), .val (.int x89), .val (.int x96), .val (.int x106), .val (.int x116), .val (.int x126), .val (.double x131), .second, .val (.double x136), .second, .val (.double x158), .second] [(.int (1 : Int32))])) _
              refine XS.goto X155.here hx rfl (pc0 := 198) (pc' := 218) rfl (hb hby at_198) (by decide) (by decide) ?_
              show Steps p.tables e below (T155.setTop (mkF m 218 #[.val (.int p0), .val (.int p1), .val (.int p2), .val (.int p3), .val (.int p4), .val (.int p5), .val (.int x3), .val (.int v39_s0), .val (.int v60_s0), .val (.int v73_s0), .val (.int x79), .val (.int x89), .val (.int x96), .val (.int x106), .val (.int x116), .val (.int x126), .val (.double x131), .second, .val (.double x136), .second, .val (.double x158), .second] [(.int (1 : Int32))])) _
              exact k)
            have ehv218_s0 := hv218_s0.trans (if_pos (Or.inl ⟨hc186, hc194⟩))
            exact fun t k => pre218 t (by subst ehv218_s0; exact k)
          · -- not (cmpValue (FP.dcmp x158 x131) .l) = (0 : Int32)
            have pre201 : ∀ t, Steps p.tables e below (T155.setTop (mkF m 201 #[.val (.int p0), .val (.int p1), .val (.int p2), .val (.int p3), .val (.int p4), .val (.int p5), .val (.int x3), .val (.int v39_s0), .val (.int v60_s0), .val (.int v73_s0), .val (.int x79), .val (.int x89), .val (.int x96), .val (.int x106), .val (.int x116), .val (.int x126), .val (.double x131), .second, .val (.double x136), .second, .val (.double x158), .second] [])) t → Steps p.tables e below (s₁.setTop (entryFrame m #[(.int p0), (.int p1), (.int p2), (.int p3), (.int p4), (.int p5)] maxLocals)) t := fun t k => pre194 t (by
              show Steps p.tables e below (T155.setTop (mkF m 194 #[.val (.int p0), .val (.int p1), .val (.int p2), .val (.int p3), .val (.int p4), .val (.int p5), .val (.int x3), .val (.int v39_s0), .val (.int v60_s0), .val (.int v73_s0), .val (.int x79), .val (.int x89), .val (.int x96), .val (.int x106), .val (.int x116), .val (.int x126), .val (.double x131), .second, .val (.double x136), .second, .val (.double x158), .second] [(.int (cmpValue (FP.dcmp x158 x131) .l))])) t
              refine XS.ifYes X155.here hx rfl (pc0 := 194) (pc' := 201) rfl (hb hby at_194) rfl ((if0 _ _).trans (feq hc194).2) (by decide) (by decide) ?_
              exact k)
            have pre218 : ∀ t, Steps p.tables e below (T155.setTop (mkF m 218 #[.val (.int p0), .val (.int p1), .val (.int p2), .val (.int p3), .val (.int p4), .val (.int p5), .val (.int x3), .val (.int v39_s0), .val (.int v60_s0), .val (.int v73_s0), .val (.int x79), .val (.int x89), .val (.int x96), .val (.int x106), .val (.int x116), .val (.int x126), .val (.double x131), .second, .val (.double x136), .second, .val (.double x158), .second] [(.int (0 : Int32))])) t → Steps p.tables e below (s₁.setTop (entryFrame m #[(.int p0), (.int p1), (.int p2), (.int p3), (.int p4), (.int p5)] maxLocals)) t := fun t k => pre201 t (by
              show Steps p.tables e below (T155.setTop (mkF m 201 #[.val (.int p0), .val (.int p1), .val (.int p2), .val (.int p3), .val (.int p4), .val (.int p5), .val (.int x3), .val (.int v39_s0), .val (.int v60_s0), .val (.int v73_s0), .val (.int x79), .val (.int x89), .val (.int x96), .val (.int x106), .val (.int x116), .val (.int x126), .val (.double x131), .second, .val (.double x136), .second, .val (.double x158), .second] [])) t
              refine XS.iconst X155.here hx rfl (hb hby at_201) ?_
              show Steps p.tables e below (T155.setTop (mkF m 202 #[.val (.int p0), .val (.int p1), .val (.int p2), .val (.int p3), .val (.int p4), .val (.int p5), .val (.int x3), .val (.int v39_s0), .val (.int v60_s0), .val (.int v73_s0), .val (.int x79), .val (.int x89), .val (.int x96), .val (.int x106), .val (.int x116), .val (.int x126), .val (.double x131), .second, .val (.double x136), .second, .val (.double x158), .second] [(.int (0 : Int32))])) _
              refine XS.goto X155.here hx rfl (pc0 := 202) (pc' := 218) rfl (hb hby at_202) (by decide) (by decide) ?_
              show Steps p.tables e below (T155.setTop (mkF m 218 #[.val (.int p0), .val (.int p1), .val (.int p2), .val (.int p3), .val (.int p4), .val (.int p5), .val (.int x3), .val (.int v39_s0), .val (.int v60_s0), .val (.int v73_s0), .val (.int x79), .val (.int x89), .val (.int x96), .val (.int x106), .val (.int x116), .val (.int x126), .val (.double x131), .second, .val (.double x136), .second, .val (.double x158), .second] [(.int (0 : Int32))])) _
              exact k)
            have ehv218_s0 := hv218_s0.trans (if_neg (fun r => r.elim (fun a => hc194 a.2) (fun a => a.1 hc186)))
            exact fun t k => pre218 t (by subst ehv218_s0; exact k)
        · -- not (¬ ((p2 &&& (1 : Int32)) = (0 : Int32)))
          have pre205 : ∀ t, Steps p.tables e below (T155.setTop (mkF m 205 #[.val (.int p0), .val (.int p1), .val (.int p2), .val (.int p3), .val (.int p4), .val (.int p5), .val (.int x3), .val (.int v39_s0), .val (.int v60_s0), .val (.int v73_s0), .val (.int x79), .val (.int x89), .val (.int x96), .val (.int x106), .val (.int x116), .val (.int x126), .val (.double x131), .second, .val (.double x136), .second, .val (.double x158), .second] [])) t → Steps p.tables e below (s₁.setTop (entryFrame m #[(.int p0), (.int p1), (.int p2), (.int p3), (.int p4), (.int p5)] maxLocals)) t := fun t k => pre186 t (by
            show Steps p.tables e below (T155.setTop (mkF m 186 #[.val (.int p0), .val (.int p1), .val (.int p2), .val (.int p3), .val (.int p4), .val (.int p5), .val (.int x3), .val (.int v39_s0), .val (.int v60_s0), .val (.int v73_s0), .val (.int x79), .val (.int x89), .val (.int x96), .val (.int x106), .val (.int x116), .val (.int x126), .val (.double x131), .second, .val (.double x136), .second, .val (.double x158), .second] [(.int v73_s0)])) t
            refine XS.ifYes X155.here hx rfl (pc0 := 186) (pc' := 205) rfl (hb hby at_186) rfl ((if0 _ _).trans (teq (by rw [hv73_s0, if_neg hc186])).1) (by decide) (by decide) ?_
            exact k)
          have pre210 : ∀ t, Steps p.tables e below (T155.setTop (mkF m 210 #[.val (.int p0), .val (.int p1), .val (.int p2), .val (.int p3), .val (.int p4), .val (.int p5), .val (.int x3), .val (.int v39_s0), .val (.int v60_s0), .val (.int v73_s0), .val (.int x79), .val (.int x89), .val (.int x96), .val (.int x106), .val (.int x116), .val (.int x126), .val (.double x131), .second, .val (.double x136), .second, .val (.double x158), .second] [(.int (cmpValue (FP.dcmp x158 x136) .l))])) t → Steps p.tables e below (s₁.setTop (entryFrame m #[(.int p0), (.int p1), (.int p2), (.int p3), (.int p4), (.int p5)] maxLocals)) t := fun t k => pre205 t (by
            show Steps p.tables e below (T155.setTop (mkF m 205 #[.val (.int p0), .val (.int p1), .val (.int p2), .val (.int p3), .val (.int p4), .val (.int p5), .val (.int x3), .val (.int v39_s0), .val (.int v60_s0), .val (.int v73_s0), .val (.int x79), .val (.int x89), .val (.int x96), .val (.int x106), .val (.int x116), .val (.int x126), .val (.double x131), .second, .val (.double x136), .second, .val (.double x158), .second] [])) t
            refine own_dload X155 hx rfl (hb hby at_205) rfl ?_
            show Steps p.tables e below (T155.setTop (mkF m 207 #[.val (.int p0), .val (.int p1), .val (.int p2), .val (.int p3), .val (.int p4), .val (.int p5), .val (.int x3), .val (.int v39_s0), .val (.int v60_s0), .val (.int v73_s0), .val (.int x79), .val (.int x89), .val (.int x96), .val (.int x106), .val (.int x116), .val (.int x126), .val (.double x131), .second, .val (.double x136), .second, .val (.double x158), .second] [(.double x158)])) _
            refine own_dload X155 hx rfl (hb hby at_207) rfl ?_
            show Steps p.tables e below (T155.setTop (mkF m 209 #[.val (.int p0), .val (.int p1), .val (.int p2), .val (.int p3), .val (.int p4), .val (.int p5), .val (.int x3), .val (.int v39_s0), .val (.int v60_s0), .val (.int v73_s0), .val (.int x79), .val (.int x89), .val (.int x96), .val (.int x106), .val (.int x116), .val (.int x126), .val (.double x131), .second, .val (.double x136), .second, .val (.double x158), .second] [(.double x136), (.double x158)])) _
            refine own_dcmp X155 hx rfl (hb hby at_209) rfl ?_
            show Steps p.tables e below (T155.setTop (mkF m 210 #[.val (.int p0), .val (.int p1), .val (.int p2), .val (.int p3), .val (.int p4), .val (.int p5), .val (.int x3), .val (.int v39_s0), .val (.int v60_s0), .val (.int v73_s0), .val (.int x79), .val (.int x89), .val (.int x96), .val (.int x106), .val (.int x116), .val (.int x126), .val (.double x131), .second, .val (.double x136), .second, .val (.double x158), .second] [(.int (cmpValue (FP.dcmp x158 x136) .l))])) _
            exact k)
          by_cases hc210 : (cmpValue (FP.dcmp x158 x136) .l) = (0 : Int32)
          · -- (cmpValue (FP.dcmp x158 x136) .l) = (0 : Int32)
            have pre213 : ∀ t, Steps p.tables e below (T155.setTop (mkF m 213 #[.val (.int p0), .val (.int p1), .val (.int p2), .val (.int p3), .val (.int p4), .val (.int p5), .val (.int x3), .val (.int v39_s0), .val (.int v60_s0), .val (.int v73_s0), .val (.int x79), .val (.int x89), .val (.int x96), .val (.int x106), .val (.int x116), .val (.int x126), .val (.double x131), .second, .val (.double x136), .second, .val (.double x158), .second] [])) t → Steps p.tables e below (s₁.setTop (entryFrame m #[(.int p0), (.int p1), (.int p2), (.int p3), (.int p4), (.int p5)] maxLocals)) t := fun t k => pre210 t (by
              show Steps p.tables e below (T155.setTop (mkF m 210 #[.val (.int p0), .val (.int p1), .val (.int p2), .val (.int p3), .val (.int p4), .val (.int p5), .val (.int x3), .val (.int v39_s0), .val (.int v60_s0), .val (.int v73_s0), .val (.int x79), .val (.int x89), .val (.int x96), .val (.int x106), .val (.int x116), .val (.int x126), .val (.double x131), .second, .val (.double x136), .second, .val (.double x158), .second] [(.int (cmpValue (FP.dcmp x158 x136) .l))])) t
              refine XS.ifNo X155.here hx rfl (hb hby at_210) rfl ((if0 _ _).trans (teq hc210).2) ?_
              exact k)
            have pre218 : ∀ t, Steps p.tables e below (T155.setTop (mkF m 218 #[.val (.int p0), .val (.int p1), .val (.int p2), .val (.int p3), .val (.int p4), .val (.int p5), .val (.int x3), .val (.int v39_s0), .val (.int v60_s0), .val (.int v73_s0), .val (.int x79), .val (.int x89), .val (.int x96), .val (.int x106), .val (.int x116), .val (.int x126), .val (.double x131), .second, .val (.double x136), .second, .val (.double x158), .second] [(.int (1 : Int32))])) t → Steps p.tables e below (s₁.setTop (entryFrame m #[(.int p0), (.int p1), (.int p2), (.int p3), (.int p4), (.int p5)] maxLocals)) t := fun t k => pre213 t (by
              show Steps p.tables e below (T155.setTop (mkF m 213 #[.val (.int p0), .val (.int p1), .val (.int p2), .val (.int p3), .val (.int p4), .val (.int p5), .val (.int x3), .val (.int v39_s0), .val (.int v60_s0), .val (.int v73_s0), .val (.int x79), .val (.int x89), .val (.int x96), .val (.int x106), .val (.int x116), .val (.int x126), .val (.double x131), .second, .val (.double x136), .second, .val (.double x158), .second] [])) t
              refine XS.iconst X155.here hx rfl (hb hby at_213) ?_
              show Steps p.tables e below (T155.setTop (mkF m 214 #[.val (.int p0), .val (.int p1), .val (.int p2), .val (.int p3), .val (.int p4), .val (.int p5), .val (.int x3), .val (.int v39_s0), .val (.int v60_s0), .val (.int v73_s0), .val (.int x79), .val (.int x89), .val (.int x96), .val (.int x106), .val (.int x116), .val (.int x126), .val (.double x131), .second, .val (.double x136), .second, .val (.double x158), .second] [(.int (1 : Int32))])) _
              refine XS.goto X155.here hx rfl (pc0 := 214) (pc' := 218) rfl (hb hby at_214) (by decide) (by decide) ?_
              show Steps p.tables e below (T155.setTop (mkF m 218 #[.val (.int p0), .val (.int p1), .val (.int p2), .val (.int p3), .val (.int p4), .val (.int p5), .val (.int x3), .val (.int v39_s0), .val (.int v60_s0), .val (.int v73_s0), .val (.int x79), .val (.int x89), .val (.int x96), .val (.int x106), .val (.int x116), .val (.int x126), .val (.double x131), .second, .val (.double x136), .second, .val (.double x158), .second] [(.int (1 : Int32))])) _
              exact k)
            have ehv218_s0 := hv218_s0.trans (if_pos (Or.inr ⟨hc186, hc210⟩))
            exact fun t k => pre218 t (by subst ehv218_s0; exact k)
          · -- not (cmpValue (FP.dcmp x158 x136) .l) = (0 : Int32)
            have pre217 : ∀ t, Steps p.tables e below (T155.setTop (mkF m 217 #[.val (.int p0), .val (.int p1), .val (.int p2), .val (.int p3), .val (.int p4), .val (.int p5), .val (.int x3), .val (.int v39_s0), .val (.int v60_s0), .val (.int v73_s0), .val (.int x79), .val (.int x89), .val (.int x96), .val (.int x106), .val (.int x116), .val (.int x126), .val (.double x131), .second, .val (.double x136), .second, .val (.double x158), .second] [])) t → Steps p.tables e below (s₁.setTop (entryFrame m #[(.int p0), (.int p1), (.int p2), (.int p3), (.int p4), (.int p5)] maxLocals)) t := fun t k => pre210 t (by
              show Steps p.tables e below (T155.setTop (mkF m 210 #[.val (.int p0), .val (.int p1), .val (.int p2), .val (.int p3), .val (.int p4), .val (.int p5), .val (.int x3), .val (.int v39_s0), .val (.int v60_s0), .val (.int v73_s0), .val (.int x79), .val (.int x89), .val (.int x96), .val (.int x106), .val (.int x116), .val (.int x126), .val (.double x131), .second, .val (.double x136), .second, .val (.double x158), .second] [(.int (cmpValue (FP.dcmp x158 x136) .l))])) t
              refine XS.ifYes X155.here hx rfl (pc0 := 210) (pc' := 217) rfl (hb hby at_210) rfl ((if0 _ _).trans (feq hc210).2) (by decide) (by decide) ?_
              exact k)
            have pre218 : ∀ t, Steps p.tables e below (T155.setTop (mkF m 218 #[.val (.int p0), .val (.int p1), .val (.int p2), .val (.int p3), .val (.int p4), .val (.int p5), .val (.int x3), .val (.int v39_s0), .val (.int v60_s0), .val (.int v73_s0), .val (.int x79), .val (.int x89), .val (.int x96), .val (.int x106), .val (.int x116), .val (.int x126), .val (.double x131), .second, .val (.double x136), .second, .val (.double x158), .second] [(.int (0 : Int32))])) t → Steps p.tables e below (s₁.setTop (entryFrame m #[(.int p0), (.int p1), (.int p2), (.int p3), (.int p4), (.int p5)] maxLocals)) t := fun t k => pre217 t (by
              show Steps p.tables e below (T155.setTop (mkF m 217 #[.val (.int p0), .val (.int p1), .val (.int p2), .val (.int p3), .val (.int p4), .val (.int p5), .val (.int x3), .val (.int v39_s0), .val (.int v60_s0), .val (.int v73_s0), .val (.int x79), .val (.int x89), .val (.int x96), .val (.int x106), .val (.int x116), .val (.int x126), .val (.double x131), .second, .val (.double x136), .second, .val (.double x158), .second] [])) t
              refine XS.iconst X155.here hx rfl (hb hby at_217) ?_
              show Steps p.tables e below (T155.setTop (mkF m 218 #[.val (.int p0), .val (.int p1), .val (.int p2), .val (.int p3), .val (.int p4), .val (.int p5), .val (.int x3), .val (.int v39_s0), .val (.int v60_s0), .val (.int v73_s0), .val (.int x79), .val (.int x89), .val (.int x96), .val (.int x106), .val (.int x116), .val (.int x126), .val (.double x131), .second, .val (.double x136), .second, .val (.double x158), .second] [(.int (0 : Int32))])) _
              exact k)
            have ehv218_s0 := hv218_s0.trans (if_neg (fun r => r.elim (fun a => hc186 a.1) (fun a => hc210 a.2)))
            exact fun t k => pre218 t (by subst ehv218_s0; exact k)
      obtain ⟨fs, hr, hrun, hended, hW, hsame⟩ := X155.leave (v := some (.int (nar .boolean v218_s0))) (fun h => by rw [Bd.returns] at h; cases h)
      refine ⟨_, _, pre218 _ ?_, hrun, hended, _, _, rfl, ?_, ⟨_, rfl⟩, hW, hsame.mono (by decide) (by decide)⟩
      · show Steps p.tables e below (T155.setTop (mkF m 218 #[.val (.int p0), .val (.int p1), .val (.int p2), .val (.int p3), .val (.int p4), .val (.int p5), .val (.int x3), .val (.int v39_s0), .val (.int v60_s0), .val (.int v73_s0), .val (.int x79), .val (.int x89), .val (.int x96), .val (.int x106), .val (.int x116), .val (.int x126), .val (.double x131), .second, .val (.double x136), .second, .val (.double x158), .second] [(.int v218_s0)])) _
        exact retN X155 hx (t := .boolean) Bd.returns (by simp) (hb hby at_218) hr
      · show Q0 Z p0 p1 p2 p3 p4 p5 h0 n0 _ T155.heap _
        rw [e155]
        have hres : (nar .boolean v218_s0) = (1 : Int32) := by
          rw [hv218_s0, own_narB]
          exact if_pos (own_k1 ((own_c hv39_s0).2.1 hc162 hc181) hx158 hx131 hx136 hv73_s0)
        exact ⟨congrArg (fun q => some (Value.int q)) hres, N155⟩
    · -- not x3 = (1 : Int32)
      have pre219 : ∀ t, Steps p.tables e below (T155.setTop (mkF m 219 #[.val (.int p0), .val (.int p1), .val (.int p2), .val (.int p3), .val (.int p4), .val (.int p5), .val (.int x3), .val (.int v39_s0), .val (.int v60_s0), .val (.int v73_s0), .val (.int x79), .val (.int x89), .val (.int x96), .val (.int x106), .val (.int x116), .val (.int x126), .val (.double x131), .second, .val (.double x136), .second, .val (.double x158), .second] [])) t → Steps p.tables e below (s₁.setTop (entryFrame m #[(.int p0), (.int p1), (.int p2), (.int p3), (.int p4), (.int p5)] maxLocals)) t := fun t k => pre181 t (by
        show Steps p.tables e below (T155.setTop (mkF m 181 #[.val (.int p0), .val (.int p1), .val (.int p2), .val (.int p3), .val (.int p4), .val (.int p5), .val (.int x3), .val (.int v39_s0), .val (.int v60_s0), .val (.int v73_s0), .val (.int x79), .val (.int x89), .val (.int x96), .val (.int x106), .val (.int x116), .val (.int x126), .val (.double x131), .second, .val (.double x136), .second, .val (.double x158), .second] [(.int (1 : Int32)), (.int x3)])) t
        refine XS.icmpYes X155.here hx rfl (pc0 := 181) (pc' := 219) rfl (hb hby at_181) rfl (feq hc181).2 (by decide) (by decide) ?_
        exact k)
      have pre222 : ∀ t, Steps p.tables e below (T155.setTop (mkF m 222 #[.val (.int p0), .val (.int p1), .val (.int p2), .val (.int p3), .val (.int p4), .val (.int p5), .val (.int x3), .val (.int v39_s0), .val (.int v60_s0), .val (.int v73_s0), .val (.int x79), .val (.int x89), .val (.int x96), .val (.int x106), .val (.int x116), .val (.int x126), .val (.double x131), .second, .val (.double x136), .second, .val (.double x158), .second] [(.int (2 : Int32)), (.int x3)])) t → Steps p.tables e below (s₁.setTop (entryFrame m #[(.int p0), (.int p1), (.int p2), (.int p3), (.int p4), (.int p5)] maxLocals)) t := fun t k => pre219 t (by
        show Steps p.tables e below (T155.setTop (mkF m 219 #[.val (.int p0), .val (.int p1), .val (.int p2), .val (.int p3), .val (.int p4), .val (.int p5), .val (.int x3), .val (.int v39_s0), .val (.int v60_s0), .val (.int v73_s0), .val (.int x79), .val (.int x89), .val (.int x96), .val (.int x106), .val (.int x116), .val (.int x126), .val (.double x131), .second, .val (.double x136), .second, .val (.double x158), .second] [])) t
        refine XS.iload X155.here hx rfl (hb hby at_219) rfl ?_
        show Steps p.tables e below (T155.setTop (mkF m 221 #[.val (.int p0), .val (.int p1), .val (.int p2), .val (.int p3), .val (.int p4), .val (.int p5), .val (.int x3), .val (.int v39_s0), .val (.int v60_s0), .val (.int v73_s0), .val (.int x79), .val (.int x89), .val (.int x96), .val (.int x106), .val (.int x116), .val (.int x126), .val (.double x131), .second, .val (.double x136), .second, .val (.double x158), .second] [(.int x3)])) _
        refine XS.iconst X155.here hx rfl (hb hby at_221) ?_
        show Steps p.tables e below (T155.setTop (mkF m 222 #[.val (.int p0), .val (.int p1), .val (.int p2), .val (.int p3), .val (.int p4), .val (.int p5), .val (.int x3), .val (.int v39_s0), .val (.int v60_s0), .val (.int v73_s0), .val (.int x79), .val (.int x89), .val (.int x96), .val (.int x106), .val (.int x116), .val (.int x126), .val (.double x131), .second, .val (.double x136), .second, .val (.double x158), .second] [(.int (2 : Int32)), (.int x3)])) _
        exact k)
      by_cases hc222 : x3 = (2 : Int32)
      · -- x3 = (2 : Int32)
        have pre225 : ∀ t, Steps p.tables e below (T155.setTop (mkF m 225 #[.val (.int p0), .val (.int p1), .val (.int p2), .val (.int p3), .val (.int p4), .val (.int p5), .val (.int x3), .val (.int v39_s0), .val (.int v60_s0), .val (.int v73_s0), .val (.int x79), .val (.int x89), .val (.int x96), .val (.int x106), .val (.int x116), .val (.int x126), .val (.double x131), .second, .val (.double x136), .second, .val (.double x158), .second] [])) t → Steps p.tables e below (s₁.setTop (entryFrame m #[(.int p0), (.int p1), (.int p2), (.int p3), (.int p4), (.int p5)] maxLocals)) t := fun t k => pre222 t (by
          show Steps p.tables e below (T155.setTop (mkF m 222 #[.val (.int p0), .val (.int p1), .val (.int p2), .val (.int p3), .val (.int p4), .val (.int p5), .val (.int x3), .val (.int v39_s0), .val (.int v60_s0), .val (.int v73_s0), .val (.int x79), .val (.int x89), .val (.int x96), .val (.int x106), .val (.int x116), .val (.int x126), .val (.double x131), .second, .val (.double x136), .second, .val (.double x158), .second] [(.int (2 : Int32)), (.int x3)])) t
          refine XS.icmpNo X155.here hx rfl (hb hby at_222) rfl (teq hc222).2 ?_
          exact k)
        have pre227 : ∀ t, Steps p.tables e below (T155.setTop (mkF m 227 #[.val (.int p0), .val (.int p1), .val (.int p2), .val (.int p3), .val (.int p4), .val (.int p5), .val (.int x3), .val (.int v39_s0), .val (.int v60_s0), .val (.int v73_s0), .val (.int x79), .val (.int x89), .val (.int x96), .val (.int x106), .val (.int x116), .val (.int x126), .val (.double x131), .second, .val (.double x136), .second, .val (.double x158), .second] [(.int v73_s0)])) t → Steps p.tables e below (s₁.setTop (entryFrame m #[(.int p0), (.int p1), (.int p2), (.int p3), (.int p4), (.int p5)] maxLocals)) t := fun t k => pre225 t (by
          show Steps p.tables e below (T155.setTop (mkF m 225 #[.val (.int p0), .val (.int p1), .val (.int p2), .val (.int p3), .val (.int p4), .val (.int p5), .val (.int x3), .val (.int v39_s0), .val (.int v60_s0), .val (.int v73_s0), .val (.int x79), .val (.int x89), .val (.int x96), .val (.int x106), .val (.int x116), .val (.int x126), .val (.double x131), .second, .val (.double x136), .second, .val (.double x158), .second] [])) t
          refine XS.iload X155.here hx rfl (hb hby at_225) rfl ?_
          show Steps p.tables e below (T155.setTop (mkF m 227 #[.val (.int p0), .val (.int p1), .val (.int p2), .val (.int p3), .val (.int p4), .val (.int p5), .val (.int x3), .val (.int v39_s0), .val (.int v60_s0), .val (.int v73_s0), .val (.int x79), .val (.int x89), .val (.int x96), .val (.int x106), .val (.int x116), .val (.int x126), .val (.double x131), .second, .val (.double x136), .second, .val (.double x158), .second] [(.int v73_s0)])) _
          exact k)
        obtain ⟨v254_s0, hv254_s0⟩ : ∃ z : Int32, z = (if (¬ ((p2 &&& (1 : Int32)) = (0 : Int32))) then (own_fN x158 x79 x89) else (if (cmpValue (FP.dcmp x158 FP.dconst0) .l) = (0 : Int32) then (1 : Int32) else (0 : Int32))) := ⟨_, rfl⟩
        obtain ⟨T254j, L254j, X254j, e254j, N254j, st254j⟩ : ∃ (T' : State) (L' : List Loc), Stand p l e room_1 s m #[(.int p0), (.int p1), (.int p2), (.int p3), (.int p4), (.int p5)] below meth c T' L' 1 2 ∧ T'.heap = T146.heap ∧ Fr n0 L' ∧ ∀ t, Steps p.tables e below (T'.setTop (mkF m 254 #[.val (.int p0), .val (.int p1), .val (.int p2), .val (.int p3), .val (.int p4), .val (.int p5), .val (.int x3), .val (.int v39_s0), .val (.int v60_s0), .val (.int v73_s0), .val (.int x79), .val (.int x89), .val (.int x96), .val (.int x106), .val (.int x116), .val (.int x126), .val (.double x131), .second, .val (.double x136), .second, .val (.double x158), .second] [(.int v254_s0)])) t → Steps p.tables e below (T155.setTop (mkF m 227 #[.val (.int p0), .val (.int p1), .val (.int p2), .val (.int p3), .val (.int p4), .val (.int p5), .val (.int x3), .val (.int v39_s0), .val (.int v60_s0), .val (.int v73_s0), .val (.int x79), .val (.int x89), .val (.int x96), .val (.int x106), .val (.int x116), .val (.int x126), .val (.double x131), .second, .val (.double x136), .second, .val (.double x158), .second] [(.int v73_s0)])) t := by
          have pre227 : ∀ t, Steps p.tables e below (T155.setTop (mkF m 227 #[.val (.int p0), .val (.int p1), .val (.int p2), .val (.int p3), .val (.int p4), .val (.int p5), .val (.int x3), .val (.int v39_s0), .val (.int v60_s0), .val (.int v73_s0), .val (.int x79), .val (.int x89), .val (.int x96), .val (.int x106), .val (.int x116), .val (.int x126), .val (.double x131), .second, .val (.double x136), .second, .val (.double x158), .second] [(.int v73_s0)])) t → Steps p.tables e below (T155.setTop (mkF m 227 #[.val (.int p0), .val (.int p1), .val (.int p2), .val (.int p3), .val (.int p4), .val (.int p5), .val (.int x3), .val (.int v39_s0), .val (.int v60_s0), .val (.int v73_s0), .val (.int x79), .val (.int x89), .val (.int x96), .val (.int x106), .val (.int x116), .val (.int x126), .val (.double x131), .second, .val (.double x136), .second, .val (.double x158), .second] [(.int v73_s0)])) t := fun t k => k
          by_cases hc227 : (¬ ((p2 &&& (1 : Int32)) = (0 : Int32)))
          · -- (¬ ((p2 &&& (1 : Int32)) = (0 : Int32)))
            have pre230 : ∀ t, Steps p.tables e below (T155.setTop (mkF m 230 #[.val (.int p0), .val (.int p1), .val (.int p2), .val (.int p3), .val (.int p4), .val (.int p5), .val (.int x3), .val (.int v39_s0), .val (.int v60_s0), .val (.int v73_s0), .val (.int x79), .val (.int x89), .val (.int x96), .val (.int x106), .val (.int x116), .val (.int x126), .val (.double x131), .second, .val (.double x136), .second, .val (.double x158), .second] [])) t → Steps p.tables e below (T155.setTop (mkF m 227 #[.val (.int p0), .val (.int p1), .val (.int p2), .val (.int p3), .val (.int p4), .val (.int p5), .val (.int x3), .val (.int v39_s0), .val (.int v60_s0), .val (.int v73_s0), .val (.int x79), .val (.int x89), .val (.int x96), .val (.int x106), .val (.int x116), .val (.int x126), .val (.double x131), .second, .val (.double x136), .second, .val (.double x158), .second] [(.int v73_s0)])) t := fun t k => pre227 t (by
              show Steps p.tables e below (T155.setTop (mkF m 227 #[.val (.int p0), .val (.int p1), .val (.int p2), .val (.int p3), .val (.int p4), .val (.int p5), .val (.int x3), .val (.int v39_s0), .val (.int v60_s0), .val (.int v73_s0), .val (.int x79), .val (.int x89), .val (.int x96), .val (.int x106), .val (.int x116), .val (.int x126), .val (.double x131), .second, .val (.double x136), .second, .val (.double x158), .second] [(.int v73_s0)])) t
              refine XS.ifNo X155.here hx rfl (hb hby at_227) rfl ((if0 _ _).trans (feq (by rw [hv73_s0, if_pos hc227]; decide)).1) ?_
              exact k)
            have pre236 : ∀ t, Steps p.tables e below (T155.setTop (mkF m 236 #[.val (.int p0), .val (.int p1), .val (.int p2), .val (.int p3), .val (.int p4), .val (.int p5), .val (.int x3), .val (.int v39_s0), .val (.int v60_s0), .val (.int v73_s0), .val (.int x79), .val (.int x89), .val (.int x96), .val (.int x106), .val (.int x116), .val (.int x126), .val (.double x131), .second, .val (.double x136), .second, .val (.double x158), .second] [(.int x89), (.int x79), (.double x158)])) t → Steps p.tables e below (T155.setTop (mkF m 227 #[.val (.int p0), .val (.int p1), .val (.int p2), .val (.int p3), .val (.int p4), .val (.int p5), .val (.int x3), .val (.int v39_s0), .val (.int v60_s0), .val (.int v73_s0), .val (.int x79), .val (.int x89), .val (.int x96), .val (.int x106), .val (.int x116), .val (.int x126), .val (.double x131), .second, .val (.double x136), .second, .val (.double x158), .second] [(.int v73_s0)])) t := fun t k => pre230 t (by
              show Steps p.tables e below (T155.setTop (mkF m 230 #[.val (.int p0), .val (.int p1), .val (.int p2), .val (.int p3), .val (.int p4), .val (.int p5), .val (.int x3), .val (.int v39_s0), .val (.int v60_s0), .val (.int v73_s0), .val (.int x79), .val (.int x89), .val (.int x96), .val (.int x106), .val (.int x116), .val (.int x126), .val (.double x131), .second, .val (.double x136), .second, .val (.double x158), .second] [])) t
              refine own_dload X155 hx rfl (hb hby at_230) rfl ?_
              show Steps p.tables e below (T155.setTop (mkF m 232 #[.val (.int p0), .val (.int p1), .val (.int p2), .val (.int p3), .val (.int p4), .val (.int p5), .val (.int x3), .val (.int v39_s0), .val (.int v60_s0), .val (.int v73_s0), .val (.int x79), .val (.int x89), .val (.int x96), .val (.int x106), .val (.int x116), .val (.int x126), .val (.double x131), .second, .val (.double x136), .second, .val (.double x158), .second] [(.double x158)])) _
              refine XS.iload X155.here hx rfl (hb hby at_232) rfl ?_
              show Steps p.tables e below (T155.setTop (mkF m 234 #[.val (.int p0), .val (.int p1), .val (.int p2), .val (.int p3), .val (.int p4), .val (.int p5), .val (.int x3), .val (.int v39_s0), .val (.int v60_s0), .val (.int v73_s0), .val (.int x79), .val (.int x89), .val (.int x96), .val (.int x106), .val (.int x116), .val (.int x126), .val (.double x131), .second, .val (.double x136), .second, .val (.double x158), .second] [(.int x79), (.double x158)])) _
              refine XS.iload X155.here hx rfl (hb hby at_234) rfl ?_
              show Steps p.tables e below (T155.setTop (mkF m 236 #[.val (.int p0), .val (.int p1), .val (.int p2), .val (.int p3), .val (.int p4), .val (.int p5), .val (.int x3), .val (.int v39_s0), .val (.int v60_s0), .val (.int v73_s0), .val (.int x79), .val (.int x89), .val (.int x96), .val (.int x106), .val (.int x116), .val (.int x126), .val (.double x131), .second, .val (.double x136), .second, .val (.double x158), .second] [(.int x89), (.int x79), (.double x158)])) _
              exact k)
            obtain ⟨_, _, ⟨T236, L236, k236, n236⟩, -, X236, ⟨Lc236, hQ236, l236, y236, z236⟩, st236⟩ := Jvm.LawKit.callS X155 hx (y := (⟨"com/example/kindred/kindred/NullFieldRuleWeighPinLaw", "near", "(DII)Z"⟩ : MethodName)) hown (mvT hZ (hw _ (List.mem_of_getElem? (i := 25) rfl))) (mvT hZ (hw _ (List.mem_of_getElem? (i := 26) rfl))) (mvT hZ (hw _ (List.mem_of_getElem? (i := 27) rfl))) (mvT hZ (hw _ (List.mem_of_getElem? (i := 28) rfl))) (by decide) (backOf (W := 0) (rmN l Z a0 hw [] x158 x79 x89  T146.heap n0 ZS146 ) hZ (hw _ (List.mem_of_getElem? (i := 28) rfl)) (hw _ (List.mem_of_getElem? (i := 27) rfl)) (by decide) (by decide)) (g := (mkF m 236 #[.val (.int p0), .val (.int p1), .val (.int p2), .val (.int p3), .val (.int p4), .val (.int p5), .val (.int x3), .val (.int v39_s0), .val (.int v60_s0), .val (.int v73_s0), .val (.int x79), .val (.int x89), .val (.int x96), .val (.int x106), .val (.int x116), .val (.int x126), .val (.double x131), .second, .val (.double x136), .second, .val (.double x158), .second] [(.int x89), (.int x79), (.double x158)])) rfl (by rw [hml]; rfl) (argsL := [(.double x158), (.int x79), (.int x89)]) (rest := []) (lenOf pd0_2 rfl) rfl (by show 2 * 0 + _ ≤ _; exact Nat.le_of_eq rfl) (hb hby at_236) (fun _ _ => ⟨rfl, e155, (by decide : 1 + 0 ≤ _), (by decide : 2 + 0 ≤ _)⟩)
            dsimp only [Pt.U, Pt.locs, Pt.cells, Pt.slots] at X236 l236 y236 z236 st236 hQ236
            subst l236 y236 z236
            obtain ⟨rfl, N236q, e236⟩ := hQ236
            have N236 := Fr.app N155 N236q
            have pre239 : ∀ t, Steps p.tables e below (T236.setTop (mkF m 239 #[.val (.int p0), .val (.int p1), .val (.int p2), .val (.int p3), .val (.int p4), .val (.int p5), .val (.int x3), .val (.int v39_s0), .val (.int v60_s0), .val (.int v73_s0), .val (.int x79), .val (.int x89), .val (.int x96), .val (.int x106), .val (.int x116), .val (.int x126), .val (.double x131), .second, .val (.double x136), .second, .val (.double x158), .second] [(.int (own_fN x158 x79 x89))])) t → Steps p.tables e below (T155.setTop (mkF m 227 #[.val (.int p0), .val (.int p1), .val (.int p2), .val (.int p3), .val (.int p4), .val (.int p5), .val (.int x3), .val (.int v39_s0), .val (.int v60_s0), .val (.int v73_s0), .val (.int x79), .val (.int x89), .val (.int x96), .val (.int x106), .val (.int x116), .val (.int x126), .val (.double x131), .second, .val (.double x136), .second, .val (.double x158), .second] [(.int v73_s0)])) t := fun t k => pre236 t (st236 _ k)
            have pre254 : ∀ t, Steps p.tables e below (T236.setTop (mkF m 254 #[.val (.int p0), .val (.int p1), .val (.int p2), .val (.int p3), .val (.int p4), .val (.int p5), .val (.int x3), .val (.int v39_s0), .val (.int v60_s0), .val (.int v73_s0), .val (.int x79), .val (.int x89), .val (.int x96), .val (.int x106), .val (.int x116), .val (.int x126), .val (.double x131), .second, .val (.double x136), .second, .val (.double x158), .second] [(.int (own_fN x158 x79 x89))])) t → Steps p.tables e below (T155.setTop (mkF m 227 #[.val (.int p0), .val (.int p1), .val (.int p2), .val (.int p3), .val (.int p4), .val (.int p5), .val (.int x3), .val (.int v39_s0), .val (.int v60_s0), .val (.int v73_s0), .val (.int x79), .val (.int x89), .val (.int x96), .val (.int x106), .val (.int x116), .val (.int x126), .val (.double x131), .second, .val (.double x136), .second, .val (.double x158), .second] [(.int v73_s0)])) t := fun t k => pre239 t (by
              show Steps p.tables e below (T236.setTop (mkF m 239 #[.val (.int p0), .val (.int p1), .val (.int p2), .val (.int p3), .val (.int p4), .val (.int p5), .val (.int x3), .val (.int v39_s0), .val (.int v60_s0), .val (.int v73_s0), .val (.int x79), .val (.int x89), .val (.int x96), .val (.int x106), .val (.int x116), .val (.int x126), .val (.double x131), .second, .val (.double x136), .second, .val (.double x158), .second] [(.int (own_fN x158 x79 x89))])) t
              refine XS.goto X236.here hx rfl (pc0 := 239) (pc' := 254) rfl (hb hby at_239) (by decide) (by decide) ?_
              show Steps p.tables e below (T236.setTop (mkF m 254 #[.val (.int p0), .val (.int p1), .val (.int p2), .val (.int p3), .val (.int p4), .val (.int p5), .val (.int x3), .val (.int v39_s0), .val (.int v60_s0), .val (.int v73_s0), .val (.int x79), .val (.int x89), .val (.int x96), .val (.int x106), .val (.int x116), .val (.int x126), .val (.double x131), .second, .val (.double x136), .second, .val (.double x158), .second] [(.int (own_fN x158 x79 x89))])) _
              exact k)
            have ehv254_s0 := hv254_s0.trans (if_pos hc227)
            exact ⟨T236, _, X236, e236, N236, fun t k => pre254 t (by subst ehv254_s0; exact k)⟩
          · -- not (¬ ((p2 &&& (1 : Int32)) = (0 : Int32)))
            have pre242 : ∀ t, Steps p.tables e below (T155.setTop (mkF m 242 #[.val (.int p0), .val (.int p1), .val (.int p2), .val (.int p3), .val (.int p4), .val (.int p5), .val (.int x3), .val (.int v39_s0), .val (.int v60_s0), .val (.int v73_s0), .val (.int x79), .val (.int x89), .val (.int x96), .val (.int x106), .val (.int x116), .val (.int x126), .val (.double x131), .second, .val (.double x136), .second, .val (.double x158), .second] [])) t → Steps p.tables e below (T155.setTop (mkF m 227 #[.val (.int p0), .val (.int p1), .val (.int p2), .val (.int p3), .val (.int p4), .val (.int p5), .val (.int x3), .val (.int v39_s0), .val (.int v60_s0), .val (.int v73_s0), .val (.int x79), .val (.int x89), .val (.int x96), .val (.int x106), .val (.int x116), .val (.int x126), .val (.double x131), .second, .val (.double x136), .second, .val (.double x158), .second] [(.int v73_s0)])) t := fun t k => pre227 t (by
              show Steps p.tables e below (T155.setTop (mkF m 227 #[.val (.int p0), .val (.int p1), .val (.int p2), .val (.int p3), .val (.int p4), .val (.int p5), .val (.int x3), .val (.int v39_s0), .val (.int v60_s0), .val (.int v73_s0), .val (.int x79), .val (.int x89), .val (.int x96), .val (.int x106), .val (.int x116), .val (.int x126), .val (.double x131), .second, .val (.double x136), .second, .val (.double x158), .second] [(.int v73_s0)])) t
              refine XS.ifYes X155.here hx rfl (pc0 := 227) (pc' := 242) rfl (hb hby at_227) rfl ((if0 _ _).trans (teq (by rw [hv73_s0, if_neg hc227])).1) (by decide) (by decide) ?_
              exact k)
            have pre246 : ∀ t, Steps p.tables e below (T155.setTop (mkF m 246 #[.val (.int p0), .val (.int p1), .val (.int p2), .val (.int p3), .val (.int p4), .val (.int p5), .val (.int x3), .val (.int v39_s0), .val (.int v60_s0), .val (.int v73_s0), .val (.int x79), .val (.int x89), .val (.int x96), .val (.int x106), .val (.int x116), .val (.int x126), .val (.double x131), .second, .val (.double x136), .second, .val (.double x158), .second] [(.int (cmpValue (FP.dcmp x158 FP.dconst0) .l))])) t → Steps p.tables e below (T155.setTop (mkF m 227 #[.val (.int p0), .val (.int p1), .val (.int p2), .val (.int p3), .val (.int p4), .val (.int p5), .val (.int x3), .val (.int v39_s0), .val (.int v60_s0), .val (.int v73_s0), .val (.int x79), .val (.int x89), .val (.int x96), .val (.int x106), .val (.int x116), .val (.int x126), .val (.double x131), .second, .val (.double x136), .second, .val (.double x158), .second] [(.int v73_s0)])) t := fun t k => pre242 t (by
              show Steps p.tables e below (T155.setTop (mkF m 242 #[.val (.int p0), .val (.int p1), .val (.int p2), .val (.int p3), .val (.int p4), .val (.int p5), .val (.int x3), .val (.int v39_s0), .val (.int v60_s0), .val (.int v73_s0), .val (.int x79), .val (.int x89), .val (.int x96), .val (.int x106), .val (.int x116), .val (.int x126), .val (.double x131), .second, .val (.double x136), .second, .val (.double x158), .second] [])) t
              refine own_dload X155 hx rfl (hb hby at_242) rfl ?_
              show Steps p.tables e below (T155.setTop (mkF m 244 #[.val (.int p0), .val (.int p1), .val (.int p2), .val (.int p3), .val (.int p4), .val (.int p5), .val (.int x3), .val (.int v39_s0), .val (.int v60_s0), .val (.int v73_s0), .val (.int x79), .val (.int x89), .val (.int x96), .val (.int x106), .val (.int x116), .val (.int x126), .val (.double x131), .second, .val (.double x136), .second, .val (.double x158), .second] [(.double x158)])) _
              refine own_dconst0 X155 hx rfl (hb hby at_244) ?_
              show Steps p.tables e below (T155.setTop (mkF m 245 #[.val (.int p0), .val (.int p1), .val (.int p2), .val (.int p3), .val (.int p4), .val (.int p5), .val (.int x3), .val (.int v39_s0), .val (.int v60_s0), .val (.int v73_s0), .val (.int x79), .val (.int x89), .val (.int x96), .val (.int x106), .val (.int x116), .val (.int x126), .val (.double x131), .second, .val (.double x136), .second, .val (.double x158), .second] [(.double FP.dconst0), (.double x158)])) _
              refine own_dcmp X155 hx rfl (hb hby at_245) rfl ?_
              show Steps p.tables e below (T155.setTop (mkF m 246 #[.val (.int p0), .val (.int p1), .val (.int p2), .val (.int p3), .val (.int p4), .val (.int p5), .val (.int x3), .val (.int v39_s0), .val (.int v60_s0), .val (.int v73_s0), .val (.int x79), .val (.int x89), .val (.int x96), .val (.int x106), .val (.int x116), .val (.int x126), .val (.double x131), .second, .val (.double x136), .second, .val (.double x158), .second] [(.int (cmpValue (FP.dcmp x158 FP.dconst0) .l))])) _
              exact k)
            by_cases hc246 : (cmpValue (FP.dcmp x158 FP.dconst0) .l) = (0 : Int32)
            · -- (cmpValue (FP.dcmp x158 FP.dconst0) .l) = (0 : Int32)
              have pre249 : ∀ t, Steps p.tables e below (T155.setTop (mkF m 249 #[.val (.int p0), .val (.int p1), .val (.int p2), .val (.int p3), .val (.int p4), .val (.int p5), .val (.int x3), .val (.int v39_s0), .val (.int v60_s0), .val (.int v73_s0), .val (.int x79), .val (.int x89), .val (.int x96), .val (.int x106), .val (.int x116), .val (.int x126), .val (.double x131), .second, .val (.double x136), .second, .val (.double x158), .second] [])) t → Steps p.tables e below (T155.setTop (mkF m 227 #[.val (.int p0), .val (.int p1), .val (.int p2), .val (.int p3), .val (.int p4), .val (.int p5), .val (.int x3), .val (.int v39_s0), .val (.int v60_s0), .val (.int v73_s0), .val (.int x79), .val (.int x89), .val (.int x96), .val (.int x106), .val (.int x116), .val (.int x126), .val (.double x131), .second, .val (.double x136), .second, .val (.double x158), .second] [(.int v73_s0)])) t := fun t k => pre246 t (by
                show Steps p.tables e below (T155.setTop (mkF m 246 #[.val (.int p0), .val (.int p1), .val (.int p2), .val (.int p3), .val (.int p4), .val (.int p5), .val (.int x3), .val (.int v39_s0), .val (.int v60_s0), .val (.int v73_s0), .val (.int x79), .val (.int x89), .val (.int x96), .val (.int x106), .val (.int x116), .val (.int x126), .val (.double x131), .second, .val (.double x136), .second, .val (.double x158), .second] [(.int (cmpValue (FP.dcmp x158 FP.dconst0) .l))])) t
                refine XS.ifNo X155.here hx rfl (hb hby at_246) rfl ((if0 _ _).trans (teq hc246).2) ?_
                exact k)
              have pre254 : ∀ t, Steps p.tables e below (T155.setTop (mkF m 254 #[.val (.int p0), .val (.int p1), .val (.int p2), .val (.int p3), .val (.int p4), .val (.int p5), .val (.int x3), .val (.int v39_s0), .val (.int v60_s0), .val (.int v73_s0), .val (.int x79), .val (.int x89), .val (.int x96), .val (.int x106), .val (.int x116), .val (.int x126), .val (.double x131), .second, .val (.double x136), .second, .val (.double x158), .second] [(.int (1 : Int32))])) t → Steps p.tables e below (T155.setTop (mkF m 227 #[.val (.int p0), .val (.int p1), .val (.int p2), .val (.int p3), .val (.int p4), .val (.int p5), .val (.int x3), .val (.int v39_s0), .val (.int v60_s0), .val (.int v73_s0), .val (.int x79), .val (.int x89), .val (.int x96), .val (.int x106), .val (.int x116), .val (.int x126), .val (.double x131), .second, .val (.double x136), .second, .val (.double x158), .second] [(.int v73_s0)])) t := fun t k => pre249 t (by
                show Steps p.tables e below (T155.setTop (mkF m 249 #[.val (.int p0), .val (.int p1), .val (.int p2), .val (.int p3), .val (.int p4), .val (.int p5), .val (.int x3), .val (.int v39_s0), .val (.int v60_s0), .val (.int v73_s0), .val (.int x79), .val (.int x89), .val (.int x96), .val (.int x106), .val (.int x116), .val (.int x126), .val (.double x131), .second, .val (.double x136), .second, .val (.double x158), .second] [])) t
                refine XS.iconst X155.here hx rfl (hb hby at_249) ?_
                show Steps p.tables e below (T155.setTop (mkF m 250 #[.val (.int p0), .val (.int p1), .val (.int p2), .val (.int p3), .val (.int p4), .val (.int p5), .val (.int x3), .val (.int v39_s0), .val (.int v60_s0), .val (.int v73_s0), .val (.int x79), .val (.int x89), .val (.int x96), .val (.int x106), .val (.int x116), .val (.int x126), .val (.double x131), .second, .val (.double x136), .second, .val (.double x158), .second] [(.int (1 : Int32))])) _
                refine XS.goto X155.here hx rfl (pc0 := 250) (pc' := 254) rfl (hb hby at_250) (by decide) (by decide) ?_
                show Steps p.tables e below (T155.setTop (mkF m 254 #[.val (.int p0), .val (.int p1), .val (.int p2), .val (.int p3), .val (.int p4), .val (.int p5), .val (.int x3), .val (.int v39_s0), .val (.int v60_s0), .val (.int v73_s0), .val (.int x79), .val (.int x89), .val (.int x96), .val (.int x106), .val (.int x116), .val (.int x126), .val (.double x131), .second, .val (.double x136), .second, .val (.double x158), .second] [(.int (1 : Int32))])) _
                exact k)
              have ehv254_s0 := hv254_s0.trans ((if_neg hc227).trans (if_pos hc246))
              exact ⟨T155, _, X155, e155, N155, fun t k => pre254 t (by subst ehv254_s0; exact k)⟩
            · -- not (cmpValue (FP.dcmp x158 FP.dconst0) .l) = (0 : Int32)
              have pre253 : ∀ t, Steps p.tables e below (T155.setTop (mkF m 253 #[.val (.int p0), .val (.int p1), .val (.int p2), .val (.int p3), .val (.int p4), .val (.int p5), .val (.int x3), .val (.int v39_s0), .val (.int v60_s0), .val (.int v73_s0), .val (.int x79), .val (.int x89), .val (.int x96), .val (.int x106), .val (.int x116), .val (.int x126), .val (.double x131), .second, .val (.double x136), .second, .val (.double x158), .second] [])) t → Steps p.tables e below (T155.setTop (mkF m 227 #[.val (.int p0), .val (.int p1), .val (.int p2), .val (.int p3), .val (.int p4), .val (.int p5), .val (.int x3), .val (.int v39_s0), .val (.int v60_s0), .val (.int v73_s0), .val (.int x79), .val (.int x89), .val (.int x96), .val (.int x106), .val (.int x116), .val (.int x126), .val (.double x131), .second, .val (.double x136), .second, .val (.double x158), .second] [(.int v73_s0)])) t := fun t k => pre246 t (by
                show Steps p.tables e below (T155.setTop (mkF m 246 #[.val (.int p0), .val (.int p1), .val (.int p2), .val (.int p3), .val (.int p4), .val (.int p5), .val (.int x3), .val (.int v39_s0), .val (.int v60_s0), .val (.int v73_s0), .val (.int x79), .val (.int x89), .val (.int x96), .val (.int x106), .val (.int x116), .val (.int x126), .val (.double x131), .second, .val (.double x136), .second, .val (.double x158), .second] [(.int (cmpValue (FP.dcmp x158 FP.dconst0) .l))])) t
                refine XS.ifYes X155.here hx rfl (pc0 := 246) (pc' := 253) rfl (hb hby at_246) rfl ((if0 _ _).trans (feq hc246).2) (by decide) (by decide) ?_
                exact k)
              have pre254 : ∀ t, Steps p.tables e below (T155.setTop (mkF m 254 #[.val (.int p0), .val (.int p1), .val (.int p2), .val (.int p3), .val (.int p4), .val (.int p5), .val (.int x3), .val (.int v39_s0), .val (.int v60_s0), .val (.int v73_s0), .val (.int x79), .val (.int x89), .val (.int x96), .val (.int x106), .val (.int x116), .val (.int x126), .val (.double x131), .second, .val (.double x136), .second, .val (.double x158), .second] [(.int (0 : Int32))])) t → Steps p.tables e below (T155.setTop (mkF m 227 #[.val (.int p0), .val (.int p1), .val (.int p2), .val (.int p3), .val (.int p4), .val (.int p5), .val (.int x3), .val (.int v39_s0), .val (.int v60_s0), .val (.int v73_s0), .val (.int x79), .val (.int x89), .val (.int x96), .val (.int x106), .val (.int x116), .val (.int x126), .val (.double x131), .second, .val (.double x136), .second, .val (.double x158), .second] [(.int v73_s0)])) t := fun t k => pre253 t (by
                show Steps p.tables e below (T155.setTop (mkF m 253 #[.val (.int p0), .val (.int p1), .val (.int p2), .val (.int p3), .val (.int p4), .val (.int p5), .val (.int x3), .val (.int v39_s0), .val (.int v60_s0), .val (.int v73_s0), .val (.int x79), .val (.int x89), .val (.int x96), .val (.int x106), .val (.int x116), .val (.int x126), .val (.double x131), .second, .val (.double x136), .second, .val (.double x158), .second] [])) t
                refine XS.iconst X155.here hx rfl (hb hby at_253) ?_
                show Steps p.tables e below (T155.setTop (mkF m 254 #[.val (.int p0), .val (.int p1), .val (.int p2), .val (.int p3), .val (.int p4), .val (.int p5), .val (.int x3), .val (.int v39_s0), .val (.int v60_s0), .val (.int v73_s0), .val (.int x79), .val (.int x89), .val (.int x96), .val (.int x106), .val (.int x116), .val (.int x126), .val (.double x131), .second, .val (.double x136), .second, .val (.double x158), .second] [(.int (0 : Int32))])) _
                exact k)
              have ehv254_s0 := hv254_s0.trans ((if_neg hc227).trans (if_neg hc246))
              exact ⟨T155, _, X155, e155, N155, fun t k => pre254 t (by subst ehv254_s0; exact k)⟩
        have pre254 : ∀ t, Steps p.tables e below (T254j.setTop (mkF m 254 #[.val (.int p0), .val (.int p1), .val (.int p2), .val (.int p3), .val (.int p4), .val (.int p5), .val (.int x3), .val (.int v39_s0), .val (.int v60_s0), .val (.int v73_s0), .val (.int x79), .val (.int x89), .val (.int x96), .val (.int x106), .val (.int x116), .val (.int x126), .val (.double x131), .second, .val (.double x136), .second, .val (.double x158), .second] [(.int v254_s0)])) t → Steps p.tables e below (s₁.setTop (entryFrame m #[(.int p0), (.int p1), (.int p2), (.int p3), (.int p4), (.int p5)] maxLocals)) t := fun t k => pre227 t (st254j t k)
        obtain ⟨fs, hr, hrun, hended, hW, hsame⟩ := X254j.leave (v := some (.int (nar .boolean v254_s0))) (fun h => by rw [Bd.returns] at h; cases h)
        refine ⟨_, _, pre254 _ ?_, hrun, hended, _, _, rfl, ?_, ⟨_, rfl⟩, hW, hsame.mono (by decide) (by decide)⟩
        · show Steps p.tables e below (T254j.setTop (mkF m 254 #[.val (.int p0), .val (.int p1), .val (.int p2), .val (.int p3), .val (.int p4), .val (.int p5), .val (.int x3), .val (.int v39_s0), .val (.int v60_s0), .val (.int v73_s0), .val (.int x79), .val (.int x89), .val (.int x96), .val (.int x106), .val (.int x116), .val (.int x126), .val (.double x131), .second, .val (.double x136), .second, .val (.double x158), .second] [(.int v254_s0)])) _
          exact retN X254j hx (t := .boolean) Bd.returns (by simp) (hb hby at_254) hr
        · show Q0 Z p0 p1 p2 p3 p4 p5 h0 n0 _ T254j.heap _
          rw [e254j]
          have hres : (nar .boolean v254_s0) = (1 : Int32) := by
            exact own_k2 ((own_c hv39_s0).2.2.1 hc162 hc181 hc222) hx158 hx131 hv73_s0 (own_nearOK hdr (own_na hdr hx79 (own_ra hdr hx89) hx116).1 (own_ra hdr hx89) (own_na hdr hx79 (own_ra hdr hx89) hx116).2) hv254_s0
          exact ⟨congrArg (fun q => some (Value.int q)) hres, N254j⟩
      · -- not x3 = (2 : Int32)
        have pre255 : ∀ t, Steps p.tables e below (T155.setTop (mkF m 255 #[.val (.int p0), .val (.int p1), .val (.int p2), .val (.int p3), .val (.int p4), .val (.int p5), .val (.int x3), .val (.int v39_s0), .val (.int v60_s0), .val (.int v73_s0), .val (.int x79), .val (.int x89), .val (.int x96), .val (.int x106), .val (.int x116), .val (.int x126), .val (.double x131), .second, .val (.double x136), .second, .val (.double x158), .second] [])) t → Steps p.tables e below (s₁.setTop (entryFrame m #[(.int p0), (.int p1), (.int p2), (.int p3), (.int p4), (.int p5)] maxLocals)) t := fun t k => pre222 t (by
          show Steps p.tables e below (T155.setTop (mkF m 222 #[.val (.int p0), .val (.int p1), .val (.int p2), .val (.int p3), .val (.int p4), .val (.int p5), .val (.int x3), .val (.int v39_s0), .val (.int v60_s0), .val (.int v73_s0), .val (.int x79), .val (.int x89), .val (.int x96), .val (.int x106), .val (.int x116), .val (.int x126), .val (.double x131), .second, .val (.double x136), .second, .val (.double x158), .second] [(.int (2 : Int32)), (.int x3)])) t
          refine XS.icmpYes X155.here hx rfl (pc0 := 222) (pc' := 255) rfl (hb hby at_222) rfl (feq hc222).2 (by decide) (by decide) ?_
          exact k)
        have pre257 : ∀ t, Steps p.tables e below (T155.setTop (mkF m 257 #[.val (.int p0), .val (.int p1), .val (.int p2), .val (.int p3), .val (.int p4), .val (.int p5), .val (.int x3), .val (.int v39_s0), .val (.int v60_s0), .val (.int v73_s0), .val (.int x79), .val (.int x89), .val (.int x96), .val (.int x106), .val (.int x116), .val (.int x126), .val (.double x131), .second, .val (.double x136), .second, .val (.double x158), .second] [(.int v73_s0)])) t → Steps p.tables e below (s₁.setTop (entryFrame m #[(.int p0), (.int p1), (.int p2), (.int p3), (.int p4), (.int p5)] maxLocals)) t := fun t k => pre255 t (by
          show Steps p.tables e below (T155.setTop (mkF m 255 #[.val (.int p0), .val (.int p1), .val (.int p2), .val (.int p3), .val (.int p4), .val (.int p5), .val (.int x3), .val (.int v39_s0), .val (.int v60_s0), .val (.int v73_s0), .val (.int x79), .val (.int x89), .val (.int x96), .val (.int x106), .val (.int x116), .val (.int x126), .val (.double x131), .second, .val (.double x136), .second, .val (.double x158), .second] [])) t
          refine XS.iload X155.here hx rfl (hb hby at_255) rfl ?_
          show Steps p.tables e below (T155.setTop (mkF m 257 #[.val (.int p0), .val (.int p1), .val (.int p2), .val (.int p3), .val (.int p4), .val (.int p5), .val (.int x3), .val (.int v39_s0), .val (.int v60_s0), .val (.int v73_s0), .val (.int x79), .val (.int x89), .val (.int x96), .val (.int x106), .val (.int x116), .val (.int x126), .val (.double x131), .second, .val (.double x136), .second, .val (.double x158), .second] [(.int v73_s0)])) _
          exact k)
        obtain ⟨v284_s0, hv284_s0⟩ : ∃ z : Int32, z = (if (¬ ((p2 &&& (1 : Int32)) = (0 : Int32))) then (if (cmpValue (FP.dcmp x158 FP.dconst0) .l) = (0 : Int32) then (1 : Int32) else (0 : Int32)) else (own_fN x158 x96 x106)) := ⟨_, rfl⟩
        obtain ⟨T284j, L284j, X284j, e284j, N284j, st284j⟩ : ∃ (T' : State) (L' : List Loc), Stand p l e room_1 s m #[(.int p0), (.int p1), (.int p2), (.int p3), (.int p4), (.int p5)] below meth c T' L' 1 2 ∧ T'.heap = T146.heap ∧ Fr n0 L' ∧ ∀ t, Steps p.tables e below (T'.setTop (mkF m 284 #[.val (.int p0), .val (.int p1), .val (.int p2), .val (.int p3), .val (.int p4), .val (.int p5), .val (.int x3), .val (.int v39_s0), .val (.int v60_s0), .val (.int v73_s0), .val (.int x79), .val (.int x89), .val (.int x96), .val (.int x106), .val (.int x116), .val (.int x126), .val (.double x131), .second, .val (.double x136), .second, .val (.double x158), .second] [(.int v284_s0)])) t → Steps p.tables e below (T155.setTop (mkF m 257 #[.val (.int p0), .val (.int p1), .val (.int p2), .val (.int p3), .val (.int p4), .val (.int p5), .val (.int x3), .val (.int v39_s0), .val (.int v60_s0), .val (.int v73_s0), .val (.int x79), .val (.int x89), .val (.int x96), .val (.int x106), .val (.int x116), .val (.int x126), .val (.double x131), .second, .val (.double x136), .second, .val (.double x158), .second] [(.int v73_s0)])) t := by
          have pre257 : ∀ t, Steps p.tables e below (T155.setTop (mkF m 257 #[.val (.int p0), .val (.int p1), .val (.int p2), .val (.int p3), .val (.int p4), .val (.int p5), .val (.int x3), .val (.int v39_s0), .val (.int v60_s0), .val (.int v73_s0), .val (.int x79), .val (.int x89), .val (.int x96), .val (.int x106), .val (.int x116), .val (.int x126), .val (.double x131), .second, .val (.double x136), .second, .val (.double x158), .second] [(.int v73_s0)])) t → Steps p.tables e below (T155.setTop (mkF m 257 #[.val (.int p0), .val (.int p1), .val (.int p2), .val (.int p3), .val (.int p4), .val (.int p5), .val (.int x3), .val (.int v39_s0), .val (.int v60_s0), .val (.int v73_s0), .val (.int x79), .val (.int x89), .val (.int x96), .val (.int x106), .val (.int x116), .val (.int x126), .val (.double x131), .second, .val (.double x136), .second, .val (.double x158), .second] [(.int v73_s0)])) t := fun t k => k
          by_cases hc257 : (¬ ((p2 &&& (1 : Int32)) = (0 : Int32)))
          · -- (¬ ((p2 &&& (1 : Int32)) = (0 : Int32)))
            have pre260 : ∀ t, Steps p.tables e below (T155.setTop (mkF m 260 #[.val (.int p0), .val (.int p1), .val (.int p2), .val (.int p3), .val (.int p4), .val (.int p5), .val (.int x3), .val (.int v39_s0), .val (.int v60_s0), .val (.int v73_s0), .val (.int x79), .val (.int x89), .val (.int x96), .val (.int x106), .val (.int x116), .val (.int x126), .val (.double x131), .second, .val (.double x136), .second, .val (.double x158), .second] [])) t → Steps p.tables e below (T155.setTop (mkF m 257 #[.val (.int p0), .val (.int p1), .val (.int p2), .val (.int p3), .val (.int p4), .val (.int p5), .val (.int x3), .val (.int v39_s0), .val (.int v60_s0), .val (.int v73_s0), .val (.int x79), .val (.int x89), .val (.int x96), .val (.int x106), .val (.int x116), .val (.int x126), .val (.double x131), .second, .val (.double x136), .second, .val (.double x158), .second] [(.int v73_s0)])) t := fun t k => pre257 t (by
              show Steps p.tables e below (T155.setTop (mkF m 257 #[.val (.int p0), .val (.int p1), .val (.int p2), .val (.int p3), .val (.int p4), .val (.int p5), .val (.int x3), .val (.int v39_s0), .val (.int v60_s0), .val (.int v73_s0), .val (.int x79), .val (.int x89), .val (.int x96), .val (.int x106), .val (.int x116), .val (.int x126), .val (.double x131), .second, .val (.double x136), .second, .val (.double x158), .second] [(.int v73_s0)])) t
              refine XS.ifNo X155.here hx rfl (hb hby at_257) rfl ((if0 _ _).trans (feq (by rw [hv73_s0, if_pos hc257]; decide)).1) ?_
              exact k)
            have pre264 : ∀ t, Steps p.tables e below (T155.setTop (mkF m 264 #[.val (.int p0), .val (.int p1), .val (.int p2), .val (.int p3), .val (.int p4), .val (.int p5), .val (.int x3), .val (.int v39_s0), .val (.int v60_s0), .val (.int v73_s0), .val (.int x79), .val (.int x89), .val (.int x96), .val (.int x106), .val (.int x116), .val (.int x126), .val (.double x131), .second, .val (.double x136), .second, .val (.double x158), .second] [(.int (cmpValue (FP.dcmp x158 FP.dconst0) .l))])) t → Steps p.tables e below (T155.setTop (mkF m 257 #[.val (.int p0), .val (.int p1), .val (.int p2), .val (.int p3), .val (.int p4), .val (.int p5), .val (.int x3), .val (.int v39_s0), .val (.int v60_s0), .val (.int v73_s0), .val (.int x79), .val (.int x89), .val (.int x96), .val (.int x106), .val (.int x116), .val (.int x126), .val (.double x131), .second, .val (.double x136), .second, .val (.double x158), .second] [(.int v73_s0)])) t := fun t k => pre260 t (by
              show Steps p.tables e below (T155.setTop (mkF m 260 #[.val (.int p0), .val (.int p1), .val (.int p2), .val (.int p3), .val (.int p4), .val (.int p5), .val (.int x3), .val (.int v39_s0), .val (.int v60_s0), .val (.int v73_s0), .val (.int x79), .val (.int x89), .val (.int x96), .val (.int x106), .val (.int x116), .val (.int x126), .val (.double x131), .second, .val (.double x136), .second, .val (.double x158), .second] [])) t
              refine own_dload X155 hx rfl (hb hby at_260) rfl ?_
              show Steps p.tables e below (T155.setTop (mkF m 262 #[.val (.int p0), .val (.int p1), .val (.int p2), .val (.int p3), .val (.int p4), .val (.int p5), .val (.int x3), .val (.int v39_s0), .val (.int v60_s0), .val (.int v73_s0), .val (.int x79), .val (.int x89), .val (.int x96), .val (.int x106), .val (.int x116), .val (.int x126), .val (.double x131), .second, .val (.double x136), .second, .val (.double x158), .second] [(.double x158)])) _
              refine own_dconst0 X155 hx rfl (hb hby at_262) ?_
              show Steps p.tables e below (T155.setTop (mkF m 263 #[.val (.int p0), .val (.int p1), .val (.int p2), .val (.int p3), .val (.int p4), .val (.int p5), .val (.int x3), .val (.int v39_s0), .val (.int v60_s0), .val (.int v73_s0), .val (.int x79), .val (.int x89), .val (.int x96), .val (.int x106), .val (.int x116), .val (.int x126), .val (.double x131), .second, .val (.double x136), .second, .val (.double x158), .second] [(.double FP.dconst0), (.double x158)])) _
              refine own_dcmp X155 hx rfl (hb hby at_263) rfl ?_
              show Steps p.tables e below (T155.setTop (mkF m 264 #[.val (.int p0), .val (.int p1), .val (.int p2), .val (.int p3), .val (.int p4), .val (.int p5), .val (.int x3), .val (.int v39_s0), .val (.int v60_s0), .val (.int v73_s0), .val (.int x79), .val (.int x89), .val (.int x96), .val (.int x106), .val (.int x116), .val (.int x126), .val (.double x131), .second, .val (.double x136), .second, .val (.double x158), .second] [(.int (cmpValue (FP.dcmp x158 FP.dconst0) .l))])) _
              exact k)
            by_cases hc264 : (cmpValue (FP.dcmp x158 FP.dconst0) .l) = (0 : Int32)
            · -- (cmpValue (FP.dcmp x158 FP.dconst0) .l) = (0 : Int32)
              have pre267 : ∀ t, Steps p.tables e below (T155.setTop (mkF m 267 #[.val (.int p0), .val (.int p1), .val (.int p2), .val (.int p3), .val (.int p4), .val (.int p5), .val (.int x3), .val (.int v39_s0), .val (.int v60_s0), .val (.int v73_s0), .val (.int x79), .val (.int x89), .val (.int x96), .val (.int x106), .val (.int x116), .val (.int x126), .val (.double x131), .second, .val (.double x136), .second, .val (.double x158), .second] [])) t → Steps p.tables e below (T155.setTop (mkF m 257 #[.val (.int p0), .val (.int p1), .val (.int p2), .val (.int p3), .val (.int p4), .val (.int p5), .val (.int x3), .val (.int v39_s0), .val (.int v60_s0), .val (.int v73_s0), .val (.int x79), .val (.int x89), .val (.int x96), .val (.int x106), .val (.int x116), .val (.int x126), .val (.double x131), .second, .val (.double x136), .second, .val (.double x158), .second] [(.int v73_s0)])) t := fun t k => pre264 t (by
                show Steps p.tables e below (T155.setTop (mkF m 264 #[.val (.int p0), .val (.int p1), .val (.int p2), .val (.int p3), .val (.int p4), .val (.int p5), .val (.int x3), .val (.int v39_s0), .val (.int v60_s0), .val (.int v73_s0), .val (.int x79), .val (.int x89), .val (.int x96), .val (.int x106), .val (.int x116), .val (.int x126), .val (.double x131), .second, .val (.double x136), .second, .val (.double x158), .second] [(.int (cmpValue (FP.dcmp x158 FP.dconst0) .l))])) t
                refine XS.ifNo X155.here hx rfl (hb hby at_264) rfl ((if0 _ _).trans (teq hc264).2) ?_
                exact k)
              have pre284 : ∀ t, Steps p.tables e below (T155.setTop (mkF m 284 #[.val (.int p0), .val (.int p1), .val (.int p2), .val (.int p3), .val (.int p4), .val (.int p5), .val (.int x3), .val (.int v39_s0), .val (.int v60_s0), .val (.int v73_s0), .val (.int x79), .val (.int x89), .val (.int x96), .val (.int x106), .val (.int x116), .val (.int x126), .val (.double x131), .second, .val (.double x136), .second, .val (.double x158), .second] [(.int (1 : Int32))])) t → Steps p.tables e below (T155.setTop (mkF m 257 #[.val (.int p0), .val (.int p1), .val (.int p2), .val (.int p3), .val (.int p4), .val (.int p5), .val (.int x3), .val (.int v39_s0), .val (.int v60_s0), .val (.int v73_s0), .val (.int x79), .val (.int x89), .val (.int x96), .val (.int x106), .val (.int x116), .val (.int x126), .val (.double x131), .second, .val (.double x136), .second, .val (.double x158), .second] [(.int v73_s0)])) t := fun t k => pre267 t (by
                show Steps p.tables e below (T155.setTop (mkF m 267 #[.val (.int p0), .val (.int p1), .val (.int p2), .val (.int p3), .val (.int p4), .val (.int p5), .val (.int x3), .val (.int v39_s0), .val (.int v60_s0), .val (.int v73_s0), .val (.int x79), .val (.int x89), .val (.int x96), .val (.int x106), .val (.int x116), .val (.int x126), .val (.double x131), .second, .val (.double x136), .second, .val (.double x158), .second] [])) t
                refine XS.iconst X155.here hx rfl (hb hby at_267) ?_
                show Steps p.tables e below (T155.setTop (mkF m 268 #[.val (.int p0), .val (.int p1), .val (.int p2), .val (.int p3), .val (.int p4), .val (.int p5), .val (.int x3), .val (.int v39_s0), .val (.int v60_s0), .val (.int v73_s0), .val (.int x79), .val (.int x89), .val (.int x96), .val (.int x106), .val (.int x116), .val (.int x126), .val (.double x131), .second, .val (.double x136), .second, .val (.double x158), .second] [(.int (1 : Int32))])) _
                refine XS.goto X155.here hx rfl (pc0 := 268) (pc' := 284) rfl (hb hby at_268) (by decide) (by decide) ?_
                show Steps p.tables e below (T155.setTop (mkF m 284 #[.val (.int p0), .val (.int p1), .val (.int p2), .val (.int p3), .val (.int p4), .val (.int p5), .val (.int x3), .val (.int v39_s0), .val (.int v60_s0), .val (.int v73_s0), .val (.int x79), .val (.int x89), .val (.int x96), .val (.int x106), .val (.int x116), .val (.int x126), .val (.double x131), .second, .val (.double x136), .second, .val (.double x158), .second] [(.int (1 : Int32))])) _
                exact k)
              have ehv284_s0 := hv284_s0.trans ((if_pos hc257).trans (if_pos hc264))
              exact ⟨T155, _, X155, e155, N155, fun t k => pre284 t (by subst ehv284_s0; exact k)⟩
            · -- not (cmpValue (FP.dcmp x158 FP.dconst0) .l) = (0 : Int32)
              have pre271 : ∀ t, Steps p.tables e below (T155.setTop (mkF m 271 #[.val (.int p0), .val (.int p1), .val (.int p2), .val (.int p3), .val (.int p4), .val (.int p5), .val (.int x3), .val (.int v39_s0), .val (.int v60_s0), .val (.int v73_s0), .val (.int x79), .val (.int x89), .val (.int x96), .val (.int x106), .val (.int x116), .val (.int x126), .val (.double x131), .second, .val (.double x136), .second, .val (.double x158), .second] [])) t → Steps p.tables e below (T155.setTop (mkF m 257 #[.val (.int p0), .val (.int p1), .val (.int p2), .val (.int p3), .val (.int p4), .val (.int p5), .val (.int x3), .val (.int v39_s0), .val (.int v60_s0), .val (.int v73_s0), .val (.int x79), .val (.int x89), .val (.int x96), .val (.int x106), .val (.int x116), .val (.int x126), .val (.double x131), .second, .val (.double x136), .second, .val (.double x158), .second] [(.int v73_s0)])) t := fun t k => pre264 t (by
                show Steps p.tables e below (T155.setTop (mkF m 264 #[.val (.int p0), .val (.int p1), .val (.int p2), .val (.int p3), .val (.int p4), .val (.int p5), .val (.int x3), .val (.int v39_s0), .val (.int v60_s0), .val (.int v73_s0), .val (.int x79), .val (.int x89), .val (.int x96), .val (.int x106), .val (.int x116), .val (.int x126), .val (.double x131), .second, .val (.double x136), .second, .val (.double x158), .second] [(.int (cmpValue (FP.dcmp x158 FP.dconst0) .l))])) t
                refine XS.ifYes X155.here hx rfl (pc0 := 264) (pc' := 271) rfl (hb hby at_264) rfl ((if0 _ _).trans (feq hc264).2) (by decide) (by decide) ?_
                exact k)
              have pre284 : ∀ t, Steps p.tables e below (T155.setTop (mkF m 284 #[.val (.int p0), .val (.int p1), .val (.int p2), .val (.int p3), .val (.int p4), .val (.int p5), .val (.int x3), .val (.int v39_s0), .val (.int v60_s0), .val (.int v73_s0), .val (.int x79), .val (.int x89), .val (.int x96), .val (.int x106), .val (.int x116), .val (.int x126), .val (.double x131), .second, .val (.double x136), .second, .val (.double x158), .second] [(.int (0 : Int32))])) t → Steps p.tables e below (T155.setTop (mkF m 257 #[.val (.int p0), .val (.int p1), .val (.int p2), .val (.int p3), .val (.int p4), .val (.int p5), .val (.int x3), .val (.int v39_s0), .val (.int v60_s0), .val (.int v73_s0), .val (.int x79), .val (.int x89), .val (.int x96), .val (.int x106), .val (.int x116), .val (.int x126), .val (.double x131), .second, .val (.double x136), .second, .val (.double x158), .second] [(.int v73_s0)])) t := fun t k => pre271 t (by
                show Steps p.tables e below (T155.setTop (mkF m 271 #[.val (.int p0), .val (.int p1), .val (.int p2), .val (.int p3), .val (.int p4), .val (.int p5), .val (.int x3), .val (.int v39_s0), .val (.int v60_s0), .val (.int v73_s0), .val (.int x79), .val (.int x89), .val (.int x96), .val (.int x106), .val (.int x116), .val (.int x126), .val (.double x131), .second, .val (.double x136), .second, .val (.double x158), .second] [])) t
                refine XS.iconst X155.here hx rfl (hb hby at_271) ?_
                show Steps p.tables e below (T155.setTop (mkF m 272 #[.val (.int p0), .val (.int p1), .val (.int p2), .val (.int p3), .val (.int p4), .val (.int p5), .val (.int x3), .val (.int v39_s0), .val (.int v60_s0), .val (.int v73_s0), .val (.int x79), .val (.int x89), .val (.int x96), .val (.int x106), .val (.int x116), .val (.int x126), .val (.double x131), .second, .val (.double x136), .second, .val (.double x158), .second] [(.int (0 : Int32))])) _
                refine XS.goto X155.here hx rfl (pc0 := 272) (pc' := 284) rfl (hb hby at_272) (by decide) (by decide) ?_
                show Steps p.tables e below (T155.setTop (mkF m 284 #[.val (.int p0), .val (.int p1), .val (.int p2), .val (.int p3), .val (.int p4), .val (.int p5), .val (.int x3), .val (.int v39_s0), .val (.int v60_s0), .val (.int v73_s0), .val (.int x79), .val (.int x89), .val (.int x96), .val (.int x106), .val (.int x116), .val (.int x126), .val (.double x131), .second, .val (.double x136), .second, .val (.double x158), .second] [(.int (0 : Int32))])) _
                exact k)
              have ehv284_s0 := hv284_s0.trans ((if_pos hc257).trans (if_neg hc264))
              exact ⟨T155, _, X155, e155, N155, fun t k => pre284 t (by subst ehv284_s0; exact k)⟩
          · -- not (¬ ((p2 &&& (1 : Int32)) = (0 : Int32)))
            have pre275 : ∀ t, Steps p.tables e below (T155.setTop (mkF m 275 #[.val (.int p0), .val (.int p1), .val (.int p2), .val (.int p3), .val (.int p4), .val (.int p5), .val (.int x3), .val (.int v39_s0), .val (.int v60_s0), .val (.int v73_s0), .val (.int x79), .val (.int x89), .val (.int x96), .val (.int x106), .val (.int x116), .val (.int x126), .val (.double x131), .second, .val (.double x136), .second, .val (.double x158), .second] [])) t → Steps p.tables e below (T155.setTop (mkF m 257 #[.val (.int p0), .val (.int p1), .val (.int p2), .val (.int p3), .val (.int p4), .val (.int p5), .val (.int x3), .val (.int v39_s0), .val (.int v60_s0), .val (.int v73_s0), .val (.int x79), .val (.int x89), .val (.int x96), .val (.int x106), .val (.int x116), .val (.int x126), .val (.double x131), .second, .val (.double x136), .second, .val (.double x158), .second] [(.int v73_s0)])) t := fun t k => pre257 t (by
              show Steps p.tables e below (T155.setTop (mkF m 257 #[.val (.int p0), .val (.int p1), .val (.int p2), .val (.int p3), .val (.int p4), .val (.int p5), .val (.int x3), .val (.int v39_s0), .val (.int v60_s0), .val (.int v73_s0), .val (.int x79), .val (.int x89), .val (.int x96), .val (.int x106), .val (.int x116), .val (.int x126), .val (.double x131), .second, .val (.double x136), .second, .val (.double x158), .second] [(.int v73_s0)])) t
              refine XS.ifYes X155.here hx rfl (pc0 := 257) (pc' := 275) rfl (hb hby at_257) rfl ((if0 _ _).trans (teq (by rw [hv73_s0, if_neg hc257])).1) (by decide) (by decide) ?_
              exact k)
            have pre281 : ∀ t, Steps p.tables e below (T155.setTop (mkF m 281 #[.val (.int p0), .val (.int p1), .val (.int p2), .val (.int p3), .val (.int p4), .val (.int p5), .val (.int x3), .val (.int v39_s0), .val (.int v60_s0), .val (.int v73_s0), .val (.int x79), .val (.int x89), .val (.int x96), .val (.int x106), .val (.int x116), .val (.int x126), .val (.double x131), .second, .val (.double x136), .second, .val (.double x158), .second] [(.int x106), (.int x96), (.double x158)])) t → Steps p.tables e below (T155.setTop (mkF m 257 #[.val (.int p0), .val (.int p1), .val (.int p2), .val (.int p3), .val (.int p4), .val (.int p5), .val (.int x3), .val (.int v39_s0), .val (.int v60_s0), .val (.int v73_s0), .val (.int x79), .val (.int x89), .val (.int x96), .val (.int x106), .val (.int x116), .val (.int x126), .val (.double x131), .second, .val (.double x136), .second, .val (.double x158), .second] [(.int v73_s0)])) t := fun t k => pre275 t (by
              show Steps p.tables e below (T155.setTop (mkF m 275 #[.val (.int p0), .val (.int p1), .val (.int p2), .val (.int p3), .val (.int p4), .val (.int p5), .val (.int x3), .val (.int v39_s0), .val (.int v60_s0), .val (.int v73_s0), .val (.int x79), .val (.int x89), .val (.int x96), .val (.int x106), .val (.int x116), .val (.int x126), .val (.double x131), .second, .val (.double x136), .second, .val (.double x158), .second] [])) t
              refine own_dload X155 hx rfl (hb hby at_275) rfl ?_
              show Steps p.tables e below (T155.setTop (mkF m 277 #[.val (.int p0), .val (.int p1), .val (.int p2), .val (.int p3), .val (.int p4), .val (.int p5), .val (.int x3), .val (.int v39_s0), .val (.int v60_s0), .val (.int v73_s0), .val (.int x79), .val (.int x89), .val (.int x96), .val (.int x106), .val (.int x116), .val (.int x126), .val (.double x131), .second, .val (.double x136), .second, .val (.double x158), .second] [(.double x158)])) _
              refine XS.iload X155.here hx rfl (hb hby at_277) rfl ?_
              show Steps p.tables e below (T155.setTop (mkF m 279 #[.val (.int p0), .val (.int p1), .val (.int p2), .val (.int p3), .val (.int p4), .val (.int p5), .val (.int x3), .val (.int v39_s0), .val (.int v60_s0), .val (.int v73_s0), .val (.int x79), .val (.int x89), .val (.int x96), .val (.int x106), .val (.int x116), .val (.int x126), .val (.double x131), .second, .val (.double x136), .second, .val (.double x158), .second] [(.int x96), (.double x158)])) _
              refine XS.iload X155.here hx rfl (hb hby at_279) rfl ?_
              show Steps p.tables e below (T155.setTop (mkF m 281 #[.val (.int p0), .val (.int p1), .val (.int p2), .val (.int p3), .val (.int p4), .val (.int p5), .val (.int x3), .val (.int v39_s0), .val (.int v60_s0), .val (.int v73_s0), .val (.int x79), .val (.int x89), .val (.int x96), .val (.int x106), .val (.int x116), .val (.int x126), .val (.double x131), .second, .val (.double x136), .second, .val (.double x158), .second] [(.int x106), (.int x96), (.double x158)])) _
              exact k)
            obtain ⟨_, _, ⟨T281, L281, k281, n281⟩, -, X281, ⟨Lc281, hQ281, l281, y281, z281⟩, st281⟩ := Jvm.LawKit.callS X155 hx (y := (⟨"com/example/kindred/kindred/NullFieldRuleWeighPinLaw", "near", "(DII)Z"⟩ : MethodName)) hown (mvT hZ (hw _ (List.mem_of_getElem? (i := 25) rfl))) (mvT hZ (hw _ (List.mem_of_getElem? (i := 26) rfl))) (mvT hZ (hw _ (List.mem_of_getElem? (i := 27) rfl))) (mvT hZ (hw _ (List.mem_of_getElem? (i := 28) rfl))) (by decide) (backOf (W := 0) (rmN l Z a0 hw [] x158 x96 x106  T146.heap n0 ZS146 ) hZ (hw _ (List.mem_of_getElem? (i := 28) rfl)) (hw _ (List.mem_of_getElem? (i := 27) rfl)) (by decide) (by decide)) (g := (mkF m 281 #[.val (.int p0), .val (.int p1), .val (.int p2), .val (.int p3), .val (.int p4), .val (.int p5), .val (.int x3), .val (.int v39_s0), .val (.int v60_s0), .val (.int v73_s0), .val (.int x79), .val (.int x89), .val (.int x96), .val (.int x106), .val (.int x116), .val (.int x126), .val (.double x131), .second, .val (.double x136), .second, .val (.double x158), .second] [(.int x106), (.int x96), (.double x158)])) rfl (by rw [hml]; rfl) (argsL := [(.double x158), (.int x96), (.int x106)]) (rest := []) (lenOf pd0_2 rfl) rfl (by show 2 * 0 + _ ≤ _; exact Nat.le_of_eq rfl) (hb hby at_281) (fun _ _ => ⟨rfl, e155, (by decide : 1 + 0 ≤ _), (by decide : 2 + 0 ≤ _)⟩)
            dsimp only [Pt.U, Pt.locs, Pt.cells, Pt.slots] at X281 l281 y281 z281 st281 hQ281
            subst l281 y281 z281
            obtain ⟨rfl, N281q, e281⟩ := hQ281
            have N281 := Fr.app N155 N281q
            have pre284 : ∀ t, Steps p.tables e below (T281.setTop (mkF m 284 #[.val (.int p0), .val (.int p1), .val (.int p2), .val (.int p3), .val (.int p4), .val (.int p5), .val (.int x3), .val (.int v39_s0), .val (.int v60_s0), .val (.int v73_s0), .val (.int x79), .val (.int x89), .val (.int x96), .val (.int x106), .val (.int x116), .val (.int x126), .val (.double x131), .second, .val (.double x136), .second, .val (.double x158), .second] [(.int (own_fN x158 x96 x106))])) t → Steps p.tables e below (T155.setTop (mkF m 257 #[.val (.int p0), .val (.int p1), .val (.int p2), .val (.int p3), .val (.int p4), .val (.int p5), .val (.int x3), .val (.int v39_s0), .val (.int v60_s0), .val (.int v73_s0), .val (.int x79), .val (.int x89), .val (.int x96), .val (.int x106), .val (.int x116), .val (.int x126), .val (.double x131), .second, .val (.double x136), .second, .val (.double x158), .second] [(.int v73_s0)])) t := fun t k => pre281 t (st281 _ k)
            have ehv284_s0 := hv284_s0.trans (if_neg hc257)
            exact ⟨T281, _, X281, e281, N281, fun t k => pre284 t (by subst ehv284_s0; exact k)⟩
        have pre284 : ∀ t, Steps p.tables e below (T284j.setTop (mkF m 284 #[.val (.int p0), .val (.int p1), .val (.int p2), .val (.int p3), .val (.int p4), .val (.int p5), .val (.int x3), .val (.int v39_s0), .val (.int v60_s0), .val (.int v73_s0), .val (.int x79), .val (.int x89), .val (.int x96), .val (.int x106), .val (.int x116), .val (.int x126), .val (.double x131), .second, .val (.double x136), .second, .val (.double x158), .second] [(.int v284_s0)])) t → Steps p.tables e below (s₁.setTop (entryFrame m #[(.int p0), (.int p1), (.int p2), (.int p3), (.int p4), (.int p5)] maxLocals)) t := fun t k => pre257 t (st284j t k)
        obtain ⟨fs, hr, hrun, hended, hW, hsame⟩ := X284j.leave (v := some (.int (nar .boolean v284_s0))) (fun h => by rw [Bd.returns] at h; cases h)
        refine ⟨_, _, pre284 _ ?_, hrun, hended, _, _, rfl, ?_, ⟨_, rfl⟩, hW, hsame.mono (by decide) (by decide)⟩
        · show Steps p.tables e below (T284j.setTop (mkF m 284 #[.val (.int p0), .val (.int p1), .val (.int p2), .val (.int p3), .val (.int p4), .val (.int p5), .val (.int x3), .val (.int v39_s0), .val (.int v60_s0), .val (.int v73_s0), .val (.int x79), .val (.int x89), .val (.int x96), .val (.int x106), .val (.int x116), .val (.int x126), .val (.double x131), .second, .val (.double x136), .second, .val (.double x158), .second] [(.int v284_s0)])) _
          exact retN X284j hx (t := .boolean) Bd.returns (by simp) (hb hby at_284) hr
        · show Q0 Z p0 p1 p2 p3 p4 p5 h0 n0 _ T284j.heap _
          rw [e284j]
          have hres : (nar .boolean v284_s0) = (1 : Int32) := by
            exact own_k3 ((own_c hv39_s0).2.2.2 hc162 hc181 hc222) hx158 hx136 hv73_s0 (own_nearOK hdr (own_na hdr hx96 (own_rd hdr hx106) hx126).1 (own_rd hdr hx106) (own_na hdr hx96 (own_rd hdr hx106) hx126).2) hv284_s0
          exact ⟨congrArg (fun q => some (Value.int q)) hres, N284j⟩
set_option maxRecDepth 65536 in
set_option maxHeartbeats 40000000 in
theorem comes_1 {Post : Tables → Env → Array Value → State → Outcome → State → Prop} (hpost : ∀ tb e args s v u, (limb_1_1.after args s (.returned v) u = true ∧ limb_1_2.after args s (.returned v) u = true ∧ True) → FrameEnd s (.returned v) u (Jvm.fieldLocs frame_1_writes args s ++ Jvm.arrayLocs frame_1_arrays args s ++ Jvm.staticLocs frame_1_statics s) 16 128 → Post tb e args s (.returned v) u) :
    ArmFor flags0 classFile x code maxLocals ret World_1 tables_1 room_1 Calls_1 rest_1 Pre_1 Post := by
  intro l hfl _ _ p e ha hc hk s m args below hf hA hF happ hP
  obtain ⟨hcalls, hrest, hpre⟩ := hP
  obtain ⟨-, -, -, hnamed, -, -, -, hat⟩ := (Spec.applies_iff hf).mp happ
  obtain ⟨hg, hn⟩ := and_e (Cond.before_iff.mp (show (Jvm.Cond.and given_1 narrow_1).before args s = true from hpre))
  obtain ⟨gc, g0⟩ := and_e hg
  obtain ⟨ga0, g1⟩ := and_e g0
  obtain ⟨ga1, g2⟩ := and_e g1
  obtain ⟨ga2, g3⟩ := and_e g2
  obtain ⟨ga3, g4⟩ := and_e g3
  obtain ⟨ga4, g5⟩ := and_e g4
  obtain ⟨w0, w1, w2, w3, w4, w5, rfl⟩ : ∃ w0 w1 w2 w3 w4 w5 : Value, args = #[w0, w1, w2, w3, w4, w5] := by
    have hs : args.size = 6 := by simpa [Cond.value, given_1] using gc
    obtain ⟨L⟩ := args
    match L, hs with
    | [w0, w1, w2, w3, w4, w5], _ => exact ⟨w0, w1, w2, w3, w4, w5, rfl⟩
  have hw := fun d (hd : d ∈ tables_1) => atoms_spec (ws := Jvm.Cond.code x code maxLocals ret :: tables_1) hat d (List.mem_cons_of_mem _ hd)
  have hfit : Fit s := fun {y c} hc i hi => by
    obtain ⟨ha, rfl⟩ := Array.getElem?_eq_some_iff.mp hc
    have q := List.all_eq_true.mp ((Array.all_eq_true_iff_forall_mem.mp hF) _ (Array.getElem_mem ha)) i (List.mem_range.mpr hi)
    simpa [Array.getElem?_eq_getElem hi] using q
  obtain ⟨i0, ei0⟩ := is_v ga0
  obtain rfl : w0 = (.int i0) := Option.some.inj ei0
  obtain ⟨i1, ei1⟩ := is_v ga1
  obtain rfl : w1 = (.int i1) := Option.some.inj ei1
  obtain ⟨i2, ei2⟩ := is_v ga2
  obtain rfl : w2 = (.int i2) := Option.some.inj ei2
  obtain ⟨i3, ei3⟩ := is_v ga3
  obtain rfl : w3 = (.int i3) := Option.some.inj ei3
  obtain ⟨i4, ei4⟩ := is_v ga4
  obtain rfl : w4 = (.int i4) := Option.some.inj ei4
  obtain ⟨i5, ei5⟩ := is_v g5
  obtain rfl : w5 = (.int i5) := Option.some.inj ei5
  obtain ⟨n, o, h1, h2, h3, _, L, rfl, ⟨rfl, N⟩, hq⟩ := rm0 l s _ hw tables_1 i0 i1 i2 i3 i4 i5 s.heap s.heap.size (Nat.le_refl _)  p e ha hc hk s m _ below hf ((Spec.applies_iff_loose hf).mp happ).1 ⟨rfl, State.Warmed39.refl s, rfl⟩ trivial
  refine ⟨n, _, h1, h2, h3, hpost _ _ _ _ _ _ ⟨Cond.after_iff.mpr rfl, Cond.after_iff.mpr (eq_i res_at (Term.int_eval (1)) rfl), trivial⟩ ⟨hq.1, hq.2.1, (hq.2.2.sift fun y hy => Or.inr (N y hy)).mono (by decide) (by decide)⟩⟩
theorem main_1_1 : Claimed_1_1 := comes_1 fun _ _ _ _ _ _ h hF => ⟨h.1, hF⟩
theorem main_1_2 : Claimed_1_2 := comes_1 fun _ _ _ _ _ _ h hF => ⟨h.2.1, hF⟩
end Jvm.Pilot.@@N@@
namespace Jvm.Pilot.@@N@@
open Jvm Jvm.ClassFile Sem Op Lib Jvm.Free Jvm.Stand Jvm.Pilot.@@N@@.Jvm.D
/-! MADE BY PROGRAM (witnessworld.py) out of the Statement's table words and the real class files: 10 classes; the members and pool entries that the words name. The judged class is class 1, her method 1. -/
namespace start1
open Jvm.ClassFile
def u (s : String) : CpInfo := .utf8 (stringToUtf16 s)
/-- a pool by its gaps: so many unusable entries, then the entry; so many at the end -/
def gap : Nat → List CpInfo → List CpInfo
  | 0, r => r
  | n + 1, r => .unusable :: gap n r
def poolList (es : List (Nat × CpInfo)) (last : Nat) : List CpInfo := es.foldr (fun e r => gap e.1 (e.2 :: r)) (gap last [])
def pool (es : List (Nat × CpInfo)) (last : Nat) : Array CpInfo := ⟨poolList es last⟩
def fileOf (pool : Array CpInfo) (this : Nat) (attrs : Array Attribute := #[]) (ms : Array MethodInfo := #[]) (fl : Nat := 33) (sup : Nat := 0) (ifs : Array Nat := #[]) (fds : Array FieldInfo := #[]) : ClassFile where
  minorVersion := 0
  majorVersion := 65
  constantPool := pool
  accessFlags := fl
  thisClass := this
  superClass := sup
  interfaces := ifs
  fields := fds
  methods := ms
  attributes := attrs
def plain (name : String) (sup : Option ClassId) : Class where
  name := name
  kind := .ordinary
  loader := none
  accessFlags := 33
  super := sup
  interfaces := #[]
  cf := none
  fields := #[]
  methods := #[]
  instanceTypes := #[]
  staticTypes := #[]
  resolved := #[]
  callSites := []
  init := .initialized
  statics := none
  mirror := none

def pool0 : Array CpInfo := pool [(5, u "<init>"), (0, u "()V"), (1, .class_ 10), (1, u "java/lang/Object")] 113

def k0c0 : Code := { maxStack := 0, maxLocals := 1, code := object_method_1_code, exceptionTable := #[], attributes := #[] }
def k0m0 : Method := { name := "<init>", desc := "()V", sig := { parameters := [], returnType := none }, accessFlags := 1, code := some k0c0 }
/-- java/lang/Object -/
def k0 : Class := { plain "java/lang/Object" none with
  accessFlags := 33
  interfaces := #[]
  cf := some (fileOf pool0 8 #[] #[{ accessFlags := 1, nameIndex := 5, descriptorIndex := 6, attributes := #[] }] 33 0 #[] #[])
  fields := #[]
  methods := #[k0m0]
  instanceTypes := #[]
  staticTypes := #[]
  resolved := Array.replicate 124 none
  statics := none }

def pool1 : Array CpInfo := pool [(2, .class_ 4), (1, u "java/lang/Object"), (0, u "<init>"), (0, u "()V"), (0, .integer 2147483647), (0, .integer 65535), (0, .class_ 10), (0, u "com/example/kindred/kindred/NullFieldRule"), (0, .methodref 9 12), (0, .nameAndType 5 13), (0, u "(CI)V"), (0, .methodref 9 15), (0, .nameAndType 16 17), (0, u "weigh"), (0, u "(ZDD)D"), (0, .methodref 19 20), (0, .class_ 21), (0, .nameAndType 22 23), (0, u "com/example/kindred/kindred/NullFieldRuleWeighPinLaw"), (0, u "near"), (0, u "(DII)Z"), (2, u "law"), (0, u "(IIIIII)Z")] 3

def k1m0 : Method := { name := "<init>", desc := "()V", sig := { parameters := [], returnType := none }, accessFlags := 2, code := none }
def k1c1 : Code := { maxStack := 6, maxLocals := 22, code := code, exceptionTable := #[], attributes := #[] }
def k1m1 : Method := { name := "law", desc := "(IIIIII)Z", sig := { parameters := [.int, .int, .int, .int, .int, .int], returnType := some .boolean }, accessFlags := 9, code := some k1c1 }
def k1c2 : Code := { maxStack := 6, maxLocals := 4, code := method_3_code, exceptionTable := #[], attributes := #[] }
def k1m2 : Method := { name := "near", desc := "(DII)Z", sig := { parameters := [.double, .int, .int], returnType := some .boolean }, accessFlags := 10, code := some k1c2 }
/-- com/example/kindred/kindred/NullFieldRuleWeighPinLaw -/
def k1 : Class := { plain "com/example/kindred/kindred/NullFieldRuleWeighPinLaw" (some 0) with
  accessFlags := 49
  interfaces := #[]
  cf := some (fileOf pool1 19 #[] #[{ accessFlags := 2, nameIndex := 5, descriptorIndex := 6, attributes := #[] }, { accessFlags := 9, nameIndex := 26, descriptorIndex := 27, attributes := #[] }, { accessFlags := 10, nameIndex := 22, descriptorIndex := 23, attributes := #[] }] 49 2 #[] #[])
  fields := #[]
  methods := #[k1m0, k1m1, k1m2]
  instanceTypes := #[]
  staticTypes := #[]
  resolved := Array.replicate 31 none
  statics := none }

def pool2 : Array CpInfo := pool [(1, .methodref 2 3), (0, .class_ 4), (0, .nameAndType 5 6), (0, u "java/lang/Object"), (0, u "<init>"), (0, u "()V"), (0, .class_ 8), (0, u "java/lang/Record")] 13

def k2c0 : Code := { maxStack := 1, maxLocals := 1, code := jdk_30_method_1_code, exceptionTable := #[], attributes := #[] }
def k2m0 : Method := { name := "<init>", desc := "()V", sig := { parameters := [], returnType := none }, accessFlags := 4, code := some k2c0 }
/-- java/lang/Record -/
def k2 : Class := { plain "java/lang/Record" (some 0) with
  accessFlags := 1057
  interfaces := #[]
  cf := some (fileOf pool2 7 #[] #[{ accessFlags := 4, nameIndex := 5, descriptorIndex := 6, attributes := #[] }] 1057 2 #[] #[])
  fields := #[]
  methods := #[k2m0]
  instanceTypes := #[]
  staticTypes := #[]
  resolved := Array.replicate 22 none
  statics := none }

def pool3 : Array CpInfo := pool [(1, .methodref 2 3), (0, .class_ 4), (0, .nameAndType 5 6), (0, u "java/lang/Record"), (0, u "<init>"), (0, u "()V"), (0, .fieldref 8 9), (0, .class_ 10), (0, .nameAndType 11 12), (0, u "com/example/kindred/kindred/NullFieldRule"), (0, u "code"), (0, u "C"), (0, .fieldref 8 14), (0, .nameAndType 15 16), (0, u "divisor"), (0, u "I"), (14, u "(CI)V"), (43, u "weigh"), (0, u "(ZDD)D")] 32

def k3c0 : Code := { maxStack := 2, maxLocals := 3, code := prog_24_method_1_code, exceptionTable := #[], attributes := #[] }
def k3m0 : Method := { name := "<init>", desc := "(CI)V", sig := { parameters := [.char, .int], returnType := none }, accessFlags := 0, code := some k3c0 }
def k3c1 : Code := { maxStack := 4, maxLocals := 6, code := prog_24_method_3_code, exceptionTable := #[], attributes := #[] }
def k3m1 : Method := { name := "weigh", desc := "(ZDD)D", sig := { parameters := [.boolean, .double, .double], returnType := some .double }, accessFlags := 0, code := some k3c1 }
/-- com/example/kindred/kindred/NullFieldRule -/
def k3 : Class := { plain "com/example/kindred/kindred/NullFieldRule" (some 2) with
  accessFlags := 48
  interfaces := #[]
  cf := some (fileOf pool3 8 #[] #[{ accessFlags := 0, nameIndex := 5, descriptorIndex := 31, attributes := #[] }, { accessFlags := 0, nameIndex := 75, descriptorIndex := 76, attributes := #[] }] 48 2 #[] #[{ accessFlags := 18, nameIndex := 11, descriptorIndex := 12, attributes := #[] }, { accessFlags := 18, nameIndex := 15, descriptorIndex := 16, attributes := #[] }])
  fields := #[{ name := "code", type := .char, accessFlags := 18, slot := 0, constantValue := 0 }, { name := "divisor", type := .int, accessFlags := 18, slot := 1, constantValue := 0 }]
  methods := #[k3m0, k3m1]
  instanceTypes := #[.char, .int]
  staticTypes := #[]
  resolved := Array.replicate 109 none
  statics := none }

def pool4 : Array CpInfo := pool [(1, u "java/lang/Cloneable"), (0, .class_ 1), (0, u "java/lang/Object"), (0, .class_ 3)] 3

/-- java/lang/Cloneable -/
def k4 : Class := { plain "java/lang/Cloneable" (some 0) with
  accessFlags := 1537
  interfaces := #[]
  cf := some (fileOf pool4 2 #[] #[] 1537 4 #[] #[])
  fields := #[]
  methods := #[]
  instanceTypes := #[]
  staticTypes := #[]
  resolved := Array.replicate 8 none
  statics := none }

def pool5 : Array CpInfo := pool [(1, u "java/io/Serializable"), (0, .class_ 1), (0, u "java/lang/Object"), (0, .class_ 3)] 3

/-- java/io/Serializable -/
def k5 : Class := { plain "java/io/Serializable" (some 0) with
  accessFlags := 1537
  interfaces := #[]
  cf := some (fileOf pool5 2 #[] #[] 1537 4 #[] #[])
  fields := #[]
  methods := #[]
  instanceTypes := #[]
  staticTypes := #[]
  resolved := Array.replicate 8 none
  statics := none }

/-- the primitive byte -/
def k6 : Class := { plain "byte" none with kind := .primitive 'B', accessFlags := 0x411 }
/-- [B -/
def k7 : Class := { plain "[B" (some 0) with kind := .array 6 .byte, interfaces := #[4, 5], accessFlags := 1041 }

/-- the primitive int -/
def k8 : Class := { plain "int" none with kind := .primitive 'I', accessFlags := 0x411 }
/-- [I -/
def k9 : Class := { plain "[I" (some 0) with kind := .array 8 .int, interfaces := #[4, 5], accessFlags := 1041 }

def heap : Heap := #[]
def classes : Array Class := #[k0, k1, k2, k3, k4, k5, k6, k7, k8, k9]
def interned : List (Array UInt16 × Addr) := []
def slotsUsed : Nat := 0
def theMethod : MethodId := ⟨1, 1⟩
def args0 : Array Value := #[.int 5, .int 7, .int 8, .int 9, .int 10, .int 11]
def aboutOver (below : List Frame) : State where
  vm := { classes := classes, interned := interned.toArray }
  heap := heap
  slotsUsed := slotsUsed
  threads := #[{ frames := .invoking theMethod args0 :: below }]
def below0 : List Frame := [.native { method := ⟨0, 0⟩, args := #[] }]
def about1 : State := aboutOver below0
def p0 : Program := .bare "" "" ""
def e0 : Env := launch0.env 0 0 0
theorem w_frames : about1.frames = Frame.invoking theMethod args0 :: below0 := rfl
set_option maxRecDepth 65536 in
theorem w_args : argsFit about1.vm theMethod args0 = true := by decide +kernel
set_option maxRecDepth 65536 in
theorem w_heap : heapFits about1 = true := by decide +kernel
set_option maxRecDepth 65536 in
theorem w_runnable : about1.curStatus? = some .runnable := by decide +kernel
set_option maxRecDepth 65536 in
theorem w_alone : about1.alone = true := by decide +kernel
set_option maxRecDepth 65536 in
theorem w_named : about1.methodNamed? x = some theMethod := by decide +kernel
set_option maxRecDepth 65536 in
theorem w_hears : about1.hears theMethod below0 = true := by decide +kernel
set_option maxRecDepth 65536 in
theorem w_ripe : about1.ripe theMethod args0 below0 = true := by decide +kernel
theorem w_running : about1.status = .running := rfl
set_option maxRecDepth 65536 in
theorem w_room : about1.hasRoom e0.platform room_1 = true :=
  launch0.hasRoom_least _ room_1 (by decide +kernel) (by decide +kernel) (by decide +kernel) (by decide +kernel) (by decide +kernel) (by decide +kernel)
theorem allAtoms_all (ts : List Jvm.Cond) (a : Array Jvm.Value) (st : Jvm.State) : (allAtoms ts).before a st = ts.all (fun c => c.before a st) := by
  induction ts with
  | nil => rfl
  | cons c t ih =>
    show (Jvm.Cond.and c (allAtoms t)).before a st = _
    rw [Jvm.Cond.before_and, ih, List.all_cons]
def words1 : List Jvm.Cond := Jvm.Cond.code x code maxLocals ret :: tables_1
/-- a 'code' word, met by the world's own term for the bytes: nothing is compared byte by byte -/
theorem code_word {y : MethodName} {bytes : ByteArray} {mx : Nat} {rt : Option FieldType} {a : Array Value} {s : State} {m : MethodId} {meth : Method} {c : Code} (h1 : s.methodNamed? y = some m) (h2 : s.vm.method? m = some meth) (h3 : meth.code = some c) (h4 : c.code = bytes)
    (h5 : (c.maxLocals == mx && c.exceptionTable.isEmpty && decide (c.maxStack ≤ mostOperands) && decide (meth.sig.returnType = rt) && !meth.locks && decide (parseMethodDescriptor y.desc = some meth.sig)) = true) : (Jvm.Cond.code y bytes mx rt).before a s = true := by
  simp only [Bool.and_eq_true, beq_iff_eq, Bool.not_eq_true', decide_eq_true_eq] at h5
  obtain ⟨⟨⟨⟨⟨g1, g2⟩, g3⟩, g4⟩, g5⟩, g6⟩ := h5
  simp [Cond.before, Cond.holds, Cond.value, h1, h2, h3, h4, g1, g2, g3, g4, g5, g6]
def isCode : Jvm.Cond → Bool
  | .code _ _ _ _ => true
  | _ => false
theorem all_split {L : List Jvm.Cond} {P : Jvm.Cond → Bool} (h1 : L.all (fun c => isCode c || P c) = true) (h2 : ∀ c ∈ L.filter isCode, P c = true) : L.all P = true := by
  refine List.all_eq_true.mpr fun c hc => ?_
  have h := List.all_eq_true.mp h1 c hc
  rcases Bool.eq_false_or_eq_true (isCode c) with hi | hi
  · exact h2 c (List.mem_filter.mpr ⟨hc, hi⟩)
  · simpa [hi] using h
set_option maxRecDepth 65536 in
theorem w_c0 : (Jvm.Cond.code x code maxLocals ret).before args0 about1 = true := code_word (m := ⟨1, 1⟩) (meth := k1m1) (c := k1c1) (by decide +kernel) rfl rfl rfl (by decide +kernel)
set_option maxRecDepth 65536 in
theorem w_c1 : (Jvm.Cond.code ({ cls := "com/example/kindred/kindred/NullFieldRule", name := "<init>", desc := "(CI)V" } : Jvm.MethodName) prog_24_method_1_code (3 : Nat) (Option.none : Option Jvm.ClassFile.FieldType)).before args0 about1 = true := code_word (m := ⟨3, 0⟩) (meth := k3m0) (c := k3c0) (by decide +kernel) rfl rfl rfl (by decide +kernel)
set_option maxRecDepth 65536 in
theorem w_c2 : (Jvm.Cond.code ({ cls := "java/lang/Record", name := "<init>", desc := "()V" } : Jvm.MethodName) jdk_30_method_1_code (1 : Nat) (Option.none : Option Jvm.ClassFile.FieldType)).before args0 about1 = true := code_word (m := ⟨2, 0⟩) (meth := k2m0) (c := k2c0) (by decide +kernel) rfl rfl rfl (by decide +kernel)
set_option maxRecDepth 65536 in
theorem w_c3 : (Jvm.Cond.code ({ cls := "java/lang/Object", name := "<init>", desc := "()V" } : Jvm.MethodName) object_method_1_code (1 : Nat) (Option.none : Option Jvm.ClassFile.FieldType)).before args0 about1 = true := code_word (m := ⟨0, 0⟩) (meth := k0m0) (c := k0c0) (by decide +kernel) rfl rfl rfl (by decide +kernel)
set_option maxRecDepth 65536 in
theorem w_c4 : (Jvm.Cond.code ({ cls := "com/example/kindred/kindred/NullFieldRule", name := "weigh", desc := "(ZDD)D" } : Jvm.MethodName) prog_24_method_3_code (6 : Nat) (Option.some Jvm.ClassFile.FieldType.double)).before args0 about1 = true := code_word (m := ⟨3, 1⟩) (meth := k3m1) (c := k3c1) (by decide +kernel) rfl rfl rfl (by decide +kernel)
set_option maxRecDepth 65536 in
theorem w_c5 : (Jvm.Cond.code ({ cls := "com/example/kindred/kindred/NullFieldRuleWeighPinLaw", name := "near", desc := "(DII)Z" } : Jvm.MethodName) method_3_code (4 : Nat) (Option.some Jvm.ClassFile.FieldType.boolean)).before args0 about1 = true := code_word (m := ⟨1, 2⟩) (meth := k1m2) (c := k1c2) (by decide +kernel) rfl rfl rfl (by decide +kernel)
def codes1 : List Jvm.Cond := [Jvm.Cond.code x code maxLocals ret, Jvm.Cond.code ({ cls := "com/example/kindred/kindred/NullFieldRule", name := "<init>", desc := "(CI)V" } : Jvm.MethodName) prog_24_method_1_code (3 : Nat) (Option.none : Option Jvm.ClassFile.FieldType), Jvm.Cond.code ({ cls := "java/lang/Record", name := "<init>", desc := "()V" } : Jvm.MethodName) jdk_30_method_1_code (1 : Nat) (Option.none : Option Jvm.ClassFile.FieldType), Jvm.Cond.code ({ cls := "java/lang/Object", name := "<init>", desc := "()V" } : Jvm.MethodName) object_method_1_code (1 : Nat) (Option.none : Option Jvm.ClassFile.FieldType), Jvm.Cond.code ({ cls := "com/example/kindred/kindred/NullFieldRule", name := "weigh", desc := "(ZDD)D" } : Jvm.MethodName) prog_24_method_3_code (6 : Nat) (Option.some Jvm.ClassFile.FieldType.double), Jvm.Cond.code ({ cls := "com/example/kindred/kindred/NullFieldRuleWeighPinLaw", name := "near", desc := "(DII)Z" } : Jvm.MethodName) method_3_code (4 : Nat) (Option.some Jvm.ClassFile.FieldType.boolean)]
set_option maxRecDepth 65536 in
theorem codes_eq : words1.filter isCode = codes1 := rfl
theorem w_codes : ∀ c ∈ words1.filter isCode, c.before args0 about1 = true := by
  rw [codes_eq]
  intro c hc
  simp only [codes1, List.mem_cons, List.not_mem_nil, or_false] at hc
  rcases hc with rfl | rfl | rfl | rfl | rfl | rfl
  · exact w_c0
  · exact w_c1
  · exact w_c2
  · exact w_c3
  · exact w_c4
  · exact w_c5
set_option maxRecDepth 65536 in
theorem w_t1 : (words1.take 24).all (fun c => isCode c || c.before args0 about1) = true := by decide +kernel
set_option maxRecDepth 65536 in
theorem w_t2 : (words1.drop 24).all (fun c => isCode c || c.before args0 about1) = true := by decide +kernel
theorem w_tables : (allAtoms (Jvm.Cond.code x code maxLocals ret :: tables_1)).before args0 about1 = true := by
  rw [allAtoms_all]
  show words1.all (fun c => c.before args0 about1) = true
  refine all_split ?_ w_codes
  rw [← List.take_append_drop 24 words1, List.all_append, w_t1, w_t2]
  rfl
set_option maxRecDepth 65536 in
theorem w_case : (Jvm.Cond.and given_1 narrow_1).before args0 about1 = true := by decide +kernel
theorem w_applies : (headSpec (Jvm.Cond.code x code maxLocals ret :: tables_1) room_1).applies x e0.platform about1 = true :=
  (Spec.applies_iff w_frames).mpr ⟨w_running, w_runnable, w_alone, w_named, w_hears, w_ripe, w_room, w_tables⟩
theorem atStart : AtStart classFile x code maxLocals ret World_1 tables_1 room_1 Calls_1 rest_1 Pre_1 launch0 p0 e0 about1 theMethod args0 below0 :=
  ⟨lists_1, trivial, launch0.admits_env _ _ _, launch0.least_env, fairChoices_fair.cas, fairChoices_fair.clock, w_frames, w_args, w_heap, w_applies, trivial, trivial, w_case⟩
end start1
theorem witness_1 : WitnessClaimed_1 := ⟨start1.p0, start1.e0, start1.about1, start1.theMethod, start1.args0, start1.below0, start1.atStart⟩
end Jvm.Pilot.@@N@@
