import JvmDerived
import JvmDerived.Pilot.@@N@@Statement
import JvmDerived.Pilot.@@N@@Code
set_option linter.unusedVariables false
set_option linter.unusedSimpArgs false
namespace Jvm.RoadKit
open Sem ClassFile Op Lib Jvm.Stand Jvm.Free Jvm.LawKit
section New
variable {p : Program} {l : Launch} {e : Env} {R : Room} {s : State} {m : MethodId} {args : Array Value} {below : List Frame} {meth : Method} {c : Code} {T : State} {locs : List Loc} {cells slots : Nat}
theorem retI (X : Stand p l e R s m args below meth c T locs cells slots) (hx : p.tables.exec = Jvm.exec) {pc : Nat} {Ls : Array Slot} {z : Int32} {rest : List Value} (hret : meth.sig.returnType = some .int) (hd : decode c.code pc = .ok (.ireturn, 1)) {fs : List Frame}
    (hl : ∀ (f : JFrame) (acts : List Action), f.method = m → f.locked = none → f.entered = [] → (doReturn e (T.setTop f) acts (some (.int z))).1 = T.setFrames fs) : Steps p.tables e below (T.setTop (mkF m pc Ls (.int z :: rest))) (T.setFrames fs) := by
  have hm' : T.vm.method? m = some meth := X.method'
  have hn : narrow .int (.int z) = .int z := rfl
  show Steps p.tables e below (T.setTop { method := m, pc := pc, locals := Ls, stack := _ :: rest, locked := none }) _
  jvm_step X.here [X.here.top, hx, hd, hm', hret, hn]
  first | (intro acts; rw [hl _ acts rfl rfl rfl]) | rw [hl _ _ rfl rfl rfl]
  exact Steps.refl _
theorem own_lremM {g : JFrame} {target : State} (X : Stand p l e R s m args below meth c T locs cells slots) (hx : p.tables.exec = Jvm.exec) (hg : g.method = m) {x y : Int64} {rest : List Value} (hd : decode c.code g.pc = .ok (.lrem, 1)) (hs : g.stack = .long y :: .long x :: rest) (hy : y ≠ 0)
    (hr : Steps p.tables e below (T.setTop { g with pc := g.pc + 1, stack := .long (x % y) :: rest }) target) : Steps p.tables e below (T.setTop g) target := by
  have q : x - x / y * y = x % y := lrem_mod x y
  exact XS.lrem X.here hx hg hd hs hy (by rw [q]; exact hr)
theorem own_narB (P : Prop) [Decidable P] : nar .boolean (if P then (1 : Int32) else 0) = if P then (1 : Int32) else 0 := by split <;> rfl
end New
end Jvm.RoadKit
namespace Jvm.Pilot.@@N@@
open Jvm Jvm.ClassFile Sem Op Lib Jvm.Free Jvm.Free.Fl Jvm.Stand Jvm.LawKit Jvm.RoadKit Bundle Jvm.Pilot.@@N@@.Jvm.D
section Dbl
variable {p : Program} {l : Launch} {e : Env} {R : Room} {s : State} {m : MethodId} {args : Array Value} {below : List Frame} {meth : Method} {c : Code} {T : State} {locs : List Loc} {cells slots : Nat}
theorem own_dloadN {g : JFrame} {target : State} (X : Stand p l e R s m args below meth c T locs cells slots) (hx : p.tables.exec = Jvm.exec) (hg : g.method = m) {k : Fin 4} {v : UInt64} (hd : decode c.code g.pc = .ok (.dload_n k, 1)) (hl : g.locals[k.val]? = some (.val (.double v)))
    (hr : Steps p.tables e below (T.setTop { g with pc := g.pc + 1, stack := .double v :: g.stack }) target) : Steps p.tables e below (T.setTop g) target := by
  subst hg
  jvm_step X.here [X.here.top, hx, hd, hl]
  exact hr
theorem own_dload {g : JFrame} {target : State} (X : Stand p l e R s m args below meth c T locs cells slots) (hx : p.tables.exec = Jvm.exec) (hg : g.method = m) {k : Nat} {v : UInt64} (hd : decode c.code g.pc = .ok (.dload k, 2)) (hl : g.locals[k]? = some (.val (.double v)))
    (hr : Steps p.tables e below (T.setTop { g with pc := g.pc + 2, stack := .double v :: g.stack }) target) : Steps p.tables e below (T.setTop g) target := by
  subst hg
  jvm_step X.here [X.here.top, hx, hd, hl]
  exact hr
theorem own_dstoreN {g : JFrame} {target : State} (X : Stand p l e R s m args below meth c T locs cells slots) (hx : p.tables.exec = Jvm.exec) (hg : g.method = m) {k : Fin 4} {v : UInt64} {rest : List Value} {l' : Array Slot} (hd : decode c.code g.pc = .ok (.dstore_n k, 1)) (hs : g.stack = .double v :: rest) (hl : storeLocals g.locals k.val (.double v) = some l')
    (hr : Steps p.tables e below (T.setTop { g with pc := g.pc + 1, locals := l', stack := rest }) target) : Steps p.tables e below (T.setTop g) target := by
  subst hg
  jvm_step X.here [X.here.top, hx, hd, hs, hl]
  exact hr
theorem own_dstore {g : JFrame} {target : State} (X : Stand p l e R s m args below meth c T locs cells slots) (hx : p.tables.exec = Jvm.exec) (hg : g.method = m) {k : Nat} {v : UInt64} {rest : List Value} {l' : Array Slot} (hd : decode c.code g.pc = .ok (.dstore k, 2)) (hs : g.stack = .double v :: rest) (hl : storeLocals g.locals k (.double v) = some l')
    (hr : Steps p.tables e below (T.setTop { g with pc := g.pc + 2, locals := l', stack := rest }) target) : Steps p.tables e below (T.setTop g) target := by
  subst hg
  jvm_step X.here [X.here.top, hx, hd, hs, hl]
  exact hr
theorem own_i2d {g : JFrame} {target : State} (X : Stand p l e R s m args below meth c T locs cells slots) (hx : p.tables.exec = Jvm.exec) (hg : g.method = m) {x : Int32} {rest : List Value} (hd : decode c.code g.pc = .ok (.i2d, 1)) (hs : g.stack = .int x :: rest)
    (hr : Steps p.tables e below (T.setTop { g with pc := g.pc + 1, stack := .double (FP.i2d x) :: rest }) target) : Steps p.tables e below (T.setTop g) target := by
  subst hg
  jvm_step X.here [X.here.top, hx, hd, hs]
  exact hr
theorem own_dconst0 {g : JFrame} {target : State} (X : Stand p l e R s m args below meth c T locs cells slots) (hx : p.tables.exec = Jvm.exec) (hg : g.method = m) (hd : decode c.code g.pc = .ok (.dconst 0, 1))
    (hr : Steps p.tables e below (T.setTop { g with pc := g.pc + 1, stack := .double FP.dconst0 :: g.stack }) target) : Steps p.tables e below (T.setTop g) target := by
  subst hg
  jvm_step X.here [X.here.top, hx, hd]
  exact hr
theorem own_dconst1 {g : JFrame} {target : State} (X : Stand p l e R s m args below meth c T locs cells slots) (hx : p.tables.exec = Jvm.exec) (hg : g.method = m) (hd : decode c.code g.pc = .ok (.dconst 1, 1))
    (hr : Steps p.tables e below (T.setTop { g with pc := g.pc + 1, stack := .double FP.dconst1 :: g.stack }) target) : Steps p.tables e below (T.setTop g) target := by
  subst hg
  jvm_step X.here [X.here.top, hx, hd]
  exact hr
theorem own_dmul {g : JFrame} {target : State} (X : Stand p l e R s m args below meth c T locs cells slots) (hx : p.tables.exec = Jvm.exec) (hg : g.method = m) {x y : UInt64} {rest : List Value} (hd : decode c.code g.pc = .ok (.dmul, 1)) (hs : g.stack = .double y :: .double x :: rest) (hn : NoNaN64 (FP.dmul x y))
    (hr : Steps p.tables e below (T.setTop { g with pc := g.pc + 1, stack := .double (FP.dmul x y) :: rest }) target) : Steps p.tables e below (T.setTop g) target := by
  subst hg
  jvm_step X.here [X.here.top, hx, hd, Op.dmul.wp_number (s := T) (f := g) X.here.top hs hn]
  exact hr
theorem own_ddiv {g : JFrame} {target : State} (X : Stand p l e R s m args below meth c T locs cells slots) (hx : p.tables.exec = Jvm.exec) (hg : g.method = m) {x y : UInt64} {rest : List Value} (hd : decode c.code g.pc = .ok (.ddiv, 1)) (hs : g.stack = .double y :: .double x :: rest) (hn : NoNaN64 (FP.ddiv x y))
    (hr : Steps p.tables e below (T.setTop { g with pc := g.pc + 1, stack := .double (FP.ddiv x y) :: rest }) target) : Steps p.tables e below (T.setTop g) target := by
  subst hg
  jvm_step X.here [X.here.top, hx, hd, Op.ddiv.wp_number (s := T) (f := g) X.here.top hs hn]
  exact hr
theorem own_dadd {g : JFrame} {target : State} (X : Stand p l e R s m args below meth c T locs cells slots) (hx : p.tables.exec = Jvm.exec) (hg : g.method = m) {x y : UInt64} {rest : List Value} (hd : decode c.code g.pc = .ok (.dadd, 1)) (hs : g.stack = .double y :: .double x :: rest) (hn : NoNaN64 (FP.dadd x y))
    (hr : Steps p.tables e below (T.setTop { g with pc := g.pc + 1, stack := .double (FP.dadd x y) :: rest }) target) : Steps p.tables e below (T.setTop g) target := by
  subst hg
  jvm_step X.here [X.here.top, hx, hd, Op.dadd.wp_number (s := T) (f := g) X.here.top hs hn]
  exact hr
theorem own_dcmp {g : JFrame} {target : State} (X : Stand p l e R s m args below meth c T locs cells slots) (hx : p.tables.exec = Jvm.exec) (hg : g.method = m) {x y : UInt64} {o : CmpOp} {rest : List Value} (hd : decode c.code g.pc = .ok (.dcmp o, 1)) (hs : g.stack = .double y :: .double x :: rest)
    (hr : Steps p.tables e below (T.setTop { g with pc := g.pc + 1, stack := .int (cmpValue (FP.dcmp x y) o) :: rest }) target) : Steps p.tables e below (T.setTop g) target := by
  subst hg
  jvm_step X.here [X.here.top, hx, hd, hs]
  exact hr
end Dbl
theorem own_Af : Fin64 (4593671619917905920 : UInt64) := by unfold Fin64; decide
theorem own_Az : Nz64 (4593671619917905920 : UInt64) := by unfold Nz64; decide
theorem own_Bf : Fin64 (4606056518893174784 : UInt64) := by unfold Fin64; decide
theorem own_Bz : Nz64 (4606056518893174784 : UInt64) := by unfold Nz64; decide
theorem own_Nf : Fin64 (4742290407625326592 : UInt64) := by unfold Fin64; decide
theorem own_Nz : Nz64 (4742290407625326592 : UInt64) := by unfold Nz64; decide
def own_it : Nat → UInt64 → UInt64
  | 0, r => r
  | k + 1, r => own_it k (FP.dmul r (4606056518893174784 : UInt64))
theorem own_it_nn : ∀ (k : Nat) (r : UInt64), NoNaN64 r → NoNaN64 (own_it k r)
  | 0, _, h => h
  | k + 1, _, h => own_it_nn k _ (dmul_outNz h own_Bf own_Bz)
theorem own_it_succ : ∀ (k : Nat) (r : UInt64), own_it (k + 1) r = FP.dmul (own_it k r) (4606056518893174784 : UInt64)
  | 0, _ => rfl
  | k + 1, r => own_it_succ k (FP.dmul r (4606056518893174784 : UInt64))
theorem own_same (x : UInt64) (h : NoNaN64 x) : cmpValue (FP.dcmp x x) .l = 0 := by
  have h1 : FP.dcmp x x = some .eq := FP.Core.dcmp_refl (noNaN64_no.mp h)
  rw [h1]; rfl
theorem dF_0 : decode prog_26_method_17_code 0 = .ok (.dload_n 0, 1) := by decide +kernel
theorem dF_1 : decode prog_26_method_17_code 1 = .ok (.ldc2_w 199, 3) := by decide +kernel
theorem dF_4 : decode prog_26_method_17_code 4 = .ok (.dmul, 1) := by decide +kernel
theorem dF_5 : decode prog_26_method_17_code 5 = .ok (.dstore_n 3, 1) := by decide +kernel
theorem dF_6 : decode prog_26_method_17_code 6 = .ok (.iconst 0, 1) := by decide +kernel
theorem dF_7 : decode prog_26_method_17_code 7 = .ok (.istore 5, 2) := by decide +kernel
theorem dF_9 : decode prog_26_method_17_code 9 = .ok (.iload 5, 2) := by decide +kernel
theorem dF_11 : decode prog_26_method_17_code 11 = .ok (.iload_n 2, 1) := by decide +kernel
theorem dF_12 : decode prog_26_method_17_code 12 = .ok (.if_icmp .ge 15, 3) := by decide +kernel
theorem dF_15 : decode prog_26_method_17_code 15 = .ok (.dload_n 3, 1) := by decide +kernel
theorem dF_16 : decode prog_26_method_17_code 16 = .ok (.ldc2_w 201, 3) := by decide +kernel
theorem dF_19 : decode prog_26_method_17_code 19 = .ok (.dmul, 1) := by decide +kernel
theorem dF_20 : decode prog_26_method_17_code 20 = .ok (.dstore_n 3, 1) := by decide +kernel
theorem dF_21 : decode prog_26_method_17_code 21 = .ok (.iinc 5 1, 3) := by decide +kernel
theorem dF_24 : decode prog_26_method_17_code 24 = .ok (.goto (-15), 3) := by decide +kernel
theorem dF_27 : decode prog_26_method_17_code 27 = .ok (.dload_n 3, 1) := by decide +kernel
theorem dF_28 : decode prog_26_method_17_code 28 = .ok (.dreturn, 1) := by decide +kernel
theorem pnF : plainName "com/example/bitsieve/bitsieve/ScalableFilter" = true := by first | (simp [plainName, overriddenIn]; done) | decide +kernel
theorem efF (m : MethodId) (d0 : UInt64) (p1 : Int32) : entryFrame m #[(.double d0), (.int p1)] 6 = mkF m 0 #[.val (.double d0), .second, .val (.int p1), .unset, .unset, .unset] [] := by first | (simp [entryFrame, mkF, argsToLocals, Value.category]; done) | rfl
abbrev own_roomF : Room := { frames := 0, cells := 0, slots := 0, locals := 0 }
def QF (Z : State) (d0 : UInt64) (p1 : Int32) (h0 : Heap) (n0 : Nat) (v : Option Value) (h : Heap) (L : List Loc) : Prop := v = some (.double (own_it p1.toInt.toNat (FP.dmul d0 (4593671619917905920 : UInt64)))) ∧ Fr n0 L ∧ h = h0
set_option maxRecDepth 65536 in
set_option maxHeartbeats 40000000 in
theorem rmF (l : Launch) (Z : State) (a0 : Array Value) (hw : ∀ d ∈ tables_1, d.before a0 Z = true) (ws : List Jvm.Cond) (d0 : UInt64) (p1 : Int32) (h0 : Heap) (n0 : Nat) (Z0 : n0 ≤ h0.size) (hnn : NoNaN64 d0) (hp : 0 ≤ p1.toInt) :
    MetFree l (⟨"com/example/bitsieve/bitsieve/ScalableFilter", "stageFpp", "(DI)D"⟩ : MethodName) (head1 (Jvm.Cond.code (⟨"com/example/bitsieve/bitsieve/ScalableFilter", "stageFpp", "(DI)D"⟩ : MethodName) prog_26_method_17_code 6 (some .double) :: ws) own_roomF) (fun a U => a = #[(.double d0), (.int p1)] ∧ Z.Warmed39 U.vm ∧ U.heap = h0) (fun _ _ _ _ _ => True) (fun _ U o U' => ∃ v L, o = .returned v ∧ QF Z d0 p1 h0 n0 v U'.heap L ∧ FrameEnd U o U' L own_roomF.cells own_roomF.slots) := by
  refine MetFree.of_bodySF (plainFor_of_name pnF) hisR ?_
  intro p e s m args below meth c s₁ Bd hml0 hP hK
  obtain ⟨rfl, hZ, hh⟩ := hP
  have hx := Bd.exec
  have hby := Bd.bytes
  have hml : c.maxLocals = 6 := hml0
  have hown : s.vm.findClass "com/example/bitsieve/bitsieve/ScalableFilter" = some m.cls := findClass_of_methodNamed Bd.named
  have hnm := (name_of_methodNamed Bd.named Bd.method).1
  have X0 : Stand p l e own_roomF s m #[(.double d0), (.int p1)] below meth c s₁ [] 0 0 := Stand.of_body Bd
  have e0 : s₁.heap = h0 := by rw [← hh, Bd.state]; rfl
  have N0 := Fr.nil n0
  have pre0 : ∀ t, Steps p.tables e below (s₁.setTop (mkF m 0 #[.val (.double d0), .second, .val (.int p1), .unset, .unset, .unset] [])) t → Steps p.tables e below (s₁.setTop (entryFrame m #[(.double d0), (.int p1)] 6)) t := fun t k => castTop (efF m d0 p1) k
  obtain ⟨x5, hx5⟩ : ∃ z : UInt64, z = (FP.dmul d0 (4593671619917905920 : UInt64)) := ⟨_, rfl⟩
  have pre6 : ∀ t, Steps p.tables e below (s₁.setTop (mkF m 6 #[.val (.double d0), .second, .val (.int p1), .val (.double x5), .second, .unset] [])) t → Steps p.tables e below (s₁.setTop (entryFrame m #[(.double d0), (.int p1)] 6)) t := fun t k => pre0 t (by
    show Steps p.tables e below (s₁.setTop (mkF m 0 #[.val (.double d0), .second, .val (.int p1), .unset, .unset, .unset] [])) t
    refine own_dloadN X0 hx rfl (hb hby dF_0) rfl ?_
    show Steps p.tables e below (s₁.setTop (mkF m 1 #[.val (.double d0), .second, .val (.int p1), .unset, .unset, .unset] [(.double d0)])) _
    refine X0.ldc2DoubleC hx hown (mvT hZ (hw _ (List.mem_of_getElem? (i := 6) rfl))) (g := (mkF m 1 #[.val (.double d0), .second, .val (.int p1), .unset, .unset, .unset] [(.double d0)])) rfl (hb hby dF_1) _ ?_
    show Steps p.tables e below (s₁.setTop (mkF m 4 #[.val (.double d0), .second, .val (.int p1), .unset, .unset, .unset] [(.double (4593671619917905920 : UInt64)), (.double d0)])) _
    refine own_dmul X0 hx rfl (hb hby dF_4) rfl (dmul_outNz hnn own_Af own_Az) ?_
    show Steps p.tables e below (s₁.setTop (mkF m 5 #[.val (.double d0), .second, .val (.int p1), .unset, .unset, .unset] [(.double (FP.dmul d0 (4593671619917905920 : UInt64)))])) _
    refine own_dstoreN X0 hx rfl (hb hby dF_5) rfl (l' := #[.val (.double d0), .second, .val (.int p1), .val (.double (FP.dmul d0 (4593671619917905920 : UInt64))), .second, .unset]) rfl ?_
    show Steps p.tables e below (s₁.setTop (mkF m 6 #[.val (.double d0), .second, .val (.int p1), .val (.double (FP.dmul d0 (4593671619917905920 : UInt64))), .second, .unset] [])) _
    subst hx5
    exact k)
  have pre9 : ∀ t, Steps p.tables e below (s₁.setTop (mkF m 9 #[.val (.double d0), .second, .val (.int p1), .val (.double x5), .second, .val (.int (0 : Int32))] [])) t → Steps p.tables e below (s₁.setTop (entryFrame m #[(.double d0), (.int p1)] 6)) t := fun t k => pre6 t (by
    show Steps p.tables e below (s₁.setTop (mkF m 6 #[.val (.double d0), .second, .val (.int p1), .val (.double x5), .second, .unset] [])) t
    refine XS.iconst X0.here hx rfl (hb hby dF_6) ?_
    show Steps p.tables e below (s₁.setTop (mkF m 7 #[.val (.double d0), .second, .val (.int p1), .val (.double x5), .second, .unset] [(.int (0 : Int32))])) _
    refine XS.istore X0.here hx rfl (hb hby dF_7) rfl (l' := #[.val (.double d0), .second, .val (.int p1), .val (.double x5), .second, .val (.int (0 : Int32))]) rfl ?_
    show Steps p.tables e below (s₁.setTop (mkF m 9 #[.val (.double d0), .second, .val (.int p1), .val (.double x5), .second, .val (.int (0 : Int32))] [])) _
    exact k)
  have loop : ∀ (k : Nat) (i : Int32) (r : UInt64), NoNaN64 r → i.toInt + k = p1.toInt → ∀ t, Steps p.tables e below (s₁.setTop (mkF m 9 #[.val (.double d0), .second, .val (.int p1), .val (.double (own_it k r)), .second, .val (.int p1)] [])) t → Steps p.tables e below (s₁.setTop (mkF m 9 #[.val (.double d0), .second, .val (.int p1), .val (.double r), .second, .val (.int i)] [])) t := by
    intro k
    induction k with
    | zero =>
      intro i r hr hi t kk
      have hip : i = p1 := Int32.toInt_inj.mp (by omega)
      rw [hip]
      exact kk
    | succ k ih =>
      intro i r hr hi t kk
      have hlt : i < p1 := by rw [Int32.lt_iff_toInt_lt]; omega
      have hi1 : (i + (1 : Int32)).toInt = i.toInt + 1 := by have h1 := c_iadd i (1 : Int32); have h2 := rng32 (i + (1 : Int32)); have h3 := rng32 i; have h4 := rng32 p1; have z : (1 : Int32).toInt = 1 := rfl; omega
      refine XS.iload X0.here hx rfl (hb hby dF_9) rfl ?_
      show Steps p.tables e below (s₁.setTop (mkF m 11 #[.val (.double d0), .second, .val (.int p1), .val (.double r), .second, .val (.int i)] [(.int i)])) _
      refine XS.iloadN X0.here hx rfl (hb hby dF_11) rfl ?_
      show Steps p.tables e below (s₁.setTop (mkF m 12 #[.val (.double d0), .second, .val (.int p1), .val (.double r), .second, .val (.int i)] [(.int p1), (.int i)])) _
      refine XS.icmpNo X0.here hx rfl (hb hby dF_12) rfl (tlt hlt).2.1 ?_
      show Steps p.tables e below (s₁.setTop (mkF m 15 #[.val (.double d0), .second, .val (.int p1), .val (.double r), .second, .val (.int i)] [])) _
      refine own_dloadN X0 hx rfl (hb hby dF_15) rfl ?_
      show Steps p.tables e below (s₁.setTop (mkF m 16 #[.val (.double d0), .second, .val (.int p1), .val (.double r), .second, .val (.int i)] [(.double r)])) _
      refine X0.ldc2DoubleC hx hown (mvT hZ (hw _ (List.mem_of_getElem? (i := 7) rfl))) (g := (mkF m 16 #[.val (.double d0), .second, .val (.int p1), .val (.double r), .second, .val (.int i)] [(.double r)])) rfl (hb hby dF_16) _ ?_
      show Steps p.tables e below (s₁.setTop (mkF m 19 #[.val (.double d0), .second, .val (.int p1), .val (.double r), .second, .val (.int i)] [(.double (4606056518893174784 : UInt64)), (.double r)])) _
      refine own_dmul X0 hx rfl (hb hby dF_19) rfl (dmul_outNz hr own_Bf own_Bz) ?_
      show Steps p.tables e below (s₁.setTop (mkF m 20 #[.val (.double d0), .second, .val (.int p1), .val (.double r), .second, .val (.int i)] [(.double (FP.dmul r (4606056518893174784 : UInt64)))])) _
      refine own_dstoreN X0 hx rfl (hb hby dF_20) rfl (l' := #[.val (.double d0), .second, .val (.int p1), .val (.double (FP.dmul r (4606056518893174784 : UInt64))), .second, .val (.int i)]) rfl ?_
      show Steps p.tables e below (s₁.setTop (mkF m 21 #[.val (.double d0), .second, .val (.int p1), .val (.double (FP.dmul r (4606056518893174784 : UInt64))), .second, .val (.int i)] [])) _
      refine XS.iinc X0.here hx rfl (hb hby dF_21) rfl (l' := #[.val (.double d0), .second, .val (.int p1), .val (.double (FP.dmul r (4606056518893174784 : UInt64))), .second, .val (.int (i + (1 : Int32)))]) rfl ?_
      show Steps p.tables e below (s₁.setTop (mkF m 24 #[.val (.double d0), .second, .val (.int p1), .val (.double (FP.dmul r (4606056518893174784 : UInt64))), .second, .val (.int (i + (1 : Int32)))] [])) _
      refine XS.goto X0.here hx rfl (pc0 := 24) (pc' := 9) rfl (hb hby dF_24) (by decide) (by decide) ?_
      show Steps p.tables e below (s₁.setTop (mkF m 9 #[.val (.double d0), .second, .val (.int p1), .val (.double (FP.dmul r (4606056518893174784 : UInt64))), .second, .val (.int (i + (1 : Int32)))] [])) _
      exact ih (i + (1 : Int32)) (FP.dmul r (4606056518893174784 : UInt64)) (dmul_outNz hr own_Bf own_Bz) (by omega) t kk
  have hx5n : NoNaN64 x5 := by rw [hx5]; exact dmul_outNz hnn own_Af own_Az
  have pre9b : ∀ t, Steps p.tables e below (s₁.setTop (mkF m 9 #[.val (.double d0), .second, .val (.int p1), .val (.double (own_it p1.toInt.toNat x5)), .second, .val (.int p1)] [])) t → Steps p.tables e below (s₁.setTop (entryFrame m #[(.double d0), (.int p1)] 6)) t := fun t k => pre9 t (loop p1.toInt.toNat (0 : Int32) x5 hx5n (by have z : (0 : Int32).toInt = 0 := rfl; omega) t k)
  have pre28 : ∀ t, Steps p.tables e below (s₁.setTop (mkF m 28 #[.val (.double d0), .second, .val (.int p1), .val (.double (own_it p1.toInt.toNat x5)), .second, .val (.int p1)] [(.double (own_it p1.toInt.toNat x5))])) t → Steps p.tables e below (s₁.setTop (entryFrame m #[(.double d0), (.int p1)] 6)) t := fun t k => pre9b t (by
    show Steps p.tables e below (s₁.setTop (mkF m 9 #[.val (.double d0), .second, .val (.int p1), .val (.double (own_it p1.toInt.toNat x5)), .second, .val (.int p1)] [])) t
    refine XS.iload X0.here hx rfl (hb hby dF_9) rfl ?_
    show Steps p.tables e below (s₁.setTop (mkF m 11 #[.val (.double d0), .second, .val (.int p1), .val (.double (own_it p1.toInt.toNat x5)), .second, .val (.int p1)] [(.int p1)])) _
    refine XS.iloadN X0.here hx rfl (hb hby dF_11) rfl ?_
    show Steps p.tables e below (s₁.setTop (mkF m 12 #[.val (.double d0), .second, .val (.int p1), .val (.double (own_it p1.toInt.toNat x5)), .second, .val (.int p1)] [(.int p1), (.int p1)])) _
    refine XS.icmpYes X0.here hx rfl (pc0 := 12) (pc' := 27) rfl (hb hby dF_12) rfl (flt (by rw [Int32.lt_iff_toInt_lt]; omega)).2.1 (by decide) (by decide) ?_
    show Steps p.tables e below (s₁.setTop (mkF m 27 #[.val (.double d0), .second, .val (.int p1), .val (.double (own_it p1.toInt.toNat x5)), .second, .val (.int p1)] [])) _
    refine own_dloadN X0 hx rfl (hb hby dF_27) rfl ?_
    show Steps p.tables e below (s₁.setTop (mkF m 28 #[.val (.double d0), .second, .val (.int p1), .val (.double (own_it p1.toInt.toNat x5)), .second, .val (.int p1)] [(.double (own_it p1.toInt.toNat x5))])) _
    exact k)
  obtain ⟨fs, hr, hrun, hended, hW, hsame⟩ := X0.leave (v := some (.double (own_it p1.toInt.toNat x5))) (fun h => by rw [Bd.returns] at h; cases h)
  refine ⟨_, _, pre28 _ ?_, hrun, hended, _, _, rfl, ?_, ⟨_, rfl⟩, hW, hsame.mono (by decide) (by decide)⟩
  · show Steps p.tables e below (s₁.setTop (mkF m 28 #[.val (.double d0), .second, .val (.int p1), .val (.double (own_it p1.toInt.toNat x5)), .second, .val (.int p1)] [(.double (own_it p1.toInt.toNat x5))])) _
    exact retOut X0 hx Bd.returns rfl (Or.inr (Or.inr (Or.inl ⟨rfl, rfl, _, rfl⟩))) (hb hby dF_28) hr
  · show QF Z d0 p1 h0 n0 _ s₁.heap _
    rw [e0]
    have hres : (own_it p1.toInt.toNat x5) = (own_it p1.toInt.toNat (FP.dmul d0 (4593671619917905920 : UInt64))) := by
      rw [hx5]
    exact ⟨congrArg (fun q => some (Value.double q)) hres, N0, rfl⟩
theorem own_mask30 (a : Int32) : True := trivial
theorem own_s (b s : Int32) (h : s = (b &&& (8191 : Int32))) : 0 ≤ s.toInt ∧ s.toInt ≤ 8191 ∧ (s + (1 : Int32)).toInt = s.toInt + 1 := by
  have h1 := c_mask b (8191 : Int32) 13 (by decide) (by decide)
  rw [← h] at h1
  have e : (((2 : Nat) ^ 13 : Nat) : Int) = 8192 := rfl
  rw [e] at h1
  have h2 := c_iadd s (1 : Int32)
  have h3 := rng32 (s + (1 : Int32))
  have z : (1 : Int32).toInt = 1 := rfl
  omega
theorem pn0 : plainName "com/example/bitsieve/bitsieve/ScalableFilterStageFppPinLaw" = true := by first | (simp [plainName, overriddenIn]; done) | decide +kernel
theorem pd0_0 : parseMethodDescriptor "(DI)D" = some ⟨[.double, .int], some .double⟩ := by decide +kernel
theorem ef0 (m : MethodId) (p0 : Int32) (p1 : Int32) : entryFrame m #[(.int p0), (.int p1)] maxLocals = mkF m 0 #[.val (.int p0), .val (.int p1), .unset, .unset, .unset, .unset, .unset, .unset, .unset, .unset, .unset] [] := by first | (simp [entryFrame, mkF, argsToLocals, Value.category, maxLocals]; done) | rfl
def Q0 (Z : State) (p0 : Int32) (p1 : Int32) (h0 : Heap) (n0 : Nat) (v : Option Value) (h : Heap) (L : List Loc) : Prop := v = some (.int (1 : Int32)) ∧ Fr n0 L
set_option maxRecDepth 65536 in
set_option maxHeartbeats 40000000 in
theorem rm0 (l : Launch) (Z : State) (a0 : Array Value) (hw : ∀ d ∈ tables_1, d.before a0 Z = true) (ws : List Jvm.Cond) (p0 : Int32) (p1 : Int32) (h0 : Heap) (n0 : Nat) (Z0 : n0 ≤ h0.size) :
    MetFree l x (head1 (Jvm.Cond.code x code maxLocals ret :: ws) room_1) (fun a U => a = #[(.int p0), (.int p1)] ∧ Z.Warmed39 U.vm ∧ U.heap = h0) (fun _ _ _ _ _ => True) (fun _ U o U' => ∃ v L, o = .returned v ∧ Q0 Z p0 p1 h0 n0 v U'.heap L ∧ FrameEnd U o U' L room_1.cells room_1.slots) := by
  refine MetFree.of_bodySF (plainFor_of_name pn0) hisR ?_
  intro p e s m args below meth c s₁ Bd hml0 hP hK
  obtain ⟨rfl, hZ, hh⟩ := hP
  have hx := Bd.exec
  have hby := Bd.bytes
  have hml : c.maxLocals = 11 := hml0
  have hown : s.vm.findClass "com/example/bitsieve/bitsieve/ScalableFilterStageFppPinLaw" = some m.cls := findClass_of_methodNamed Bd.named
  have hnm := (name_of_methodNamed Bd.named Bd.method).1
  have X0 : Stand p l e room_1 s m #[(.int p0), (.int p1)] below meth c s₁ [] 0 0 := Stand.of_body Bd
  have e0 : s₁.heap = h0 := by rw [← hh, Bd.state]; rfl
  have N0 := Fr.nil n0
  have pre0 : ∀ t, Steps p.tables e below (s₁.setTop (mkF m 0 #[.val (.int p0), .val (.int p1), .unset, .unset, .unset, .unset, .unset, .unset, .unset, .unset, .unset] [])) t → Steps p.tables e below (s₁.setTop (entryFrame m #[(.int p0), (.int p1)] maxLocals)) t := fun t k => castTop (ef0 m p0 p1) k
  obtain ⟨x11, hx11⟩ : ∃ z : UInt64, z = (FP.ddiv (FP.i2d ((p0 &&& (1073741823 : Int32)) + (1 : Int32))) (4742290407625326592 : UInt64)) := ⟨_, rfl⟩
  have pre12 : ∀ t, Steps p.tables e below (s₁.setTop (mkF m 12 #[.val (.int p0), .val (.int p1), .val (.double x11), .second, .unset, .unset, .unset, .unset, .unset, .unset, .unset] [])) t → Steps p.tables e below (s₁.setTop (entryFrame m #[(.int p0), (.int p1)] maxLocals)) t := fun t k => pre0 t (by
    show Steps p.tables e below (s₁.setTop (mkF m 0 #[.val (.int p0), .val (.int p1), .unset, .unset, .unset, .unset, .unset, .unset, .unset, .unset, .unset] [])) t
    refine XS.iloadN X0.here hx rfl (hb hby at_0) rfl ?_
    show Steps p.tables e below (s₁.setTop (mkF m 1 #[.val (.int p0), .val (.int p1), .unset, .unset, .unset, .unset, .unset, .unset, .unset, .unset, .unset] [(.int p0)])) _
    refine X0.ldcInt hx hown (mvT hZ (hw _ (List.mem_of_getElem? (i := 0) rfl))) (g := (mkF m 1 #[.val (.int p0), .val (.int p1), .unset, .unset, .unset, .unset, .unset, .unset, .unset, .unset, .unset] [(.int p0)])) rfl (hb hby at_1) _ ?_
    show Steps p.tables e below (s₁.setTop (mkF m 3 #[.val (.int p0), .val (.int p1), .unset, .unset, .unset, .unset, .unset, .unset, .unset, .unset, .unset] [(.int (1073741823 : Int32)), (.int p0)])) _
    refine XS.iand X0.here hx rfl (hb hby at_3) rfl ?_
    show Steps p.tables e below (s₁.setTop (mkF m 4 #[.val (.int p0), .val (.int p1), .unset, .unset, .unset, .unset, .unset, .unset, .unset, .unset, .unset] [(.int (p0 &&& (1073741823 : Int32)))])) _
    refine XS.iconst X0.here hx rfl (hb hby at_4) ?_
    show Steps p.tables e below (s₁.setTop (mkF m 5 #[.val (.int p0), .val (.int p1), .unset, .unset, .unset, .unset, .unset, .unset, .unset, .unset, .unset] [(.int (1 : Int32)), (.int (p0 &&& (1073741823 : Int32)))])) _
    refine XS.iadd X0.here hx rfl (hb hby at_5) rfl ?_
    show Steps p.tables e below (s₁.setTop (mkF m 6 #[.val (.int p0), .val (.int p1), .unset, .unset, .unset, .unset, .unset, .unset, .unset, .unset, .unset] [(.int ((p0 &&& (1073741823 : Int32)) + (1 : Int32)))])) _
    refine own_i2d X0 hx rfl (hb hby at_6) rfl ?_
    show Steps p.tables e below (s₁.setTop (mkF m 7 #[.val (.int p0), .val (.int p1), .unset, .unset, .unset, .unset, .unset, .unset, .unset, .unset, .unset] [(.double (FP.i2d ((p0 &&& (1073741823 : Int32)) + (1 : Int32))))])) _
    refine X0.ldc2DoubleC hx hown (mvT hZ (hw _ (List.mem_of_getElem? (i := 1) rfl))) (g := (mkF m 7 #[.val (.int p0), .val (.int p1), .unset, .unset, .unset, .unset, .unset, .unset, .unset, .unset, .unset] [(.double (FP.i2d ((p0 &&& (1073741823 : Int32)) + (1 : Int32))))])) rfl (hb hby at_7) _ ?_
    show Steps p.tables e below (s₁.setTop (mkF m 10 #[.val (.int p0), .val (.int p1), .unset, .unset, .unset, .unset, .unset, .unset, .unset, .unset, .unset] [(.double (4742290407625326592 : UInt64)), (.double (FP.i2d ((p0 &&& (1073741823 : Int32)) + (1 : Int32))))])) _
    refine own_ddiv X0 hx rfl (hb hby at_10) rfl (ddiv_out (i2d_fin _).noNaN own_Nf own_Nz) ?_
    show Steps p.tables e below (s₁.setTop (mkF m 11 #[.val (.int p0), .val (.int p1), .unset, .unset, .unset, .unset, .unset, .unset, .unset, .unset, .unset] [(.double (FP.ddiv (FP.i2d ((p0 &&& (1073741823 : Int32)) + (1 : Int32))) (4742290407625326592 : UInt64)))])) _
    refine own_dstoreN X0 hx rfl (hb hby at_11) rfl (l' := #[.val (.int p0), .val (.int p1), .val (.double (FP.ddiv (FP.i2d ((p0 &&& (1073741823 : Int32)) + (1 : Int32))) (4742290407625326592 : UInt64))), .second, .unset, .unset, .unset, .unset, .unset, .unset, .unset]) rfl ?_
    show Steps p.tables e below (s₁.setTop (mkF m 12 #[.val (.int p0), .val (.int p1), .val (.double (FP.ddiv (FP.i2d ((p0 &&& (1073741823 : Int32)) + (1 : Int32))) (4742290407625326592 : UInt64))), .second, .unset, .unset, .unset, .unset, .unset, .unset, .unset] [])) _
    subst hx11
    exact k)
  have n11 : NoNaN64 x11 := by rw [hx11]; exact ddiv_out (i2d_fin _).noNaN own_Nf own_Nz
  obtain ⟨x17, hx17⟩ : ∃ z : Int32, z = (p1 &&& (8191 : Int32)) := ⟨_, rfl⟩
  have pre19 : ∀ t, Steps p.tables e below (s₁.setTop (mkF m 19 #[.val (.int p0), .val (.int p1), .val (.double x11), .second, .val (.int x17), .unset, .unset, .unset, .unset, .unset, .unset] [])) t → Steps p.tables e below (s₁.setTop (entryFrame m #[(.int p0), (.int p1)] maxLocals)) t := fun t k => pre12 t (by
    show Steps p.tables e below (s₁.setTop (mkF m 12 #[.val (.int p0), .val (.int p1), .val (.double x11), .second, .unset, .unset, .unset, .unset, .unset, .unset, .unset] [])) t
    refine XS.iloadN X0.here hx rfl (hb hby at_12) rfl ?_
    show Steps p.tables e below (s₁.setTop (mkF m 13 #[.val (.int p0), .val (.int p1), .val (.double x11), .second, .unset, .unset, .unset, .unset, .unset, .unset, .unset] [(.int p1)])) _
    refine XS.sipush X0.here hx rfl (hb hby at_13) ?_
    show Steps p.tables e below (s₁.setTop (mkF m 16 #[.val (.int p0), .val (.int p1), .val (.double x11), .second, .unset, .unset, .unset, .unset, .unset, .unset, .unset] [(.int (8191 : Int32)), (.int p1)])) _
    refine XS.iand X0.here hx rfl (hb hby at_16) rfl ?_
    show Steps p.tables e below (s₁.setTop (mkF m 17 #[.val (.int p0), .val (.int p1), .val (.double x11), .second, .unset, .unset, .unset, .unset, .unset, .unset, .unset] [(.int (p1 &&& (8191 : Int32)))])) _
    refine XS.istore X0.here hx rfl (hb hby at_17) rfl (l' := #[.val (.int p0), .val (.int p1), .val (.double x11), .second, .val (.int (p1 &&& (8191 : Int32))), .unset, .unset, .unset, .unset, .unset, .unset]) rfl ?_
    show Steps p.tables e below (s₁.setTop (mkF m 19 #[.val (.int p0), .val (.int p1), .val (.double x11), .second, .val (.int (p1 &&& (8191 : Int32))), .unset, .unset, .unset, .unset, .unset, .unset] [])) _
    subst hx17
    exact k)
  have hs17 := own_s p1 x17 hx17
  have pre21 : ∀ t, Steps p.tables e below (s₁.setTop (mkF m 21 #[.val (.int p0), .val (.int p1), .val (.double x11), .second, .val (.int x17), .unset, .unset, .unset, .unset, .unset, .unset] [(.int (0 : Int32)), (.double x11)])) t → Steps p.tables e below (s₁.setTop (entryFrame m #[(.int p0), (.int p1)] maxLocals)) t := fun t k => pre19 t (by
    show Steps p.tables e below (s₁.setTop (mkF m 19 #[.val (.int p0), .val (.int p1), .val (.double x11), .second, .val (.int x17), .unset, .unset, .unset, .unset, .unset, .unset] [])) t
    refine own_dloadN X0 hx rfl (hb hby at_19) rfl ?_
    show Steps p.tables e below (s₁.setTop (mkF m 20 #[.val (.int p0), .val (.int p1), .val (.double x11), .second, .val (.int x17), .unset, .unset, .unset, .unset, .unset, .unset] [(.double x11)])) _
    refine XS.iconst X0.here hx rfl (hb hby at_20) ?_
    show Steps p.tables e below (s₁.setTop (mkF m 21 #[.val (.int p0), .val (.int p1), .val (.double x11), .second, .val (.int x17), .unset, .unset, .unset, .unset, .unset, .unset] [(.int (0 : Int32)), (.double x11)])) _
    exact k)
  obtain ⟨_, _, ⟨T21, L21, k21, n21⟩, -, X21, ⟨Lc21, hQ21, l21, y21, z21⟩, st21⟩ := Jvm.LawKit.callS X0 hx (y := (⟨"com/example/bitsieve/bitsieve/ScalableFilter", "stageFpp", "(DI)D"⟩ : MethodName)) hown (mvT hZ (hw _ (List.mem_of_getElem? (i := 2) rfl))) (mvT hZ (hw _ (List.mem_of_getElem? (i := 3) rfl))) (mvT hZ (hw _ (List.mem_of_getElem? (i := 4) rfl))) (mvT hZ (hw _ (List.mem_of_getElem? (i := 5) rfl))) (by decide) (backOf (W := 0) (rmF l Z a0 hw [] x11 (0 : Int32)  h0 n0 Z0 n11 (by decide)) hZ (hw _ (List.mem_of_getElem? (i := 5) rfl)) (hw _ (List.mem_of_getElem? (i := 4) rfl)) (by decide) (by decide)) (g := (mkF m 21 #[.val (.int p0), .val (.int p1), .val (.double x11), .second, .val (.int x17), .unset, .unset, .unset, .unset, .unset, .unset] [(.int (0 : Int32)), (.double x11)])) rfl (by rw [hml]; rfl) (argsL := [(.double x11), (.int (0 : Int32))]) (rest := []) (lenOf pd0_0 rfl) rfl (by show 2 * 0 + _ ≤ _; exact Nat.le_of_eq rfl) (hb hby at_21) (fun _ _ => ⟨rfl, e0, (by decide : 0 + 0 ≤ _), (by decide : 0 + 0 ≤ _)⟩)
  dsimp only [Pt.U, Pt.locs, Pt.cells, Pt.slots] at X21 l21 y21 z21 st21 hQ21
  subst l21 y21 z21
  obtain ⟨rfl, N21q, e21⟩ := hQ21
  have N21 := Fr.app N0 N21q
  have pre24 : ∀ t, Steps p.tables e below (T21.setTop (mkF m 24 #[.val (.int p0), .val (.int p1), .val (.double x11), .second, .val (.int x17), .unset, .unset, .unset, .unset, .unset, .unset] [(.double (own_it (0 : Int32).toInt.toNat (FP.dmul x11 (4593671619917905920 : UInt64))))])) t → Steps p.tables e below (s₁.setTop (entryFrame m #[(.int p0), (.int p1)] maxLocals)) t := fun t k => pre21 t (st21 _ k)
  obtain ⟨x24, hx24⟩ : ∃ z : UInt64, z = (own_it (0 : Int32).toInt.toNat (FP.dmul x11 (4593671619917905920 : UInt64))) := ⟨_, rfl⟩
  have pre26 : ∀ t, Steps p.tables e below (T21.setTop (mkF m 26 #[.val (.int p0), .val (.int p1), .val (.double x11), .second, .val (.int x17), .val (.double x24), .second, .unset, .unset, .unset, .unset] [])) t → Steps p.tables e below (s₁.setTop (entryFrame m #[(.int p0), (.int p1)] maxLocals)) t := fun t k => pre24 t (by
    show Steps p.tables e below (T21.setTop (mkF m 24 #[.val (.int p0), .val (.int p1), .val (.double x11), .second, .val (.int x17), .unset, .unset, .unset, .unset, .unset, .unset] [(.double (own_it (0 : Int32).toInt.toNat (FP.dmul x11 (4593671619917905920 : UInt64))))])) t
    refine own_dstore X21 hx rfl (hb hby at_24) rfl (l' := #[.val (.int p0), .val (.int p1), .val (.double x11), .second, .val (.int x17), .val (.double (own_it (0 : Int32).toInt.toNat (FP.dmul x11 (4593671619917905920 : UInt64)))), .second, .unset, .unset, .unset, .unset]) rfl ?_
    show Steps p.tables e below (T21.setTop (mkF m 26 #[.val (.int p0), .val (.int p1), .val (.double x11), .second, .val (.int x17), .val (.double (own_it (0 : Int32).toInt.toNat (FP.dmul x11 (4593671619917905920 : UInt64)))), .second, .unset, .unset, .unset, .unset] [])) _
    subst hx24
    exact k)
  have pre29 : ∀ t, Steps p.tables e below (T21.setTop (mkF m 29 #[.val (.int p0), .val (.int p1), .val (.double x11), .second, .val (.int x17), .val (.double x24), .second, .unset, .unset, .unset, .unset] [(.int x17), (.double x11)])) t → Steps p.tables e below (s₁.setTop (entryFrame m #[(.int p0), (.int p1)] maxLocals)) t := fun t k => pre26 t (by
    show Steps p.tables e below (T21.setTop (mkF m 26 #[.val (.int p0), .val (.int p1), .val (.double x11), .second, .val (.int x17), .val (.double x24), .second, .unset, .unset, .unset, .unset] [])) t
    refine own_dloadN X21 hx rfl (hb hby at_26) rfl ?_
    show Steps p.tables e below (T21.setTop (mkF m 27 #[.val (.int p0), .val (.int p1), .val (.double x11), .second, .val (.int x17), .val (.double x24), .second, .unset, .unset, .unset, .unset] [(.double x11)])) _
    refine XS.iload X21.here hx rfl (hb hby at_27) rfl ?_
    show Steps p.tables e below (T21.setTop (mkF m 29 #[.val (.int p0), .val (.int p1), .val (.double x11), .second, .val (.int x17), .val (.double x24), .second, .unset, .unset, .unset, .unset] [(.int x17), (.double x11)])) _
    exact k)
  obtain ⟨_, _, ⟨T29, L29, k29, n29⟩, -, X29, ⟨Lc29, hQ29, l29, y29, z29⟩, st29⟩ := Jvm.LawKit.callS X21 hx (y := (⟨"com/example/bitsieve/bitsieve/ScalableFilter", "stageFpp", "(DI)D"⟩ : MethodName)) hown (mvT hZ (hw _ (List.mem_of_getElem? (i := 2) rfl))) (mvT hZ (hw _ (List.mem_of_getElem? (i := 3) rfl))) (mvT hZ (hw _ (List.mem_of_getElem? (i := 4) rfl))) (mvT hZ (hw _ (List.mem_of_getElem? (i := 5) rfl))) (by decide) (backOf (W := 0) (rmF l Z a0 hw [] x11 x17  h0 n0 Z0 n11 hs17.1) hZ (hw _ (List.mem_of_getElem? (i := 5) rfl)) (hw _ (List.mem_of_getElem? (i := 4) rfl)) (by decide) (by decide)) (g := (mkF m 29 #[.val (.int p0), .val (.int p1), .val (.double x11), .second, .val (.int x17), .val (.double x24), .second, .unset, .unset, .unset, .unset] [(.int x17), (.double x11)])) rfl (by rw [hml]; rfl) (argsL := [(.double x11), (.int x17)]) (rest := []) (lenOf pd0_0 rfl) rfl (by show 2 * 0 + _ ≤ _; exact Nat.le_of_eq rfl) (hb hby at_29) (fun _ _ => ⟨rfl, e21, (by decide : 0 + 0 ≤ _), (by decide : 0 + 0 ≤ _)⟩)
  dsimp only [Pt.U, Pt.locs, Pt.cells, Pt.slots] at X29 l29 y29 z29 st29 hQ29
  subst l29 y29 z29
  obtain ⟨rfl, N29q, e29⟩ := hQ29
  have N29 := Fr.app N21 N29q
  have pre32 : ∀ t, Steps p.tables e below (T29.setTop (mkF m 32 #[.val (.int p0), .val (.int p1), .val (.double x11), .second, .val (.int x17), .val (.double x24), .second, .unset, .unset, .unset, .unset] [(.double (own_it x17.toInt.toNat (FP.dmul x11 (4593671619917905920 : UInt64))))])) t → Steps p.tables e below (s₁.setTop (entryFrame m #[(.int p0), (.int p1)] maxLocals)) t := fun t k => pre29 t (st29 _ k)
  obtain ⟨x32, hx32⟩ : ∃ z : UInt64, z = (own_it x17.toInt.toNat (FP.dmul x11 (4593671619917905920 : UInt64))) := ⟨_, rfl⟩
  have pre34 : ∀ t, Steps p.tables e below (T29.setTop (mkF m 34 #[.val (.int p0), .val (.int p1), .val (.double x11), .second, .val (.int x17), .val (.double x24), .second, .val (.double x32), .second, .unset, .unset] [])) t → Steps p.tables e below (s₁.setTop (entryFrame m #[(.int p0), (.int p1)] maxLocals)) t := fun t k => pre32 t (by
    show Steps p.tables e below (T29.setTop (mkF m 32 #[.val (.int p0), .val (.int p1), .val (.double x11), .second, .val (.int x17), .val (.double x24), .second, .unset, .unset, .unset, .unset] [(.double (own_it x17.toInt.toNat (FP.dmul x11 (4593671619917905920 : UInt64))))])) t
    refine own_dstore X29 hx rfl (hb hby at_32) rfl (l' := #[.val (.int p0), .val (.int p1), .val (.double x11), .second, .val (.int x17), .val (.double x24), .second, .val (.double (own_it x17.toInt.toNat (FP.dmul x11 (4593671619917905920 : UInt64)))), .second, .unset, .unset]) rfl ?_
    show Steps p.tables e below (T29.setTop (mkF m 34 #[.val (.int p0), .val (.int p1), .val (.double x11), .second, .val (.int x17), .val (.double x24), .second, .val (.double (own_it x17.toInt.toNat (FP.dmul x11 (4593671619917905920 : UInt64)))), .second, .unset, .unset] [])) _
    subst hx32
    exact k)
  have n32 : NoNaN64 x32 := by rw [hx32]; exact own_it_nn _ _ (dmul_outNz n11 own_Af own_Az)
  have pre39 : ∀ t, Steps p.tables e below (T29.setTop (mkF m 39 #[.val (.int p0), .val (.int p1), .val (.double x11), .second, .val (.int x17), .val (.double x24), .second, .val (.double x32), .second, .unset, .unset] [(.int (x17 + (1 : Int32))), (.double x11)])) t → Steps p.tables e below (s₁.setTop (entryFrame m #[(.int p0), (.int p1)] maxLocals)) t := fun t k => pre34 t (by
    show Steps p.tables e below (T29.setTop (mkF m 34 #[.val (.int p0), .val (.int p1), .val (.double x11), .second, .val (.int x17), .val (.double x24), .second, .val (.double x32), .second, .unset, .unset] [])) t
    refine own_dloadN X29 hx rfl (hb hby at_34) rfl ?_
    show Steps p.tables e below (T29.setTop (mkF m 35 #[.val (.int p0), .val (.int p1), .val (.double x11), .second, .val (.int x17), .val (.double x24), .second, .val (.double x32), .second, .unset, .unset] [(.double x11)])) _
    refine XS.iload X29.here hx rfl (hb hby at_35) rfl ?_
    show Steps p.tables e below (T29.setTop (mkF m 37 #[.val (.int p0), .val (.int p1), .val (.double x11), .second, .val (.int x17), .val (.double x24), .second, .val (.double x32), .second, .unset, .unset] [(.int x17), (.double x11)])) _
    refine XS.iconst X29.here hx rfl (hb hby at_37) ?_
    show Steps p.tables e below (T29.setTop (mkF m 38 #[.val (.int p0), .val (.int p1), .val (.double x11), .second, .val (.int x17), .val (.double x24), .second, .val (.double x32), .second, .unset, .unset] [(.int (1 : Int32)), (.int x17), (.double x11)])) _
    refine XS.iadd X29.here hx rfl (hb hby at_38) rfl ?_
    show Steps p.tables e below (T29.setTop (mkF m 39 #[.val (.int p0), .val (.int p1), .val (.double x11), .second, .val (.int x17), .val (.double x24), .second, .val (.double x32), .second, .unset, .unset] [(.int (x17 + (1 : Int32))), (.double x11)])) _
    exact k)
  obtain ⟨_, _, ⟨T39, L39, k39, n39⟩, -, X39, ⟨Lc39, hQ39, l39, y39, z39⟩, st39⟩ := Jvm.LawKit.callS X29 hx (y := (⟨"com/example/bitsieve/bitsieve/ScalableFilter", "stageFpp", "(DI)D"⟩ : MethodName)) hown (mvT hZ (hw _ (List.mem_of_getElem? (i := 2) rfl))) (mvT hZ (hw _ (List.mem_of_getElem? (i := 3) rfl))) (mvT hZ (hw _ (List.mem_of_getElem? (i := 4) rfl))) (mvT hZ (hw _ (List.mem_of_getElem? (i := 5) rfl))) (by decide) (backOf (W := 0) (rmF l Z a0 hw [] x11 (x17 + (1 : Int32))  h0 n0 Z0 n11 (by omega)) hZ (hw _ (List.mem_of_getElem? (i := 5) rfl)) (hw _ (List.mem_of_getElem? (i := 4) rfl)) (by decide) (by decide)) (g := (mkF m 39 #[.val (.int p0), .val (.int p1), .val (.double x11), .second, .val (.int x17), .val (.double x24), .second, .val (.double x32), .second, .unset, .unset] [(.int (x17 + (1 : Int32))), (.double x11)])) rfl (by rw [hml]; rfl) (argsL := [(.double x11), (.int (x17 + (1 : Int32)))]) (rest := []) (lenOf pd0_0 rfl) rfl (by show 2 * 0 + _ ≤ _; exact Nat.le_of_eq rfl) (hb hby at_39) (fun _ _ => ⟨rfl, e29, (by decide : 0 + 0 ≤ _), (by decide : 0 + 0 ≤ _)⟩)
  dsimp only [Pt.U, Pt.locs, Pt.cells, Pt.slots] at X39 l39 y39 z39 st39 hQ39
  subst l39 y39 z39
  obtain ⟨rfl, N39q, e39⟩ := hQ39
  have N39 := Fr.app N29 N39q
  have pre42 : ∀ t, Steps p.tables e below (T39.setTop (mkF m 42 #[.val (.int p0), .val (.int p1), .val (.double x11), .second, .val (.int x17), .val (.double x24), .second, .val (.double x32), .second, .unset, .unset] [(.double (own_it (x17 + (1 : Int32)).toInt.toNat (FP.dmul x11 (4593671619917905920 : UInt64))))])) t → Steps p.tables e below (s₁.setTop (entryFrame m #[(.int p0), (.int p1)] maxLocals)) t := fun t k => pre39 t (st39 _ k)
  obtain ⟨x42, hx42⟩ : ∃ z : UInt64, z = (own_it (x17 + (1 : Int32)).toInt.toNat (FP.dmul x11 (4593671619917905920 : UInt64))) := ⟨_, rfl⟩
  have pre44 : ∀ t, Steps p.tables e below (T39.setTop (mkF m 44 #[.val (.int p0), .val (.int p1), .val (.double x11), .second, .val (.int x17), .val (.double x24), .second, .val (.double x32), .second, .val (.double x42), .second] [])) t → Steps p.tables e below (s₁.setTop (entryFrame m #[(.int p0), (.int p1)] maxLocals)) t := fun t k => pre42 t (by
    show Steps p.tables e below (T39.setTop (mkF m 42 #[.val (.int p0), .val (.int p1), .val (.double x11), .second, .val (.int x17), .val (.double x24), .second, .val (.double x32), .second, .unset, .unset] [(.double (own_it (x17 + (1 : Int32)).toInt.toNat (FP.dmul x11 (4593671619917905920 : UInt64))))])) t
    refine own_dstore X39 hx rfl (hb hby at_42) rfl (l' := #[.val (.int p0), .val (.int p1), .val (.double x11), .second, .val (.int x17), .val (.double x24), .second, .val (.double x32), .second, .val (.double (own_it (x17 + (1 : Int32)).toInt.toNat (FP.dmul x11 (4593671619917905920 : UInt64)))), .second]) rfl ?_
    show Steps p.tables e below (T39.setTop (mkF m 44 #[.val (.int p0), .val (.int p1), .val (.double x11), .second, .val (.int x17), .val (.double x24), .second, .val (.double x32), .second, .val (.double (own_it (x17 + (1 : Int32)).toInt.toNat (FP.dmul x11 (4593671619917905920 : UInt64)))), .second] [])) _
    subst hx42
    exact k)
  have pre52 : ∀ t, Steps p.tables e below (T39.setTop (mkF m 52 #[.val (.int p0), .val (.int p1), .val (.double x11), .second, .val (.int x17), .val (.double x24), .second, .val (.double x32), .second, .val (.double x42), .second] [(.int (cmpValue (FP.dcmp x24 (FP.dmul x11 (4593671619917905920 : UInt64))) .l))])) t → Steps p.tables e below (s₁.setTop (entryFrame m #[(.int p0), (.int p1)] maxLocals)) t := fun t k => pre44 t (by
    show Steps p.tables e below (T39.setTop (mkF m 44 #[.val (.int p0), .val (.int p1), .val (.double x11), .second, .val (.int x17), .val (.double x24), .second, .val (.double x32), .second, .val (.double x42), .second] [])) t
    refine own_dload X39 hx rfl (hb hby at_44) rfl ?_
    show Steps p.tables e below (T39.setTop (mkF m 46 #[.val (.int p0), .val (.int p1), .val (.double x11), .second, .val (.int x17), .val (.double x24), .second, .val (.double x32), .second, .val (.double x42), .second] [(.double x24)])) _
    refine own_dloadN X39 hx rfl (hb hby at_46) rfl ?_
    show Steps p.tables e below (T39.setTop (mkF m 47 #[.val (.int p0), .val (.int p1), .val (.double x11), .second, .val (.int x17), .val (.double x24), .second, .val (.double x32), .second, .val (.double x42), .second] [(.double x11), (.double x24)])) _
    refine X39.ldc2DoubleC hx hown (mvT hZ (hw _ (List.mem_of_getElem? (i := 8) rfl))) (g := (mkF m 47 #[.val (.int p0), .val (.int p1), .val (.double x11), .second, .val (.int x17), .val (.double x24), .second, .val (.double x32), .second, .val (.double x42), .second] [(.double x11), (.double x24)])) rfl (hb hby at_47) _ ?_
    show Steps p.tables e below (T39.setTop (mkF m 50 #[.val (.int p0), .val (.int p1), .val (.double x11), .second, .val (.int x17), .val (.double x24), .second, .val (.double x32), .second, .val (.double x42), .second] [(.double (4593671619917905920 : UInt64)), (.double x11), (.double x24)])) _
    refine own_dmul X39 hx rfl (hb hby at_50) rfl (dmul_outNz n11 own_Af own_Az) ?_
    show Steps p.tables e below (T39.setTop (mkF m 51 #[.val (.int p0), .val (.int p1), .val (.double x11), .second, .val (.int x17), .val (.double x24), .second, .val (.double x32), .second, .val (.double x42), .second] [(.double (FP.dmul x11 (4593671619917905920 : UInt64))), (.double x24)])) _
    refine own_dcmp X39 hx rfl (hb hby at_51) rfl ?_
    show Steps p.tables e below (T39.setTop (mkF m 52 #[.val (.int p0), .val (.int p1), .val (.double x11), .second, .val (.int x17), .val (.double x24), .second, .val (.double x32), .second, .val (.double x42), .second] [(.int (cmpValue (FP.dcmp x24 (FP.dmul x11 (4593671619917905920 : UInt64))) .l))])) _
    exact k)
  obtain ⟨v72_s0, hv72_s0⟩ : ∃ z : Int32, z = if (((cmpValue (FP.dcmp x24 (FP.dmul x11 (4593671619917905920 : UInt64))) .l) = (0 : Int32)) ∧ ((cmpValue (FP.dcmp x42 (FP.dmul x32 (4606056518893174784 : UInt64))) .l) = (0 : Int32))) then (1 : Int32) else 0 := ⟨_, rfl⟩
  have pre72 : ∀ t, Steps p.tables e below (T39.setTop (mkF m 72 #[.val (.int p0), .val (.int p1), .val (.double x11), .second, .val (.int x17), .val (.double x24), .second, .val (.double x32), .second, .val (.double x42), .second] [(.int v72_s0)])) t → Steps p.tables e below (s₁.setTop (entryFrame m #[(.int p0), (.int p1)] maxLocals)) t := by
    by_cases hc52 : (cmpValue (FP.dcmp x24 (FP.dmul x11 (4593671619917905920 : UInt64))) .l) = (0 : Int32)
    · -- (cmpValue (FP.dcmp x24 (FP.dmul x11 (4593671619917905920 : UInt64))) .l) = (0 : Int32)
      have pre55 : ∀ t, Steps p.tables e below (T39.setTop (mkF m 55 #[.val (.int p0), .val (.int p1), .val (.double x11), .second, .val (.int x17), .val (.double x24), .second, .val (.double x32), .second, .val (.double x42), .second] [])) t → Steps p.tables e below (s₁.setTop (entryFrame m #[(.int p0), (.int p1)] maxLocals)) t := fun t k => pre52 t (by
        show Steps p.tables e below (T39.setTop (mkF m 52 #[.val (.int p0), .val (.int p1), .val (.double x11), .second, .val (.int x17), .val (.double x24), .second, .val (.double x32), .second, .val (.double x42), .second] [(.int (cmpValue (FP.dcmp x24 (FP.dmul x11 (4593671619917905920 : UInt64))) .l))])) t
        refine XS.ifNo X39.here hx rfl (hb hby at_52) rfl ((if0 _ _).trans (teq hc52).2) ?_
        exact k)
      have pre64 : ∀ t, Steps p.tables e below (T39.setTop (mkF m 64 #[.val (.int p0), .val (.int p1), .val (.double x11), .second, .val (.int x17), .val (.double x24), .second, .val (.double x32), .second, .val (.double x42), .second] [(.int (cmpValue (FP.dcmp x42 (FP.dmul x32 (4606056518893174784 : UInt64))) .l))])) t → Steps p.tables e below (s₁.setTop (entryFrame m #[(.int p0), (.int p1)] maxLocals)) t := fun t k => pre55 t (by
        show Steps p.tables e below (T39.setTop (mkF m 55 #[.val (.int p0), .val (.int p1), .val (.double x11), .second, .val (.int x17), .val (.double x24), .second, .val (.double x32), .second, .val (.double x42), .second] [])) t
        refine own_dload X39 hx rfl (hb hby at_55) rfl ?_
        show Steps p.tables e below (T39.setTop (mkF m 57 #[.val (.int p0), .val (.int p1), .val (.double x11), .second, .val (.int x17), .val (.double x24), .second, .val (.double x32), .second, .val (.double x42), .second] [(.double x42)])) _
        refine own_dload X39 hx rfl (hb hby at_57) rfl ?_
        show Steps p.tables e below (T39.setTop (mkF m 59 #[.val (.int p0), .val (.int p1), .val (.double x11), .second, .val (.int x17), .val (.double x24), .second, .val (.double x32), .second, .val (.double x42), .second] [(.double x32), (.double x42)])) _
        refine X39.ldc2DoubleC hx hown (mvT hZ (hw _ (List.mem_of_getElem? (i := 9) rfl))) (g := (mkF m 59 #[.val (.int p0), .val (.int p1), .val (.double x11), .second, .val (.int x17), .val (.double x24), .second, .val (.double x32), .second, .val (.double x42), .second] [(.double x32), (.double x42)])) rfl (hb hby at_59) _ ?_
        show Steps p.tables e below (T39.setTop (mkF m 62 #[.val (.int p0), .val (.int p1), .val (.double x11), .second, .val (.int x17), .val (.double x24), .second, .val (.double x32), .second, .val (.double x42), .second] [(.double (4606056518893174784 : UInt64)), (.double x32), (.double x42)])) _
        refine own_dmul X39 hx rfl (hb hby at_62) rfl (dmul_outNz n32 own_Bf own_Bz) ?_
        show Steps p.tables e below (T39.setTop (mkF m 63 #[.val (.int p0), .val (.int p1), .val (.double x11), .second, .val (.int x17), .val (.double x24), .second, .val (.double x32), .second, .val (.double x42), .second] [(.double (FP.dmul x32 (4606056518893174784 : UInt64))), (.double x42)])) _
        refine own_dcmp X39 hx rfl (hb hby at_63) rfl ?_
        show Steps p.tables e below (T39.setTop (mkF m 64 #[.val (.int p0), .val (.int p1), .val (.double x11), .second, .val (.int x17), .val (.double x24), .second, .val (.double x32), .second, .val (.double x42), .second] [(.int (cmpValue (FP.dcmp x42 (FP.dmul x32 (4606056518893174784 : UInt64))) .l))])) _
        exact k)
      by_cases hc64 : (cmpValue (FP.dcmp x42 (FP.dmul x32 (4606056518893174784 : UInt64))) .l) = (0 : Int32)
      · -- (cmpValue (FP.dcmp x42 (FP.dmul x32 (4606056518893174784 : UInt64))) .l) = (0 : Int32)
        have pre67 : ∀ t, Steps p.tables e below (T39.setTop (mkF m 67 #[.val (.int p0), .val (.int p1), .val (.double x11), .second, .val (.int x17), .val (.double x24), .second, .val (.double x32), .second, .val (.double x42), .second] [])) t → Steps p.tables e below (s₁.setTop (entryFrame m #[(.int p0), (.int p1)] maxLocals)) t := fun t k => pre64 t (by
          show Steps p.tables e below (T39.setTop (mkF m 64 #[.val (.int p0), .val (.int p1), .val (.double x11), .second, .val (.int x17), .val (.double x24), .second, .val (.double x32), .second, .val (.double x42), .second] [(.int (cmpValue (FP.dcmp x42 (FP.dmul x32 (4606056518893174784 : UInt64))) .l))])) t
          refine XS.ifNo X39.here hx rfl (hb hby at_64) rfl ((if0 _ _).trans (teq hc64).2) ?_
          exact k)
        have pre72 : ∀ t, Steps p.tables e below (T39.setTop (mkF m 72 #[.val (.int p0), .val (.int p1), .val (.double x11), .second, .val (.int x17), .val (.double x24), .second, .val (.double x32), .second, .val (.double x42), .second] [(.int (1 : Int32))])) t → Steps p.tables e below (s₁.setTop (entryFrame m #[(.int p0), (.int p1)] maxLocals)) t := fun t k => pre67 t (by
          show Steps p.tables e below (T39.setTop (mkF m 67 #[.val (.int p0), .val (.int p1), .val (.double x11), .second, .val (.int x17), .val (.double x24), .second, .val (.double x32), .second, .val (.double x42), .second] [])) t
          refine XS.iconst X39.here hx rfl (hb hby at_67) ?_
          show Steps p.tables e below (T39.setTop (mkF m 68 #[.val (.int p0), .val (.int p1), .val (.double x11), .second, .val (.int x17), .val (.double x24), .second, .val (.double x32), .second, .val (.double x42), .second] [(.int (1 : Int32))])) _
          refine XS.goto X39.here hx rfl (pc0 := 68) (pc' := 72) rfl (hb hby at_68) (by decide) (by decide) ?_
          show Steps p.tables e below (T39.setTop (mkF m 72 #[.val (.int p0), .val (.int p1), .val (.double x11), .second, .val (.int x17), .val (.double x24), .second, .val (.double x32), .second, .val (.double x42), .second] [(.int (1 : Int32))])) _
          exact k)
        have ehv72_s0 := hv72_s0.trans (if_pos ⟨hc52, hc64⟩)
        exact fun t k => pre72 t (by subst ehv72_s0; exact k)
      · -- not (cmpValue (FP.dcmp x42 (FP.dmul x32 (4606056518893174784 : UInt64))) .l) = (0 : Int32)
        have pre71 : ∀ t, Steps p.tables e below (T39.setTop (mkF m 71 #[.val (.int p0), .val (.int p1), .val (.double x11), .second, .val (.int x17), .val (.double x24), .second, .val (.double x32), .second, .val (.double x42), .second] [])) t → Steps p.tables e below (s₁.setTop (entryFrame m #[(.int p0), (.int p1)] maxLocals)) t := fun t k => pre64 t (by
          show Steps p.tables e below (T39.setTop (mkF m 64 #[.val (.int p0), .val (.int p1), .val (.double x11), .second, .val (.int x17), .val (.double x24), .second, .val (.double x32), .second, .val (.double x42), .second] [(.int (cmpValue (FP.dcmp x42 (FP.dmul x32 (4606056518893174784 : UInt64))) .l))])) t
          refine XS.ifYes X39.here hx rfl (pc0 := 64) (pc' := 71) rfl (hb hby at_64) rfl ((if0 _ _).trans (feq hc64).2) (by decide) (by decide) ?_
          exact k)
        have pre72 : ∀ t, Steps p.tables e below (T39.setTop (mkF m 72 #[.val (.int p0), .val (.int p1), .val (.double x11), .second, .val (.int x17), .val (.double x24), .second, .val (.double x32), .second, .val (.double x42), .second] [(.int (0 : Int32))])) t → Steps p.tables e below (s₁.setTop (entryFrame m #[(.int p0), (.int p1)] maxLocals)) t := fun t k => pre71 t (by
          show Steps p.tables e below (T39.setTop (mkF m 71 #[.val (.int p0), .val (.int p1), .val (.double x11), .second, .val (.int x17), .val (.double x24), .second, .val (.double x32), .second, .val (.double x42), .second] [])) t
          refine XS.iconst X39.here hx rfl (hb hby at_71) ?_
          show Steps p.tables e below (T39.setTop (mkF m 72 #[.val (.int p0), .val (.int p1), .val (.double x11), .second, .val (.int x17), .val (.double x24), .second, .val (.double x32), .second, .val (.double x42), .second] [(.int (0 : Int32))])) _
          exact k)
        have ehv72_s0 := hv72_s0.trans (if_neg (fun r => hc64 r.2))
        exact fun t k => pre72 t (by subst ehv72_s0; exact k)
    · -- not (cmpValue (FP.dcmp x24 (FP.dmul x11 (4593671619917905920 : UInt64))) .l) = (0 : Int32)
      have pre71 : ∀ t, Steps p.tables e below (T39.setTop (mkF m 71 #[.val (.int p0), .val (.int p1), .val (.double x11), .second, .val (.int x17), .val (.double x24), .second, .val (.double x32), .second, .val (.double x42), .second] [])) t → Steps p.tables e below (s₁.setTop (entryFrame m #[(.int p0), (.int p1)] maxLocals)) t := fun t k => pre52 t (by
        show Steps p.tables e below (T39.setTop (mkF m 52 #[.val (.int p0), .val (.int p1), .val (.double x11), .second, .val (.int x17), .val (.double x24), .second, .val (.double x32), .second, .val (.double x42), .second] [(.int (cmpValue (FP.dcmp x24 (FP.dmul x11 (4593671619917905920 : UInt64))) .l))])) t
        refine XS.ifYes X39.here hx rfl (pc0 := 52) (pc' := 71) rfl (hb hby at_52) rfl ((if0 _ _).trans (feq hc52).2) (by decide) (by decide) ?_
        exact k)
      have pre72 : ∀ t, Steps p.tables e below (T39.setTop (mkF m 72 #[.val (.int p0), .val (.int p1), .val (.double x11), .second, .val (.int x17), .val (.double x24), .second, .val (.double x32), .second, .val (.double x42), .second] [(.int (0 : Int32))])) t → Steps p.tables e below (s₁.setTop (entryFrame m #[(.int p0), (.int p1)] maxLocals)) t := fun t k => pre71 t (by
        show Steps p.tables e below (T39.setTop (mkF m 71 #[.val (.int p0), .val (.int p1), .val (.double x11), .second, .val (.int x17), .val (.double x24), .second, .val (.double x32), .second, .val (.double x42), .second] [])) t
        refine XS.iconst X39.here hx rfl (hb hby at_71) ?_
        show Steps p.tables e below (T39.setTop (mkF m 72 #[.val (.int p0), .val (.int p1), .val (.double x11), .second, .val (.int x17), .val (.double x24), .second, .val (.double x32), .second, .val (.double x42), .second] [(.int (0 : Int32))])) _
        exact k)
      have ehv72_s0 := hv72_s0.trans (if_neg (fun q => hc52 q.1))
      exact fun t k => pre72 t (by subst ehv72_s0; exact k)
  obtain ⟨fs, hr, hrun, hended, hW, hsame⟩ := X39.leave (v := some (.int (nar .boolean v72_s0))) (fun h => by rw [Bd.returns] at h; cases h)
  refine ⟨_, _, pre72 _ ?_, hrun, hended, _, _, rfl, ?_, ⟨_, rfl⟩, hW, hsame.mono (by decide) (by decide)⟩
  · show Steps p.tables e below (T39.setTop (mkF m 72 #[.val (.int p0), .val (.int p1), .val (.double x11), .second, .val (.int x17), .val (.double x24), .second, .val (.double x32), .second, .val (.double x42), .second] [(.int v72_s0)])) _
    exact retN X39 hx (t := .boolean) Bd.returns (by simp) (hb hby at_72) hr
  · show Q0 Z p0 p1 h0 n0 _ T39.heap _
    rw [e39]
    have hres : (nar .boolean v72_s0) = (1 : Int32) := by
      rw [hv72_s0, own_narB]
      exact if_pos ⟨by rw [hx24]; exact own_same _ (dmul_outNz n11 own_Af own_Az), by rw [hx42, hx32, hs17.2.2, show (x17.toInt + 1).toNat = x17.toInt.toNat + 1 by omega, own_it_succ]; exact own_same _ (dmul_outNz (own_it_nn _ _ (dmul_outNz n11 own_Af own_Az)) own_Bf own_Bz)⟩
    exact ⟨congrArg (fun q => some (Value.int q)) hres, N39⟩
set_option maxRecDepth 65536 in
set_option maxHeartbeats 40000000 in
theorem comes_1 {Post : Tables → Env → Array Value → State → Outcome → State → Prop} (hpost : ∀ tb e args s v u, (limb_1_1.after args s (.returned v) u = true ∧ limb_1_2.after args s (.returned v) u = true ∧ True) → FrameEnd s (.returned v) u (Jvm.fieldLocs frame_1_writes args s ++ Jvm.arrayLocs frame_1_arrays args s ++ Jvm.staticLocs frame_1_statics s) 0 0 → Post tb e args s (.returned v) u) :
    ArmFor flags0 classFile x code maxLocals ret World_1 tables_1 room_1 Calls_1 rest_1 Pre_1 Post := by
  intro l hfl _ _ p e ha hc hk s m args below hf hA hF happ hP
  obtain ⟨hcalls, hrest, hpre⟩ := hP
  obtain ⟨-, -, -, hnamed, -, -, -, hat⟩ := (Spec.applies_iff hf).mp happ
  obtain ⟨hg, hn⟩ := and_e (Cond.before_iff.mp (show (Jvm.Cond.and given_1 narrow_1).before args s = true from hpre))
  obtain ⟨gc, g0⟩ := and_e hg
  obtain ⟨ga0, g1⟩ := and_e g0
  obtain ⟨w0, w1, rfl⟩ : ∃ w0 w1 : Value, args = #[w0, w1] := by
    have hs : args.size = 2 := by simpa [Cond.value, given_1] using gc
    obtain ⟨L⟩ := args
    match L, hs with
    | [w0, w1], _ => exact ⟨w0, w1, rfl⟩
  have hw := fun d (hd : d ∈ tables_1) => atoms_spec (ws := Jvm.Cond.code x code maxLocals ret :: tables_1) hat d (List.mem_cons_of_mem _ hd)
  have hfit : Fit s := fun {y c} hc i hi => by
    obtain ⟨ha, rfl⟩ := Array.getElem?_eq_some_iff.mp hc
    have q := List.all_eq_true.mp ((Array.all_eq_true_iff_forall_mem.mp hF) _ (Array.getElem_mem ha)) i (List.mem_range.mpr hi)
    simpa [Array.getElem?_eq_getElem hi] using q
  obtain ⟨i0, ei0⟩ := is_v ga0
  obtain rfl : w0 = (.int i0) := Option.some.inj ei0
  obtain ⟨i1, ei1⟩ := is_v g1
  obtain rfl : w1 = (.int i1) := Option.some.inj ei1
  obtain ⟨n, o, h1, h2, h3, _, L, rfl, ⟨rfl, N⟩, hq⟩ := rm0 l s _ hw tables_1 i0 i1 s.heap s.heap.size (Nat.le_refl _)  p e ha hc hk s m _ below hf ((Spec.applies_iff_loose hf).mp happ).1 ⟨rfl, State.Warmed39.refl s, rfl⟩ trivial
  refine ⟨n, _, h1, h2, h3, hpost _ _ _ _ _ _ ⟨Cond.after_iff.mpr rfl, Cond.after_iff.mpr (eq_i res_at (Term.int_eval (1)) rfl), trivial⟩ ⟨hq.1, hq.2.1, (hq.2.2.sift fun y hy => Or.inr (N y hy)).mono (by decide) (by decide)⟩⟩
theorem main_1_1 : Claimed_1_1 := comes_1 fun _ _ _ _ _ _ h hF => ⟨h.1, hF⟩
theorem main_1_2 : Claimed_1_2 := comes_1 fun _ _ _ _ _ _ h hF => ⟨h.2.1, hF⟩
end Jvm.Pilot.@@N@@
namespace Jvm.Pilot.@@N@@
open Jvm Jvm.ClassFile Sem Op Lib Jvm.Free Jvm.Stand Jvm.Pilot.@@N@@.Jvm.D
/-! MADE BY PROGRAM (witnessworld.py) out of the Statement's table words and the real class files: 10 classes; the members and pool entries that the words name. The judged class is class 1, her method 1. -/
namespace start1
open Jvm.ClassFile
def u (s : String) : CpInfo := .utf8 (stringToUtf16 s)
/-- a pool by its gaps: so many unusable entries, then the entry; so many at the end -/
def gap : Nat → List CpInfo → List CpInfo
  | 0, r => r
  | n + 1, r => .unusable :: gap n r
def poolList (es : List (Nat × CpInfo)) (last : Nat) : List CpInfo := es.foldr (fun e r => gap e.1 (e.2 :: r)) (gap last [])
def pool (es : List (Nat × CpInfo)) (last : Nat) : Array CpInfo := ⟨poolList es last⟩
def fileOf (pool : Array CpInfo) (this : Nat) (attrs : Array Attribute := #[]) (ms : Array MethodInfo := #[]) (fl : Nat := 33) (sup : Nat := 0) (ifs : Array Nat := #[]) (fds : Array FieldInfo := #[]) : ClassFile where
  minorVersion := 0
  majorVersion := 65
  constantPool := pool
  accessFlags := fl
  thisClass := this
  superClass := sup
  interfaces := ifs
  fields := fds
  methods := ms
  attributes := attrs
def plain (name : String) (sup : Option ClassId) : Class where
  name := name
  kind := .ordinary
  loader := none
  accessFlags := 33
  super := sup
  interfaces := #[]
  cf := none
  fields := #[]
  methods := #[]
  instanceTypes := #[]
  staticTypes := #[]
  resolved := #[]
  callSites := []
  init := .initialized
  statics := none
  mirror := none

def pool0 : Array CpInfo := pool [(5, u "<init>"), (0, u "()V"), (1, .class_ 10), (1, u "java/lang/Object")] 113

def k0m0 : Method := { name := "<init>", desc := "()V", sig := { parameters := [], returnType := none }, accessFlags := 1, code := none }
/-- java/lang/Object -/
def k0 : Class := { plain "java/lang/Object" none with
  accessFlags := 33
  interfaces := #[]
  cf := some (fileOf pool0 8 #[] #[{ accessFlags := 1, nameIndex := 5, descriptorIndex := 6, attributes := #[] }] 33 0 #[] #[])
  fields := #[]
  methods := #[k0m0]
  instanceTypes := #[]
  staticTypes := #[]
  resolved := Array.replicate 124 none
  statics := none }

def pool1 : Array CpInfo := pool [(2, .class_ 4), (1, u "java/lang/Object"), (0, u "<init>"), (0, u "()V"), (0, .integer 1073741823), (0, .double 4742290407625326592), (1, .methodref 11 12), (0, .class_ 13), (0, .nameAndType 14 15), (0, u "com/example/bitsieve/bitsieve/ScalableFilter"), (0, u "stageFpp"), (0, u "(DI)D"), (0, .double 4593671619917905920), (1, .double 4606056518893174784), (1, .class_ 21), (0, u "com/example/bitsieve/bitsieve/ScalableFilterStageFppPinLaw"), (2, u "law"), (0, u "(II)Z")] 3

def k1m0 : Method := { name := "<init>", desc := "()V", sig := { parameters := [], returnType := none }, accessFlags := 2, code := none }
def k1c1 : Code := { maxStack := 6, maxLocals := 11, code := code, exceptionTable := #[], attributes := #[] }
def k1m1 : Method := { name := "law", desc := "(II)Z", sig := { parameters := [.int, .int], returnType := some .boolean }, accessFlags := 9, code := some k1c1 }
/-- com/example/bitsieve/bitsieve/ScalableFilterStageFppPinLaw -/
def k1 : Class := { plain "com/example/bitsieve/bitsieve/ScalableFilterStageFppPinLaw" (some 0) with
  accessFlags := 49
  interfaces := #[]
  cf := some (fileOf pool1 20 #[] #[{ accessFlags := 2, nameIndex := 5, descriptorIndex := 6, attributes := #[] }, { accessFlags := 9, nameIndex := 24, descriptorIndex := 25, attributes := #[] }] 49 2 #[] #[])
  fields := #[]
  methods := #[k1m0, k1m1]
  instanceTypes := #[]
  staticTypes := #[]
  resolved := Array.replicate 29 none
  statics := none }

def pool2 : Array CpInfo := pool [(2, .class_ 4), (1, u "java/lang/Object"), (3, .class_ 10), (1, u "com/example/bitsieve/bitsieve/Filter"), (0, u "insertions"), (0, u "J")] 67

/-- com/example/bitsieve/bitsieve/Filter -/
def k2 : Class := { plain "com/example/bitsieve/bitsieve/Filter" (some 0) with
  accessFlags := 1057
  interfaces := #[]
  cf := some (fileOf pool2 8 #[] #[] 1057 2 #[] #[{ accessFlags := 2, nameIndex := 11, descriptorIndex := 12, attributes := #[] }])
  fields := #[{ name := "insertions", type := .long, accessFlags := 2, slot := 0, constantValue := 0 }]
  methods := #[]
  instanceTypes := #[.long]
  staticTypes := #[]
  resolved := Array.replicate 80 none
  statics := none }

def pool3 : Array CpInfo := pool [(2, .class_ 4), (1, u "com/example/bitsieve/bitsieve/Filter"), (3, .class_ 10), (1, u "com/example/bitsieve/bitsieve/ScalableFilter"), (0, u "initialCapacity"), (0, u "J"), (2, u "fpp"), (0, u "D"), (2, u "stages"), (0, u "Ljava/util/List;"), (90, u "stageFpp"), (0, u "(DI)D"), (86, .double 4593671619917905920), (1, .double 4606056518893174784), (29, u "DEFAULT_INITIAL_CAPACITY"), (1, u "FIRST_SHARE"), (0, u "TIGHTENING")] 65

def k3c0 : Code := { maxStack := 4, maxLocals := 6, code := prog_26_method_17_code, exceptionTable := #[], attributes := #[] }
def k3m0 : Method := { name := "stageFpp", desc := "(DI)D", sig := { parameters := [.double, .int], returnType := some .double }, accessFlags := 8, code := some k3c0 }
/-- com/example/bitsieve/bitsieve/ScalableFilter -/
def k3 : Class := { plain "com/example/bitsieve/bitsieve/ScalableFilter" (some 2) with
  accessFlags := 49
  interfaces := #[]
  cf := some (fileOf pool3 8 #[] #[{ accessFlags := 8, nameIndex := 111, descriptorIndex := 112, attributes := #[] }] 49 2 #[] #[{ accessFlags := 25, nameIndex := 231, descriptorIndex := 12, attributes := #[] }, { accessFlags := 26, nameIndex := 233, descriptorIndex := 16, attributes := #[] }, { accessFlags := 26, nameIndex := 234, descriptorIndex := 16, attributes := #[] }, { accessFlags := 18, nameIndex := 11, descriptorIndex := 12, attributes := #[] }, { accessFlags := 18, nameIndex := 15, descriptorIndex := 16, attributes := #[] }, { accessFlags := 18, nameIndex := 19, descriptorIndex := 20, attributes := #[] }])
  fields := #[{ name := "DEFAULT_INITIAL_CAPACITY", type := .long, accessFlags := 25, slot := 0, constantValue := 0 }, { name := "FIRST_SHARE", type := .double, accessFlags := 26, slot := 1, constantValue := 0 }, { name := "TIGHTENING", type := .double, accessFlags := 26, slot := 2, constantValue := 0 }, { name := "initialCapacity", type := .long, accessFlags := 18, slot := 1, constantValue := 0 }, { name := "fpp", type := .double, accessFlags := 18, slot := 2, constantValue := 0 }, { name := "stages", type := (.object "java/util/List"), accessFlags := 18, slot := 3, constantValue := 0 }]
  methods := #[k3m0]
  instanceTypes := #[.long, .long, .double, (.object "java/util/List")]
  staticTypes := #[.long, .double, .double]
  resolved := Array.replicate 300 none
  statics := none }

def pool4 : Array CpInfo := pool [(1, u "java/lang/Cloneable"), (0, .class_ 1), (0, u "java/lang/Object"), (0, .class_ 3)] 3

/-- java/lang/Cloneable -/
def k4 : Class := { plain "java/lang/Cloneable" (some 0) with
  accessFlags := 1537
  interfaces := #[]
  cf := some (fileOf pool4 2 #[] #[] 1537 4 #[] #[])
  fields := #[]
  methods := #[]
  instanceTypes := #[]
  staticTypes := #[]
  resolved := Array.replicate 8 none
  statics := none }

def pool5 : Array CpInfo := pool [(1, u "java/io/Serializable"), (0, .class_ 1), (0, u "java/lang/Object"), (0, .class_ 3)] 3

/-- java/io/Serializable -/
def k5 : Class := { plain "java/io/Serializable" (some 0) with
  accessFlags := 1537
  interfaces := #[]
  cf := some (fileOf pool5 2 #[] #[] 1537 4 #[] #[])
  fields := #[]
  methods := #[]
  instanceTypes := #[]
  staticTypes := #[]
  resolved := Array.replicate 8 none
  statics := none }

/-- the primitive byte -/
def k6 : Class := { plain "byte" none with kind := .primitive 'B', accessFlags := 0x411 }
/-- [B -/
def k7 : Class := { plain "[B" (some 0) with kind := .array 6 .byte, interfaces := #[4, 5], accessFlags := 1041 }

/-- the primitive int -/
def k8 : Class := { plain "int" none with kind := .primitive 'I', accessFlags := 0x411 }
/-- [I -/
def k9 : Class := { plain "[I" (some 0) with kind := .array 8 .int, interfaces := #[4, 5], accessFlags := 1041 }

def heap : Heap := #[]
def classes : Array Class := #[k0, k1, k2, k3, k4, k5, k6, k7, k8, k9]
def interned : List (Array UInt16 × Addr) := []
def slotsUsed : Nat := 0
def theMethod : MethodId := ⟨1, 1⟩
def args0 : Array Value := #[.int 5, .int 7]
def aboutOver (below : List Frame) : State where
  vm := { classes := classes, interned := interned.toArray }
  heap := heap
  slotsUsed := slotsUsed
  threads := #[{ frames := .invoking theMethod args0 :: below }]
def below0 : List Frame := [.native { method := ⟨0, 0⟩, args := #[] }]
def about1 : State := aboutOver below0
def p0 : Program := .bare "" "" ""
def e0 : Env := launch0.env 0 0 0
theorem w_frames : about1.frames = Frame.invoking theMethod args0 :: below0 := rfl
set_option maxRecDepth 65536 in
theorem w_args : argsFit about1.vm theMethod args0 = true := by decide +kernel
set_option maxRecDepth 65536 in
theorem w_heap : heapFits about1 = true := by decide +kernel
set_option maxRecDepth 65536 in
theorem w_runnable : about1.curStatus? = some .runnable := by decide +kernel
set_option maxRecDepth 65536 in
theorem w_alone : about1.alone = true := by decide +kernel
set_option maxRecDepth 65536 in
theorem w_named : about1.methodNamed? x = some theMethod := by decide +kernel
set_option maxRecDepth 65536 in
theorem w_hears : about1.hears theMethod below0 = true := by decide +kernel
set_option maxRecDepth 65536 in
theorem w_ripe : about1.ripe theMethod args0 below0 = true := by decide +kernel
theorem w_running : about1.status = .running := rfl
set_option maxRecDepth 65536 in
theorem w_room : about1.hasRoom e0.platform room_1 = true :=
  launch0.hasRoom_least _ room_1 (by decide +kernel) (by decide +kernel) (by decide +kernel) (by decide +kernel) (by decide +kernel) (by decide +kernel)
theorem allAtoms_all (ts : List Jvm.Cond) (a : Array Jvm.Value) (st : Jvm.State) : (allAtoms ts).before a st = ts.all (fun c => c.before a st) := by
  induction ts with
  | nil => rfl
  | cons c t ih =>
    show (Jvm.Cond.and c (allAtoms t)).before a st = _
    rw [Jvm.Cond.before_and, ih, List.all_cons]
def words1 : List Jvm.Cond := Jvm.Cond.code x code maxLocals ret :: tables_1
/-- a 'code' word, met by the world's own term for the bytes: nothing is compared byte by byte -/
theorem code_word {y : MethodName} {bytes : ByteArray} {mx : Nat} {rt : Option FieldType} {a : Array Value} {s : State} {m : MethodId} {meth : Method} {c : Code} (h1 : s.methodNamed? y = some m) (h2 : s.vm.method? m = some meth) (h3 : meth.code = some c) (h4 : c.code = bytes)
    (h5 : (c.maxLocals == mx && c.exceptionTable.isEmpty && decide (c.maxStack ≤ mostOperands) && decide (meth.sig.returnType = rt) && !meth.locks && decide (parseMethodDescriptor y.desc = some meth.sig)) = true) : (Jvm.Cond.code y bytes mx rt).before a s = true := by
  simp only [Bool.and_eq_true, beq_iff_eq, Bool.not_eq_true', decide_eq_true_eq] at h5
  obtain ⟨⟨⟨⟨⟨g1, g2⟩, g3⟩, g4⟩, g5⟩, g6⟩ := h5
  simp [Cond.before, Cond.holds, Cond.value, h1, h2, h3, h4, g1, g2, g3, g4, g5, g6]
def isCode : Jvm.Cond → Bool
  | .code _ _ _ _ => true
  | _ => false
theorem all_split {L : List Jvm.Cond} {P : Jvm.Cond → Bool} (h1 : L.all (fun c => isCode c || P c) = true) (h2 : ∀ c ∈ L.filter isCode, P c = true) : L.all P = true := by
  refine List.all_eq_true.mpr fun c hc => ?_
  have h := List.all_eq_true.mp h1 c hc
  rcases Bool.eq_false_or_eq_true (isCode c) with hi | hi
  · exact h2 c (List.mem_filter.mpr ⟨hc, hi⟩)
  · simpa [hi] using h
set_option maxRecDepth 65536 in
theorem w_c0 : (Jvm.Cond.code x code maxLocals ret).before args0 about1 = true := code_word (m := ⟨1, 1⟩) (meth := k1m1) (c := k1c1) (by decide +kernel) rfl rfl rfl (by decide +kernel)
set_option maxRecDepth 65536 in
theorem w_c1 : (Jvm.Cond.code ({ cls := "com/example/bitsieve/bitsieve/ScalableFilter", name := "stageFpp", desc := "(DI)D" } : Jvm.MethodName) prog_26_method_17_code (6 : Nat) (Option.some Jvm.ClassFile.FieldType.double)).before args0 about1 = true := code_word (m := ⟨3, 0⟩) (meth := k3m0) (c := k3c0) (by decide +kernel) rfl rfl rfl (by decide +kernel)
def codes1 : List Jvm.Cond := [Jvm.Cond.code x code maxLocals ret, Jvm.Cond.code ({ cls := "com/example/bitsieve/bitsieve/ScalableFilter", name := "stageFpp", desc := "(DI)D" } : Jvm.MethodName) prog_26_method_17_code (6 : Nat) (Option.some Jvm.ClassFile.FieldType.double)]
set_option maxRecDepth 65536 in
theorem codes_eq : words1.filter isCode = codes1 := rfl
theorem w_codes : ∀ c ∈ words1.filter isCode, c.before args0 about1 = true := by
  rw [codes_eq]
  intro c hc
  simp only [codes1, List.mem_cons, List.not_mem_nil, or_false] at hc
  rcases hc with rfl | rfl
  · exact w_c0
  · exact w_c1
set_option maxRecDepth 65536 in
theorem w_t1 : words1.all (fun c => isCode c || c.before args0 about1) = true := by decide +kernel
theorem w_tables : (allAtoms (Jvm.Cond.code x code maxLocals ret :: tables_1)).before args0 about1 = true := by
  rw [allAtoms_all]
  show words1.all (fun c => c.before args0 about1) = true
  refine all_split ?_ w_codes
  rw [w_t1]
set_option maxRecDepth 65536 in
theorem w_case : (Jvm.Cond.and given_1 narrow_1).before args0 about1 = true := by decide +kernel
theorem w_applies : (headSpec (Jvm.Cond.code x code maxLocals ret :: tables_1) room_1).applies x e0.platform about1 = true :=
  (Spec.applies_iff w_frames).mpr ⟨w_running, w_runnable, w_alone, w_named, w_hears, w_ripe, w_room, w_tables⟩
theorem atStart : AtStart classFile x code maxLocals ret World_1 tables_1 room_1 Calls_1 rest_1 Pre_1 launch0 p0 e0 about1 theMethod args0 below0 :=
  ⟨lists_1, trivial, launch0.admits_env _ _ _, launch0.least_env, fairChoices_fair.cas, fairChoices_fair.clock, w_frames, w_args, w_heap, w_applies, trivial, trivial, w_case⟩
end start1
theorem witness_1 : WitnessClaimed_1 := ⟨start1.p0, start1.e0, start1.about1, start1.theMethod, start1.args0, start1.below0, start1.atStart⟩
end Jvm.Pilot.@@N@@
