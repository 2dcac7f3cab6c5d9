import JvmDerived
import JvmDerived.Pilot.@@N@@Statement
import JvmDerived.Pilot.@@N@@Code
set_option linter.unusedVariables false
set_option linter.unusedSimpArgs false
namespace Jvm.RoadKit
open Sem ClassFile Op Lib Jvm.Stand Jvm.Free Jvm.LawKit
section New
variable {p : Program} {l : Launch} {e : Env} {R : Room} {s : State} {m : MethodId} {args : Array Value} {below : List Frame} {meth : Method} {c : Code} {T : State} {locs : List Loc} {cells slots : Nat}
theorem retI (X : Stand p l e R s m args below meth c T locs cells slots) (hx : p.tables.exec = Jvm.exec) {pc : Nat} {Ls : Array Slot} {z : Int32} {rest : List Value} (hret : meth.sig.returnType = some .int) (hd : decode c.code pc = .ok (.ireturn, 1)) {fs : List Frame}
    (hl : ∀ (f : JFrame) (acts : List Action), f.method = m → f.locked = none → f.entered = [] → (doReturn e (T.setTop f) acts (some (.int z))).1 = T.setFrames fs) : Steps p.tables e below (T.setTop (mkF m pc Ls (.int z :: rest))) (T.setFrames fs) := by
  have hm' : T.vm.method? m = some meth := X.method'
  have hn : narrow .int (.int z) = .int z := rfl
  show Steps p.tables e below (T.setTop { method := m, pc := pc, locals := Ls, stack := _ :: rest, locked := none }) _
  jvm_step X.here [X.here.top, hx, hd, hm', hret, hn]
  first | (intro acts; rw [hl _ acts rfl rfl rfl]) | rw [hl _ _ rfl rfl rfl]
  exact Steps.refl _
theorem own_lremM {g : JFrame} {target : State} (X : Stand p l e R s m args below meth c T locs cells slots) (hx : p.tables.exec = Jvm.exec) (hg : g.method = m) {x y : Int64} {rest : List Value} (hd : decode c.code g.pc = .ok (.lrem, 1)) (hs : g.stack = .long y :: .long x :: rest) (hy : y ≠ 0)
    (hr : Steps p.tables e below (T.setTop { g with pc := g.pc + 1, stack := .long (x % y) :: rest }) target) : Steps p.tables e below (T.setTop g) target := by
  have q : x - x / y * y = x % y := lrem_mod x y
  exact XS.lrem X.here hx hg hd hs hy (by rw [q]; exact hr)
theorem own_narB (P : Prop) [Decidable P] : nar .boolean (if P then (1 : Int32) else 0) = if P then (1 : Int32) else 0 := by split <;> rfl
end New
end Jvm.RoadKit
namespace Jvm.Pilot.@@N@@
open Jvm Jvm.ClassFile Sem Op Lib Jvm.Free Jvm.Stand Jvm.LawKit Jvm.RoadKit Bundle Jvm.Pilot.@@N@@.Jvm.D
theorem dM_0 : decode prog_67_method_3_code 0 = .ok (.lload_n 0, 1) := by decide +kernel
theorem dM_1 : decode prog_67_method_3_code 1 = .ok (.lload_n 0, 1) := by decide +kernel
theorem dM_2 : decode prog_67_method_3_code 2 = .ok (.bipush 33, 2) := by decide +kernel
theorem dM_4 : decode prog_67_method_3_code 4 = .ok (.lushr, 1) := by decide +kernel
theorem dM_5 : decode prog_67_method_3_code 5 = .ok (.lxor, 1) := by decide +kernel
theorem dM_6 : decode prog_67_method_3_code 6 = .ok (.ldc2_w 23, 3) := by decide +kernel
theorem dM_9 : decode prog_67_method_3_code 9 = .ok (.lmul, 1) := by decide +kernel
theorem dM_10 : decode prog_67_method_3_code 10 = .ok (.lstore_n 2, 1) := by decide +kernel
theorem dM_11 : decode prog_67_method_3_code 11 = .ok (.lload_n 2, 1) := by decide +kernel
theorem dM_12 : decode prog_67_method_3_code 12 = .ok (.lload_n 2, 1) := by decide +kernel
theorem dM_13 : decode prog_67_method_3_code 13 = .ok (.bipush 33, 2) := by decide +kernel
theorem dM_15 : decode prog_67_method_3_code 15 = .ok (.lushr, 1) := by decide +kernel
theorem dM_16 : decode prog_67_method_3_code 16 = .ok (.lxor, 1) := by decide +kernel
theorem dM_17 : decode prog_67_method_3_code 17 = .ok (.ldc2_w 25, 3) := by decide +kernel
theorem dM_20 : decode prog_67_method_3_code 20 = .ok (.lmul, 1) := by decide +kernel
theorem dM_21 : decode prog_67_method_3_code 21 = .ok (.lstore_n 2, 1) := by decide +kernel
theorem dM_22 : decode prog_67_method_3_code 22 = .ok (.lload_n 2, 1) := by decide +kernel
theorem dM_23 : decode prog_67_method_3_code 23 = .ok (.lload_n 2, 1) := by decide +kernel
theorem dM_24 : decode prog_67_method_3_code 24 = .ok (.bipush 33, 2) := by decide +kernel
theorem dM_26 : decode prog_67_method_3_code 26 = .ok (.lushr, 1) := by decide +kernel
theorem dM_27 : decode prog_67_method_3_code 27 = .ok (.lxor, 1) := by decide +kernel
theorem dM_28 : decode prog_67_method_3_code 28 = .ok (.lreturn, 1) := by decide +kernel
theorem pnM : plainName "com/example/hatua/hatua/HashIndex" = true := by first | (simp [plainName, overriddenIn]; done) | decide +kernel
theorem efM (m : MethodId) (q0 : Int64) : entryFrame m #[(.long q0)] 4 = mkF m 0 #[.val (.long q0), .second, .unset, .unset] [] := by first | (simp [entryFrame, mkF, argsToLocals, Value.category]; done) | rfl
def own_fM (q0 : Int64) : Int64 := (((((((q0 ^^^ ((q0.toUInt64 >>> ((33 : Int32) &&& 0x3f).toInt64.toUInt64).toInt64)) * (-49064778989728563 : Int64))) ^^^ (((((q0 ^^^ ((q0.toUInt64 >>> ((33 : Int32) &&& 0x3f).toInt64.toUInt64).toInt64)) * (-49064778989728563 : Int64))).toUInt64 >>> ((33 : Int32) &&& 0x3f).toInt64.toUInt64).toInt64)) * (-4265267296055464877 : Int64))) ^^^ ((((((((q0 ^^^ ((q0.toUInt64 >>> ((33 : Int32) &&& 0x3f).toInt64.toUInt64).toInt64)) * (-49064778989728563 : Int64))) ^^^ (((((q0 ^^^ ((q0.toUInt64 >>> ((33 : Int32) &&& 0x3f).toInt64.toUInt64).toInt64)) * (-49064778989728563 : Int64))).toUInt64 >>> ((33 : Int32) &&& 0x3f).toInt64.toUInt64).toInt64)) * (-4265267296055464877 : Int64))).toUInt64 >>> ((33 : Int32) &&& 0x3f).toInt64.toUInt64).toInt64))
abbrev own_roomM : Room := { frames := 0, cells := 0, slots := 0, locals := 0 }
def QM (Z : State) (q0 : Int64) (h0 : Heap) (n0 : Nat) (v : Option Value) (h : Heap) (L : List Loc) : Prop := v = some (.long (own_fM q0)) ∧ Fr n0 L ∧ h = h0
set_option maxRecDepth 65536 in
set_option maxHeartbeats 40000000 in
theorem rmM (l : Launch) (Z : State) (a0 : Array Value) (hw : ∀ d ∈ tables_1, d.before a0 Z = true) (ws : List Jvm.Cond) (q0 : Int64) (h0 : Heap) (n0 : Nat) (Z0 : n0 ≤ h0.size) :
    MetFree l (⟨"com/example/hatua/hatua/HashIndex", "mix", "(J)J"⟩ : MethodName) (head1 (Jvm.Cond.code (⟨"com/example/hatua/hatua/HashIndex", "mix", "(J)J"⟩ : MethodName) prog_67_method_3_code 4 (some .long) :: ws) own_roomM) (fun a U => a = #[(.long q0)] ∧ Z.Warmed39 U.vm ∧ U.heap = h0) (fun _ _ _ _ _ => True) (fun _ U o U' => ∃ v L, o = .returned v ∧ QM Z q0 h0 n0 v U'.heap L ∧ FrameEnd U o U' L own_roomM.cells own_roomM.slots) := by
  refine MetFree.of_bodySF (plainFor_of_name pnM) hisR ?_
  intro p e s m args below meth c s₁ Bd hml0 hP hK
  obtain ⟨rfl, hZ, hh⟩ := hP
  have hx := Bd.exec
  have hby := Bd.bytes
  have hml : c.maxLocals = 4 := hml0
  have hown : s.vm.findClass "com/example/hatua/hatua/HashIndex" = some m.cls := findClass_of_methodNamed Bd.named
  have hnm := (name_of_methodNamed Bd.named Bd.method).1
  have X0 : Stand p l e own_roomM s m #[(.long q0)] below meth c s₁ [] 0 0 := Stand.of_body Bd
  have e0 : s₁.heap = h0 := by rw [← hh, Bd.state]; rfl
  have N0 := Fr.nil n0
  have pre0 : ∀ t, Steps p.tables e below (s₁.setTop (mkF m 0 #[.val (.long q0), .second, .unset, .unset] [])) t → Steps p.tables e below (s₁.setTop (entryFrame m #[(.long q0)] 4)) t := fun t k => castTop (efM m q0) k
  obtain ⟨x10, hx10⟩ : ∃ z : Int64, z = ((q0 ^^^ ((q0.toUInt64 >>> ((33 : Int32) &&& 0x3f).toInt64.toUInt64).toInt64)) * (-49064778989728563 : Int64)) := ⟨_, rfl⟩
  have pre11 : ∀ t, Steps p.tables e below (s₁.setTop (mkF m 11 #[.val (.long q0), .second, .val (.long x10), .second] [])) t → Steps p.tables e below (s₁.setTop (entryFrame m #[(.long q0)] 4)) t := fun t k => pre0 t (by
    show Steps p.tables e below (s₁.setTop (mkF m 0 #[.val (.long q0), .second, .unset, .unset] [])) t
    refine XS.lloadN X0.here hx rfl (hb hby dM_0) rfl ?_
    show Steps p.tables e below (s₁.setTop (mkF m 1 #[.val (.long q0), .second, .unset, .unset] [(.long q0)])) _
    refine XS.lloadN X0.here hx rfl (hb hby dM_1) rfl ?_
    show Steps p.tables e below (s₁.setTop (mkF m 2 #[.val (.long q0), .second, .unset, .unset] [(.long q0), (.long q0)])) _
    refine XS.bipush X0.here hx rfl (hb hby dM_2) ?_
    show Steps p.tables e below (s₁.setTop (mkF m 4 #[.val (.long q0), .second, .unset, .unset] [(.int (33 : Int32)), (.long q0), (.long q0)])) _
    refine XS.lushr X0.here hx rfl (hb hby dM_4) rfl ?_
    show Steps p.tables e below (s₁.setTop (mkF m 5 #[.val (.long q0), .second, .unset, .unset] [(.long ((q0.toUInt64 >>> ((33 : Int32) &&& 0x3f).toInt64.toUInt64).toInt64)), (.long q0)])) _
    refine XS.lxor X0.here hx rfl (hb hby dM_5) rfl ?_
    show Steps p.tables e below (s₁.setTop (mkF m 6 #[.val (.long q0), .second, .unset, .unset] [(.long (q0 ^^^ ((q0.toUInt64 >>> ((33 : Int32) &&& 0x3f).toInt64.toUInt64).toInt64)))])) _
    refine X0.ldc2Long hx hown (mvT hZ (hw _ (List.mem_of_getElem? (i := 4) rfl))) (g := (mkF m 6 #[.val (.long q0), .second, .unset, .unset] [(.long (q0 ^^^ ((q0.toUInt64 >>> ((33 : Int32) &&& 0x3f).toInt64.toUInt64).toInt64)))])) rfl (hb hby dM_6) _ ?_
    show Steps p.tables e below (s₁.setTop (mkF m 9 #[.val (.long q0), .second, .unset, .unset] [(.long (-49064778989728563 : Int64)), (.long (q0 ^^^ ((q0.toUInt64 >>> ((33 : Int32) &&& 0x3f).toInt64.toUInt64).toInt64)))])) _
    refine XS.lmul X0.here hx rfl (hb hby dM_9) rfl ?_
    show Steps p.tables e below (s₁.setTop (mkF m 10 #[.val (.long q0), .second, .unset, .unset] [(.long ((q0 ^^^ ((q0.toUInt64 >>> ((33 : Int32) &&& 0x3f).toInt64.toUInt64).toInt64)) * (-49064778989728563 : Int64)))])) _
    refine XS.lstoreN X0.here hx rfl (hb hby dM_10) rfl (l' := #[.val (.long q0), .second, .val (.long ((q0 ^^^ ((q0.toUInt64 >>> ((33 : Int32) &&& 0x3f).toInt64.toUInt64).toInt64)) * (-49064778989728563 : Int64))), .second]) rfl ?_
    show Steps p.tables e below (s₁.setTop (mkF m 11 #[.val (.long q0), .second, .val (.long ((q0 ^^^ ((q0.toUInt64 >>> ((33 : Int32) &&& 0x3f).toInt64.toUInt64).toInt64)) * (-49064778989728563 : Int64))), .second] [])) _
    subst hx10
    exact k)
  obtain ⟨x21, hx21⟩ : ∃ z : Int64, z = ((x10 ^^^ ((x10.toUInt64 >>> ((33 : Int32) &&& 0x3f).toInt64.toUInt64).toInt64)) * (-4265267296055464877 : Int64)) := ⟨_, rfl⟩
  have pre22 : ∀ t, Steps p.tables e below (s₁.setTop (mkF m 22 #[.val (.long q0), .second, .val (.long x21), .second] [])) t → Steps p.tables e below (s₁.setTop (entryFrame m #[(.long q0)] 4)) t := fun t k => pre11 t (by
    show Steps p.tables e below (s₁.setTop (mkF m 11 #[.val (.long q0), .second, .val (.long x10), .second] [])) t
    refine XS.lloadN X0.here hx rfl (hb hby dM_11) rfl ?_
    show Steps p.tables e below (s₁.setTop (mkF m 12 #[.val (.long q0), .second, .val (.long x10), .second] [(.long x10)])) _
    refine XS.lloadN X0.here hx rfl (hb hby dM_12) rfl ?_
    show Steps p.tables e below (s₁.setTop (mkF m 13 #[.val (.long q0), .second, .val (.long x10), .second] [(.long x10), (.long x10)])) _
    refine XS.bipush X0.here hx rfl (hb hby dM_13) ?_
    show Steps p.tables e below (s₁.setTop (mkF m 15 #[.val (.long q0), .second, .val (.long x10), .second] [(.int (33 : Int32)), (.long x10), (.long x10)])) _
    refine XS.lushr X0.here hx rfl (hb hby dM_15) rfl ?_
    show Steps p.tables e below (s₁.setTop (mkF m 16 #[.val (.long q0), .second, .val (.long x10), .second] [(.long ((x10.toUInt64 >>> ((33 : Int32) &&& 0x3f).toInt64.toUInt64).toInt64)), (.long x10)])) _
    refine XS.lxor X0.here hx rfl (hb hby dM_16) rfl ?_
    show Steps p.tables e below (s₁.setTop (mkF m 17 #[.val (.long q0), .second, .val (.long x10), .second] [(.long (x10 ^^^ ((x10.toUInt64 >>> ((33 : Int32) &&& 0x3f).toInt64.toUInt64).toInt64)))])) _
    refine X0.ldc2Long hx hown (mvT hZ (hw _ (List.mem_of_getElem? (i := 5) rfl))) (g := (mkF m 17 #[.val (.long q0), .second, .val (.long x10), .second] [(.long (x10 ^^^ ((x10.toUInt64 >>> ((33 : Int32) &&& 0x3f).toInt64.toUInt64).toInt64)))])) rfl (hb hby dM_17) _ ?_
    show Steps p.tables e below (s₁.setTop (mkF m 20 #[.val (.long q0), .second, .val (.long x10), .second] [(.long (-4265267296055464877 : Int64)), (.long (x10 ^^^ ((x10.toUInt64 >>> ((33 : Int32) &&& 0x3f).toInt64.toUInt64).toInt64)))])) _
    refine XS.lmul X0.here hx rfl (hb hby dM_20) rfl ?_
    show Steps p.tables e below (s₁.setTop (mkF m 21 #[.val (.long q0), .second, .val (.long x10), .second] [(.long ((x10 ^^^ ((x10.toUInt64 >>> ((33 : Int32) &&& 0x3f).toInt64.toUInt64).toInt64)) * (-4265267296055464877 : Int64)))])) _
    refine XS.lstoreN X0.here hx rfl (hb hby dM_21) rfl (l' := #[.val (.long q0), .second, .val (.long ((x10 ^^^ ((x10.toUInt64 >>> ((33 : Int32) &&& 0x3f).toInt64.toUInt64).toInt64)) * (-4265267296055464877 : Int64))), .second]) rfl ?_
    show Steps p.tables e below (s₁.setTop (mkF m 22 #[.val (.long q0), .second, .val (.long ((x10 ^^^ ((x10.toUInt64 >>> ((33 : Int32) &&& 0x3f).toInt64.toUInt64).toInt64)) * (-4265267296055464877 : Int64))), .second] [])) _
    subst hx21
    exact k)
  have pre28 : ∀ t, Steps p.tables e below (s₁.setTop (mkF m 28 #[.val (.long q0), .second, .val (.long x21), .second] [(.long (x21 ^^^ ((x21.toUInt64 >>> ((33 : Int32) &&& 0x3f).toInt64.toUInt64).toInt64)))])) t → Steps p.tables e below (s₁.setTop (entryFrame m #[(.long q0)] 4)) t := fun t k => pre22 t (by
    show Steps p.tables e below (s₁.setTop (mkF m 22 #[.val (.long q0), .second, .val (.long x21), .second] [])) t
    refine XS.lloadN X0.here hx rfl (hb hby dM_22) rfl ?_
    show Steps p.tables e below (s₁.setTop (mkF m 23 #[.val (.long q0), .second, .val (.long x21), .second] [(.long x21)])) _
    refine XS.lloadN X0.here hx rfl (hb hby dM_23) rfl ?_
    show Steps p.tables e below (s₁.setTop (mkF m 24 #[.val (.long q0), .second, .val (.long x21), .second] [(.long x21), (.long x21)])) _
    refine XS.bipush X0.here hx rfl (hb hby dM_24) ?_
    show Steps p.tables e below (s₁.setTop (mkF m 26 #[.val (.long q0), .second, .val (.long x21), .second] [(.int (33 : Int32)), (.long x21), (.long x21)])) _
    refine XS.lushr X0.here hx rfl (hb hby dM_26) rfl ?_
    show Steps p.tables e below (s₁.setTop (mkF m 27 #[.val (.long q0), .second, .val (.long x21), .second] [(.long ((x21.toUInt64 >>> ((33 : Int32) &&& 0x3f).toInt64.toUInt64).toInt64)), (.long x21)])) _
    refine XS.lxor X0.here hx rfl (hb hby dM_27) rfl ?_
    show Steps p.tables e below (s₁.setTop (mkF m 28 #[.val (.long q0), .second, .val (.long x21), .second] [(.long (x21 ^^^ ((x21.toUInt64 >>> ((33 : Int32) &&& 0x3f).toInt64.toUInt64).toInt64)))])) _
    exact k)
  obtain ⟨fs, hr, hrun, hended, hW, hsame⟩ := X0.leave (v := some (.long (x21 ^^^ ((x21.toUInt64 >>> ((33 : Int32) &&& 0x3f).toInt64.toUInt64).toInt64)))) (fun h => by rw [Bd.returns] at h; cases h)
  refine ⟨_, _, pre28 _ ?_, hrun, hended, _, _, rfl, ?_, ⟨_, rfl⟩, hW, hsame.mono (by decide) (by decide)⟩
  · show Steps p.tables e below (s₁.setTop (mkF m 28 #[.val (.long q0), .second, .val (.long x21), .second] [(.long (x21 ^^^ ((x21.toUInt64 >>> ((33 : Int32) &&& 0x3f).toInt64.toUInt64).toInt64)))])) _
    exact retOut X0 hx Bd.returns rfl (Or.inr (Or.inl ⟨rfl, rfl, _, rfl⟩)) (hb hby dM_28) hr
  · show QM Z q0 h0 n0 _ s₁.heap _
    rw [e0]
    have hres : (x21 ^^^ ((x21.toUInt64 >>> ((33 : Int32) &&& 0x3f).toInt64.toUInt64).toInt64)) = (own_fM q0) := by
      try subst hx21
      try subst hx10
      rw [own_fM]
      first | done | rfl | exact own_narB _
    exact ⟨congrArg (fun q => some (Value.long q)) hres, N0, rfl⟩
theorem dS_0 : decode method_3_code 0 = .ok (.lload_n 0, 1) := by decide +kernel
theorem dS_1 : decode method_3_code 1 = .ok (.lload_n 0, 1) := by decide +kernel
theorem dS_2 : decode method_3_code 2 = .ok (.bipush 33, 2) := by decide +kernel
theorem dS_4 : decode method_3_code 4 = .ok (.lushr, 1) := by decide +kernel
theorem dS_5 : decode method_3_code 5 = .ok (.lxor, 1) := by decide +kernel
theorem dS_6 : decode method_3_code 6 = .ok (.lreturn, 1) := by decide +kernel
theorem pnS : plainName "com/example/hatua/hatua/HashIndexMixPinLaw" = true := by first | (simp [plainName, overriddenIn]; done) | decide +kernel
theorem efS (m : MethodId) (q0 : Int64) : entryFrame m #[(.long q0)] 2 = mkF m 0 #[.val (.long q0), .second] [] := by first | (simp [entryFrame, mkF, argsToLocals, Value.category]; done) | rfl
def own_fS (q0 : Int64) : Int64 := (q0 ^^^ ((q0.toUInt64 >>> ((33 : Int32) &&& 0x3f).toInt64.toUInt64).toInt64))
abbrev own_roomS : Room := { frames := 0, cells := 0, slots := 0, locals := 0 }
def QS (Z : State) (q0 : Int64) (h0 : Heap) (n0 : Nat) (v : Option Value) (h : Heap) (L : List Loc) : Prop := v = some (.long (own_fS q0)) ∧ Fr n0 L ∧ h = h0
set_option maxRecDepth 65536 in
set_option maxHeartbeats 40000000 in
theorem rmS (l : Launch) (Z : State) (a0 : Array Value) (hw : ∀ d ∈ tables_1, d.before a0 Z = true) (ws : List Jvm.Cond) (q0 : Int64) (h0 : Heap) (n0 : Nat) (Z0 : n0 ≤ h0.size) :
    MetFree l (⟨"com/example/hatua/hatua/HashIndexMixPinLaw", "unshift", "(J)J"⟩ : MethodName) (head1 (Jvm.Cond.code (⟨"com/example/hatua/hatua/HashIndexMixPinLaw", "unshift", "(J)J"⟩ : MethodName) method_3_code 2 (some .long) :: ws) own_roomS) (fun a U => a = #[(.long q0)] ∧ Z.Warmed39 U.vm ∧ U.heap = h0) (fun _ _ _ _ _ => True) (fun _ U o U' => ∃ v L, o = .returned v ∧ QS Z q0 h0 n0 v U'.heap L ∧ FrameEnd U o U' L own_roomS.cells own_roomS.slots) := by
  refine MetFree.of_bodySF (plainFor_of_name pnS) hisR ?_
  intro p e s m args below meth c s₁ Bd hml0 hP hK
  obtain ⟨rfl, hZ, hh⟩ := hP
  have hx := Bd.exec
  have hby := Bd.bytes
  have hml : c.maxLocals = 2 := hml0
  have hown : s.vm.findClass "com/example/hatua/hatua/HashIndexMixPinLaw" = some m.cls := findClass_of_methodNamed Bd.named
  have hnm := (name_of_methodNamed Bd.named Bd.method).1
  have X0 : Stand p l e own_roomS s m #[(.long q0)] below meth c s₁ [] 0 0 := Stand.of_body Bd
  have e0 : s₁.heap = h0 := by rw [← hh, Bd.state]; rfl
  have N0 := Fr.nil n0
  have pre0 : ∀ t, Steps p.tables e below (s₁.setTop (mkF m 0 #[.val (.long q0), .second] [])) t → Steps p.tables e below (s₁.setTop (entryFrame m #[(.long q0)] 2)) t := fun t k => castTop (efS m q0) k
  have pre6 : ∀ t, Steps p.tables e below (s₁.setTop (mkF m 6 #[.val (.long q0), .second] [(.long (q0 ^^^ ((q0.toUInt64 >>> ((33 : Int32) &&& 0x3f).toInt64.toUInt64).toInt64)))])) t → Steps p.tables e below (s₁.setTop (entryFrame m #[(.long q0)] 2)) t := fun t k => pre0 t (by
    show Steps p.tables e below (s₁.setTop (mkF m 0 #[.val (.long q0), .second] [])) t
    refine XS.lloadN X0.here hx rfl (hb hby dS_0) rfl ?_
    show Steps p.tables e below (s₁.setTop (mkF m 1 #[.val (.long q0), .second] [(.long q0)])) _
    refine XS.lloadN X0.here hx rfl (hb hby dS_1) rfl ?_
    show Steps p.tables e below (s₁.setTop (mkF m 2 #[.val (.long q0), .second] [(.long q0), (.long q0)])) _
    refine XS.bipush X0.here hx rfl (hb hby dS_2) ?_
    show Steps p.tables e below (s₁.setTop (mkF m 4 #[.val (.long q0), .second] [(.int (33 : Int32)), (.long q0), (.long q0)])) _
    refine XS.lushr X0.here hx rfl (hb hby dS_4) rfl ?_
    show Steps p.tables e below (s₁.setTop (mkF m 5 #[.val (.long q0), .second] [(.long ((q0.toUInt64 >>> ((33 : Int32) &&& 0x3f).toInt64.toUInt64).toInt64)), (.long q0)])) _
    refine XS.lxor X0.here hx rfl (hb hby dS_5) rfl ?_
    show Steps p.tables e below (s₁.setTop (mkF m 6 #[.val (.long q0), .second] [(.long (q0 ^^^ ((q0.toUInt64 >>> ((33 : Int32) &&& 0x3f).toInt64.toUInt64).toInt64)))])) _
    exact k)
  obtain ⟨fs, hr, hrun, hended, hW, hsame⟩ := X0.leave (v := some (.long (q0 ^^^ ((q0.toUInt64 >>> ((33 : Int32) &&& 0x3f).toInt64.toUInt64).toInt64)))) (fun h => by rw [Bd.returns] at h; cases h)
  refine ⟨_, _, pre6 _ ?_, hrun, hended, _, _, rfl, ?_, ⟨_, rfl⟩, hW, hsame.mono (by decide) (by decide)⟩
  · show Steps p.tables e below (s₁.setTop (mkF m 6 #[.val (.long q0), .second] [(.long (q0 ^^^ ((q0.toUInt64 >>> ((33 : Int32) &&& 0x3f).toInt64.toUInt64).toInt64)))])) _
    exact retOut X0 hx Bd.returns rfl (Or.inr (Or.inl ⟨rfl, rfl, _, rfl⟩)) (hb hby dS_6) hr
  · show QS Z q0 h0 n0 _ s₁.heap _
    rw [e0]
    have hres : (q0 ^^^ ((q0.toUInt64 >>> ((33 : Int32) &&& 0x3f).toInt64.toUInt64).toInt64)) = (own_fS q0) := by
      rw [own_fS]
      first | done | rfl | exact own_narB _
    exact ⟨congrArg (fun q => some (Value.long q)) hres, N0, rfl⟩
theorem dI_0 : decode method_2_code 0 = .ok (.lload_n 0, 1) := by decide +kernel
theorem dI_1 : decode method_2_code 1 = .ok (.lstore_n 2, 1) := by decide +kernel
theorem dI_2 : decode method_2_code 2 = .ok (.lload_n 2, 1) := by decide +kernel
theorem dI_3 : decode method_2_code 3 = .ok (.ldc2_w 7, 3) := by decide +kernel
theorem dI_6 : decode method_2_code 6 = .ok (.lload_n 0, 1) := by decide +kernel
theorem dI_7 : decode method_2_code 7 = .ok (.lload_n 2, 1) := by decide +kernel
theorem dI_8 : decode method_2_code 8 = .ok (.lmul, 1) := by decide +kernel
theorem dI_9 : decode method_2_code 9 = .ok (.lsub, 1) := by decide +kernel
theorem dI_10 : decode method_2_code 10 = .ok (.lmul, 1) := by decide +kernel
theorem dI_11 : decode method_2_code 11 = .ok (.lstore_n 2, 1) := by decide +kernel
theorem dI_12 : decode method_2_code 12 = .ok (.lload_n 2, 1) := by decide +kernel
theorem dI_13 : decode method_2_code 13 = .ok (.ldc2_w 7, 3) := by decide +kernel
theorem dI_16 : decode method_2_code 16 = .ok (.lload_n 0, 1) := by decide +kernel
theorem dI_17 : decode method_2_code 17 = .ok (.lload_n 2, 1) := by decide +kernel
theorem dI_18 : decode method_2_code 18 = .ok (.lmul, 1) := by decide +kernel
theorem dI_19 : decode method_2_code 19 = .ok (.lsub, 1) := by decide +kernel
theorem dI_20 : decode method_2_code 20 = .ok (.lmul, 1) := by decide +kernel
theorem dI_21 : decode method_2_code 21 = .ok (.lstore_n 2, 1) := by decide +kernel
theorem dI_22 : decode method_2_code 22 = .ok (.lload_n 2, 1) := by decide +kernel
theorem dI_23 : decode method_2_code 23 = .ok (.ldc2_w 7, 3) := by decide +kernel
theorem dI_26 : decode method_2_code 26 = .ok (.lload_n 0, 1) := by decide +kernel
theorem dI_27 : decode method_2_code 27 = .ok (.lload_n 2, 1) := by decide +kernel
theorem dI_28 : decode method_2_code 28 = .ok (.lmul, 1) := by decide +kernel
theorem dI_29 : decode method_2_code 29 = .ok (.lsub, 1) := by decide +kernel
theorem dI_30 : decode method_2_code 30 = .ok (.lmul, 1) := by decide +kernel
theorem dI_31 : decode method_2_code 31 = .ok (.lstore_n 2, 1) := by decide +kernel
theorem dI_32 : decode method_2_code 32 = .ok (.lload_n 2, 1) := by decide +kernel
theorem dI_33 : decode method_2_code 33 = .ok (.ldc2_w 7, 3) := by decide +kernel
theorem dI_36 : decode method_2_code 36 = .ok (.lload_n 0, 1) := by decide +kernel
theorem dI_37 : decode method_2_code 37 = .ok (.lload_n 2, 1) := by decide +kernel
theorem dI_38 : decode method_2_code 38 = .ok (.lmul, 1) := by decide +kernel
theorem dI_39 : decode method_2_code 39 = .ok (.lsub, 1) := by decide +kernel
theorem dI_40 : decode method_2_code 40 = .ok (.lmul, 1) := by decide +kernel
theorem dI_41 : decode method_2_code 41 = .ok (.lstore_n 2, 1) := by decide +kernel
theorem dI_42 : decode method_2_code 42 = .ok (.lload_n 2, 1) := by decide +kernel
theorem dI_43 : decode method_2_code 43 = .ok (.ldc2_w 7, 3) := by decide +kernel
theorem dI_46 : decode method_2_code 46 = .ok (.lload_n 0, 1) := by decide +kernel
theorem dI_47 : decode method_2_code 47 = .ok (.lload_n 2, 1) := by decide +kernel
theorem dI_48 : decode method_2_code 48 = .ok (.lmul, 1) := by decide +kernel
theorem dI_49 : decode method_2_code 49 = .ok (.lsub, 1) := by decide +kernel
theorem dI_50 : decode method_2_code 50 = .ok (.lmul, 1) := by decide +kernel
theorem dI_51 : decode method_2_code 51 = .ok (.lstore_n 2, 1) := by decide +kernel
theorem dI_52 : decode method_2_code 52 = .ok (.lload_n 2, 1) := by decide +kernel
theorem dI_53 : decode method_2_code 53 = .ok (.lreturn, 1) := by decide +kernel
theorem pnI : plainName "com/example/hatua/hatua/HashIndexMixPinLaw" = true := by first | (simp [plainName, overriddenIn]; done) | decide +kernel
theorem efI (m : MethodId) (q0 : Int64) : entryFrame m #[(.long q0)] 4 = mkF m 0 #[.val (.long q0), .second, .unset, .unset] [] := by first | (simp [entryFrame, mkF, argsToLocals, Value.category]; done) | rfl
def own_fI (q0 : Int64) : Int64 := ((((((((((q0 * ((2 : Int64) - (q0 * q0)))) * ((2 : Int64) - (q0 * ((q0 * ((2 : Int64) - (q0 * q0)))))))) * ((2 : Int64) - (q0 * ((((q0 * ((2 : Int64) - (q0 * q0)))) * ((2 : Int64) - (q0 * ((q0 * ((2 : Int64) - (q0 * q0)))))))))))) * ((2 : Int64) - (q0 * ((((((q0 * ((2 : Int64) - (q0 * q0)))) * ((2 : Int64) - (q0 * ((q0 * ((2 : Int64) - (q0 * q0)))))))) * ((2 : Int64) - (q0 * ((((q0 * ((2 : Int64) - (q0 * q0)))) * ((2 : Int64) - (q0 * ((q0 * ((2 : Int64) - (q0 * q0)))))))))))))))) * ((2 : Int64) - (q0 * ((((((((q0 * ((2 : Int64) - (q0 * q0)))) * ((2 : Int64) - (q0 * ((q0 * ((2 : Int64) - (q0 * q0)))))))) * ((2 : Int64) - (q0 * ((((q0 * ((2 : Int64) - (q0 * q0)))) * ((2 : Int64) - (q0 * ((q0 * ((2 : Int64) - (q0 * q0)))))))))))) * ((2 : Int64) - (q0 * ((((((q0 * ((2 : Int64) - (q0 * q0)))) * ((2 : Int64) - (q0 * ((q0 * ((2 : Int64) - (q0 * q0)))))))) * ((2 : Int64) - (q0 * ((((q0 * ((2 : Int64) - (q0 * q0)))) * ((2 : Int64) - (q0 * ((q0 * ((2 : Int64) - (q0 * q0))))))))))))))))))))
abbrev own_roomI : Room := { frames := 0, cells := 0, slots := 0, locals := 0 }
def QI (Z : State) (q0 : Int64) (h0 : Heap) (n0 : Nat) (v : Option Value) (h : Heap) (L : List Loc) : Prop := v = some (.long (own_fI q0)) ∧ Fr n0 L ∧ h = h0
set_option maxRecDepth 65536 in
set_option maxHeartbeats 40000000 in
theorem rmI (l : Launch) (Z : State) (a0 : Array Value) (hw : ∀ d ∈ tables_1, d.before a0 Z = true) (ws : List Jvm.Cond) (q0 : Int64) (h0 : Heap) (n0 : Nat) (Z0 : n0 ≤ h0.size) :
    MetFree l (⟨"com/example/hatua/hatua/HashIndexMixPinLaw", "inverse", "(J)J"⟩ : MethodName) (head1 (Jvm.Cond.code (⟨"com/example/hatua/hatua/HashIndexMixPinLaw", "inverse", "(J)J"⟩ : MethodName) method_2_code 4 (some .long) :: ws) own_roomI) (fun a U => a = #[(.long q0)] ∧ Z.Warmed39 U.vm ∧ U.heap = h0) (fun _ _ _ _ _ => True) (fun _ U o U' => ∃ v L, o = .returned v ∧ QI Z q0 h0 n0 v U'.heap L ∧ FrameEnd U o U' L own_roomI.cells own_roomI.slots) := by
  refine MetFree.of_bodySF (plainFor_of_name pnI) hisR ?_
  intro p e s m args below meth c s₁ Bd hml0 hP hK
  obtain ⟨rfl, hZ, hh⟩ := hP
  have hx := Bd.exec
  have hby := Bd.bytes
  have hml : c.maxLocals = 4 := hml0
  have hown : s.vm.findClass "com/example/hatua/hatua/HashIndexMixPinLaw" = some m.cls := findClass_of_methodNamed Bd.named
  have hnm := (name_of_methodNamed Bd.named Bd.method).1
  have X0 : Stand p l e own_roomI s m #[(.long q0)] below meth c s₁ [] 0 0 := Stand.of_body Bd
  have e0 : s₁.heap = h0 := by rw [← hh, Bd.state]; rfl
  have N0 := Fr.nil n0
  have pre0 : ∀ t, Steps p.tables e below (s₁.setTop (mkF m 0 #[.val (.long q0), .second, .unset, .unset] [])) t → Steps p.tables e below (s₁.setTop (entryFrame m #[(.long q0)] 4)) t := fun t k => castTop (efI m q0) k
  obtain ⟨x11, hx11⟩ : ∃ z : Int64, z = (q0 * ((2 : Int64) - (q0 * q0))) := ⟨_, rfl⟩
  have pre12 : ∀ t, Steps p.tables e below (s₁.setTop (mkF m 12 #[.val (.long q0), .second, .val (.long x11), .second] [])) t → Steps p.tables e below (s₁.setTop (entryFrame m #[(.long q0)] 4)) t := fun t k => pre0 t (by
    show Steps p.tables e below (s₁.setTop (mkF m 0 #[.val (.long q0), .second, .unset, .unset] [])) t
    refine XS.lloadN X0.here hx rfl (hb hby dI_0) rfl ?_
    show Steps p.tables e below (s₁.setTop (mkF m 1 #[.val (.long q0), .second, .unset, .unset] [(.long q0)])) _
    refine XS.lstoreN X0.here hx rfl (hb hby dI_1) rfl (l' := #[.val (.long q0), .second, .val (.long q0), .second]) rfl ?_
    show Steps p.tables e below (s₁.setTop (mkF m 2 #[.val (.long q0), .second, .val (.long q0), .second] [])) _
    refine XS.lloadN X0.here hx rfl (hb hby dI_2) rfl ?_
    show Steps p.tables e below (s₁.setTop (mkF m 3 #[.val (.long q0), .second, .val (.long q0), .second] [(.long q0)])) _
    refine X0.ldc2Long hx hown (mvT hZ (hw _ (List.mem_of_getElem? (i := 17) rfl))) (g := (mkF m 3 #[.val (.long q0), .second, .val (.long q0), .second] [(.long q0)])) rfl (hb hby dI_3) _ ?_
    show Steps p.tables e below (s₁.setTop (mkF m 6 #[.val (.long q0), .second, .val (.long q0), .second] [(.long (2 : Int64)), (.long q0)])) _
    refine XS.lloadN X0.here hx rfl (hb hby dI_6) rfl ?_
    show Steps p.tables e below (s₁.setTop (mkF m 7 #[.val (.long q0), .second, .val (.long q0), .second] [(.long q0), (.long (2 : Int64)), (.long q0)])) _
    refine XS.lloadN X0.here hx rfl (hb hby dI_7) rfl ?_
    show Steps p.tables e below (s₁.setTop (mkF m 8 #[.val (.long q0), .second, .val (.long q0), .second] [(.long q0), (.long q0), (.long (2 : Int64)), (.long q0)])) _
    refine XS.lmul X0.here hx rfl (hb hby dI_8) rfl ?_
    show Steps p.tables e below (s₁.setTop (mkF m 9 #[.val (.long q0), .second, .val (.long q0), .second] [(.long (q0 * q0)), (.long (2 : Int64)), (.long q0)])) _
    refine XS.lsub X0.here hx rfl (hb hby dI_9) rfl ?_
    show Steps p.tables e below (s₁.setTop (mkF m 10 #[.val (.long q0), .second, .val (.long q0), .second] [(.long ((2 : Int64) - (q0 * q0))), (.long q0)])) _
    refine XS.lmul X0.here hx rfl (hb hby dI_10) rfl ?_
    show Steps p.tables e below (s₁.setTop (mkF m 11 #[.val (.long q0), .second, .val (.long q0), .second] [(.long (q0 * ((2 : Int64) - (q0 * q0))))])) _
    refine XS.lstoreN X0.here hx rfl (hb hby dI_11) rfl (l' := #[.val (.long q0), .second, .val (.long (q0 * ((2 : Int64) - (q0 * q0)))), .second]) rfl ?_
    show Steps p.tables e below (s₁.setTop (mkF m 12 #[.val (.long q0), .second, .val (.long (q0 * ((2 : Int64) - (q0 * q0)))), .second] [])) _
    subst hx11
    exact k)
  obtain ⟨x21, hx21⟩ : ∃ z : Int64, z = (x11 * ((2 : Int64) - (q0 * x11))) := ⟨_, rfl⟩
  have pre22 : ∀ t, Steps p.tables e below (s₁.setTop (mkF m 22 #[.val (.long q0), .second, .val (.long x21), .second] [])) t → Steps p.tables e below (s₁.setTop (entryFrame m #[(.long q0)] 4)) t := fun t k => pre12 t (by
    show Steps p.tables e below (s₁.setTop (mkF m 12 #[.val (.long q0), .second, .val (.long x11), .second] [])) t
    refine XS.lloadN X0.here hx rfl (hb hby dI_12) rfl ?_
    show Steps p.tables e below (s₁.setTop (mkF m 13 #[.val (.long q0), .second, .val (.long x11), .second] [(.long x11)])) _
    refine X0.ldc2Long hx hown (mvT hZ (hw _ (List.mem_of_getElem? (i := 17) rfl))) (g := (mkF m 13 #[.val (.long q0), .second, .val (.long x11), .second] [(.long x11)])) rfl (hb hby dI_13) _ ?_
    show Steps p.tables e below (s₁.setTop (mkF m 16 #[.val (.long q0), .second, .val (.long x11), .second] [(.long (2 : Int64)), (.long x11)])) _
    refine XS.lloadN X0.here hx rfl (hb hby dI_16) rfl ?_
    show Steps p.tables e below (s₁.setTop (mkF m 17 #[.val (.long q0), .second, .val (.long x11), .second] [(.long q0), (.long (2 : Int64)), (.long x11)])) _
    refine XS.lloadN X0.here hx rfl (hb hby dI_17) rfl ?_
    show Steps p.tables e below (s₁.setTop (mkF m 18 #[.val (.long q0), .second, .val (.long x11), .second] [(.long x11), (.long q0), (.long (2 : Int64)), (.long x11)])) _
    refine XS.lmul X0.here hx rfl (hb hby dI_18) rfl ?_
    show Steps p.tables e below (s₁.setTop (mkF m 19 #[.val (.long q0), .second, .val (.long x11), .second] [(.long (q0 * x11)), (.long (2 : Int64)), (.long x11)])) _
    refine XS.lsub X0.here hx rfl (hb hby dI_19) rfl ?_
    show Steps p.tables e below (s₁.setTop (mkF m 20 #[.val (.long q0), .second, .val (.long x11), .second] [(.long ((2 : Int64) - (q0 * x11))), (.long x11)])) _
    refine XS.lmul X0.here hx rfl (hb hby dI_20) rfl ?_
    show Steps p.tables e below (s₁.setTop (mkF m 21 #[.val (.long q0), .second, .val (.long x11), .second] [(.long (x11 * ((2 : Int64) - (q0 * x11))))])) _
    refine XS.lstoreN X0.here hx rfl (hb hby dI_21) rfl (l' := #[.val (.long q0), .second, .val (.long (x11 * ((2 : Int64) - (q0 * x11)))), .second]) rfl ?_
    show Steps p.tables e below (s₁.setTop (mkF m 22 #[.val (.long q0), .second, .val (.long (x11 * ((2 : Int64) - (q0 * x11)))), .second] [])) _
    subst hx21
    exact k)
  obtain ⟨x31, hx31⟩ : ∃ z : Int64, z = (x21 * ((2 : Int64) - (q0 * x21))) := ⟨_, rfl⟩
  have pre32 : ∀ t, Steps p.tables e below (s₁.setTop (mkF m 32 #[.val (.long q0), .second, .val (.long x31), .second] [])) t → Steps p.tables e below (s₁.setTop (entryFrame m #[(.long q0)] 4)) t := fun t k => pre22 t (by
    show Steps p.tables e below (s₁.setTop (mkF m 22 #[.val (.long q0), .second, .val (.long x21), .second] [])) t
    refine XS.lloadN X0.here hx rfl (hb hby dI_22) rfl ?_
    show Steps p.tables e below (s₁.setTop (mkF m 23 #[.val (.long q0), .second, .val (.long x21), .second] [(.long x21)])) _
    refine X0.ldc2Long hx hown (mvT hZ (hw _ (List.mem_of_getElem? (i := 17) rfl))) (g := (mkF m 23 #[.val (.long q0), .second, .val (.long x21), .second] [(.long x21)])) rfl (hb hby dI_23) _ ?_
    show Steps p.tables e below (s₁.setTop (mkF m 26 #[.val (.long q0), .second, .val (.long x21), .second] [(.long (2 : Int64)), (.long x21)])) _
    refine XS.lloadN X0.here hx rfl (hb hby dI_26) rfl ?_
    show Steps p.tables e below (s₁.setTop (mkF m 27 #[.val (.long q0), .second, .val (.long x21), .second] [(.long q0), (.long (2 : Int64)), (.long x21)])) _
    refine XS.lloadN X0.here hx rfl (hb hby dI_27) rfl ?_
    show Steps p.tables e below (s₁.setTop (mkF m 28 #[.val (.long q0), .second, .val (.long x21), .second] [(.long x21), (.long q0), (.long (2 : Int64)), (.long x21)])) _
    refine XS.lmul X0.here hx rfl (hb hby dI_28) rfl ?_
    show Steps p.tables e below (s₁.setTop (mkF m 29 #[.val (.long q0), .second, .val (.long x21), .second] [(.long (q0 * x21)), (.long (2 : Int64)), (.long x21)])) _
    refine XS.lsub X0.here hx rfl (hb hby dI_29) rfl ?_
    show Steps p.tables e below (s₁.setTop (mkF m 30 #[.val (.long q0), .second, .val (.long x21), .second] [(.long ((2 : Int64) - (q0 * x21))), (.long x21)])) _
    refine XS.lmul X0.here hx rfl (hb hby dI_30) rfl ?_
    show Steps p.tables e below (s₁.setTop (mkF m 31 #[.val (.long q0), .second, .val (.long x21), .second] [(.long (x21 * ((2 : Int64) - (q0 * x21))))])) _
    refine XS.lstoreN X0.here hx rfl (hb hby dI_31) rfl (l' := #[.val (.long q0), .second, .val (.long (x21 * ((2 : Int64) - (q0 * x21)))), .second]) rfl ?_
    show Steps p.tables e below (s₁.setTop (mkF m 32 #[.val (.long q0), .second, .val (.long (x21 * ((2 : Int64) - (q0 * x21)))), .second] [])) _
    subst hx31
    exact k)
  obtain ⟨x41, hx41⟩ : ∃ z : Int64, z = (x31 * ((2 : Int64) - (q0 * x31))) := ⟨_, rfl⟩
  have pre42 : ∀ t, Steps p.tables e below (s₁.setTop (mkF m 42 #[.val (.long q0), .second, .val (.long x41), .second] [])) t → Steps p.tables e below (s₁.setTop (entryFrame m #[(.long q0)] 4)) t := fun t k => pre32 t (by
    show Steps p.tables e below (s₁.setTop (mkF m 32 #[.val (.long q0), .second, .val (.long x31), .second] [])) t
    refine XS.lloadN X0.here hx rfl (hb hby dI_32) rfl ?_
    show Steps p.tables e below (s₁.setTop (mkF m 33 #[.val (.long q0), .second, .val (.long x31), .second] [(.long x31)])) _
    refine X0.ldc2Long hx hown (mvT hZ (hw _ (List.mem_of_getElem? (i := 17) rfl))) (g := (mkF m 33 #[.val (.long q0), .second, .val (.long x31), .second] [(.long x31)])) rfl (hb hby dI_33) _ ?_
    show Steps p.tables e below (s₁.setTop (mkF m 36 #[.val (.long q0), .second, .val (.long x31), .second] [(.long (2 : Int64)), (.long x31)])) _
    refine XS.lloadN X0.here hx rfl (hb hby dI_36) rfl ?_
    show Steps p.tables e below (s₁.setTop (mkF m 37 #[.val (.long q0), .second, .val (.long x31), .second] [(.long q0), (.long (2 : Int64)), (.long x31)])) _
    refine XS.lloadN X0.here hx rfl (hb hby dI_37) rfl ?_
    show Steps p.tables e below (s₁.setTop (mkF m 38 #[.val (.long q0), .second, .val (.long x31), .second] [(.long x31), (.long q0), (.long (2 : Int64)), (.long x31)])) _
    refine XS.lmul X0.here hx rfl (hb hby dI_38) rfl ?_
    show Steps p.tables e below (s₁.setTop (mkF m 39 #[.val (.long q0), .second, .val (.long x31), .second] [(.long (q0 * x31)), (.long (2 : Int64)), (.long x31)])) _
    refine XS.lsub X0.here hx rfl (hb hby dI_39) rfl ?_
    show Steps p.tables e below (s₁.setTop (mkF m 40 #[.val (.long q0), .second, .val (.long x31), .second] [(.long ((2 : Int64) - (q0 * x31))), (.long x31)])) _
    refine XS.lmul X0.here hx rfl (hb hby dI_40) rfl ?_
    show Steps p.tables e below (s₁.setTop (mkF m 41 #[.val (.long q0), .second, .val (.long x31), .second] [(.long (x31 * ((2 : Int64) - (q0 * x31))))])) _
    refine XS.lstoreN X0.here hx rfl (hb hby dI_41) rfl (l' := #[.val (.long q0), .second, .val (.long (x31 * ((2 : Int64) - (q0 * x31)))), .second]) rfl ?_
    show Steps p.tables e below (s₁.setTop (mkF m 42 #[.val (.long q0), .second, .val (.long (x31 * ((2 : Int64) - (q0 * x31)))), .second] [])) _
    subst hx41
    exact k)
  obtain ⟨x51, hx51⟩ : ∃ z : Int64, z = (x41 * ((2 : Int64) - (q0 * x41))) := ⟨_, rfl⟩
  have pre52 : ∀ t, Steps p.tables e below (s₁.setTop (mkF m 52 #[.val (.long q0), .second, .val (.long x51), .second] [])) t → Steps p.tables e below (s₁.setTop (entryFrame m #[(.long q0)] 4)) t := fun t k => pre42 t (by
    show Steps p.tables e below (s₁.setTop (mkF m 42 #[.val (.long q0), .second, .val (.long x41), .second] [])) t
    refine XS.lloadN X0.here hx rfl (hb hby dI_42) rfl ?_
    show Steps p.tables e below (s₁.setTop (mkF m 43 #[.val (.long q0), .second, .val (.long x41), .second] [(.long x41)])) _
    refine X0.ldc2Long hx hown (mvT hZ (hw _ (List.mem_of_getElem? (i := 17) rfl))) (g := (mkF m 43 #[.val (.long q0), .second, .val (.long x41), .second] [(.long x41)])) rfl (hb hby dI_43) _ ?_
    show Steps p.tables e below (s₁.setTop (mkF m 46 #[.val (.long q0), .second, .val (.long x41), .second] [(.long (2 : Int64)), (.long x41)])) _
    refine XS.lloadN X0.here hx rfl (hb hby dI_46) rfl ?_
    show Steps p.tables e below (s₁.setTop (mkF m 47 #[.val (.long q0), .second, .val (.long x41), .second] [(.long q0), (.long (2 : Int64)), (.long x41)])) _
    refine XS.lloadN X0.here hx rfl (hb hby dI_47) rfl ?_
    show Steps p.tables e below (s₁.setTop (mkF m 48 #[.val (.long q0), .second, .val (.long x41), .second] [(.long x41), (.long q0), (.long (2 : Int64)), (.long x41)])) _
    refine XS.lmul X0.here hx rfl (hb hby dI_48) rfl ?_
    show Steps p.tables e below (s₁.setTop (mkF m 49 #[.val (.long q0), .second, .val (.long x41), .second] [(.long (q0 * x41)), (.long (2 : Int64)), (.long x41)])) _
    refine XS.lsub X0.here hx rfl (hb hby dI_49) rfl ?_
    show Steps p.tables e below (s₁.setTop (mkF m 50 #[.val (.long q0), .second, .val (.long x41), .second] [(.long ((2 : Int64) - (q0 * x41))), (.long x41)])) _
    refine XS.lmul X0.here hx rfl (hb hby dI_50) rfl ?_
    show Steps p.tables e below (s₁.setTop (mkF m 51 #[.val (.long q0), .second, .val (.long x41), .second] [(.long (x41 * ((2 : Int64) - (q0 * x41))))])) _
    refine XS.lstoreN X0.here hx rfl (hb hby dI_51) rfl (l' := #[.val (.long q0), .second, .val (.long (x41 * ((2 : Int64) - (q0 * x41)))), .second]) rfl ?_
    show Steps p.tables e below (s₁.setTop (mkF m 52 #[.val (.long q0), .second, .val (.long (x41 * ((2 : Int64) - (q0 * x41)))), .second] [])) _
    subst hx51
    exact k)
  have pre53 : ∀ t, Steps p.tables e below (s₁.setTop (mkF m 53 #[.val (.long q0), .second, .val (.long x51), .second] [(.long x51)])) t → Steps p.tables e below (s₁.setTop (entryFrame m #[(.long q0)] 4)) t := fun t k => pre52 t (by
    show Steps p.tables e below (s₁.setTop (mkF m 52 #[.val (.long q0), .second, .val (.long x51), .second] [])) t
    refine XS.lloadN X0.here hx rfl (hb hby dI_52) rfl ?_
    show Steps p.tables e below (s₁.setTop (mkF m 53 #[.val (.long q0), .second, .val (.long x51), .second] [(.long x51)])) _
    exact k)
  obtain ⟨fs, hr, hrun, hended, hW, hsame⟩ := X0.leave (v := some (.long x51)) (fun h => by rw [Bd.returns] at h; cases h)
  refine ⟨_, _, pre53 _ ?_, hrun, hended, _, _, rfl, ?_, ⟨_, rfl⟩, hW, hsame.mono (by decide) (by decide)⟩
  · show Steps p.tables e below (s₁.setTop (mkF m 53 #[.val (.long q0), .second, .val (.long x51), .second] [(.long x51)])) _
    exact retOut X0 hx Bd.returns rfl (Or.inr (Or.inl ⟨rfl, rfl, _, rfl⟩)) (hb hby dI_53) hr
  · show QI Z q0 h0 n0 _ s₁.heap _
    rw [e0]
    have hres : x51 = (own_fI q0) := by
      try subst hx51
      try subst hx41
      try subst hx31
      try subst hx21
      try subst hx11
      rw [own_fI]
      first | done | rfl | exact own_narB _
    exact ⟨congrArg (fun q => some (Value.long q)) hres, N0, rfl⟩
theorem dU_0 : decode method_4_code 0 = .ok (.lload_n 0, 1) := by decide +kernel
theorem dU_1 : decode method_4_code 1 = .ok (.invokestatic 9, 3) := by decide +kernel
theorem dU_4 : decode method_4_code 4 = .ok (.lstore_n 2, 1) := by decide +kernel
theorem dU_5 : decode method_4_code 5 = .ok (.lload_n 2, 1) := by decide +kernel
theorem dU_6 : decode method_4_code 6 = .ok (.ldc2_w 15, 3) := by decide +kernel
theorem dU_9 : decode method_4_code 9 = .ok (.invokestatic 17, 3) := by decide +kernel
theorem dU_12 : decode method_4_code 12 = .ok (.lmul, 1) := by decide +kernel
theorem dU_13 : decode method_4_code 13 = .ok (.lstore_n 2, 1) := by decide +kernel
theorem dU_14 : decode method_4_code 14 = .ok (.lload_n 2, 1) := by decide +kernel
theorem dU_15 : decode method_4_code 15 = .ok (.invokestatic 9, 3) := by decide +kernel
theorem dU_18 : decode method_4_code 18 = .ok (.lstore_n 2, 1) := by decide +kernel
theorem dU_19 : decode method_4_code 19 = .ok (.lload_n 2, 1) := by decide +kernel
theorem dU_20 : decode method_4_code 20 = .ok (.ldc2_w 20, 3) := by decide +kernel
theorem dU_23 : decode method_4_code 23 = .ok (.invokestatic 17, 3) := by decide +kernel
theorem dU_26 : decode method_4_code 26 = .ok (.lmul, 1) := by decide +kernel
theorem dU_27 : decode method_4_code 27 = .ok (.lstore_n 2, 1) := by decide +kernel
theorem dU_28 : decode method_4_code 28 = .ok (.lload_n 2, 1) := by decide +kernel
theorem dU_29 : decode method_4_code 29 = .ok (.invokestatic 9, 3) := by decide +kernel
theorem dU_32 : decode method_4_code 32 = .ok (.lreturn, 1) := by decide +kernel
theorem pnU : plainName "com/example/hatua/hatua/HashIndexMixPinLaw" = true := by first | (simp [plainName, overriddenIn]; done) | decide +kernel
theorem pdU_0 : parseMethodDescriptor "(J)J" = some ⟨[.long], some .long⟩ := by decide +kernel
theorem efU (m : MethodId) (q0 : Int64) : entryFrame m #[(.long q0)] 4 = mkF m 0 #[.val (.long q0), .second, .unset, .unset] [] := by first | (simp [entryFrame, mkF, argsToLocals, Value.category]; done) | rfl
def own_fU (q0 : Int64) : Int64 := (own_fS ((((own_fS ((((own_fS q0)) * (own_fI (-4265267296055464877 : Int64)))))) * (own_fI (-49064778989728563 : Int64)))))
abbrev own_roomU : Room := { frames := 1, cells := 0, slots := 0, locals := 17 }
def QU (Z : State) (q0 : Int64) (h0 : Heap) (n0 : Nat) (v : Option Value) (h : Heap) (L : List Loc) : Prop := v = some (.long (own_fU q0)) ∧ Fr n0 L ∧ h = h0
set_option maxRecDepth 65536 in
set_option maxHeartbeats 40000000 in
theorem rmU (l : Launch) (Z : State) (a0 : Array Value) (hw : ∀ d ∈ tables_1, d.before a0 Z = true) (ws : List Jvm.Cond) (q0 : Int64) (h0 : Heap) (n0 : Nat) (Z0 : n0 ≤ h0.size) :
    MetFree l (⟨"com/example/hatua/hatua/HashIndexMixPinLaw", "unmix", "(J)J"⟩ : MethodName) (head1 (Jvm.Cond.code (⟨"com/example/hatua/hatua/HashIndexMixPinLaw", "unmix", "(J)J"⟩ : MethodName) method_4_code 4 (some .long) :: ws) own_roomU) (fun a U => a = #[(.long q0)] ∧ Z.Warmed39 U.vm ∧ U.heap = h0) (fun _ _ _ _ _ => True) (fun _ U o U' => ∃ v L, o = .returned v ∧ QU Z q0 h0 n0 v U'.heap L ∧ FrameEnd U o U' L own_roomU.cells own_roomU.slots) := by
  refine MetFree.of_bodySF (plainFor_of_name pnU) hisR ?_
  intro p e s m args below meth c s₁ Bd hml0 hP hK
  obtain ⟨rfl, hZ, hh⟩ := hP
  have hx := Bd.exec
  have hby := Bd.bytes
  have hml : c.maxLocals = 4 := hml0
  have hown : s.vm.findClass "com/example/hatua/hatua/HashIndexMixPinLaw" = some m.cls := findClass_of_methodNamed Bd.named
  have hnm := (name_of_methodNamed Bd.named Bd.method).1
  have X0 : Stand p l e own_roomU s m #[(.long q0)] below meth c s₁ [] 0 0 := Stand.of_body Bd
  have e0 : s₁.heap = h0 := by rw [← hh, Bd.state]; rfl
  have N0 := Fr.nil n0
  have pre0 : ∀ t, Steps p.tables e below (s₁.setTop (mkF m 0 #[.val (.long q0), .second, .unset, .unset] [])) t → Steps p.tables e below (s₁.setTop (entryFrame m #[(.long q0)] 4)) t := fun t k => castTop (efU m q0) k
  have pre1 : ∀ t, Steps p.tables e below (s₁.setTop (mkF m 1 #[.val (.long q0), .second, .unset, .unset] [(.long q0)])) t → Steps p.tables e below (s₁.setTop (entryFrame m #[(.long q0)] 4)) t := fun t k => pre0 t (by
    show Steps p.tables e below (s₁.setTop (mkF m 0 #[.val (.long q0), .second, .unset, .unset] [])) t
    refine XS.lloadN X0.here hx rfl (hb hby dU_0) rfl ?_
    show Steps p.tables e below (s₁.setTop (mkF m 1 #[.val (.long q0), .second, .unset, .unset] [(.long q0)])) _
    exact k)
  obtain ⟨_, _, ⟨T1, L1, k1, n1⟩, -, X1, ⟨Lc1, hQ1, l1, y1, z1⟩, st1⟩ := Jvm.LawKit.callS X0 hx (y := (⟨"com/example/hatua/hatua/HashIndexMixPinLaw", "unshift", "(J)J"⟩ : MethodName)) hown (mvT hZ (hw _ (List.mem_of_getElem? (i := 10) rfl))) (mvT hZ (hw _ (List.mem_of_getElem? (i := 11) rfl))) (mvT hZ (hw _ (List.mem_of_getElem? (i := 8) rfl))) (mvT hZ (hw _ (List.mem_of_getElem? (i := 12) rfl))) (by decide) (backOf (W := 0) (rmS l Z a0 hw [] q0  h0 n0 Z0 ) hZ (hw _ (List.mem_of_getElem? (i := 12) rfl)) (hw _ (List.mem_of_getElem? (i := 8) rfl)) (by decide) (by decide)) (g := (mkF m 1 #[.val (.long q0), .second, .unset, .unset] [(.long q0)])) rfl (by rw [hml]; rfl) (argsL := [(.long q0)]) (rest := []) (lenOf pdU_0 rfl) rfl (by show 2 * 0 + _ ≤ _; exact Nat.le_of_eq rfl) (hb hby dU_1) (fun _ _ => ⟨rfl, e0, (by decide : 0 + 0 ≤ _), (by decide : 0 + 0 ≤ _)⟩)
  dsimp only [Pt.U, Pt.locs, Pt.cells, Pt.slots] at X1 l1 y1 z1 st1 hQ1
  subst l1 y1 z1
  obtain ⟨rfl, N1q, e1⟩ := hQ1
  have N1 := Fr.app N0 N1q
  have pre4 : ∀ t, Steps p.tables e below (T1.setTop (mkF m 4 #[.val (.long q0), .second, .unset, .unset] [(.long (own_fS q0))])) t → Steps p.tables e below (s₁.setTop (entryFrame m #[(.long q0)] 4)) t := fun t k => pre1 t (st1 _ k)
  obtain ⟨x4, hx4⟩ : ∃ z : Int64, z = (own_fS q0) := ⟨_, rfl⟩
  have pre5 : ∀ t, Steps p.tables e below (T1.setTop (mkF m 5 #[.val (.long q0), .second, .val (.long x4), .second] [])) t → Steps p.tables e below (s₁.setTop (entryFrame m #[(.long q0)] 4)) t := fun t k => pre4 t (by
    show Steps p.tables e below (T1.setTop (mkF m 4 #[.val (.long q0), .second, .unset, .unset] [(.long (own_fS q0))])) t
    refine XS.lstoreN X1.here hx rfl (hb hby dU_4) rfl (l' := #[.val (.long q0), .second, .val (.long (own_fS q0)), .second]) rfl ?_
    show Steps p.tables e below (T1.setTop (mkF m 5 #[.val (.long q0), .second, .val (.long (own_fS q0)), .second] [])) _
    subst hx4
    exact k)
  have pre9 : ∀ t, Steps p.tables e below (T1.setTop (mkF m 9 #[.val (.long q0), .second, .val (.long x4), .second] [(.long (-4265267296055464877 : Int64)), (.long x4)])) t → Steps p.tables e below (s₁.setTop (entryFrame m #[(.long q0)] 4)) t := fun t k => pre5 t (by
    show Steps p.tables e below (T1.setTop (mkF m 5 #[.val (.long q0), .second, .val (.long x4), .second] [])) t
    refine XS.lloadN X1.here hx rfl (hb hby dU_5) rfl ?_
    show Steps p.tables e below (T1.setTop (mkF m 6 #[.val (.long q0), .second, .val (.long x4), .second] [(.long x4)])) _
    refine X1.ldc2Long hx hown (mvT hZ (hw _ (List.mem_of_getElem? (i := 13) rfl))) (g := (mkF m 6 #[.val (.long q0), .second, .val (.long x4), .second] [(.long x4)])) rfl (hb hby dU_6) _ ?_
    show Steps p.tables e below (T1.setTop (mkF m 9 #[.val (.long q0), .second, .val (.long x4), .second] [(.long (-4265267296055464877 : Int64)), (.long x4)])) _
    exact k)
  obtain ⟨_, _, ⟨T9, L9, k9, n9⟩, -, X9, ⟨Lc9, hQ9, l9, y9, z9⟩, st9⟩ := Jvm.LawKit.callS X1 hx (y := (⟨"com/example/hatua/hatua/HashIndexMixPinLaw", "inverse", "(J)J"⟩ : MethodName)) hown (mvT hZ (hw _ (List.mem_of_getElem? (i := 14) rfl))) (mvT hZ (hw _ (List.mem_of_getElem? (i := 15) rfl))) (mvT hZ (hw _ (List.mem_of_getElem? (i := 8) rfl))) (mvT hZ (hw _ (List.mem_of_getElem? (i := 16) rfl))) (by decide) (backOf (W := 2) (rmI l Z a0 hw [] (-4265267296055464877 : Int64)  h0 n0 Z0 ) hZ (hw _ (List.mem_of_getElem? (i := 16) rfl)) (hw _ (List.mem_of_getElem? (i := 8) rfl)) (by decide) (by decide)) (g := (mkF m 9 #[.val (.long q0), .second, .val (.long x4), .second] [(.long (-4265267296055464877 : Int64)), (.long x4)])) rfl (by rw [hml]; rfl) (argsL := [(.long (-4265267296055464877 : Int64))]) (rest := [(.long x4)]) (lenOf pdU_0 rfl) rfl (by show 2 * 0 + _ ≤ _; exact Nat.le_of_eq rfl) (hb hby dU_9) (fun _ _ => ⟨rfl, e1, (by decide : 0 + 0 ≤ _), (by decide : 0 + 0 ≤ _)⟩)
  dsimp only [Pt.U, Pt.locs, Pt.cells, Pt.slots] at X9 l9 y9 z9 st9 hQ9
  subst l9 y9 z9
  obtain ⟨rfl, N9q, e9⟩ := hQ9
  have N9 := Fr.app N1 N9q
  have pre12 : ∀ t, Steps p.tables e below (T9.setTop (mkF m 12 #[.val (.long q0), .second, .val (.long x4), .second] [(.long (own_fI (-4265267296055464877 : Int64))), (.long x4)])) t → Steps p.tables e below (s₁.setTop (entryFrame m #[(.long q0)] 4)) t := fun t k => pre9 t (st9 _ k)
  obtain ⟨x13, hx13⟩ : ∃ z : Int64, z = (x4 * (own_fI (-4265267296055464877 : Int64))) := ⟨_, rfl⟩
  have pre14 : ∀ t, Steps p.tables e below (T9.setTop (mkF m 14 #[.val (.long q0), .second, .val (.long x13), .second] [])) t → Steps p.tables e below (s₁.setTop (entryFrame m #[(.long q0)] 4)) t := fun t k => pre12 t (by
    show Steps p.tables e below (T9.setTop (mkF m 12 #[.val (.long q0), .second, .val (.long x4), .second] [(.long (own_fI (-4265267296055464877 : Int64))), (.long x4)])) t
    refine XS.lmul X9.here hx rfl (hb hby dU_12) rfl ?_
    show Steps p.tables e below (T9.setTop (mkF m 13 #[.val (.long q0), .second, .val (.long x4), .second] [(.long (x4 * (own_fI (-4265267296055464877 : Int64))))])) _
    refine XS.lstoreN X9.here hx rfl (hb hby dU_13) rfl (l' := #[.val (.long q0), .second, .val (.long (x4 * (own_fI (-4265267296055464877 : Int64)))), .second]) rfl ?_
    show Steps p.tables e below (T9.setTop (mkF m 14 #[.val (.long q0), .second, .val (.long (x4 * (own_fI (-4265267296055464877 : Int64)))), .second] [])) _
    subst hx13
    exact k)
  have pre15 : ∀ t, Steps p.tables e below (T9.setTop (mkF m 15 #[.val (.long q0), .second, .val (.long x13), .second] [(.long x13)])) t → Steps p.tables e below (s₁.setTop (entryFrame m #[(.long q0)] 4)) t := fun t k => pre14 t (by
    show Steps p.tables e below (T9.setTop (mkF m 14 #[.val (.long q0), .second, .val (.long x13), .second] [])) t
    refine XS.lloadN X9.here hx rfl (hb hby dU_14) rfl ?_
    show Steps p.tables e below (T9.setTop (mkF m 15 #[.val (.long q0), .second, .val (.long x13), .second] [(.long x13)])) _
    exact k)
  obtain ⟨_, _, ⟨T15, L15, k15, n15⟩, -, X15, ⟨Lc15, hQ15, l15, y15, z15⟩, st15⟩ := Jvm.LawKit.callS X9 hx (y := (⟨"com/example/hatua/hatua/HashIndexMixPinLaw", "unshift", "(J)J"⟩ : MethodName)) hown (mvT hZ (hw _ (List.mem_of_getElem? (i := 10) rfl))) (mvT hZ (hw _ (List.mem_of_getElem? (i := 11) rfl))) (mvT hZ (hw _ (List.mem_of_getElem? (i := 8) rfl))) (mvT hZ (hw _ (List.mem_of_getElem? (i := 12) rfl))) (by decide) (backOf (W := 0) (rmS l Z a0 hw [] x13  h0 n0 Z0 ) hZ (hw _ (List.mem_of_getElem? (i := 12) rfl)) (hw _ (List.mem_of_getElem? (i := 8) rfl)) (by decide) (by decide)) (g := (mkF m 15 #[.val (.long q0), .second, .val (.long x13), .second] [(.long x13)])) rfl (by rw [hml]; rfl) (argsL := [(.long x13)]) (rest := []) (lenOf pdU_0 rfl) rfl (by show 2 * 0 + _ ≤ _; exact Nat.le_of_eq rfl) (hb hby dU_15) (fun _ _ => ⟨rfl, e9, (by decide : 0 + 0 ≤ _), (by decide : 0 + 0 ≤ _)⟩)
  dsimp only [Pt.U, Pt.locs, Pt.cells, Pt.slots] at X15 l15 y15 z15 st15 hQ15
  subst l15 y15 z15
  obtain ⟨rfl, N15q, e15⟩ := hQ15
  have N15 := Fr.app N9 N15q
  have pre18 : ∀ t, Steps p.tables e below (T15.setTop (mkF m 18 #[.val (.long q0), .second, .val (.long x13), .second] [(.long (own_fS x13))])) t → Steps p.tables e below (s₁.setTop (entryFrame m #[(.long q0)] 4)) t := fun t k => pre15 t (st15 _ k)
  obtain ⟨x18, hx18⟩ : ∃ z : Int64, z = (own_fS x13) := ⟨_, rfl⟩
  have pre19 : ∀ t, Steps p.tables e below (T15.setTop (mkF m 19 #[.val (.long q0), .second, .val (.long x18), .second] [])) t → Steps p.tables e below (s₁.setTop (entryFrame m #[(.long q0)] 4)) t := fun t k => pre18 t (by
    show Steps p.tables e below (T15.setTop (mkF m 18 #[.val (.long q0), .second, .val (.long x13), .second] [(.long (own_fS x13))])) t
    refine XS.lstoreN X15.here hx rfl (hb hby dU_18) rfl (l' := #[.val (.long q0), .second, .val (.long (own_fS x13)), .second]) rfl ?_
    show Steps p.tables e below (T15.setTop (mkF m 19 #[.val (.long q0), .second, .val (.long (own_fS x13)), .second] [])) _
    subst hx18
    exact k)
  have pre23 : ∀ t, Steps p.tables e below (T15.setTop (mkF m 23 #[.val (.long q0), .second, .val (.long x18), .second] [(.long (-49064778989728563 : Int64)), (.long x18)])) t → Steps p.tables e below (s₁.setTop (entryFrame m #[(.long q0)] 4)) t := fun t k => pre19 t (by
    show Steps p.tables e below (T15.setTop (mkF m 19 #[.val (.long q0), .second, .val (.long x18), .second] [])) t
    refine XS.lloadN X15.here hx rfl (hb hby dU_19) rfl ?_
    show Steps p.tables e below (T15.setTop (mkF m 20 #[.val (.long q0), .second, .val (.long x18), .second] [(.long x18)])) _
    refine X15.ldc2Long hx hown (mvT hZ (hw _ (List.mem_of_getElem? (i := 18) rfl))) (g := (mkF m 20 #[.val (.long q0), .second, .val (.long x18), .second] [(.long x18)])) rfl (hb hby dU_20) _ ?_
    show Steps p.tables e below (T15.setTop (mkF m 23 #[.val (.long q0), .second, .val (.long x18), .second] [(.long (-49064778989728563 : Int64)), (.long x18)])) _
    exact k)
  obtain ⟨_, _, ⟨T23, L23, k23, n23⟩, -, X23, ⟨Lc23, hQ23, l23, y23, z23⟩, st23⟩ := Jvm.LawKit.callS X15 hx (y := (⟨"com/example/hatua/hatua/HashIndexMixPinLaw", "inverse", "(J)J"⟩ : MethodName)) hown (mvT hZ (hw _ (List.mem_of_getElem? (i := 14) rfl))) (mvT hZ (hw _ (List.mem_of_getElem? (i := 15) rfl))) (mvT hZ (hw _ (List.mem_of_getElem? (i := 8) rfl))) (mvT hZ (hw _ (List.mem_of_getElem? (i := 16) rfl))) (by decide) (backOf (W := 2) (rmI l Z a0 hw [] (-49064778989728563 : Int64)  h0 n0 Z0 ) hZ (hw _ (List.mem_of_getElem? (i := 16) rfl)) (hw _ (List.mem_of_getElem? (i := 8) rfl)) (by decide) (by decide)) (g := (mkF m 23 #[.val (.long q0), .second, .val (.long x18), .second] [(.long (-49064778989728563 : Int64)), (.long x18)])) rfl (by rw [hml]; rfl) (argsL := [(.long (-49064778989728563 : Int64))]) (rest := [(.long x18)]) (lenOf pdU_0 rfl) rfl (by show 2 * 0 + _ ≤ _; exact Nat.le_of_eq rfl) (hb hby dU_23) (fun _ _ => ⟨rfl, e15, (by decide : 0 + 0 ≤ _), (by decide : 0 + 0 ≤ _)⟩)
  dsimp only [Pt.U, Pt.locs, Pt.cells, Pt.slots] at X23 l23 y23 z23 st23 hQ23
  subst l23 y23 z23
  obtain ⟨rfl, N23q, e23⟩ := hQ23
  have N23 := Fr.app N15 N23q
  have pre26 : ∀ t, Steps p.tables e below (T23.setTop (mkF m 26 #[.val (.long q0), .second, .val (.long x18), .second] [(.long (own_fI (-49064778989728563 : Int64))), (.long x18)])) t → Steps p.tables e below (s₁.setTop (entryFrame m #[(.long q0)] 4)) t := fun t k => pre23 t (st23 _ k)
  obtain ⟨x27, hx27⟩ : ∃ z : Int64, z = (x18 * (own_fI (-49064778989728563 : Int64))) := ⟨_, rfl⟩
  have pre28 : ∀ t, Steps p.tables e below (T23.setTop (mkF m 28 #[.val (.long q0), .second, .val (.long x27), .second] [])) t → Steps p.tables e below (s₁.setTop (entryFrame m #[(.long q0)] 4)) t := fun t k => pre26 t (by
    show Steps p.tables e below (T23.setTop (mkF m 26 #[.val (.long q0), .second, .val (.long x18), .second] [(.long (own_fI (-49064778989728563 : Int64))), (.long x18)])) t
    refine XS.lmul X23.here hx rfl (hb hby dU_26) rfl ?_
    show Steps p.tables e below (T23.setTop (mkF m 27 #[.val (.long q0), .second, .val (.long x18), .second] [(.long (x18 * (own_fI (-49064778989728563 : Int64))))])) _
    refine XS.lstoreN X23.here hx rfl (hb hby dU_27) rfl (l' := #[.val (.long q0), .second, .val (.long (x18 * (own_fI (-49064778989728563 : Int64)))), .second]) rfl ?_
    show Steps p.tables e below (T23.setTop (mkF m 28 #[.val (.long q0), .second, .val (.long (x18 * (own_fI (-49064778989728563 : Int64)))), .second] [])) _
    subst hx27
    exact k)
  have pre29 : ∀ t, Steps p.tables e below (T23.setTop (mkF m 29 #[.val (.long q0), .second, .val (.long x27), .second] [(.long x27)])) t → Steps p.tables e below (s₁.setTop (entryFrame m #[(.long q0)] 4)) t := fun t k => pre28 t (by
    show Steps p.tables e below (T23.setTop (mkF m 28 #[.val (.long q0), .second, .val (.long x27), .second] [])) t
    refine XS.lloadN X23.here hx rfl (hb hby dU_28) rfl ?_
    show Steps p.tables e below (T23.setTop (mkF m 29 #[.val (.long q0), .second, .val (.long x27), .second] [(.long x27)])) _
    exact k)
  obtain ⟨_, _, ⟨T29, L29, k29, n29⟩, -, X29, ⟨Lc29, hQ29, l29, y29, z29⟩, st29⟩ := Jvm.LawKit.callS X23 hx (y := (⟨"com/example/hatua/hatua/HashIndexMixPinLaw", "unshift", "(J)J"⟩ : MethodName)) hown (mvT hZ (hw _ (List.mem_of_getElem? (i := 10) rfl))) (mvT hZ (hw _ (List.mem_of_getElem? (i := 11) rfl))) (mvT hZ (hw _ (List.mem_of_getElem? (i := 8) rfl))) (mvT hZ (hw _ (List.mem_of_getElem? (i := 12) rfl))) (by decide) (backOf (W := 0) (rmS l Z a0 hw [] x27  h0 n0 Z0 ) hZ (hw _ (List.mem_of_getElem? (i := 12) rfl)) (hw _ (List.mem_of_getElem? (i := 8) rfl)) (by decide) (by decide)) (g := (mkF m 29 #[.val (.long q0), .second, .val (.long x27), .second] [(.long x27)])) rfl (by rw [hml]; rfl) (argsL := [(.long x27)]) (rest := []) (lenOf pdU_0 rfl) rfl (by show 2 * 0 + _ ≤ _; exact Nat.le_of_eq rfl) (hb hby dU_29) (fun _ _ => ⟨rfl, e23, (by decide : 0 + 0 ≤ _), (by decide : 0 + 0 ≤ _)⟩)
  dsimp only [Pt.U, Pt.locs, Pt.cells, Pt.slots] at X29 l29 y29 z29 st29 hQ29
  subst l29 y29 z29
  obtain ⟨rfl, N29q, e29⟩ := hQ29
  have N29 := Fr.app N23 N29q
  have pre32 : ∀ t, Steps p.tables e below (T29.setTop (mkF m 32 #[.val (.long q0), .second, .val (.long x27), .second] [(.long (own_fS x27))])) t → Steps p.tables e below (s₁.setTop (entryFrame m #[(.long q0)] 4)) t := fun t k => pre29 t (st29 _ k)
  obtain ⟨fs, hr, hrun, hended, hW, hsame⟩ := X29.leave (v := some (.long (own_fS x27))) (fun h => by rw [Bd.returns] at h; cases h)
  refine ⟨_, _, pre32 _ ?_, hrun, hended, _, _, rfl, ?_, ⟨_, rfl⟩, hW, hsame.mono (by decide) (by decide)⟩
  · show Steps p.tables e below (T29.setTop (mkF m 32 #[.val (.long q0), .second, .val (.long x27), .second] [(.long (own_fS x27))])) _
    exact retOut X29 hx Bd.returns rfl (Or.inr (Or.inl ⟨rfl, rfl, _, rfl⟩)) (hb hby dU_32) hr
  · show QU Z q0 h0 n0 _ T29.heap _
    rw [e29]
    have hres : (own_fS x27) = (own_fU q0) := by
      try subst hx27
      try subst hx18
      try subst hx13
      try subst hx4
      rw [own_fU]
      first | done | rfl | exact own_narB _
    exact ⟨congrArg (fun q => some (Value.long q)) hres, N29, rfl⟩
def own_sh (x : Int64) : Int64 := x ^^^ ((x.toUInt64 >>> ((33 : Int32) &&& 0x3f).toInt64.toUInt64).toInt64)
theorem own_sh_bv (x : Int64) : (own_sh x).toBitVec = x.toBitVec ^^^ (x.toBitVec >>> 33) := by
  have h : ((33 : Int32) &&& 0x3f).toInt64.toUInt64 = 33 := by decide
  show (x ^^^ ((x.toUInt64 >>> ((33 : Int32) &&& 0x3f).toInt64.toUInt64).toInt64)).toBitVec = _
  rw [h, Int64.toBitVec_xor]
  rfl
theorem own_sh_sh (x : Int64) : own_sh (own_sh x) = x := by
  apply Int64.toBitVec_inj.mp
  rw [own_sh_bv, own_sh_bv]
  apply BitVec.eq_of_getLsbD_eq
  intro i hi
  simp only [BitVec.getLsbD_xor, BitVec.getLsbD_ushiftRight]
  have h : x.toBitVec.getLsbD (33 + (33 + i)) = false := BitVec.getLsbD_of_ge _ _ (by omega)
  rw [h]
  simp
theorem own_i1 : (-49064778989728563 : Int64) * own_fI (-49064778989728563 : Int64) = 1 := by decide +kernel
theorem own_i2 : (-4265267296055464877 : Int64) * own_fI (-4265267296055464877 : Int64) = 1 := by decide +kernel
theorem own_mix (q : Int64) : own_fM q = own_sh (own_sh (own_sh q * (-49064778989728563 : Int64)) * (-4265267296055464877 : Int64)) := rfl
theorem own_unmix (q : Int64) : own_fU q = own_sh (own_sh (own_sh q * own_fI (-4265267296055464877 : Int64)) * own_fI (-49064778989728563 : Int64)) := rfl
theorem own_back (q : Int64) : own_fU (own_fM q) = q := by
  rw [own_unmix, own_mix, own_sh_sh, Int64.mul_assoc, own_i2, Int64.mul_one, own_sh_sh, Int64.mul_assoc, own_i1, Int64.mul_one, own_sh_sh]
theorem own_forth (q : Int64) : own_fM (own_fU q) = q := by
  rw [own_unmix, own_mix, own_sh_sh, Int64.mul_assoc, Int64.mul_comm (own_fI (-49064778989728563 : Int64)), own_i1, Int64.mul_one, own_sh_sh, Int64.mul_assoc, Int64.mul_comm (own_fI (-4265267296055464877 : Int64)), own_i2, Int64.mul_one, own_sh_sh]
theorem pn0 : plainName "com/example/hatua/hatua/HashIndexMixPinLaw" = true := by first | (simp [plainName, overriddenIn]; done) | decide +kernel
theorem pd0_0 : parseMethodDescriptor "(J)J" = some ⟨[.long], some .long⟩ := by decide +kernel
theorem ef0 (m : MethodId) (q0 : Int64) (q1 : Int64) : entryFrame m #[(.long q0), (.long q1)] maxLocals = mkF m 0 #[.val (.long q0), .second, .val (.long q1), .second, .unset, .unset] [] := by first | (simp [entryFrame, mkF, argsToLocals, Value.category, maxLocals]; done) | rfl
def Q0 (Z : State) (q0 : Int64) (q1 : Int64) (h0 : Heap) (n0 : Nat) (v : Option Value) (h : Heap) (L : List Loc) : Prop := v = some (.int (1 : Int32)) ∧ Fr n0 L
set_option maxRecDepth 65536 in
set_option maxHeartbeats 40000000 in
theorem rm0 (l : Launch) (Z : State) (a0 : Array Value) (hw : ∀ d ∈ tables_1, d.before a0 Z = true) (ws : List Jvm.Cond) (q0 : Int64) (q1 : Int64) (h0 : Heap) (n0 : Nat) (Z0 : n0 ≤ h0.size) :
    MetFree l x (head1 (Jvm.Cond.code x code maxLocals ret :: ws) room_1) (fun a U => a = #[(.long q0), (.long q1)] ∧ Z.Warmed39 U.vm ∧ U.heap = h0) (fun _ _ _ _ _ => True) (fun _ U o U' => ∃ v L, o = .returned v ∧ Q0 Z q0 q1 h0 n0 v U'.heap L ∧ FrameEnd U o U' L room_1.cells room_1.slots) := by
  refine MetFree.of_bodySF (plainFor_of_name pn0) hisR ?_
  intro p e s m args below meth c s₁ Bd hml0 hP hK
  obtain ⟨rfl, hZ, hh⟩ := hP
  have hx := Bd.exec
  have hby := Bd.bytes
  have hml : c.maxLocals = 6 := hml0
  have hown : s.vm.findClass "com/example/hatua/hatua/HashIndexMixPinLaw" = some m.cls := findClass_of_methodNamed Bd.named
  have hnm := (name_of_methodNamed Bd.named Bd.method).1
  have X0 : Stand p l e room_1 s m #[(.long q0), (.long q1)] below meth c s₁ [] 0 0 := Stand.of_body Bd
  have e0 : s₁.heap = h0 := by rw [← hh, Bd.state]; rfl
  have N0 := Fr.nil n0
  have pre0 : ∀ t, Steps p.tables e below (s₁.setTop (mkF m 0 #[.val (.long q0), .second, .val (.long q1), .second, .unset, .unset] [])) t → Steps p.tables e below (s₁.setTop (entryFrame m #[(.long q0), (.long q1)] maxLocals)) t := fun t k => castTop (ef0 m q0 q1) k
  have pre1 : ∀ t, Steps p.tables e below (s₁.setTop (mkF m 1 #[.val (.long q0), .second, .val (.long q1), .second, .unset, .unset] [(.long q0)])) t → Steps p.tables e below (s₁.setTop (entryFrame m #[(.long q0), (.long q1)] maxLocals)) t := fun t k => pre0 t (by
    show Steps p.tables e below (s₁.setTop (mkF m 0 #[.val (.long q0), .second, .val (.long q1), .second, .unset, .unset] [])) t
    refine XS.lloadN X0.here hx rfl (hb hby at_0) rfl ?_
    show Steps p.tables e below (s₁.setTop (mkF m 1 #[.val (.long q0), .second, .val (.long q1), .second, .unset, .unset] [(.long q0)])) _
    exact k)
  obtain ⟨_, _, ⟨T1, L1, k1, n1⟩, -, X1, ⟨Lc1, hQ1, l1, y1, z1⟩, st1⟩ := Jvm.LawKit.callS X0 hx (y := (⟨"com/example/hatua/hatua/HashIndex", "mix", "(J)J"⟩ : MethodName)) hown (mvT hZ (hw _ (List.mem_of_getElem? (i := 0) rfl))) (mvT hZ (hw _ (List.mem_of_getElem? (i := 1) rfl))) (mvT hZ (hw _ (List.mem_of_getElem? (i := 2) rfl))) (mvT hZ (hw _ (List.mem_of_getElem? (i := 3) rfl))) (by decide) (backOf (W := 0) (rmM l Z a0 hw [] q0  h0 n0 Z0 ) hZ (hw _ (List.mem_of_getElem? (i := 3) rfl)) (hw _ (List.mem_of_getElem? (i := 2) rfl)) (by decide) (by decide)) (g := (mkF m 1 #[.val (.long q0), .second, .val (.long q1), .second, .unset, .unset] [(.long q0)])) rfl (by rw [hml]; rfl) (argsL := [(.long q0)]) (rest := []) (lenOf pd0_0 rfl) rfl (by show 2 * 0 + _ ≤ _; exact Nat.le_of_eq rfl) (hb hby at_1) (fun _ _ => ⟨rfl, e0, (by decide : 0 + 0 ≤ _), (by decide : 0 + 0 ≤ _)⟩)
  dsimp only [Pt.U, Pt.locs, Pt.cells, Pt.slots] at X1 l1 y1 z1 st1 hQ1
  subst l1 y1 z1
  obtain ⟨rfl, N1q, e1⟩ := hQ1
  have N1 := Fr.app N0 N1q
  have pre4 : ∀ t, Steps p.tables e below (T1.setTop (mkF m 4 #[.val (.long q0), .second, .val (.long q1), .second, .unset, .unset] [(.long (own_fM q0))])) t → Steps p.tables e below (s₁.setTop (entryFrame m #[(.long q0), (.long q1)] maxLocals)) t := fun t k => pre1 t (st1 _ k)
  obtain ⟨_, _, ⟨T4, L4, k4, n4⟩, -, X4, ⟨Lc4, hQ4, l4, y4, z4⟩, st4⟩ := Jvm.LawKit.callS X1 hx (y := (⟨"com/example/hatua/hatua/HashIndexMixPinLaw", "unmix", "(J)J"⟩ : MethodName)) hown (mvT hZ (hw _ (List.mem_of_getElem? (i := 6) rfl))) (mvT hZ (hw _ (List.mem_of_getElem? (i := 7) rfl))) (mvT hZ (hw _ (List.mem_of_getElem? (i := 8) rfl))) (mvT hZ (hw _ (List.mem_of_getElem? (i := 9) rfl))) (by decide) (backOf (W := 0) (rmU l Z a0 hw [] (own_fM q0)  h0 n0 Z0 ) hZ (hw _ (List.mem_of_getElem? (i := 9) rfl)) (hw _ (List.mem_of_getElem? (i := 8) rfl)) (by decide) (by decide)) (g := (mkF m 4 #[.val (.long q0), .second, .val (.long q1), .second, .unset, .unset] [(.long (own_fM q0))])) rfl (by rw [hml]; rfl) (argsL := [(.long (own_fM q0))]) (rest := []) (lenOf pd0_0 rfl) rfl (by show 2 * 0 + _ ≤ _; exact Nat.le_of_eq rfl) (hb hby at_4) (fun _ _ => ⟨rfl, e1, (by decide : 0 + 0 ≤ _), (by decide : 0 + 0 ≤ _)⟩)
  dsimp only [Pt.U, Pt.locs, Pt.cells, Pt.slots] at X4 l4 y4 z4 st4 hQ4
  subst l4 y4 z4
  obtain ⟨rfl, N4q, e4⟩ := hQ4
  have N4 := Fr.app N1 N4q
  have pre7 : ∀ t, Steps p.tables e below (T4.setTop (mkF m 7 #[.val (.long q0), .second, .val (.long q1), .second, .unset, .unset] [(.long (own_fU (own_fM q0)))])) t → Steps p.tables e below (s₁.setTop (entryFrame m #[(.long q0), (.long q1)] maxLocals)) t := fun t k => pre4 t (st4 _ k)
  have pre9 : ∀ t, Steps p.tables e below (T4.setTop (mkF m 9 #[.val (.long q0), .second, .val (.long q1), .second, .unset, .unset] [(.int (lcmpW (own_fU (own_fM q0)) q0))])) t → Steps p.tables e below (s₁.setTop (entryFrame m #[(.long q0), (.long q1)] maxLocals)) t := fun t k => pre7 t (by
    show Steps p.tables e below (T4.setTop (mkF m 7 #[.val (.long q0), .second, .val (.long q1), .second, .unset, .unset] [(.long (own_fU (own_fM q0)))])) t
    refine XS.lloadN X4.here hx rfl (hb hby at_7) rfl ?_
    show Steps p.tables e below (T4.setTop (mkF m 8 #[.val (.long q0), .second, .val (.long q1), .second, .unset, .unset] [(.long q0), (.long (own_fU (own_fM q0)))])) _
    refine XS.lcmp X4.here hx rfl (hb hby at_8) rfl ?_
    show Steps p.tables e below (T4.setTop (mkF m 9 #[.val (.long q0), .second, .val (.long q1), .second, .unset, .unset] [(.int (lcmpW (own_fU (own_fM q0)) q0))])) _
    exact k)
  obtain ⟨v17_s0, hv17_s0⟩ : ∃ z : Int32, z = if ((own_fU (own_fM q0)) = q0) then (1 : Int32) else 0 := ⟨_, rfl⟩
  have pre17 : ∀ t, Steps p.tables e below (T4.setTop (mkF m 17 #[.val (.long q0), .second, .val (.long q1), .second, .unset, .unset] [(.int v17_s0)])) t → Steps p.tables e below (s₁.setTop (entryFrame m #[(.long q0), (.long q1)] maxLocals)) t := by
    by_cases hc9 : (own_fU (own_fM q0)) = q0
    · -- (own_fU (own_fM q0)) = q0
      have pre12 : ∀ t, Steps p.tables e below (T4.setTop (mkF m 12 #[.val (.long q0), .second, .val (.long q1), .second, .unset, .unset] [])) t → Steps p.tables e below (s₁.setTop (entryFrame m #[(.long q0), (.long q1)] maxLocals)) t := fun t k => pre9 t (by
        show Steps p.tables e below (T4.setTop (mkF m 9 #[.val (.long q0), .second, .val (.long q1), .second, .unset, .unset] [(.int (lcmpW (own_fU (own_fM q0)) q0))])) t
        refine XS.ifNo X4.here hx rfl (hb hby at_9) rfl ((if0 _ _).trans (teq ((lw_eq _ _).mpr hc9)).2) ?_
        exact k)
      have pre17 : ∀ t, Steps p.tables e below (T4.setTop (mkF m 17 #[.val (.long q0), .second, .val (.long q1), .second, .unset, .unset] [(.int (1 : Int32))])) t → Steps p.tables e below (s₁.setTop (entryFrame m #[(.long q0), (.long q1)] maxLocals)) t := fun t k => pre12 t (by
        show Steps p.tables e below (T4.setTop (mkF m 12 #[.val (.long q0), .second, .val (.long q1), .second, .unset, .unset] [])) t
        refine XS.iconst X4.here hx rfl (hb hby at_12) ?_
        show Steps p.tables e below (T4.setTop (mkF m 13 #[.val (.long q0), .second, .val (.long q1), .second, .unset, .unset] [(.int (1 : Int32))])) _
        refine XS.goto X4.here hx rfl (pc0 := 13) (pc' := 17) rfl (hb hby at_13) (by decide) (by decide) ?_
        show Steps p.tables e below (T4.setTop (mkF m 17 #[.val (.long q0), .second, .val (.long q1), .second, .unset, .unset] [(.int (1 : Int32))])) _
        exact k)
      have ehv17_s0 := hv17_s0.trans (if_pos hc9)
      exact fun t k => pre17 t (by subst ehv17_s0; exact k)
    · -- not (own_fU (own_fM q0)) = q0
      have pre16 : ∀ t, Steps p.tables e below (T4.setTop (mkF m 16 #[.val (.long q0), .second, .val (.long q1), .second, .unset, .unset] [])) t → Steps p.tables e below (s₁.setTop (entryFrame m #[(.long q0), (.long q1)] maxLocals)) t := fun t k => pre9 t (by
        show Steps p.tables e below (T4.setTop (mkF m 9 #[.val (.long q0), .second, .val (.long q1), .second, .unset, .unset] [(.int (lcmpW (own_fU (own_fM q0)) q0))])) t
        refine XS.ifYes X4.here hx rfl (pc0 := 9) (pc' := 16) rfl (hb hby at_9) rfl ((if0 _ _).trans (feq (fun q => hc9 ((lw_eq _ _).mp q))).2) (by decide) (by decide) ?_
        exact k)
      have pre17 : ∀ t, Steps p.tables e below (T4.setTop (mkF m 17 #[.val (.long q0), .second, .val (.long q1), .second, .unset, .unset] [(.int (0 : Int32))])) t → Steps p.tables e below (s₁.setTop (entryFrame m #[(.long q0), (.long q1)] maxLocals)) t := fun t k => pre16 t (by
        show Steps p.tables e below (T4.setTop (mkF m 16 #[.val (.long q0), .second, .val (.long q1), .second, .unset, .unset] [])) t
        refine XS.iconst X4.here hx rfl (hb hby at_16) ?_
        show Steps p.tables e below (T4.setTop (mkF m 17 #[.val (.long q0), .second, .val (.long q1), .second, .unset, .unset] [(.int (0 : Int32))])) _
        exact k)
      have ehv17_s0 := hv17_s0.trans (if_neg hc9)
      exact fun t k => pre17 t (by subst ehv17_s0; exact k)
  have pre20 : ∀ t, Steps p.tables e below (T4.setTop (mkF m 20 #[.val (.long q0), .second, .val (.long q1), .second, .val (.int v17_s0), .unset] [(.long q1)])) t → Steps p.tables e below (s₁.setTop (entryFrame m #[(.long q0), (.long q1)] maxLocals)) t := fun t k => pre17 t (by
    show Steps p.tables e below (T4.setTop (mkF m 17 #[.val (.long q0), .second, .val (.long q1), .second, .unset, .unset] [(.int v17_s0)])) t
    refine XS.istore X4.here hx rfl (hb hby at_17) rfl (l' := #[.val (.long q0), .second, .val (.long q1), .second, .val (.int v17_s0), .unset]) rfl ?_
    show Steps p.tables e below (T4.setTop (mkF m 19 #[.val (.long q0), .second, .val (.long q1), .second, .val (.int v17_s0), .unset] [])) _
    refine XS.lloadN X4.here hx rfl (hb hby at_19) rfl ?_
    show Steps p.tables e below (T4.setTop (mkF m 20 #[.val (.long q0), .second, .val (.long q1), .second, .val (.int v17_s0), .unset] [(.long q1)])) _
    exact k)
  obtain ⟨_, _, ⟨T20, L20, k20, n20⟩, -, X20, ⟨Lc20, hQ20, l20, y20, z20⟩, st20⟩ := Jvm.LawKit.callS X4 hx (y := (⟨"com/example/hatua/hatua/HashIndexMixPinLaw", "unmix", "(J)J"⟩ : MethodName)) hown (mvT hZ (hw _ (List.mem_of_getElem? (i := 6) rfl))) (mvT hZ (hw _ (List.mem_of_getElem? (i := 7) rfl))) (mvT hZ (hw _ (List.mem_of_getElem? (i := 8) rfl))) (mvT hZ (hw _ (List.mem_of_getElem? (i := 9) rfl))) (by decide) (backOf (W := 0) (rmU l Z a0 hw [] q1  h0 n0 Z0 ) hZ (hw _ (List.mem_of_getElem? (i := 9) rfl)) (hw _ (List.mem_of_getElem? (i := 8) rfl)) (by decide) (by decide)) (g := (mkF m 20 #[.val (.long q0), .second, .val (.long q1), .second, .val (.int v17_s0), .unset] [(.long q1)])) rfl (by rw [hml]; rfl) (argsL := [(.long q1)]) (rest := []) (lenOf pd0_0 rfl) rfl (by show 2 * 0 + _ ≤ _; exact Nat.le_of_eq rfl) (hb hby at_20) (fun _ _ => ⟨rfl, e4, (by decide : 0 + 0 ≤ _), (by decide : 0 + 0 ≤ _)⟩)
  dsimp only [Pt.U, Pt.locs, Pt.cells, Pt.slots] at X20 l20 y20 z20 st20 hQ20
  subst l20 y20 z20
  obtain ⟨rfl, N20q, e20⟩ := hQ20
  have N20 := Fr.app N4 N20q
  have pre23 : ∀ t, Steps p.tables e below (T20.setTop (mkF m 23 #[.val (.long q0), .second, .val (.long q1), .second, .val (.int v17_s0), .unset] [(.long (own_fU q1))])) t → Steps p.tables e below (s₁.setTop (entryFrame m #[(.long q0), (.long q1)] maxLocals)) t := fun t k => pre20 t (st20 _ k)
  obtain ⟨_, _, ⟨T23, L23, k23, n23⟩, -, X23, ⟨Lc23, hQ23, l23, y23, z23⟩, st23⟩ := Jvm.LawKit.callS X20 hx (y := (⟨"com/example/hatua/hatua/HashIndex", "mix", "(J)J"⟩ : MethodName)) hown (mvT hZ (hw _ (List.mem_of_getElem? (i := 0) rfl))) (mvT hZ (hw _ (List.mem_of_getElem? (i := 1) rfl))) (mvT hZ (hw _ (List.mem_of_getElem? (i := 2) rfl))) (mvT hZ (hw _ (List.mem_of_getElem? (i := 3) rfl))) (by decide) (backOf (W := 0) (rmM l Z a0 hw [] (own_fU q1)  h0 n0 Z0 ) hZ (hw _ (List.mem_of_getElem? (i := 3) rfl)) (hw _ (List.mem_of_getElem? (i := 2) rfl)) (by decide) (by decide)) (g := (mkF m 23 #[.val (.long q0), .second, .val (.long q1), .second, .val (.int v17_s0), .unset] [(.long (own_fU q1))])) rfl (by rw [hml]; rfl) (argsL := [(.long (own_fU q1))]) (rest := []) (lenOf pd0_0 rfl) rfl (by show 2 * 0 + _ ≤ _; exact Nat.le_of_eq rfl) (hb hby at_23) (fun _ _ => ⟨rfl, e20, (by decide : 0 + 0 ≤ _), (by decide : 0 + 0 ≤ _)⟩)
  dsimp only [Pt.U, Pt.locs, Pt.cells, Pt.slots] at X23 l23 y23 z23 st23 hQ23
  subst l23 y23 z23
  obtain ⟨rfl, N23q, e23⟩ := hQ23
  have N23 := Fr.app N20 N23q
  have pre26 : ∀ t, Steps p.tables e below (T23.setTop (mkF m 26 #[.val (.long q0), .second, .val (.long q1), .second, .val (.int v17_s0), .unset] [(.long (own_fM (own_fU q1)))])) t → Steps p.tables e below (s₁.setTop (entryFrame m #[(.long q0), (.long q1)] maxLocals)) t := fun t k => pre23 t (st23 _ k)
  have pre28 : ∀ t, Steps p.tables e below (T23.setTop (mkF m 28 #[.val (.long q0), .second, .val (.long q1), .second, .val (.int v17_s0), .unset] [(.int (lcmpW (own_fM (own_fU q1)) q1))])) t → Steps p.tables e below (s₁.setTop (entryFrame m #[(.long q0), (.long q1)] maxLocals)) t := fun t k => pre26 t (by
    show Steps p.tables e below (T23.setTop (mkF m 26 #[.val (.long q0), .second, .val (.long q1), .second, .val (.int v17_s0), .unset] [(.long (own_fM (own_fU q1)))])) t
    refine XS.lloadN X23.here hx rfl (hb hby at_26) rfl ?_
    show Steps p.tables e below (T23.setTop (mkF m 27 #[.val (.long q0), .second, .val (.long q1), .second, .val (.int v17_s0), .unset] [(.long q1), (.long (own_fM (own_fU q1)))])) _
    refine XS.lcmp X23.here hx rfl (hb hby at_27) rfl ?_
    show Steps p.tables e below (T23.setTop (mkF m 28 #[.val (.long q0), .second, .val (.long q1), .second, .val (.int v17_s0), .unset] [(.int (lcmpW (own_fM (own_fU q1)) q1))])) _
    exact k)
  obtain ⟨v36_s0, hv36_s0⟩ : ∃ z : Int32, z = if ((own_fM (own_fU q1)) = q1) then (1 : Int32) else 0 := ⟨_, rfl⟩
  have pre36 : ∀ t, Steps p.tables e below (T23.setTop (mkF m 36 #[.val (.long q0), .second, .val (.long q1), .second, .val (.int v17_s0), .unset] [(.int v36_s0)])) t → Steps p.tables e below (s₁.setTop (entryFrame m #[(.long q0), (.long q1)] maxLocals)) t := by
    by_cases hc28 : (own_fM (own_fU q1)) = q1
    · -- (own_fM (own_fU q1)) = q1
      have pre31 : ∀ t, Steps p.tables e below (T23.setTop (mkF m 31 #[.val (.long q0), .second, .val (.long q1), .second, .val (.int v17_s0), .unset] [])) t → Steps p.tables e below (s₁.setTop (entryFrame m #[(.long q0), (.long q1)] maxLocals)) t := fun t k => pre28 t (by
        show Steps p.tables e below (T23.setTop (mkF m 28 #[.val (.long q0), .second, .val (.long q1), .second, .val (.int v17_s0), .unset] [(.int (lcmpW (own_fM (own_fU q1)) q1))])) t
        refine XS.ifNo X23.here hx rfl (hb hby at_28) rfl ((if0 _ _).trans (teq ((lw_eq _ _).mpr hc28)).2) ?_
        exact k)
      have pre36 : ∀ t, Steps p.tables e below (T23.setTop (mkF m 36 #[.val (.long q0), .second, .val (.long q1), .second, .val (.int v17_s0), .unset] [(.int (1 : Int32))])) t → Steps p.tables e below (s₁.setTop (entryFrame m #[(.long q0), (.long q1)] maxLocals)) t := fun t k => pre31 t (by
        show Steps p.tables e below (T23.setTop (mkF m 31 #[.val (.long q0), .second, .val (.long q1), .second, .val (.int v17_s0), .unset] [])) t
        refine XS.iconst X23.here hx rfl (hb hby at_31) ?_
        show Steps p.tables e below (T23.setTop (mkF m 32 #[.val (.long q0), .second, .val (.long q1), .second, .val (.int v17_s0), .unset] [(.int (1 : Int32))])) _
        refine XS.goto X23.here hx rfl (pc0 := 32) (pc' := 36) rfl (hb hby at_32) (by decide) (by decide) ?_
        show Steps p.tables e below (T23.setTop (mkF m 36 #[.val (.long q0), .second, .val (.long q1), .second, .val (.int v17_s0), .unset] [(.int (1 : Int32))])) _
        exact k)
      have ehv36_s0 := hv36_s0.trans (if_pos hc28)
      exact fun t k => pre36 t (by subst ehv36_s0; exact k)
    · -- not (own_fM (own_fU q1)) = q1
      have pre35 : ∀ t, Steps p.tables e below (T23.setTop (mkF m 35 #[.val (.long q0), .second, .val (.long q1), .second, .val (.int v17_s0), .unset] [])) t → Steps p.tables e below (s₁.setTop (entryFrame m #[(.long q0), (.long q1)] maxLocals)) t := fun t k => pre28 t (by
        show Steps p.tables e below (T23.setTop (mkF m 28 #[.val (.long q0), .second, .val (.long q1), .second, .val (.int v17_s0), .unset] [(.int (lcmpW (own_fM (own_fU q1)) q1))])) t
        refine XS.ifYes X23.here hx rfl (pc0 := 28) (pc' := 35) rfl (hb hby at_28) rfl ((if0 _ _).trans (feq (fun q => hc28 ((lw_eq _ _).mp q))).2) (by decide) (by decide) ?_
        exact k)
      have pre36 : ∀ t, Steps p.tables e below (T23.setTop (mkF m 36 #[.val (.long q0), .second, .val (.long q1), .second, .val (.int v17_s0), .unset] [(.int (0 : Int32))])) t → Steps p.tables e below (s₁.setTop (entryFrame m #[(.long q0), (.long q1)] maxLocals)) t := fun t k => pre35 t (by
        show Steps p.tables e below (T23.setTop (mkF m 35 #[.val (.long q0), .second, .val (.long q1), .second, .val (.int v17_s0), .unset] [])) t
        refine XS.iconst X23.here hx rfl (hb hby at_35) ?_
        show Steps p.tables e below (T23.setTop (mkF m 36 #[.val (.long q0), .second, .val (.long q1), .second, .val (.int v17_s0), .unset] [(.int (0 : Int32))])) _
        exact k)
      have ehv36_s0 := hv36_s0.trans (if_neg hc28)
      exact fun t k => pre36 t (by subst ehv36_s0; exact k)
  have pre40 : ∀ t, Steps p.tables e below (T23.setTop (mkF m 40 #[.val (.long q0), .second, .val (.long q1), .second, .val (.int v17_s0), .val (.int v36_s0)] [(.int v17_s0)])) t → Steps p.tables e below (s₁.setTop (entryFrame m #[(.long q0), (.long q1)] maxLocals)) t := fun t k => pre36 t (by
    show Steps p.tables e below (T23.setTop (mkF m 36 #[.val (.long q0), .second, .val (.long q1), .second, .val (.int v17_s0), .unset] [(.int v36_s0)])) t
    refine XS.istore X23.here hx rfl (hb hby at_36) rfl (l' := #[.val (.long q0), .second, .val (.long q1), .second, .val (.int v17_s0), .val (.int v36_s0)]) rfl ?_
    show Steps p.tables e below (T23.setTop (mkF m 38 #[.val (.long q0), .second, .val (.long q1), .second, .val (.int v17_s0), .val (.int v36_s0)] [])) _
    refine XS.iload X23.here hx rfl (hb hby at_38) rfl ?_
    show Steps p.tables e below (T23.setTop (mkF m 40 #[.val (.long q0), .second, .val (.long q1), .second, .val (.int v17_s0), .val (.int v36_s0)] [(.int v17_s0)])) _
    exact k)
  obtain ⟨v53_s0, hv53_s0⟩ : ∃ z : Int32, z = if ((((own_fU (own_fM q0)) = q0)) ∧ (((own_fM (own_fU q1)) = q1))) then (1 : Int32) else 0 := ⟨_, rfl⟩
  have pre53 : ∀ t, Steps p.tables e below (T23.setTop (mkF m 53 #[.val (.long q0), .second, .val (.long q1), .second, .val (.int v17_s0), .val (.int v36_s0)] [(.int v53_s0)])) t → Steps p.tables e below (s₁.setTop (entryFrame m #[(.long q0), (.long q1)] maxLocals)) t := by
    by_cases hc40 : ((own_fU (own_fM q0)) = q0)
    · -- ((own_fU (own_fM q0)) = q0)
      have pre43 : ∀ t, Steps p.tables e below (T23.setTop (mkF m 43 #[.val (.long q0), .second, .val (.long q1), .second, .val (.int v17_s0), .val (.int v36_s0)] [])) t → Steps p.tables e below (s₁.setTop (entryFrame m #[(.long q0), (.long q1)] maxLocals)) t := fun t k => pre40 t (by
        show Steps p.tables e below (T23.setTop (mkF m 40 #[.val (.long q0), .second, .val (.long q1), .second, .val (.int v17_s0), .val (.int v36_s0)] [(.int v17_s0)])) t
        refine XS.ifNo X23.here hx rfl (hb hby at_40) rfl ((if0 _ _).trans (feq (by rw [hv17_s0, if_pos hc40]; decide)).1) ?_
        exact k)
      have pre45 : ∀ t, Steps p.tables e below (T23.setTop (mkF m 45 #[.val (.long q0), .second, .val (.long q1), .second, .val (.int v17_s0), .val (.int v36_s0)] [(.int v36_s0)])) t → Steps p.tables e below (s₁.setTop (entryFrame m #[(.long q0), (.long q1)] maxLocals)) t := fun t k => pre43 t (by
        show Steps p.tables e below (T23.setTop (mkF m 43 #[.val (.long q0), .second, .val (.long q1), .second, .val (.int v17_s0), .val (.int v36_s0)] [])) t
        refine XS.iload X23.here hx rfl (hb hby at_43) rfl ?_
        show Steps p.tables e below (T23.setTop (mkF m 45 #[.val (.long q0), .second, .val (.long q1), .second, .val (.int v17_s0), .val (.int v36_s0)] [(.int v36_s0)])) _
        exact k)
      by_cases hc45 : ((own_fM (own_fU q1)) = q1)
      · -- ((own_fM (own_fU q1)) = q1)
        have pre48 : ∀ t, Steps p.tables e below (T23.setTop (mkF m 48 #[.val (.long q0), .second, .val (.long q1), .second, .val (.int v17_s0), .val (.int v36_s0)] [])) t → Steps p.tables e below (s₁.setTop (entryFrame m #[(.long q0), (.long q1)] maxLocals)) t := fun t k => pre45 t (by
          show Steps p.tables e below (T23.setTop (mkF m 45 #[.val (.long q0), .second, .val (.long q1), .second, .val (.int v17_s0), .val (.int v36_s0)] [(.int v36_s0)])) t
          refine XS.ifNo X23.here hx rfl (hb hby at_45) rfl ((if0 _ _).trans (feq (by rw [hv36_s0, if_pos hc45]; decide)).1) ?_
          exact k)
        have pre53 : ∀ t, Steps p.tables e below (T23.setTop (mkF m 53 #[.val (.long q0), .second, .val (.long q1), .second, .val (.int v17_s0), .val (.int v36_s0)] [(.int (1 : Int32))])) t → Steps p.tables e below (s₁.setTop (entryFrame m #[(.long q0), (.long q1)] maxLocals)) t := fun t k => pre48 t (by
          show Steps p.tables e below (T23.setTop (mkF m 48 #[.val (.long q0), .second, .val (.long q1), .second, .val (.int v17_s0), .val (.int v36_s0)] [])) t
          refine XS.iconst X23.here hx rfl (hb hby at_48) ?_
          show Steps p.tables e below (T23.setTop (mkF m 49 #[.val (.long q0), .second, .val (.long q1), .second, .val (.int v17_s0), .val (.int v36_s0)] [(.int (1 : Int32))])) _
          refine XS.goto X23.here hx rfl (pc0 := 49) (pc' := 53) rfl (hb hby at_49) (by decide) (by decide) ?_
          show Steps p.tables e below (T23.setTop (mkF m 53 #[.val (.long q0), .second, .val (.long q1), .second, .val (.int v17_s0), .val (.int v36_s0)] [(.int (1 : Int32))])) _
          exact k)
        have ehv53_s0 := hv53_s0.trans (if_pos ⟨hc40, hc45⟩)
        exact fun t k => pre53 t (by subst ehv53_s0; exact k)
      · -- not ((own_fM (own_fU q1)) = q1)
        have pre52 : ∀ t, Steps p.tables e below (T23.setTop (mkF m 52 #[.val (.long q0), .second, .val (.long q1), .second, .val (.int v17_s0), .val (.int v36_s0)] [])) t → Steps p.tables e below (s₁.setTop (entryFrame m #[(.long q0), (.long q1)] maxLocals)) t := fun t k => pre45 t (by
          show Steps p.tables e below (T23.setTop (mkF m 45 #[.val (.long q0), .second, .val (.long q1), .second, .val (.int v17_s0), .val (.int v36_s0)] [(.int v36_s0)])) t
          refine XS.ifYes X23.here hx rfl (pc0 := 45) (pc' := 52) rfl (hb hby at_45) rfl ((if0 _ _).trans (teq (by rw [hv36_s0, if_neg hc45])).1) (by decide) (by decide) ?_
          exact k)
        have pre53 : ∀ t, Steps p.tables e below (T23.setTop (mkF m 53 #[.val (.long q0), .second, .val (.long q1), .second, .val (.int v17_s0), .val (.int v36_s0)] [(.int (0 : Int32))])) t → Steps p.tables e below (s₁.setTop (entryFrame m #[(.long q0), (.long q1)] maxLocals)) t := fun t k => pre52 t (by
          show Steps p.tables e below (T23.setTop (mkF m 52 #[.val (.long q0), .second, .val (.long q1), .second, .val (.int v17_s0), .val (.int v36_s0)] [])) t
          refine XS.iconst X23.here hx rfl (hb hby at_52) ?_
          show Steps p.tables e below (T23.setTop (mkF m 53 #[.val (.long q0), .second, .val (.long q1), .second, .val (.int v17_s0), .val (.int v36_s0)] [(.int (0 : Int32))])) _
          exact k)
        have ehv53_s0 := hv53_s0.trans (if_neg (fun r => hc45 r.2))
        exact fun t k => pre53 t (by subst ehv53_s0; exact k)
    · -- not ((own_fU (own_fM q0)) = q0)
      have pre52 : ∀ t, Steps p.tables e below (T23.setTop (mkF m 52 #[.val (.long q0), .second, .val (.long q1), .second, .val (.int v17_s0), .val (.int v36_s0)] [])) t → Steps p.tables e below (s₁.setTop (entryFrame m #[(.long q0), (.long q1)] maxLocals)) t := fun t k => pre40 t (by
        show Steps p.tables e below (T23.setTop (mkF m 40 #[.val (.long q0), .second, .val (.long q1), .second, .val (.int v17_s0), .val (.int v36_s0)] [(.int v17_s0)])) t
        refine XS.ifYes X23.here hx rfl (pc0 := 40) (pc' := 52) rfl (hb hby at_40) rfl ((if0 _ _).trans (teq (by rw [hv17_s0, if_neg hc40])).1) (by decide) (by decide) ?_
        exact k)
      have pre53 : ∀ t, Steps p.tables e below (T23.setTop (mkF m 53 #[.val (.long q0), .second, .val (.long q1), .second, .val (.int v17_s0), .val (.int v36_s0)] [(.int (0 : Int32))])) t → Steps p.tables e below (s₁.setTop (entryFrame m #[(.long q0), (.long q1)] maxLocals)) t := fun t k => pre52 t (by
        show Steps p.tables e below (T23.setTop (mkF m 52 #[.val (.long q0), .second, .val (.long q1), .second, .val (.int v17_s0), .val (.int v36_s0)] [])) t
        refine XS.iconst X23.here hx rfl (hb hby at_52) ?_
        show Steps p.tables e below (T23.setTop (mkF m 53 #[.val (.long q0), .second, .val (.long q1), .second, .val (.int v17_s0), .val (.int v36_s0)] [(.int (0 : Int32))])) _
        exact k)
      have ehv53_s0 := hv53_s0.trans (if_neg (fun q => hc40 q.1))
      exact fun t k => pre53 t (by subst ehv53_s0; exact k)
  obtain ⟨fs, hr, hrun, hended, hW, hsame⟩ := X23.leave (v := some (.int (nar .boolean v53_s0))) (fun h => by rw [Bd.returns] at h; cases h)
  refine ⟨_, _, pre53 _ ?_, hrun, hended, _, _, rfl, ?_, ⟨_, rfl⟩, hW, hsame.mono (by decide) (by decide)⟩
  · show Steps p.tables e below (T23.setTop (mkF m 53 #[.val (.long q0), .second, .val (.long q1), .second, .val (.int v17_s0), .val (.int v36_s0)] [(.int v53_s0)])) _
    exact retN X23 hx (t := .boolean) Bd.returns (by simp) (hb hby at_53) hr
  · show Q0 Z q0 q1 h0 n0 _ T23.heap _
    rw [e23]
    have hres : (nar .boolean v53_s0) = (1 : Int32) := by
      rw [hv53_s0, own_narB]; exact if_pos ⟨own_back q0, own_forth q1⟩
    exact ⟨congrArg (fun q => some (Value.int q)) hres, N23⟩
set_option maxRecDepth 65536 in
set_option maxHeartbeats 40000000 in
theorem comes_1 {Post : Tables → Env → Array Value → State → Outcome → State → Prop} (hpost : ∀ tb e args s v u, (limb_1_1.after args s (.returned v) u = true ∧ limb_1_2.after args s (.returned v) u = true ∧ True) → FrameEnd s (.returned v) u (Jvm.fieldLocs frame_1_writes args s ++ Jvm.arrayLocs frame_1_arrays args s ++ Jvm.staticLocs frame_1_statics s) 0 0 → Post tb e args s (.returned v) u) :
    ArmFor flags0 classFile x code maxLocals ret World_1 tables_1 room_1 Calls_1 rest_1 Pre_1 Post := by
  intro l hfl _ _ p e ha hc hk s m args below hf hA hF happ hP
  obtain ⟨hcalls, hrest, hpre⟩ := hP
  obtain ⟨-, -, -, hnamed, -, -, -, hat⟩ := (Spec.applies_iff hf).mp happ
  obtain ⟨hg, hn⟩ := and_e (Cond.before_iff.mp (show (Jvm.Cond.and given_1 narrow_1).before args s = true from hpre))
  obtain ⟨gc, g0⟩ := and_e hg
  obtain ⟨ga0, g1⟩ := and_e g0
  obtain ⟨w0, w1, rfl⟩ : ∃ w0 w1 : Value, args = #[w0, w1] := by
    have hs : args.size = 2 := by simpa [Cond.value, given_1] using gc
    obtain ⟨L⟩ := args
    match L, hs with
    | [w0, w1], _ => exact ⟨w0, w1, rfl⟩
  have hw := fun d (hd : d ∈ tables_1) => atoms_spec (ws := Jvm.Cond.code x code maxLocals ret :: tables_1) hat d (List.mem_cons_of_mem _ hd)
  have hfit : Fit s := fun {y c} hc i hi => by
    obtain ⟨ha, rfl⟩ := Array.getElem?_eq_some_iff.mp hc
    have q := List.all_eq_true.mp ((Array.all_eq_true_iff_forall_mem.mp hF) _ (Array.getElem_mem ha)) i (List.mem_range.mpr hi)
    simpa [Array.getElem?_eq_getElem hi] using q
  obtain ⟨i0, ei0⟩ := isL_v ga0
  obtain rfl : w0 = (.long i0) := Option.some.inj ei0
  obtain ⟨i1, ei1⟩ := isL_v g1
  obtain rfl : w1 = (.long i1) := Option.some.inj ei1
  obtain ⟨n, o, h1, h2, h3, _, L, rfl, ⟨rfl, N⟩, hq⟩ := rm0 l s _ hw tables_1 i0 i1 s.heap s.heap.size (Nat.le_refl _)  p e ha hc hk s m _ below hf ((Spec.applies_iff_loose hf).mp happ).1 ⟨rfl, State.Warmed39.refl s, rfl⟩ trivial
  refine ⟨n, _, h1, h2, h3, hpost _ _ _ _ _ _ ⟨Cond.after_iff.mpr rfl, Cond.after_iff.mpr (eq_i res_at (Term.int_eval (1)) rfl), trivial⟩ ⟨hq.1, hq.2.1, (hq.2.2.sift fun y hy => Or.inr (N y hy)).mono (by decide) (by decide)⟩⟩
theorem main_1_1 : Claimed_1_1 := comes_1 fun _ _ _ _ _ _ h hF => ⟨h.1, hF⟩
theorem main_1_2 : Claimed_1_2 := comes_1 fun _ _ _ _ _ _ h hF => ⟨h.2.1, hF⟩
end Jvm.Pilot.@@N@@
namespace Jvm.Pilot.@@N@@
open Jvm Jvm.ClassFile Sem Op Lib Jvm.Free Jvm.Stand Jvm.Pilot.@@N@@.Jvm.D
/-! MADE BY PROGRAM (witnessworld.py) out of the Statement's table words and the real class files: 9 classes; the members and pool entries that the words name. The judged class is class 1, her method 4. -/
namespace start1
open Jvm.ClassFile
def u (s : String) : CpInfo := .utf8 (stringToUtf16 s)
/-- a pool by its gaps: so many unusable entries, then the entry; so many at the end -/
def gap : Nat → List CpInfo → List CpInfo
  | 0, r => r
  | n + 1, r => .unusable :: gap n r
def poolList (es : List (Nat × CpInfo)) (last : Nat) : List CpInfo := es.foldr (fun e r => gap e.1 (e.2 :: r)) (gap last [])
def pool (es : List (Nat × CpInfo)) (last : Nat) : Array CpInfo := ⟨poolList es last⟩
def fileOf (pool : Array CpInfo) (this : Nat) (attrs : Array Attribute := #[]) (ms : Array MethodInfo := #[]) (fl : Nat := 33) (sup : Nat := 0) (ifs : Array Nat := #[]) (fds : Array FieldInfo := #[]) : ClassFile where
  minorVersion := 0
  majorVersion := 65
  constantPool := pool
  accessFlags := fl
  thisClass := this
  superClass := sup
  interfaces := ifs
  fields := fds
  methods := ms
  attributes := attrs
def plain (name : String) (sup : Option ClassId) : Class where
  name := name
  kind := .ordinary
  loader := none
  accessFlags := 33
  super := sup
  interfaces := #[]
  cf := none
  fields := #[]
  methods := #[]
  instanceTypes := #[]
  staticTypes := #[]
  resolved := #[]
  callSites := []
  init := .initialized
  statics := none
  mirror := none

def pool0 : Array CpInfo := pool [(5, u "<init>"), (0, u "()V"), (1, .class_ 10), (1, u "java/lang/Object")] 113

def k0m0 : Method := { name := "<init>", desc := "()V", sig := { parameters := [], returnType := none }, accessFlags := 1, code := none }
/-- java/lang/Object -/
def k0 : Class := { plain "java/lang/Object" none with
  accessFlags := 33
  interfaces := #[]
  cf := some (fileOf pool0 8 #[] #[{ accessFlags := 1, nameIndex := 5, descriptorIndex := 6, attributes := #[] }] 33 0 #[] #[])
  fields := #[]
  methods := #[k0m0]
  instanceTypes := #[]
  staticTypes := #[]
  resolved := Array.replicate 124 none
  statics := none }

def pool1 : Array CpInfo := pool [(2, .class_ 4), (1, u "java/lang/Object"), (0, u "<init>"), (0, u "()V"), (0, .long 2), (1, .methodref 10 11), (0, .class_ 12), (0, .nameAndType 13 14), (0, u "com/example/hatua/hatua/HashIndexMixPinLaw"), (0, u "unshift"), (0, u "(J)J"), (0, .long 14181476777654086739), (1, .methodref 10 18), (0, .nameAndType 19 14), (0, u "inverse"), (0, .long 18397679294719823053), (1, .methodref 23 24), (0, .class_ 25), (0, .nameAndType 26 14), (0, u "com/example/hatua/hatua/HashIndex"), (0, u "mix"), (0, .methodref 10 28), (0, .nameAndType 29 14), (0, u "unmix"), (0, u "C1"), (0, u "J"), (1, u "C2"), (2, u "law"), (0, u "(JJ)Z")] 3

def k1m0 : Method := { name := "<init>", desc := "()V", sig := { parameters := [], returnType := none }, accessFlags := 1, code := none }
def k1c1 : Code := { maxStack := 8, maxLocals := 4, code := method_2_code, exceptionTable := #[], attributes := #[] }
def k1m1 : Method := { name := "inverse", desc := "(J)J", sig := { parameters := [.long], returnType := some .long }, accessFlags := 10, code := some k1c1 }
def k1c2 : Code := { maxStack := 5, maxLocals := 2, code := method_3_code, exceptionTable := #[], attributes := #[] }
def k1m2 : Method := { name := "unshift", desc := "(J)J", sig := { parameters := [.long], returnType := some .long }, accessFlags := 10, code := some k1c2 }
def k1c3 : Code := { maxStack := 4, maxLocals := 4, code := method_4_code, exceptionTable := #[], attributes := #[] }
def k1m3 : Method := { name := "unmix", desc := "(J)J", sig := { parameters := [.long], returnType := some .long }, accessFlags := 10, code := some k1c3 }
def k1c4 : Code := { maxStack := 4, maxLocals := 6, code := code, exceptionTable := #[], attributes := #[] }
def k1m4 : Method := { name := "law", desc := "(JJ)Z", sig := { parameters := [.long, .long], returnType := some .boolean }, accessFlags := 9, code := some k1c4 }
/-- com/example/hatua/hatua/HashIndexMixPinLaw -/
def k1 : Class := { plain "com/example/hatua/hatua/HashIndexMixPinLaw" (some 0) with
  accessFlags := 49
  interfaces := #[]
  cf := some (fileOf pool1 10 #[] #[{ accessFlags := 1, nameIndex := 5, descriptorIndex := 6, attributes := #[] }, { accessFlags := 10, nameIndex := 19, descriptorIndex := 14, attributes := #[] }, { accessFlags := 10, nameIndex := 13, descriptorIndex := 14, attributes := #[] }, { accessFlags := 10, nameIndex := 29, descriptorIndex := 14, attributes := #[] }, { accessFlags := 9, nameIndex := 36, descriptorIndex := 37, attributes := #[] }] 49 2 #[] #[{ accessFlags := 26, nameIndex := 30, descriptorIndex := 31, attributes := #[] }, { accessFlags := 26, nameIndex := 33, descriptorIndex := 31, attributes := #[] }])
  fields := #[{ name := "C1", type := .long, accessFlags := 26, slot := 0, constantValue := 0 }, { name := "C2", type := .long, accessFlags := 26, slot := 1, constantValue := 0 }]
  methods := #[k1m0, k1m1, k1m2, k1m3, k1m4]
  instanceTypes := #[]
  staticTypes := #[.long, .long]
  resolved := Array.replicate 41 none
  statics := none }

def pool2 : Array CpInfo := pool [(2, .class_ 4), (1, u "java/lang/Object"), (0, u "<init>"), (0, u "()V"), (1, .class_ 10), (1, u "com/example/hatua/hatua/HashIndex"), (0, u "slots"), (0, u "[J"), (10, .long 18397679294719823053), (1, .long 14181476777654086739), (3, u "size"), (0, u "I"), (12, u "MAX_SLOTS"), (6, u "mix"), (0, u "(J)J")] 3

def k2m0 : Method := { name := "<init>", desc := "()V", sig := { parameters := [], returnType := none }, accessFlags := 0, code := none }
def k2c1 : Code := { maxStack := 5, maxLocals := 4, code := prog_67_method_3_code, exceptionTable := #[], attributes := #[] }
def k2m1 : Method := { name := "mix", desc := "(J)J", sig := { parameters := [.long], returnType := some .long }, accessFlags := 8, code := some k2c1 }
/-- com/example/hatua/hatua/HashIndex -/
def k2 : Class := { plain "com/example/hatua/hatua/HashIndex" (some 0) with
  accessFlags := 48
  interfaces := #[]
  cf := some (fileOf pool2 8 #[] #[{ accessFlags := 0, nameIndex := 5, descriptorIndex := 6, attributes := #[] }, { accessFlags := 8, nameIndex := 50, descriptorIndex := 51, attributes := #[] }] 48 2 #[] #[{ accessFlags := 26, nameIndex := 43, descriptorIndex := 30, attributes := #[] }, { accessFlags := 2, nameIndex := 11, descriptorIndex := 12, attributes := #[] }, { accessFlags := 2, nameIndex := 29, descriptorIndex := 30, attributes := #[] }])
  fields := #[{ name := "MAX_SLOTS", type := .int, accessFlags := 26, slot := 0, constantValue := 0 }, { name := "slots", type := (.array .long), accessFlags := 2, slot := 0, constantValue := 0 }, { name := "size", type := .int, accessFlags := 2, slot := 1, constantValue := 0 }]
  methods := #[k2m0, k2m1]
  instanceTypes := #[(.array .long), .int]
  staticTypes := #[.int]
  resolved := Array.replicate 55 none
  statics := none }

def pool3 : Array CpInfo := pool [(1, u "java/lang/Cloneable"), (0, .class_ 1), (0, u "java/lang/Object"), (0, .class_ 3)] 3

/-- java/lang/Cloneable -/
def k3 : Class := { plain "java/lang/Cloneable" (some 0) with
  accessFlags := 1537
  interfaces := #[]
  cf := some (fileOf pool3 2 #[] #[] 1537 4 #[] #[])
  fields := #[]
  methods := #[]
  instanceTypes := #[]
  staticTypes := #[]
  resolved := Array.replicate 8 none
  statics := none }

def pool4 : Array CpInfo := pool [(1, u "java/io/Serializable"), (0, .class_ 1), (0, u "java/lang/Object"), (0, .class_ 3)] 3

/-- java/io/Serializable -/
def k4 : Class := { plain "java/io/Serializable" (some 0) with
  accessFlags := 1537
  interfaces := #[]
  cf := some (fileOf pool4 2 #[] #[] 1537 4 #[] #[])
  fields := #[]
  methods := #[]
  instanceTypes := #[]
  staticTypes := #[]
  resolved := Array.replicate 8 none
  statics := none }

/-- the primitive byte -/
def k5 : Class := { plain "byte" none with kind := .primitive 'B', accessFlags := 0x411 }
/-- [B -/
def k6 : Class := { plain "[B" (some 0) with kind := .array 5 .byte, interfaces := #[3, 4], accessFlags := 1041 }

/-- the primitive int -/
def k7 : Class := { plain "int" none with kind := .primitive 'I', accessFlags := 0x411 }
/-- [I -/
def k8 : Class := { plain "[I" (some 0) with kind := .array 7 .int, interfaces := #[3, 4], accessFlags := 1041 }

def heap : Heap := #[]
def classes : Array Class := #[k0, k1, k2, k3, k4, k5, k6, k7, k8]
def interned : List (Array UInt16 × Addr) := []
def slotsUsed : Nat := 0
def theMethod : MethodId := ⟨1, 4⟩
def args0 : Array Value := #[.long 5, .long 7]
def aboutOver (below : List Frame) : State where
  vm := { classes := classes, interned := interned.toArray }
  heap := heap
  slotsUsed := slotsUsed
  threads := #[{ frames := .invoking theMethod args0 :: below }]
def below0 : List Frame := [.native { method := ⟨0, 0⟩, args := #[] }]
def about1 : State := aboutOver below0
def p0 : Program := .bare "" "" ""
def e0 : Env := launch0.env 0 0 0
theorem w_frames : about1.frames = Frame.invoking theMethod args0 :: below0 := rfl
set_option maxRecDepth 65536 in
theorem w_args : argsFit about1.vm theMethod args0 = true := by decide +kernel
set_option maxRecDepth 65536 in
theorem w_heap : heapFits about1 = true := by decide +kernel
set_option maxRecDepth 65536 in
theorem w_runnable : about1.curStatus? = some .runnable := by decide +kernel
set_option maxRecDepth 65536 in
theorem w_alone : about1.alone = true := by decide +kernel
set_option maxRecDepth 65536 in
theorem w_named : about1.methodNamed? x = some theMethod := by decide +kernel
set_option maxRecDepth 65536 in
theorem w_hears : about1.hears theMethod below0 = true := by decide +kernel
set_option maxRecDepth 65536 in
theorem w_ripe : about1.ripe theMethod args0 below0 = true := by decide +kernel
theorem w_running : about1.status = .running := rfl
set_option maxRecDepth 65536 in
theorem w_room : about1.hasRoom e0.platform room_1 = true :=
  launch0.hasRoom_least _ room_1 (by decide +kernel) (by decide +kernel) (by decide +kernel) (by decide +kernel) (by decide +kernel) (by decide +kernel)
theorem allAtoms_all (ts : List Jvm.Cond) (a : Array Jvm.Value) (st : Jvm.State) : (allAtoms ts).before a st = ts.all (fun c => c.before a st) := by
  induction ts with
  | nil => rfl
  | cons c t ih =>
    show (Jvm.Cond.and c (allAtoms t)).before a st = _
    rw [Jvm.Cond.before_and, ih, List.all_cons]
def words1 : List Jvm.Cond := Jvm.Cond.code x code maxLocals ret :: tables_1
/-- a 'code' word, met by the world's own term for the bytes: nothing is compared byte by byte -/
theorem code_word {y : MethodName} {bytes : ByteArray} {mx : Nat} {rt : Option FieldType} {a : Array Value} {s : State} {m : MethodId} {meth : Method} {c : Code} (h1 : s.methodNamed? y = some m) (h2 : s.vm.method? m = some meth) (h3 : meth.code = some c) (h4 : c.code = bytes)
    (h5 : (c.maxLocals == mx && c.exceptionTable.isEmpty && decide (c.maxStack ≤ mostOperands) && decide (meth.sig.returnType = rt) && !meth.locks && decide (parseMethodDescriptor y.desc = some meth.sig)) = true) : (Jvm.Cond.code y bytes mx rt).before a s = true := by
  simp only [Bool.and_eq_true, beq_iff_eq, Bool.not_eq_true', decide_eq_true_eq] at h5
  obtain ⟨⟨⟨⟨⟨g1, g2⟩, g3⟩, g4⟩, g5⟩, g6⟩ := h5
  simp [Cond.before, Cond.holds, Cond.value, h1, h2, h3, h4, g1, g2, g3, g4, g5, g6]
def isCode : Jvm.Cond → Bool
  | .code _ _ _ _ => true
  | _ => false
theorem all_split {L : List Jvm.Cond} {P : Jvm.Cond → Bool} (h1 : L.all (fun c => isCode c || P c) = true) (h2 : ∀ c ∈ L.filter isCode, P c = true) : L.all P = true := by
  refine List.all_eq_true.mpr fun c hc => ?_
  have h := List.all_eq_true.mp h1 c hc
  rcases Bool.eq_false_or_eq_true (isCode c) with hi | hi
  · exact h2 c (List.mem_filter.mpr ⟨hc, hi⟩)
  · simpa [hi] using h
set_option maxRecDepth 65536 in
theorem w_c0 : (Jvm.Cond.code x code maxLocals ret).before args0 about1 = true := code_word (m := ⟨1, 4⟩) (meth := k1m4) (c := k1c4) (by decide +kernel) rfl rfl rfl (by decide +kernel)
set_option maxRecDepth 65536 in
theorem w_c1 : (Jvm.Cond.code ({ cls := "com/example/hatua/hatua/HashIndex", name := "mix", desc := "(J)J" } : Jvm.MethodName) prog_67_method_3_code (4 : Nat) (Option.some Jvm.ClassFile.FieldType.long)).before args0 about1 = true := code_word (m := ⟨2, 1⟩) (meth := k2m1) (c := k2c1) (by decide +kernel) rfl rfl rfl (by decide +kernel)
set_option maxRecDepth 65536 in
theorem w_c2 : (Jvm.Cond.code ({ cls := "com/example/hatua/hatua/HashIndexMixPinLaw", name := "unmix", desc := "(J)J" } : Jvm.MethodName) method_4_code (4 : Nat) (Option.some Jvm.ClassFile.FieldType.long)).before args0 about1 = true := code_word (m := ⟨1, 3⟩) (meth := k1m3) (c := k1c3) (by decide +kernel) rfl rfl rfl (by decide +kernel)
set_option maxRecDepth 65536 in
theorem w_c3 : (Jvm.Cond.code ({ cls := "com/example/hatua/hatua/HashIndexMixPinLaw", name := "unshift", desc := "(J)J" } : Jvm.MethodName) method_3_code (2 : Nat) (Option.some Jvm.ClassFile.FieldType.long)).before args0 about1 = true := code_word (m := ⟨1, 2⟩) (meth := k1m2) (c := k1c2) (by decide +kernel) rfl rfl rfl (by decide +kernel)
set_option maxRecDepth 65536 in
theorem w_c4 : (Jvm.Cond.code ({ cls := "com/example/hatua/hatua/HashIndexMixPinLaw", name := "inverse", desc := "(J)J" } : Jvm.MethodName) method_2_code (4 : Nat) (Option.some Jvm.ClassFile.FieldType.long)).before args0 about1 = true := code_word (m := ⟨1, 1⟩) (meth := k1m1) (c := k1c1) (by decide +kernel) rfl rfl rfl (by decide +kernel)
def codes1 : List Jvm.Cond := [Jvm.Cond.code x code maxLocals ret, Jvm.Cond.code ({ cls := "com/example/hatua/hatua/HashIndex", name := "mix", desc := "(J)J" } : Jvm.MethodName) prog_67_method_3_code (4 : Nat) (Option.some Jvm.ClassFile.FieldType.long), Jvm.Cond.code ({ cls := "com/example/hatua/hatua/HashIndexMixPinLaw", name := "unmix", desc := "(J)J" } : Jvm.MethodName) method_4_code (4 : Nat) (Option.some Jvm.ClassFile.FieldType.long), Jvm.Cond.code ({ cls := "com/example/hatua/hatua/HashIndexMixPinLaw", name := "unshift", desc := "(J)J" } : Jvm.MethodName) method_3_code (2 : Nat) (Option.some Jvm.ClassFile.FieldType.long), Jvm.Cond.code ({ cls := "com/example/hatua/hatua/HashIndexMixPinLaw", name := "inverse", desc := "(J)J" } : Jvm.MethodName) method_2_code (4 : Nat) (Option.some Jvm.ClassFile.FieldType.long)]
set_option maxRecDepth 65536 in
theorem codes_eq : words1.filter isCode = codes1 := rfl
theorem w_codes : ∀ c ∈ words1.filter isCode, c.before args0 about1 = true := by
  rw [codes_eq]
  intro c hc
  simp only [codes1, List.mem_cons, List.not_mem_nil, or_false] at hc
  rcases hc with rfl | rfl | rfl | rfl | rfl
  · exact w_c0
  · exact w_c1
  · exact w_c2
  · exact w_c3
  · exact w_c4
set_option maxRecDepth 65536 in
theorem w_t1 : words1.all (fun c => isCode c || c.before args0 about1) = true := by decide +kernel
theorem w_tables : (allAtoms (Jvm.Cond.code x code maxLocals ret :: tables_1)).before args0 about1 = true := by
  rw [allAtoms_all]
  show words1.all (fun c => c.before args0 about1) = true
  refine all_split ?_ w_codes
  rw [w_t1]
set_option maxRecDepth 65536 in
theorem w_case : (Jvm.Cond.and given_1 narrow_1).before args0 about1 = true := by decide +kernel
theorem w_applies : (headSpec (Jvm.Cond.code x code maxLocals ret :: tables_1) room_1).applies x e0.platform about1 = true :=
  (Spec.applies_iff w_frames).mpr ⟨w_running, w_runnable, w_alone, w_named, w_hears, w_ripe, w_room, w_tables⟩
theorem atStart : AtStart classFile x code maxLocals ret World_1 tables_1 room_1 Calls_1 rest_1 Pre_1 launch0 p0 e0 about1 theMethod args0 below0 :=
  ⟨lists_1, trivial, launch0.admits_env _ _ _, launch0.least_env, fairChoices_fair.cas, fairChoices_fair.clock, w_frames, w_args, w_heap, w_applies, trivial, trivial, w_case⟩
end start1
theorem witness_1 : WitnessClaimed_1 := ⟨start1.p0, start1.e0, start1.about1, start1.theMethod, start1.args0, start1.below0, start1.atStart⟩
end Jvm.Pilot.@@N@@
