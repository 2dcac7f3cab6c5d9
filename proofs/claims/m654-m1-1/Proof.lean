import JvmDerived
import JvmDerived.Pilot.@@N@@Statement
import JvmDerived.Pilot.@@N@@Code
set_option linter.unusedVariables false
set_option linter.unusedSimpArgs false
namespace Jvm.RoadKit
open Sem ClassFile Op Lib Jvm.Stand Jvm.Free Jvm.LawKit
section New
variable {p : Program} {l : Launch} {e : Env} {R : Room} {s : State} {m : MethodId} {args : Array Value} {below : List Frame} {meth : Method} {c : Code} {T : State} {locs : List Loc} {cells slots : Nat}
theorem retI (X : Stand p l e R s m args below meth c T locs cells slots) (hx : p.tables.exec = Jvm.exec) {pc : Nat} {Ls : Array Slot} {z : Int32} {rest : List Value} (hret : meth.sig.returnType = some .int) (hd : decode c.code pc = .ok (.ireturn, 1)) {fs : List Frame}
    (hl : ∀ (f : JFrame) (acts : List Action), f.method = m → f.locked = none → f.entered = [] → (doReturn e (T.setTop f) acts (some (.int z))).1 = T.setFrames fs) : Steps p.tables e below (T.setTop (mkF m pc Ls (.int z :: rest))) (T.setFrames fs) := by
  have hm' : T.vm.method? m = some meth := X.method'
  have hn : narrow .int (.int z) = .int z := rfl
  show Steps p.tables e below (T.setTop { method := m, pc := pc, locals := Ls, stack := _ :: rest, locked := none }) _
  jvm_step X.here [X.here.top, hx, hd, hm', hret, hn]
  first | (intro acts; rw [hl _ acts rfl rfl rfl]) | rw [hl _ _ rfl rfl rfl]
  exact Steps.refl _
theorem own_lremM {g : JFrame} {target : State} (X : Stand p l e R s m args below meth c T locs cells slots) (hx : p.tables.exec = Jvm.exec) (hg : g.method = m) {x y : Int64} {rest : List Value} (hd : decode c.code g.pc = .ok (.lrem, 1)) (hs : g.stack = .long y :: .long x :: rest) (hy : y ≠ 0)
    (hr : Steps p.tables e below (T.setTop { g with pc := g.pc + 1, stack := .long (x % y) :: rest }) target) : Steps p.tables e below (T.setTop g) target := by
  have q : x - x / y * y = x % y := lrem_mod x y
  exact XS.lrem X.here hx hg hd hs hy (by rw [q]; exact hr)
theorem own_narB (P : Prop) [Decidable P] : nar .boolean (if P then (1 : Int32) else 0) = if P then (1 : Int32) else 0 := by split <;> rfl
end New
end Jvm.RoadKit
namespace Jvm.Pilot.@@N@@
open Jvm Jvm.ClassFile Sem Op Lib Jvm.Free Jvm.Stand Jvm.LawKit Jvm.RoadKit Bundle Jvm.Pilot.@@N@@.Jvm.D
theorem dI_0 : decode method_2_code 0 = .ok (.lload_n 0, 1) := by decide +kernel
theorem dI_1 : decode method_2_code 1 = .ok (.lstore_n 2, 1) := by decide +kernel
theorem dI_2 : decode method_2_code 2 = .ok (.lload_n 2, 1) := by decide +kernel
theorem dI_3 : decode method_2_code 3 = .ok (.ldc2_w 7, 3) := by decide +kernel
theorem dI_6 : decode method_2_code 6 = .ok (.lload_n 0, 1) := by decide +kernel
theorem dI_7 : decode method_2_code 7 = .ok (.lload_n 2, 1) := by decide +kernel
theorem dI_8 : decode method_2_code 8 = .ok (.lmul, 1) := by decide +kernel
theorem dI_9 : decode method_2_code 9 = .ok (.lsub, 1) := by decide +kernel
theorem dI_10 : decode method_2_code 10 = .ok (.lmul, 1) := by decide +kernel
theorem dI_11 : decode method_2_code 11 = .ok (.lstore_n 2, 1) := by decide +kernel
theorem dI_12 : decode method_2_code 12 = .ok (.lload_n 2, 1) := by decide +kernel
theorem dI_13 : decode method_2_code 13 = .ok (.ldc2_w 7, 3) := by decide +kernel
theorem dI_16 : decode method_2_code 16 = .ok (.lload_n 0, 1) := by decide +kernel
theorem dI_17 : decode method_2_code 17 = .ok (.lload_n 2, 1) := by decide +kernel
theorem dI_18 : decode method_2_code 18 = .ok (.lmul, 1) := by decide +kernel
theorem dI_19 : decode method_2_code 19 = .ok (.lsub, 1) := by decide +kernel
theorem dI_20 : decode method_2_code 20 = .ok (.lmul, 1) := by decide +kernel
theorem dI_21 : decode method_2_code 21 = .ok (.lstore_n 2, 1) := by decide +kernel
theorem dI_22 : decode method_2_code 22 = .ok (.lload_n 2, 1) := by decide +kernel
theorem dI_23 : decode method_2_code 23 = .ok (.ldc2_w 7, 3) := by decide +kernel
theorem dI_26 : decode method_2_code 26 = .ok (.lload_n 0, 1) := by decide +kernel
theorem dI_27 : decode method_2_code 27 = .ok (.lload_n 2, 1) := by decide +kernel
theorem dI_28 : decode method_2_code 28 = .ok (.lmul, 1) := by decide +kernel
theorem dI_29 : decode method_2_code 29 = .ok (.lsub, 1) := by decide +kernel
theorem dI_30 : decode method_2_code 30 = .ok (.lmul, 1) := by decide +kernel
theorem dI_31 : decode method_2_code 31 = .ok (.lstore_n 2, 1) := by decide +kernel
theorem dI_32 : decode method_2_code 32 = .ok (.lload_n 2, 1) := by decide +kernel
theorem dI_33 : decode method_2_code 33 = .ok (.ldc2_w 7, 3) := by decide +kernel
theorem dI_36 : decode method_2_code 36 = .ok (.lload_n 0, 1) := by decide +kernel
theorem dI_37 : decode method_2_code 37 = .ok (.lload_n 2, 1) := by decide +kernel
theorem dI_38 : decode method_2_code 38 = .ok (.lmul, 1) := by decide +kernel
theorem dI_39 : decode method_2_code 39 = .ok (.lsub, 1) := by decide +kernel
theorem dI_40 : decode method_2_code 40 = .ok (.lmul, 1) := by decide +kernel
theorem dI_41 : decode method_2_code 41 = .ok (.lstore_n 2, 1) := by decide +kernel
theorem dI_42 : decode method_2_code 42 = .ok (.lload_n 2, 1) := by decide +kernel
theorem dI_43 : decode method_2_code 43 = .ok (.ldc2_w 7, 3) := by decide +kernel
theorem dI_46 : decode method_2_code 46 = .ok (.lload_n 0, 1) := by decide +kernel
theorem dI_47 : decode method_2_code 47 = .ok (.lload_n 2, 1) := by decide +kernel
theorem dI_48 : decode method_2_code 48 = .ok (.lmul, 1) := by decide +kernel
theorem dI_49 : decode method_2_code 49 = .ok (.lsub, 1) := by decide +kernel
theorem dI_50 : decode method_2_code 50 = .ok (.lmul, 1) := by decide +kernel
theorem dI_51 : decode method_2_code 51 = .ok (.lstore_n 2, 1) := by decide +kernel
theorem dI_52 : decode method_2_code 52 = .ok (.lload_n 2, 1) := by decide +kernel
theorem dI_53 : decode method_2_code 53 = .ok (.ldc2_w 7, 3) := by decide +kernel
theorem dI_56 : decode method_2_code 56 = .ok (.lload_n 0, 1) := by decide +kernel
theorem dI_57 : decode method_2_code 57 = .ok (.lload_n 2, 1) := by decide +kernel
theorem dI_58 : decode method_2_code 58 = .ok (.lmul, 1) := by decide +kernel
theorem dI_59 : decode method_2_code 59 = .ok (.lsub, 1) := by decide +kernel
theorem dI_60 : decode method_2_code 60 = .ok (.lmul, 1) := by decide +kernel
theorem dI_61 : decode method_2_code 61 = .ok (.lstore_n 2, 1) := by decide +kernel
theorem dI_62 : decode method_2_code 62 = .ok (.lload_n 2, 1) := by decide +kernel
theorem dI_63 : decode method_2_code 63 = .ok (.lreturn, 1) := by decide +kernel
theorem pnI : plainName "com/example/bitsieve/bitsieve/MurmurHash3Fmix64PinLaw" = true := by first | (simp [plainName, overriddenIn]; done) | decide +kernel
theorem efI (m : MethodId) (q0 : Int64) : entryFrame m #[(.long q0)] 4 = mkF m 0 #[.val (.long q0), .second, .unset, .unset] [] := by first | (simp [entryFrame, mkF, argsToLocals, Value.category]; done) | rfl
def own_fI (q0 : Int64) : Int64 := ((((((((((((q0 * ((2 : Int64) - (q0 * q0)))) * ((2 : Int64) - (q0 * ((q0 * ((2 : Int64) - (q0 * q0)))))))) * ((2 : Int64) - (q0 * ((((q0 * ((2 : Int64) - (q0 * q0)))) * ((2 : Int64) - (q0 * ((q0 * ((2 : Int64) - (q0 * q0)))))))))))) * ((2 : Int64) - (q0 * ((((((q0 * ((2 : Int64) - (q0 * q0)))) * ((2 : Int64) - (q0 * ((q0 * ((2 : Int64) - (q0 * q0)))))))) * ((2 : Int64) - (q0 * ((((q0 * ((2 : Int64) - (q0 * q0)))) * ((2 : Int64) - (q0 * ((q0 * ((2 : Int64) - (q0 * q0)))))))))))))))) * ((2 : Int64) - (q0 * ((((((((q0 * ((2 : Int64) - (q0 * q0)))) * ((2 : Int64) - (q0 * ((q0 * ((2 : Int64) - (q0 * q0)))))))) * ((2 : Int64) - (q0 * ((((q0 * ((2 : Int64) - (q0 * q0)))) * ((2 : Int64) - (q0 * ((q0 * ((2 : Int64) - (q0 * q0)))))))))))) * ((2 : Int64) - (q0 * ((((((q0 * ((2 : Int64) - (q0 * q0)))) * ((2 : Int64) - (q0 * ((q0 * ((2 : Int64) - (q0 * q0)))))))) * ((2 : Int64) - (q0 * ((((q0 * ((2 : Int64) - (q0 * q0)))) * ((2 : Int64) - (q0 * ((q0 * ((2 : Int64) - (q0 * q0)))))))))))))))))))) * ((2 : Int64) - (q0 * ((((((((((q0 * ((2 : Int64) - (q0 * q0)))) * ((2 : Int64) - (q0 * ((q0 * ((2 : Int64) - (q0 * q0)))))))) * ((2 : Int64) - (q0 * ((((q0 * ((2 : Int64) - (q0 * q0)))) * ((2 : Int64) - (q0 * ((q0 * ((2 : Int64) - (q0 * q0)))))))))))) * ((2 : Int64) - (q0 * ((((((q0 * ((2 : Int64) - (q0 * q0)))) * ((2 : Int64) - (q0 * ((q0 * ((2 : Int64) - (q0 * q0)))))))) * ((2 : Int64) - (q0 * ((((q0 * ((2 : Int64) - (q0 * q0)))) * ((2 : Int64) - (q0 * ((q0 * ((2 : Int64) - (q0 * q0)))))))))))))))) * ((2 : Int64) - (q0 * ((((((((q0 * ((2 : Int64) - (q0 * q0)))) * ((2 : Int64) - (q0 * ((q0 * ((2 : Int64) - (q0 * q0)))))))) * ((2 : Int64) - (q0 * ((((q0 * ((2 : Int64) - (q0 * q0)))) * ((2 : Int64) - (q0 * ((q0 * ((2 : Int64) - (q0 * q0)))))))))))) * ((2 : Int64) - (q0 * ((((((q0 * ((2 : Int64) - (q0 * q0)))) * ((2 : Int64) - (q0 * ((q0 * ((2 : Int64) - (q0 * q0)))))))) * ((2 : Int64) - (q0 * ((((q0 * ((2 : Int64) - (q0 * q0)))) * ((2 : Int64) - (q0 * ((q0 * ((2 : Int64) - (q0 * q0))))))))))))))))))))))))
abbrev own_roomI : Room := { frames := 0, cells := 0, slots := 0, locals := 0 }
def QI (Z : State) (q0 : Int64) (h0 : Heap) (n0 : Nat) (v : Option Value) (h : Heap) (L : List Loc) : Prop := v = some (.long (own_fI q0)) ∧ Fr n0 L ∧ h = h0
set_option maxRecDepth 65536 in
set_option maxHeartbeats 40000000 in
theorem rmI (l : Launch) (Z : State) (a0 : Array Value) (hw : ∀ d ∈ tables_1, d.before a0 Z = true) (ws : List Jvm.Cond) (q0 : Int64) (h0 : Heap) (n0 : Nat) (Z0 : n0 ≤ h0.size) :
    MetFree l (⟨"com/example/bitsieve/bitsieve/MurmurHash3Fmix64PinLaw", "inverseOdd", "(J)J"⟩ : MethodName) (head1 (Jvm.Cond.code (⟨"com/example/bitsieve/bitsieve/MurmurHash3Fmix64PinLaw", "inverseOdd", "(J)J"⟩ : MethodName) method_2_code 4 (some .long) :: ws) own_roomI) (fun a U => a = #[(.long q0)] ∧ Z.Warmed39 U.vm ∧ U.heap = h0) (fun _ _ _ _ _ => True) (fun _ U o U' => ∃ v L, o = .returned v ∧ QI Z q0 h0 n0 v U'.heap L ∧ FrameEnd U o U' L own_roomI.cells own_roomI.slots) := by
  refine MetFree.of_bodySF (plainFor_of_name pnI) hisR ?_
  intro p e s m args below meth c s₁ Bd hml0 hP hK
  obtain ⟨rfl, hZ, hh⟩ := hP
  have hx := Bd.exec
  have hby := Bd.bytes
  have hml : c.maxLocals = 4 := hml0
  have hown : s.vm.findClass "com/example/bitsieve/bitsieve/MurmurHash3Fmix64PinLaw" = some m.cls := findClass_of_methodNamed Bd.named
  have hnm := (name_of_methodNamed Bd.named Bd.method).1
  have X0 : Stand p l e own_roomI s m #[(.long q0)] below meth c s₁ [] 0 0 := Stand.of_body Bd
  have e0 : s₁.heap = h0 := by rw [← hh, Bd.state]; rfl
  have N0 := Fr.nil n0
  have pre0 : ∀ t, Steps p.tables e below (s₁.setTop (mkF m 0 #[.val (.long q0), .second, .unset, .unset] [])) t → Steps p.tables e below (s₁.setTop (entryFrame m #[(.long q0)] 4)) t := fun t k => castTop (efI m q0) k
  obtain ⟨x11, hx11⟩ : ∃ z : Int64, z = (q0 * ((2 : Int64) - (q0 * q0))) := ⟨_, rfl⟩
  have pre12 : ∀ t, Steps p.tables e below (s₁.setTop (mkF m 12 #[.val (.long q0), .second, .val (.long x11), .second] [])) t → Steps p.tables e below (s₁.setTop (entryFrame m #[(.long q0)] 4)) t := fun t k => pre0 t (by
    show Steps p.tables e below (s₁.setTop (mkF m 0 #[.val (.long q0), .second, .unset, .unset] [])) t
    refine XS.lloadN X0.here hx rfl (hb hby dI_0) rfl ?_
    show Steps p.tables e below (s₁.setTop (mkF m 1 #[.val (.long q0), .second, .unset, .unset] [(.long q0)])) _
    refine XS.lstoreN X0.here hx rfl (hb hby dI_1) rfl (l' := #[.val (.long q0), .second, .val (.long q0), .second]) rfl ?_
    show Steps p.tables e below (s₁.setTop (mkF m 2 #[.val (.long q0), .second, .val (.long q0), .second] [])) _
    refine XS.lloadN X0.here hx rfl (hb hby dI_2) rfl ?_
    show Steps p.tables e below (s₁.setTop (mkF m 3 #[.val (.long q0), .second, .val (.long q0), .second] [(.long q0)])) _
    refine X0.ldc2Long hx hown (mvT hZ (hw _ (List.mem_of_getElem? (i := 6) rfl))) (g := (mkF m 3 #[.val (.long q0), .second, .val (.long q0), .second] [(.long q0)])) rfl (hb hby dI_3) _ ?_
    show Steps p.tables e below (s₁.setTop (mkF m 6 #[.val (.long q0), .second, .val (.long q0), .second] [(.long (2 : Int64)), (.long q0)])) _
    refine XS.lloadN X0.here hx rfl (hb hby dI_6) rfl ?_
    show Steps p.tables e below (s₁.setTop (mkF m 7 #[.val (.long q0), .second, .val (.long q0), .second] [(.long q0), (.long (2 : Int64)), (.long q0)])) _
    refine XS.lloadN X0.here hx rfl (hb hby dI_7) rfl ?_
    show Steps p.tables e below (s₁.setTop (mkF m 8 #[.val (.long q0), .second, .val (.long q0), .second] [(.long q0), (.long q0), (.long (2 : Int64)), (.long q0)])) _
    refine XS.lmul X0.here hx rfl (hb hby dI_8) rfl ?_
    show Steps p.tables e below (s₁.setTop (mkF m 9 #[.val (.long q0), .second, .val (.long q0), .second] [(.long (q0 * q0)), (.long (2 : Int64)), (.long q0)])) _
    refine XS.lsub X0.here hx rfl (hb hby dI_9) rfl ?_
    show Steps p.tables e below (s₁.setTop (mkF m 10 #[.val (.long q0), .second, .val (.long q0), .second] [(.long ((2 : Int64) - (q0 * q0))), (.long q0)])) _
    refine XS.lmul X0.here hx rfl (hb hby dI_10) rfl ?_
    show Steps p.tables e below (s₁.setTop (mkF m 11 #[.val (.long q0), .second, .val (.long q0), .second] [(.long (q0 * ((2 : Int64) - (q0 * q0))))])) _
    refine XS.lstoreN X0.here hx rfl (hb hby dI_11) rfl (l' := #[.val (.long q0), .second, .val (.long (q0 * ((2 : Int64) - (q0 * q0)))), .second]) rfl ?_
    show Steps p.tables e below (s₁.setTop (mkF m 12 #[.val (.long q0), .second, .val (.long (q0 * ((2 : Int64) - (q0 * q0)))), .second] [])) _
    subst hx11
    exact k)
  obtain ⟨x21, hx21⟩ : ∃ z : Int64, z = (x11 * ((2 : Int64) - (q0 * x11))) := ⟨_, rfl⟩
  have pre22 : ∀ t, Steps p.tables e below (s₁.setTop (mkF m 22 #[.val (.long q0), .second, .val (.long x21), .second] [])) t → Steps p.tables e below (s₁.setTop (entryFrame m #[(.long q0)] 4)) t := fun t k => pre12 t (by
    show Steps p.tables e below (s₁.setTop (mkF m 12 #[.val (.long q0), .second, .val (.long x11), .second] [])) t
    refine XS.lloadN X0.here hx rfl (hb hby dI_12) rfl ?_
    show Steps p.tables e below (s₁.setTop (mkF m 13 #[.val (.long q0), .second, .val (.long x11), .second] [(.long x11)])) _
    refine X0.ldc2Long hx hown (mvT hZ (hw _ (List.mem_of_getElem? (i := 6) rfl))) (g := (mkF m 13 #[.val (.long q0), .second, .val (.long x11), .second] [(.long x11)])) rfl (hb hby dI_13) _ ?_
    show Steps p.tables e below (s₁.setTop (mkF m 16 #[.val (.long q0), .second, .val (.long x11), .second] [(.long (2 : Int64)), (.long x11)])) _
    refine XS.lloadN X0.here hx rfl (hb hby dI_16) rfl ?_
    show Steps p.tables e below (s₁.setTop (mkF m 17 #[.val (.long q0), .second, .val (.long x11), .second] [(.long q0), (.long (2 : Int64)), (.long x11)])) _
    refine XS.lloadN X0.here hx rfl (hb hby dI_17) rfl ?_
    show Steps p.tables e below (s₁.setTop (mkF m 18 #[.val (.long q0), .second, .val (.long x11), .second] [(.long x11), (.long q0), (.long (2 : Int64)), (.long x11)])) _
    refine XS.lmul X0.here hx rfl (hb hby dI_18) rfl ?_
    show Steps p.tables e below (s₁.setTop (mkF m 19 #[.val (.long q0), .second, .val (.long x11), .second] [(.long (q0 * x11)), (.long (2 : Int64)), (.long x11)])) _
    refine XS.lsub X0.here hx rfl (hb hby dI_19) rfl ?_
    show Steps p.tables e below (s₁.setTop (mkF m 20 #[.val (.long q0), .second, .val (.long x11), .second] [(.long ((2 : Int64) - (q0 * x11))), (.long x11)])) _
    refine XS.lmul X0.here hx rfl (hb hby dI_20) rfl ?_
    show Steps p.tables e below (s₁.setTop (mkF m 21 #[.val (.long q0), .second, .val (.long x11), .second] [(.long (x11 * ((2 : Int64) - (q0 * x11))))])) _
    refine XS.lstoreN X0.here hx rfl (hb hby dI_21) rfl (l' := #[.val (.long q0), .second, .val (.long (x11 * ((2 : Int64) - (q0 * x11)))), .second]) rfl ?_
    show Steps p.tables e below (s₁.setTop (mkF m 22 #[.val (.long q0), .second, .val (.long (x11 * ((2 : Int64) - (q0 * x11)))), .second] [])) _
    subst hx21
    exact k)
  obtain ⟨x31, hx31⟩ : ∃ z : Int64, z = (x21 * ((2 : Int64) - (q0 * x21))) := ⟨_, rfl⟩
  have pre32 : ∀ t, Steps p.tables e below (s₁.setTop (mkF m 32 #[.val (.long q0), .second, .val (.long x31), .second] [])) t → Steps p.tables e below (s₁.setTop (entryFrame m #[(.long q0)] 4)) t := fun t k => pre22 t (by
    show Steps p.tables e below (s₁.setTop (mkF m 22 #[.val (.long q0), .second, .val (.long x21), .second] [])) t
    refine XS.lloadN X0.here hx rfl (hb hby dI_22) rfl ?_
    show Steps p.tables e below (s₁.setTop (mkF m 23 #[.val (.long q0), .second, .val (.long x21), .second] [(.long x21)])) _
    refine X0.ldc2Long hx hown (mvT hZ (hw _ (List.mem_of_getElem? (i := 6) rfl))) (g := (mkF m 23 #[.val (.long q0), .second, .val (.long x21), .second] [(.long x21)])) rfl (hb hby dI_23) _ ?_
    show Steps p.tables e below (s₁.setTop (mkF m 26 #[.val (.long q0), .second, .val (.long x21), .second] [(.long (2 : Int64)), (.long x21)])) _
    refine XS.lloadN X0.here hx rfl (hb hby dI_26) rfl ?_
    show Steps p.tables e below (s₁.setTop (mkF m 27 #[.val (.long q0), .second, .val (.long x21), .second] [(.long q0), (.long (2 : Int64)), (.long x21)])) _
    refine XS.lloadN X0.here hx rfl (hb hby dI_27) rfl ?_
    show Steps p.tables e below (s₁.setTop (mkF m 28 #[.val (.long q0), .second, .val (.long x21), .second] [(.long x21), (.long q0), (.long (2 : Int64)), (.long x21)])) _
    refine XS.lmul X0.here hx rfl (hb hby dI_28) rfl ?_
    show Steps p.tables e below (s₁.setTop (mkF m 29 #[.val (.long q0), .second, .val (.long x21), .second] [(.long (q0 * x21)), (.long (2 : Int64)), (.long x21)])) _
    refine XS.lsub X0.here hx rfl (hb hby dI_29) rfl ?_
    show Steps p.tables e below (s₁.setTop (mkF m 30 #[.val (.long q0), .second, .val (.long x21), .second] [(.long ((2 : Int64) - (q0 * x21))), (.long x21)])) _
    refine XS.lmul X0.here hx rfl (hb hby dI_30) rfl ?_
    show Steps p.tables e below (s₁.setTop (mkF m 31 #[.val (.long q0), .second, .val (.long x21), .second] [(.long (x21 * ((2 : Int64) - (q0 * x21))))])) _
    refine XS.lstoreN X0.here hx rfl (hb hby dI_31) rfl (l' := #[.val (.long q0), .second, .val (.long (x21 * ((2 : Int64) - (q0 * x21)))), .second]) rfl ?_
    show Steps p.tables e below (s₁.setTop (mkF m 32 #[.val (.long q0), .second, .val (.long (x21 * ((2 : Int64) - (q0 * x21)))), .second] [])) _
    subst hx31
    exact k)
  obtain ⟨x41, hx41⟩ : ∃ z : Int64, z = (x31 * ((2 : Int64) - (q0 * x31))) := ⟨_, rfl⟩
  have pre42 : ∀ t, Steps p.tables e below (s₁.setTop (mkF m 42 #[.val (.long q0), .second, .val (.long x41), .second] [])) t → Steps p.tables e below (s₁.setTop (entryFrame m #[(.long q0)] 4)) t := fun t k => pre32 t (by
    show Steps p.tables e below (s₁.setTop (mkF m 32 #[.val (.long q0), .second, .val (.long x31), .second] [])) t
    refine XS.lloadN X0.here hx rfl (hb hby dI_32) rfl ?_
    show Steps p.tables e below (s₁.setTop (mkF m 33 #[.val (.long q0), .second, .val (.long x31), .second] [(.long x31)])) _
    refine X0.ldc2Long hx hown (mvT hZ (hw _ (List.mem_of_getElem? (i := 6) rfl))) (g := (mkF m 33 #[.val (.long q0), .second, .val (.long x31), .second] [(.long x31)])) rfl (hb hby dI_33) _ ?_
    show Steps p.tables e below (s₁.setTop (mkF m 36 #[.val (.long q0), .second, .val (.long x31), .second] [(.long (2 : Int64)), (.long x31)])) _
    refine XS.lloadN X0.here hx rfl (hb hby dI_36) rfl ?_
    show Steps p.tables e below (s₁.setTop (mkF m 37 #[.val (.long q0), .second, .val (.long x31), .second] [(.long q0), (.long (2 : Int64)), (.long x31)])) _
    refine XS.lloadN X0.here hx rfl (hb hby dI_37) rfl ?_
    show Steps p.tables e below (s₁.setTop (mkF m 38 #[.val (.long q0), .second, .val (.long x31), .second] [(.long x31), (.long q0), (.long (2 : Int64)), (.long x31)])) _
    refine XS.lmul X0.here hx rfl (hb hby dI_38) rfl ?_
    show Steps p.tables e below (s₁.setTop (mkF m 39 #[.val (.long q0), .second, .val (.long x31), .second] [(.long (q0 * x31)), (.long (2 : Int64)), (.long x31)])) _
    refine XS.lsub X0.here hx rfl (hb hby dI_39) rfl ?_
    show Steps p.tables e below (s₁.setTop (mkF m 40 #[.val (.long q0), .second, .val (.long x31), .second] [(.long ((2 : Int64) - (q0 * x31))), (.long x31)])) _
    refine XS.lmul X0.here hx rfl (hb hby dI_40) rfl ?_
    show Steps p.tables e below (s₁.setTop (mkF m 41 #[.val (.long q0), .second, .val (.long x31), .second] [(.long (x31 * ((2 : Int64) - (q0 * x31))))])) _
    refine XS.lstoreN X0.here hx rfl (hb hby dI_41) rfl (l' := #[.val (.long q0), .second, .val (.long (x31 * ((2 : Int64) - (q0 * x31)))), .second]) rfl ?_
    show Steps p.tables e below (s₁.setTop (mkF m 42 #[.val (.long q0), .second, .val (.long (x31 * ((2 : Int64) - (q0 * x31)))), .second] [])) _
    subst hx41
    exact k)
  obtain ⟨x51, hx51⟩ : ∃ z : Int64, z = (x41 * ((2 : Int64) - (q0 * x41))) := ⟨_, rfl⟩
  have pre52 : ∀ t, Steps p.tables e below (s₁.setTop (mkF m 52 #[.val (.long q0), .second, .val (.long x51), .second] [])) t → Steps p.tables e below (s₁.setTop (entryFrame m #[(.long q0)] 4)) t := fun t k => pre42 t (by
    show Steps p.tables e below (s₁.setTop (mkF m 42 #[.val (.long q0), .second, .val (.long x41), .second] [])) t
    refine XS.lloadN X0.here hx rfl (hb hby dI_42) rfl ?_
    show Steps p.tables e below (s₁.setTop (mkF m 43 #[.val (.long q0), .second, .val (.long x41), .second] [(.long x41)])) _
    refine X0.ldc2Long hx hown (mvT hZ (hw _ (List.mem_of_getElem? (i := 6) rfl))) (g := (mkF m 43 #[.val (.long q0), .second, .val (.long x41), .second] [(.long x41)])) rfl (hb hby dI_43) _ ?_
    show Steps p.tables e below (s₁.setTop (mkF m 46 #[.val (.long q0), .second, .val (.long x41), .second] [(.long (2 : Int64)), (.long x41)])) _
    refine XS.lloadN X0.here hx rfl (hb hby dI_46) rfl ?_
    show Steps p.tables e below (s₁.setTop (mkF m 47 #[.val (.long q0), .second, .val (.long x41), .second] [(.long q0), (.long (2 : Int64)), (.long x41)])) _
    refine XS.lloadN X0.here hx rfl (hb hby dI_47) rfl ?_
    show Steps p.tables e below (s₁.setTop (mkF m 48 #[.val (.long q0), .second, .val (.long x41), .second] [(.long x41), (.long q0), (.long (2 : Int64)), (.long x41)])) _
    refine XS.lmul X0.here hx rfl (hb hby dI_48) rfl ?_
    show Steps p.tables e below (s₁.setTop (mkF m 49 #[.val (.long q0), .second, .val (.long x41), .second] [(.long (q0 * x41)), (.long (2 : Int64)), (.long x41)])) _
    refine XS.lsub X0.here hx rfl (hb hby dI_49) rfl ?_
    show Steps p.tables e below (s₁.setTop (mkF m 50 #[.val (.long q0), .second, .val (.long x41), .second] [(.long ((2 : Int64) - (q0 * x41))), (.long x41)])) _
    refine XS.lmul X0.here hx rfl (hb hby dI_50) rfl ?_
    show Steps p.tables e below (s₁.setTop (mkF m 51 #[.val (.long q0), .second, .val (.long x41), .second] [(.long (x41 * ((2 : Int64) - (q0 * x41))))])) _
    refine XS.lstoreN X0.here hx rfl (hb hby dI_51) rfl (l' := #[.val (.long q0), .second, .val (.long (x41 * ((2 : Int64) - (q0 * x41)))), .second]) rfl ?_
    show Steps p.tables e below (s₁.setTop (mkF m 52 #[.val (.long q0), .second, .val (.long (x41 * ((2 : Int64) - (q0 * x41)))), .second] [])) _
    subst hx51
    exact k)
  obtain ⟨x61, hx61⟩ : ∃ z : Int64, z = (x51 * ((2 : Int64) - (q0 * x51))) := ⟨_, rfl⟩
  have pre62 : ∀ t, Steps p.tables e below (s₁.setTop (mkF m 62 #[.val (.long q0), .second, .val (.long x61), .second] [])) t → Steps p.tables e below (s₁.setTop (entryFrame m #[(.long q0)] 4)) t := fun t k => pre52 t (by
    show Steps p.tables e below (s₁.setTop (mkF m 52 #[.val (.long q0), .second, .val (.long x51), .second] [])) t
    refine XS.lloadN X0.here hx rfl (hb hby dI_52) rfl ?_
    show Steps p.tables e below (s₁.setTop (mkF m 53 #[.val (.long q0), .second, .val (.long x51), .second] [(.long x51)])) _
    refine X0.ldc2Long hx hown (mvT hZ (hw _ (List.mem_of_getElem? (i := 6) rfl))) (g := (mkF m 53 #[.val (.long q0), .second, .val (.long x51), .second] [(.long x51)])) rfl (hb hby dI_53) _ ?_
    show Steps p.tables e below (s₁.setTop (mkF m 56 #[.val (.long q0), .second, .val (.long x51), .second] [(.long (2 : Int64)), (.long x51)])) _
    refine XS.lloadN X0.here hx rfl (hb hby dI_56) rfl ?_
    show Steps p.tables e below (s₁.setTop (mkF m 57 #[.val (.long q0), .second, .val (.long x51), .second] [(.long q0), (.long (2 : Int64)), (.long x51)])) _
    refine XS.lloadN X0.here hx rfl (hb hby dI_57) rfl ?_
    show Steps p.tables e below (s₁.setTop (mkF m 58 #[.val (.long q0), .second, .val (.long x51), .second] [(.long x51), (.long q0), (.long (2 : Int64)), (.long x51)])) _
    refine XS.lmul X0.here hx rfl (hb hby dI_58) rfl ?_
    show Steps p.tables e below (s₁.setTop (mkF m 59 #[.val (.long q0), .second, .val (.long x51), .second] [(.long (q0 * x51)), (.long (2 : Int64)), (.long x51)])) _
    refine XS.lsub X0.here hx rfl (hb hby dI_59) rfl ?_
    show Steps p.tables e below (s₁.setTop (mkF m 60 #[.val (.long q0), .second, .val (.long x51), .second] [(.long ((2 : Int64) - (q0 * x51))), (.long x51)])) _
    refine XS.lmul X0.here hx rfl (hb hby dI_60) rfl ?_
    show Steps p.tables e below (s₁.setTop (mkF m 61 #[.val (.long q0), .second, .val (.long x51), .second] [(.long (x51 * ((2 : Int64) - (q0 * x51))))])) _
    refine XS.lstoreN X0.here hx rfl (hb hby dI_61) rfl (l' := #[.val (.long q0), .second, .val (.long (x51 * ((2 : Int64) - (q0 * x51)))), .second]) rfl ?_
    show Steps p.tables e below (s₁.setTop (mkF m 62 #[.val (.long q0), .second, .val (.long (x51 * ((2 : Int64) - (q0 * x51)))), .second] [])) _
    subst hx61
    exact k)
  have pre63 : ∀ t, Steps p.tables e below (s₁.setTop (mkF m 63 #[.val (.long q0), .second, .val (.long x61), .second] [(.long x61)])) t → Steps p.tables e below (s₁.setTop (entryFrame m #[(.long q0)] 4)) t := fun t k => pre62 t (by
    show Steps p.tables e below (s₁.setTop (mkF m 62 #[.val (.long q0), .second, .val (.long x61), .second] [])) t
    refine XS.lloadN X0.here hx rfl (hb hby dI_62) rfl ?_
    show Steps p.tables e below (s₁.setTop (mkF m 63 #[.val (.long q0), .second, .val (.long x61), .second] [(.long x61)])) _
    exact k)
  obtain ⟨fs, hr, hrun, hended, hW, hsame⟩ := X0.leave (v := some (.long x61)) (fun h => by rw [Bd.returns] at h; cases h)
  refine ⟨_, _, pre63 _ ?_, hrun, hended, _, _, rfl, ?_, ⟨_, rfl⟩, hW, hsame.mono (by decide) (by decide)⟩
  · show Steps p.tables e below (s₁.setTop (mkF m 63 #[.val (.long q0), .second, .val (.long x61), .second] [(.long x61)])) _
    exact retOut X0 hx Bd.returns rfl (Or.inr (Or.inl ⟨rfl, rfl, _, rfl⟩)) (hb hby dI_63) hr
  · show QI Z q0 h0 n0 _ s₁.heap _
    rw [e0]
    have hres : x61 = (own_fI q0) := by
      try subst hx61
      try subst hx51
      try subst hx41
      try subst hx31
      try subst hx21
      try subst hx11
      rw [own_fI]
      first | done | rfl | exact own_narB _
    exact ⟨congrArg (fun q => some (Value.long q)) hres, N0, rfl⟩
theorem dM_0 : decode prog_23_method_21_code 0 = .ok (.lload_n 0, 1) := by decide +kernel
theorem dM_1 : decode prog_23_method_21_code 1 = .ok (.lload_n 0, 1) := by decide +kernel
theorem dM_2 : decode prog_23_method_21_code 2 = .ok (.bipush 33, 2) := by decide +kernel
theorem dM_4 : decode prog_23_method_21_code 4 = .ok (.lushr, 1) := by decide +kernel
theorem dM_5 : decode prog_23_method_21_code 5 = .ok (.lxor, 1) := by decide +kernel
theorem dM_6 : decode prog_23_method_21_code 6 = .ok (.ldc2_w 167, 3) := by decide +kernel
theorem dM_9 : decode prog_23_method_21_code 9 = .ok (.lmul, 1) := by decide +kernel
theorem dM_10 : decode prog_23_method_21_code 10 = .ok (.lstore_n 2, 1) := by decide +kernel
theorem dM_11 : decode prog_23_method_21_code 11 = .ok (.lload_n 2, 1) := by decide +kernel
theorem dM_12 : decode prog_23_method_21_code 12 = .ok (.lload_n 2, 1) := by decide +kernel
theorem dM_13 : decode prog_23_method_21_code 13 = .ok (.bipush 33, 2) := by decide +kernel
theorem dM_15 : decode prog_23_method_21_code 15 = .ok (.lushr, 1) := by decide +kernel
theorem dM_16 : decode prog_23_method_21_code 16 = .ok (.lxor, 1) := by decide +kernel
theorem dM_17 : decode prog_23_method_21_code 17 = .ok (.ldc2_w 169, 3) := by decide +kernel
theorem dM_20 : decode prog_23_method_21_code 20 = .ok (.lmul, 1) := by decide +kernel
theorem dM_21 : decode prog_23_method_21_code 21 = .ok (.lstore_n 2, 1) := by decide +kernel
theorem dM_22 : decode prog_23_method_21_code 22 = .ok (.lload_n 2, 1) := by decide +kernel
theorem dM_23 : decode prog_23_method_21_code 23 = .ok (.lload_n 2, 1) := by decide +kernel
theorem dM_24 : decode prog_23_method_21_code 24 = .ok (.bipush 33, 2) := by decide +kernel
theorem dM_26 : decode prog_23_method_21_code 26 = .ok (.lushr, 1) := by decide +kernel
theorem dM_27 : decode prog_23_method_21_code 27 = .ok (.lxor, 1) := by decide +kernel
theorem dM_28 : decode prog_23_method_21_code 28 = .ok (.lreturn, 1) := by decide +kernel
theorem pnM : plainName "com/example/bitsieve/bitsieve/MurmurHash3" = true := by first | (simp [plainName, overriddenIn]; done) | decide +kernel
theorem efM (m : MethodId) (q0 : Int64) : entryFrame m #[(.long q0)] 4 = mkF m 0 #[.val (.long q0), .second, .unset, .unset] [] := by first | (simp [entryFrame, mkF, argsToLocals, Value.category]; done) | rfl
def own_fM (q0 : Int64) : Int64 := (((((((q0 ^^^ ((q0.toUInt64 >>> ((33 : Int32) &&& 0x3f).toInt64.toUInt64).toInt64)) * (-49064778989728563 : Int64))) ^^^ (((((q0 ^^^ ((q0.toUInt64 >>> ((33 : Int32) &&& 0x3f).toInt64.toUInt64).toInt64)) * (-49064778989728563 : Int64))).toUInt64 >>> ((33 : Int32) &&& 0x3f).toInt64.toUInt64).toInt64)) * (-4265267296055464877 : Int64))) ^^^ ((((((((q0 ^^^ ((q0.toUInt64 >>> ((33 : Int32) &&& 0x3f).toInt64.toUInt64).toInt64)) * (-49064778989728563 : Int64))) ^^^ (((((q0 ^^^ ((q0.toUInt64 >>> ((33 : Int32) &&& 0x3f).toInt64.toUInt64).toInt64)) * (-49064778989728563 : Int64))).toUInt64 >>> ((33 : Int32) &&& 0x3f).toInt64.toUInt64).toInt64)) * (-4265267296055464877 : Int64))).toUInt64 >>> ((33 : Int32) &&& 0x3f).toInt64.toUInt64).toInt64))
abbrev own_roomM : Room := { frames := 0, cells := 0, slots := 0, locals := 0 }
def QM (Z : State) (q0 : Int64) (h0 : Heap) (n0 : Nat) (v : Option Value) (h : Heap) (L : List Loc) : Prop := v = some (.long (own_fM q0)) ∧ Fr n0 L ∧ h = h0
set_option maxRecDepth 65536 in
set_option maxHeartbeats 40000000 in
theorem rmM (l : Launch) (Z : State) (a0 : Array Value) (hw : ∀ d ∈ tables_1, d.before a0 Z = true) (ws : List Jvm.Cond) (q0 : Int64) (h0 : Heap) (n0 : Nat) (Z0 : n0 ≤ h0.size) :
    MetFree l (⟨"com/example/bitsieve/bitsieve/MurmurHash3", "fmix64", "(J)J"⟩ : MethodName) (head1 (Jvm.Cond.code (⟨"com/example/bitsieve/bitsieve/MurmurHash3", "fmix64", "(J)J"⟩ : MethodName) prog_23_method_21_code 4 (some .long) :: ws) own_roomM) (fun a U => a = #[(.long q0)] ∧ Z.Warmed39 U.vm ∧ U.heap = h0) (fun _ _ _ _ _ => True) (fun _ U o U' => ∃ v L, o = .returned v ∧ QM Z q0 h0 n0 v U'.heap L ∧ FrameEnd U o U' L own_roomM.cells own_roomM.slots) := by
  refine MetFree.of_bodySF (plainFor_of_name pnM) hisR ?_
  intro p e s m args below meth c s₁ Bd hml0 hP hK
  obtain ⟨rfl, hZ, hh⟩ := hP
  have hx := Bd.exec
  have hby := Bd.bytes
  have hml : c.maxLocals = 4 := hml0
  have hown : s.vm.findClass "com/example/bitsieve/bitsieve/MurmurHash3" = some m.cls := findClass_of_methodNamed Bd.named
  have hnm := (name_of_methodNamed Bd.named Bd.method).1
  have X0 : Stand p l e own_roomM s m #[(.long q0)] below meth c s₁ [] 0 0 := Stand.of_body Bd
  have e0 : s₁.heap = h0 := by rw [← hh, Bd.state]; rfl
  have N0 := Fr.nil n0
  have pre0 : ∀ t, Steps p.tables e below (s₁.setTop (mkF m 0 #[.val (.long q0), .second, .unset, .unset] [])) t → Steps p.tables e below (s₁.setTop (entryFrame m #[(.long q0)] 4)) t := fun t k => castTop (efM m q0) k
  obtain ⟨x10, hx10⟩ : ∃ z : Int64, z = ((q0 ^^^ ((q0.toUInt64 >>> ((33 : Int32) &&& 0x3f).toInt64.toUInt64).toInt64)) * (-49064778989728563 : Int64)) := ⟨_, rfl⟩
  have pre11 : ∀ t, Steps p.tables e below (s₁.setTop (mkF m 11 #[.val (.long q0), .second, .val (.long x10), .second] [])) t → Steps p.tables e below (s₁.setTop (entryFrame m #[(.long q0)] 4)) t := fun t k => pre0 t (by
    show Steps p.tables e below (s₁.setTop (mkF m 0 #[.val (.long q0), .second, .unset, .unset] [])) t
    refine XS.lloadN X0.here hx rfl (hb hby dM_0) rfl ?_
    show Steps p.tables e below (s₁.setTop (mkF m 1 #[.val (.long q0), .second, .unset, .unset] [(.long q0)])) _
    refine XS.lloadN X0.here hx rfl (hb hby dM_1) rfl ?_
    show Steps p.tables e below (s₁.setTop (mkF m 2 #[.val (.long q0), .second, .unset, .unset] [(.long q0), (.long q0)])) _
    refine XS.bipush X0.here hx rfl (hb hby dM_2) ?_
    show Steps p.tables e below (s₁.setTop (mkF m 4 #[.val (.long q0), .second, .unset, .unset] [(.int (33 : Int32)), (.long q0), (.long q0)])) _
    refine XS.lushr X0.here hx rfl (hb hby dM_4) rfl ?_
    show Steps p.tables e below (s₁.setTop (mkF m 5 #[.val (.long q0), .second, .unset, .unset] [(.long ((q0.toUInt64 >>> ((33 : Int32) &&& 0x3f).toInt64.toUInt64).toInt64)), (.long q0)])) _
    refine XS.lxor X0.here hx rfl (hb hby dM_5) rfl ?_
    show Steps p.tables e below (s₁.setTop (mkF m 6 #[.val (.long q0), .second, .unset, .unset] [(.long (q0 ^^^ ((q0.toUInt64 >>> ((33 : Int32) &&& 0x3f).toInt64.toUInt64).toInt64)))])) _
    refine X0.ldc2Long hx hown (mvT hZ (hw _ (List.mem_of_getElem? (i := 11) rfl))) (g := (mkF m 6 #[.val (.long q0), .second, .unset, .unset] [(.long (q0 ^^^ ((q0.toUInt64 >>> ((33 : Int32) &&& 0x3f).toInt64.toUInt64).toInt64)))])) rfl (hb hby dM_6) _ ?_
    show Steps p.tables e below (s₁.setTop (mkF m 9 #[.val (.long q0), .second, .unset, .unset] [(.long (-49064778989728563 : Int64)), (.long (q0 ^^^ ((q0.toUInt64 >>> ((33 : Int32) &&& 0x3f).toInt64.toUInt64).toInt64)))])) _
    refine XS.lmul X0.here hx rfl (hb hby dM_9) rfl ?_
    show Steps p.tables e below (s₁.setTop (mkF m 10 #[.val (.long q0), .second, .unset, .unset] [(.long ((q0 ^^^ ((q0.toUInt64 >>> ((33 : Int32) &&& 0x3f).toInt64.toUInt64).toInt64)) * (-49064778989728563 : Int64)))])) _
    refine XS.lstoreN X0.here hx rfl (hb hby dM_10) rfl (l' := #[.val (.long q0), .second, .val (.long ((q0 ^^^ ((q0.toUInt64 >>> ((33 : Int32) &&& 0x3f).toInt64.toUInt64).toInt64)) * (-49064778989728563 : Int64))), .second]) rfl ?_
    show Steps p.tables e below (s₁.setTop (mkF m 11 #[.val (.long q0), .second, .val (.long ((q0 ^^^ ((q0.toUInt64 >>> ((33 : Int32) &&& 0x3f).toInt64.toUInt64).toInt64)) * (-49064778989728563 : Int64))), .second] [])) _
    subst hx10
    exact k)
  obtain ⟨x21, hx21⟩ : ∃ z : Int64, z = ((x10 ^^^ ((x10.toUInt64 >>> ((33 : Int32) &&& 0x3f).toInt64.toUInt64).toInt64)) * (-4265267296055464877 : Int64)) := ⟨_, rfl⟩
  have pre22 : ∀ t, Steps p.tables e below (s₁.setTop (mkF m 22 #[.val (.long q0), .second, .val (.long x21), .second] [])) t → Steps p.tables e below (s₁.setTop (entryFrame m #[(.long q0)] 4)) t := fun t k => pre11 t (by
    show Steps p.tables e below (s₁.setTop (mkF m 11 #[.val (.long q0), .second, .val (.long x10), .second] [])) t
    refine XS.lloadN X0.here hx rfl (hb hby dM_11) rfl ?_
    show Steps p.tables e below (s₁.setTop (mkF m 12 #[.val (.long q0), .second, .val (.long x10), .second] [(.long x10)])) _
    refine XS.lloadN X0.here hx rfl (hb hby dM_12) rfl ?_
    show Steps p.tables e below (s₁.setTop (mkF m 13 #[.val (.long q0), .second, .val (.long x10), .second] [(.long x10), (.long x10)])) _
    refine XS.bipush X0.here hx rfl (hb hby dM_13) ?_
    show Steps p.tables e below (s₁.setTop (mkF m 15 #[.val (.long q0), .second, .val (.long x10), .second] [(.int (33 : Int32)), (.long x10), (.long x10)])) _
    refine XS.lushr X0.here hx rfl (hb hby dM_15) rfl ?_
    show Steps p.tables e below (s₁.setTop (mkF m 16 #[.val (.long q0), .second, .val (.long x10), .second] [(.long ((x10.toUInt64 >>> ((33 : Int32) &&& 0x3f).toInt64.toUInt64).toInt64)), (.long x10)])) _
    refine XS.lxor X0.here hx rfl (hb hby dM_16) rfl ?_
    show Steps p.tables e below (s₁.setTop (mkF m 17 #[.val (.long q0), .second, .val (.long x10), .second] [(.long (x10 ^^^ ((x10.toUInt64 >>> ((33 : Int32) &&& 0x3f).toInt64.toUInt64).toInt64)))])) _
    refine X0.ldc2Long hx hown (mvT hZ (hw _ (List.mem_of_getElem? (i := 12) rfl))) (g := (mkF m 17 #[.val (.long q0), .second, .val (.long x10), .second] [(.long (x10 ^^^ ((x10.toUInt64 >>> ((33 : Int32) &&& 0x3f).toInt64.toUInt64).toInt64)))])) rfl (hb hby dM_17) _ ?_
    show Steps p.tables e below (s₁.setTop (mkF m 20 #[.val (.long q0), .second, .val (.long x10), .second] [(.long (-4265267296055464877 : Int64)), (.long (x10 ^^^ ((x10.toUInt64 >>> ((33 : Int32) &&& 0x3f).toInt64.toUInt64).toInt64)))])) _
    refine XS.lmul X0.here hx rfl (hb hby dM_20) rfl ?_
    show Steps p.tables e below (s₁.setTop (mkF m 21 #[.val (.long q0), .second, .val (.long x10), .second] [(.long ((x10 ^^^ ((x10.toUInt64 >>> ((33 : Int32) &&& 0x3f).toInt64.toUInt64).toInt64)) * (-4265267296055464877 : Int64)))])) _
    refine XS.lstoreN X0.here hx rfl (hb hby dM_21) rfl (l' := #[.val (.long q0), .second, .val (.long ((x10 ^^^ ((x10.toUInt64 >>> ((33 : Int32) &&& 0x3f).toInt64.toUInt64).toInt64)) * (-4265267296055464877 : Int64))), .second]) rfl ?_
    show Steps p.tables e below (s₁.setTop (mkF m 22 #[.val (.long q0), .second, .val (.long ((x10 ^^^ ((x10.toUInt64 >>> ((33 : Int32) &&& 0x3f).toInt64.toUInt64).toInt64)) * (-4265267296055464877 : Int64))), .second] [])) _
    subst hx21
    exact k)
  have pre28 : ∀ t, Steps p.tables e below (s₁.setTop (mkF m 28 #[.val (.long q0), .second, .val (.long x21), .second] [(.long (x21 ^^^ ((x21.toUInt64 >>> ((33 : Int32) &&& 0x3f).toInt64.toUInt64).toInt64)))])) t → Steps p.tables e below (s₁.setTop (entryFrame m #[(.long q0)] 4)) t := fun t k => pre22 t (by
    show Steps p.tables e below (s₁.setTop (mkF m 22 #[.val (.long q0), .second, .val (.long x21), .second] [])) t
    refine XS.lloadN X0.here hx rfl (hb hby dM_22) rfl ?_
    show Steps p.tables e below (s₁.setTop (mkF m 23 #[.val (.long q0), .second, .val (.long x21), .second] [(.long x21)])) _
    refine XS.lloadN X0.here hx rfl (hb hby dM_23) rfl ?_
    show Steps p.tables e below (s₁.setTop (mkF m 24 #[.val (.long q0), .second, .val (.long x21), .second] [(.long x21), (.long x21)])) _
    refine XS.bipush X0.here hx rfl (hb hby dM_24) ?_
    show Steps p.tables e below (s₁.setTop (mkF m 26 #[.val (.long q0), .second, .val (.long x21), .second] [(.int (33 : Int32)), (.long x21), (.long x21)])) _
    refine XS.lushr X0.here hx rfl (hb hby dM_26) rfl ?_
    show Steps p.tables e below (s₁.setTop (mkF m 27 #[.val (.long q0), .second, .val (.long x21), .second] [(.long ((x21.toUInt64 >>> ((33 : Int32) &&& 0x3f).toInt64.toUInt64).toInt64)), (.long x21)])) _
    refine XS.lxor X0.here hx rfl (hb hby dM_27) rfl ?_
    show Steps p.tables e below (s₁.setTop (mkF m 28 #[.val (.long q0), .second, .val (.long x21), .second] [(.long (x21 ^^^ ((x21.toUInt64 >>> ((33 : Int32) &&& 0x3f).toInt64.toUInt64).toInt64)))])) _
    exact k)
  obtain ⟨fs, hr, hrun, hended, hW, hsame⟩ := X0.leave (v := some (.long (x21 ^^^ ((x21.toUInt64 >>> ((33 : Int32) &&& 0x3f).toInt64.toUInt64).toInt64)))) (fun h => by rw [Bd.returns] at h; cases h)
  refine ⟨_, _, pre28 _ ?_, hrun, hended, _, _, rfl, ?_, ⟨_, rfl⟩, hW, hsame.mono (by decide) (by decide)⟩
  · show Steps p.tables e below (s₁.setTop (mkF m 28 #[.val (.long q0), .second, .val (.long x21), .second] [(.long (x21 ^^^ ((x21.toUInt64 >>> ((33 : Int32) &&& 0x3f).toInt64.toUInt64).toInt64)))])) _
    exact retOut X0 hx Bd.returns rfl (Or.inr (Or.inl ⟨rfl, rfl, _, rfl⟩)) (hb hby dM_28) hr
  · show QM Z q0 h0 n0 _ s₁.heap _
    rw [e0]
    have hres : (x21 ^^^ ((x21.toUInt64 >>> ((33 : Int32) &&& 0x3f).toInt64.toUInt64).toInt64)) = (own_fM q0) := by
      try subst hx21
      try subst hx10
      rw [own_fM]
      first | done | rfl | exact own_narB _
    exact ⟨congrArg (fun q => some (Value.long q)) hres, N0, rfl⟩
theorem dS_0 : decode method_3_code 0 = .ok (.lload_n 0, 1) := by decide +kernel
theorem dS_1 : decode method_3_code 1 = .ok (.lload_n 0, 1) := by decide +kernel
theorem dS_2 : decode method_3_code 2 = .ok (.bipush 33, 2) := by decide +kernel
theorem dS_4 : decode method_3_code 4 = .ok (.lushr, 1) := by decide +kernel
theorem dS_5 : decode method_3_code 5 = .ok (.lxor, 1) := by decide +kernel
theorem dS_6 : decode method_3_code 6 = .ok (.lreturn, 1) := by decide +kernel
theorem pnS : plainName "com/example/bitsieve/bitsieve/MurmurHash3Fmix64PinLaw" = true := by first | (simp [plainName, overriddenIn]; done) | decide +kernel
theorem efS (m : MethodId) (q0 : Int64) : entryFrame m #[(.long q0)] 2 = mkF m 0 #[.val (.long q0), .second] [] := by first | (simp [entryFrame, mkF, argsToLocals, Value.category]; done) | rfl
def own_fS (q0 : Int64) : Int64 := (q0 ^^^ ((q0.toUInt64 >>> ((33 : Int32) &&& 0x3f).toInt64.toUInt64).toInt64))
abbrev own_roomS : Room := { frames := 0, cells := 0, slots := 0, locals := 0 }
def QS (Z : State) (q0 : Int64) (h0 : Heap) (n0 : Nat) (v : Option Value) (h : Heap) (L : List Loc) : Prop := v = some (.long (own_fS q0)) ∧ Fr n0 L ∧ h = h0
set_option maxRecDepth 65536 in
set_option maxHeartbeats 40000000 in
theorem rmS (l : Launch) (Z : State) (a0 : Array Value) (hw : ∀ d ∈ tables_1, d.before a0 Z = true) (ws : List Jvm.Cond) (q0 : Int64) (h0 : Heap) (n0 : Nat) (Z0 : n0 ≤ h0.size) :
    MetFree l (⟨"com/example/bitsieve/bitsieve/MurmurHash3Fmix64PinLaw", "unshift", "(J)J"⟩ : MethodName) (head1 (Jvm.Cond.code (⟨"com/example/bitsieve/bitsieve/MurmurHash3Fmix64PinLaw", "unshift", "(J)J"⟩ : MethodName) method_3_code 2 (some .long) :: ws) own_roomS) (fun a U => a = #[(.long q0)] ∧ Z.Warmed39 U.vm ∧ U.heap = h0) (fun _ _ _ _ _ => True) (fun _ U o U' => ∃ v L, o = .returned v ∧ QS Z q0 h0 n0 v U'.heap L ∧ FrameEnd U o U' L own_roomS.cells own_roomS.slots) := by
  refine MetFree.of_bodySF (plainFor_of_name pnS) hisR ?_
  intro p e s m args below meth c s₁ Bd hml0 hP hK
  obtain ⟨rfl, hZ, hh⟩ := hP
  have hx := Bd.exec
  have hby := Bd.bytes
  have hml : c.maxLocals = 2 := hml0
  have hown : s.vm.findClass "com/example/bitsieve/bitsieve/MurmurHash3Fmix64PinLaw" = some m.cls := findClass_of_methodNamed Bd.named
  have hnm := (name_of_methodNamed Bd.named Bd.method).1
  have X0 : Stand p l e own_roomS s m #[(.long q0)] below meth c s₁ [] 0 0 := Stand.of_body Bd
  have e0 : s₁.heap = h0 := by rw [← hh, Bd.state]; rfl
  have N0 := Fr.nil n0
  have pre0 : ∀ t, Steps p.tables e below (s₁.setTop (mkF m 0 #[.val (.long q0), .second] [])) t → Steps p.tables e below (s₁.setTop (entryFrame m #[(.long q0)] 2)) t := fun t k => castTop (efS m q0) k
  have pre6 : ∀ t, Steps p.tables e below (s₁.setTop (mkF m 6 #[.val (.long q0), .second] [(.long (q0 ^^^ ((q0.toUInt64 >>> ((33 : Int32) &&& 0x3f).toInt64.toUInt64).toInt64)))])) t → Steps p.tables e below (s₁.setTop (entryFrame m #[(.long q0)] 2)) t := fun t k => pre0 t (by
    show Steps p.tables e below (s₁.setTop (mkF m 0 #[.val (.long q0), .second] [])) t
    refine XS.lloadN X0.here hx rfl (hb hby dS_0) rfl ?_
    show Steps p.tables e below (s₁.setTop (mkF m 1 #[.val (.long q0), .second] [(.long q0)])) _
    refine XS.lloadN X0.here hx rfl (hb hby dS_1) rfl ?_
    show Steps p.tables e below (s₁.setTop (mkF m 2 #[.val (.long q0), .second] [(.long q0), (.long q0)])) _
    refine XS.bipush X0.here hx rfl (hb hby dS_2) ?_
    show Steps p.tables e below (s₁.setTop (mkF m 4 #[.val (.long q0), .second] [(.int (33 : Int32)), (.long q0), (.long q0)])) _
    refine XS.lushr X0.here hx rfl (hb hby dS_4) rfl ?_
    show Steps p.tables e below (s₁.setTop (mkF m 5 #[.val (.long q0), .second] [(.long ((q0.toUInt64 >>> ((33 : Int32) &&& 0x3f).toInt64.toUInt64).toInt64)), (.long q0)])) _
    refine XS.lxor X0.here hx rfl (hb hby dS_5) rfl ?_
    show Steps p.tables e below (s₁.setTop (mkF m 6 #[.val (.long q0), .second] [(.long (q0 ^^^ ((q0.toUInt64 >>> ((33 : Int32) &&& 0x3f).toInt64.toUInt64).toInt64)))])) _
    exact k)
  obtain ⟨fs, hr, hrun, hended, hW, hsame⟩ := X0.leave (v := some (.long (q0 ^^^ ((q0.toUInt64 >>> ((33 : Int32) &&& 0x3f).toInt64.toUInt64).toInt64)))) (fun h => by rw [Bd.returns] at h; cases h)
  refine ⟨_, _, pre6 _ ?_, hrun, hended, _, _, rfl, ?_, ⟨_, rfl⟩, hW, hsame.mono (by decide) (by decide)⟩
  · show Steps p.tables e below (s₁.setTop (mkF m 6 #[.val (.long q0), .second] [(.long (q0 ^^^ ((q0.toUInt64 >>> ((33 : Int32) &&& 0x3f).toInt64.toUInt64).toInt64)))])) _
    exact retOut X0 hx Bd.returns rfl (Or.inr (Or.inl ⟨rfl, rfl, _, rfl⟩)) (hb hby dS_6) hr
  · show QS Z q0 h0 n0 _ s₁.heap _
    rw [e0]
    have hres : (q0 ^^^ ((q0.toUInt64 >>> ((33 : Int32) &&& 0x3f).toInt64.toUInt64).toInt64)) = (own_fS q0) := by
      rw [own_fS]
      first | done | rfl | exact own_narB _
    exact ⟨congrArg (fun q => some (Value.long q)) hres, N0, rfl⟩
def own_sh (x : Int64) : Int64 := x ^^^ ((x.toUInt64 >>> ((33 : Int32) &&& 0x3f).toInt64.toUInt64).toInt64)
theorem own_sh_bv (x : Int64) : (own_sh x).toBitVec = x.toBitVec ^^^ (x.toBitVec >>> 33) := by
  have h : ((33 : Int32) &&& 0x3f).toInt64.toUInt64 = 33 := by decide
  show (x ^^^ ((x.toUInt64 >>> ((33 : Int32) &&& 0x3f).toInt64.toUInt64).toInt64)).toBitVec = _
  rw [h, Int64.toBitVec_xor]
  rfl
theorem own_sh_sh (x : Int64) : own_sh (own_sh x) = x := by
  apply Int64.toBitVec_inj.mp
  rw [own_sh_bv, own_sh_bv]
  apply BitVec.eq_of_getLsbD_eq
  intro i hi
  simp only [BitVec.getLsbD_xor, BitVec.getLsbD_ushiftRight]
  have h : x.toBitVec.getLsbD (33 + (33 + i)) = false := BitVec.getLsbD_of_ge _ _ (by omega)
  rw [h]
  simp
theorem own_i1 : (-49064778989728563 : Int64) * own_fI (-49064778989728563 : Int64) = 1 := by decide +kernel
theorem own_i2 : (-4265267296055464877 : Int64) * own_fI (-4265267296055464877 : Int64) = 1 := by decide +kernel
theorem own_mix (q : Int64) : own_fM q = own_sh (own_sh (own_sh q * (-49064778989728563 : Int64)) * (-4265267296055464877 : Int64)) := rfl
theorem own_back (q : Int64) : own_fS (own_fS (own_fS (own_fM q) * own_fI (-4265267296055464877 : Int64)) * own_fI (-49064778989728563 : Int64)) = q := by
  show own_sh (own_sh (own_sh (own_fM q) * own_fI (-4265267296055464877 : Int64)) * own_fI (-49064778989728563 : Int64)) = q
  rw [own_mix, own_sh_sh, Int64.mul_assoc, own_i2, Int64.mul_one, own_sh_sh, Int64.mul_assoc, own_i1, Int64.mul_one, own_sh_sh]
theorem pn0 : plainName "com/example/bitsieve/bitsieve/MurmurHash3Fmix64PinLaw" = true := by first | (simp [plainName, overriddenIn]; done) | decide +kernel
theorem pd0_0 : parseMethodDescriptor "(J)J" = some ⟨[.long], some .long⟩ := by decide +kernel
theorem ef0 (m : MethodId) (q0 : Int64) : entryFrame m #[(.long q0)] maxLocals = mkF m 0 #[.val (.long q0), .second, .unset, .unset, .unset, .unset, .unset, .unset, .unset, .unset, .unset, .unset, .unset, .unset, .unset, .unset, .unset, .unset] [] := by first | (simp [entryFrame, mkF, argsToLocals, Value.category, maxLocals]; done) | rfl
def Q0 (Z : State) (q0 : Int64) (h0 : Heap) (n0 : Nat) (v : Option Value) (h : Heap) (L : List Loc) : Prop := v = some (.int (1 : Int32)) ∧ Fr n0 L
set_option maxRecDepth 65536 in
set_option maxHeartbeats 40000000 in
theorem rm0 (l : Launch) (Z : State) (a0 : Array Value) (hw : ∀ d ∈ tables_1, d.before a0 Z = true) (ws : List Jvm.Cond) (q0 : Int64) (h0 : Heap) (n0 : Nat) (Z0 : n0 ≤ h0.size) :
    MetFree l x (head1 (Jvm.Cond.code x code maxLocals ret :: ws) room_1) (fun a U => a = #[(.long q0)] ∧ Z.Warmed39 U.vm ∧ U.heap = h0) (fun _ _ _ _ _ => True) (fun _ U o U' => ∃ v L, o = .returned v ∧ Q0 Z q0 h0 n0 v U'.heap L ∧ FrameEnd U o U' L room_1.cells room_1.slots) := by
  refine MetFree.of_bodySF (plainFor_of_name pn0) hisR ?_
  intro p e s m args below meth c s₁ Bd hml0 hP hK
  obtain ⟨rfl, hZ, hh⟩ := hP
  have hx := Bd.exec
  have hby := Bd.bytes
  have hml : c.maxLocals = 18 := hml0
  have hown : s.vm.findClass "com/example/bitsieve/bitsieve/MurmurHash3Fmix64PinLaw" = some m.cls := findClass_of_methodNamed Bd.named
  have hnm := (name_of_methodNamed Bd.named Bd.method).1
  have X0 : Stand p l e room_1 s m #[(.long q0)] below meth c s₁ [] 0 0 := Stand.of_body Bd
  have e0 : s₁.heap = h0 := by rw [← hh, Bd.state]; rfl
  have N0 := Fr.nil n0
  have pre0 : ∀ t, Steps p.tables e below (s₁.setTop (mkF m 0 #[.val (.long q0), .second, .unset, .unset, .unset, .unset, .unset, .unset, .unset, .unset, .unset, .unset, .unset, .unset, .unset, .unset, .unset, .unset] [])) t → Steps p.tables e below (s₁.setTop (entryFrame m #[(.long q0)] maxLocals)) t := fun t k => castTop (ef0 m q0) k
  have pre10 : ∀ t, Steps p.tables e below (s₁.setTop (mkF m 10 #[.val (.long q0), .second, .val (.long (-49064778989728563 : Int64)), .second, .val (.long (-4265267296055464877 : Int64)), .second, .unset, .unset, .unset, .unset, .unset, .unset, .unset, .unset, .unset, .unset, .unset, .unset] [(.long (-49064778989728563 : Int64))])) t → Steps p.tables e below (s₁.setTop (entryFrame m #[(.long q0)] maxLocals)) t := fun t k => pre0 t (by
    show Steps p.tables e below (s₁.setTop (mkF m 0 #[.val (.long q0), .second, .unset, .unset, .unset, .unset, .unset, .unset, .unset, .unset, .unset, .unset, .unset, .unset, .unset, .unset, .unset, .unset] [])) t
    refine X0.ldc2Long hx hown (mvT hZ (hw _ (List.mem_of_getElem? (i := 0) rfl))) (g := (mkF m 0 #[.val (.long q0), .second, .unset, .unset, .unset, .unset, .unset, .unset, .unset, .unset, .unset, .unset, .unset, .unset, .unset, .unset, .unset, .unset] [])) rfl (hb hby at_0) _ ?_
    show Steps p.tables e below (s₁.setTop (mkF m 3 #[.val (.long q0), .second, .unset, .unset, .unset, .unset, .unset, .unset, .unset, .unset, .unset, .unset, .unset, .unset, .unset, .unset, .unset, .unset] [(.long (-49064778989728563 : Int64))])) _
    refine XS.lstoreN X0.here hx rfl (hb hby at_3) rfl (l' := #[.val (.long q0), .second, .val (.long (-49064778989728563 : Int64)), .second, .unset, .unset, .unset, .unset, .unset, .unset, .unset, .unset, .unset, .unset, .unset, .unset, .unset, .unset]) rfl ?_
    show Steps p.tables e below (s₁.setTop (mkF m 4 #[.val (.long q0), .second, .val (.long (-49064778989728563 : Int64)), .second, .unset, .unset, .unset, .unset, .unset, .unset, .unset, .unset, .unset, .unset, .unset, .unset, .unset, .unset] [])) _
    refine X0.ldc2Long hx hown (mvT hZ (hw _ (List.mem_of_getElem? (i := 1) rfl))) (g := (mkF m 4 #[.val (.long q0), .second, .val (.long (-49064778989728563 : Int64)), .second, .unset, .unset, .unset, .unset, .unset, .unset, .unset, .unset, .unset, .unset, .unset, .unset, .unset, .unset] [])) rfl (hb hby at_4) _ ?_
    show Steps p.tables e below (s₁.setTop (mkF m 7 #[.val (.long q0), .second, .val (.long (-49064778989728563 : Int64)), .second, .unset, .unset, .unset, .unset, .unset, .unset, .unset, .unset, .unset, .unset, .unset, .unset, .unset, .unset] [(.long (-4265267296055464877 : Int64))])) _
    refine XS.lstore X0.here hx rfl (hb hby at_7) rfl (l' := #[.val (.long q0), .second, .val (.long (-49064778989728563 : Int64)), .second, .val (.long (-4265267296055464877 : Int64)), .second, .unset, .unset, .unset, .unset, .unset, .unset, .unset, .unset, .unset, .unset, .unset, .unset]) rfl ?_
    show Steps p.tables e below (s₁.setTop (mkF m 9 #[.val (.long q0), .second, .val (.long (-49064778989728563 : Int64)), .second, .val (.long (-4265267296055464877 : Int64)), .second, .unset, .unset, .unset, .unset, .unset, .unset, .unset, .unset, .unset, .unset, .unset, .unset] [])) _
    refine XS.lloadN X0.here hx rfl (hb hby at_9) rfl ?_
    show Steps p.tables e below (s₁.setTop (mkF m 10 #[.val (.long q0), .second, .val (.long (-49064778989728563 : Int64)), .second, .val (.long (-4265267296055464877 : Int64)), .second, .unset, .unset, .unset, .unset, .unset, .unset, .unset, .unset, .unset, .unset, .unset, .unset] [(.long (-49064778989728563 : Int64))])) _
    exact k)
  obtain ⟨_, _, ⟨T10, L10, k10, n10⟩, -, X10, ⟨Lc10, hQ10, l10, y10, z10⟩, st10⟩ := Jvm.LawKit.callS X0 hx (y := (⟨"com/example/bitsieve/bitsieve/MurmurHash3Fmix64PinLaw", "inverseOdd", "(J)J"⟩ : MethodName)) hown (mvT hZ (hw _ (List.mem_of_getElem? (i := 2) rfl))) (mvT hZ (hw _ (List.mem_of_getElem? (i := 3) rfl))) (mvT hZ (hw _ (List.mem_of_getElem? (i := 4) rfl))) (mvT hZ (hw _ (List.mem_of_getElem? (i := 5) rfl))) (by decide) (backOf (W := 0) (rmI l Z a0 hw [] (-49064778989728563 : Int64)  h0 n0 Z0 ) hZ (hw _ (List.mem_of_getElem? (i := 5) rfl)) (hw _ (List.mem_of_getElem? (i := 4) rfl)) (by decide) (by decide)) (g := (mkF m 10 #[.val (.long q0), .second, .val (.long (-49064778989728563 : Int64)), .second, .val (.long (-4265267296055464877 : Int64)), .second, .unset, .unset, .unset, .unset, .unset, .unset, .unset, .unset, .unset, .unset, .unset, .unset] [(.long (-49064778989728563 : Int64))])) rfl (by rw [hml]; rfl) (argsL := [(.long (-49064778989728563 : Int64))]) (rest := []) (lenOf pd0_0 rfl) rfl (by show 2 * 0 + _ ≤ _; exact Nat.le_of_eq rfl) (hb hby at_10) (fun _ _ => ⟨rfl, e0, (by decide : 0 + 0 ≤ _), (by decide : 0 + 0 ≤ _)⟩)
  dsimp only [Pt.U, Pt.locs, Pt.cells, Pt.slots] at X10 l10 y10 z10 st10 hQ10
  subst l10 y10 z10
  obtain ⟨rfl, N10q, e10⟩ := hQ10
  have N10 := Fr.app N0 N10q
  have pre13 : ∀ t, Steps p.tables e below (T10.setTop (mkF m 13 #[.val (.long q0), .second, .val (.long (-49064778989728563 : Int64)), .second, .val (.long (-4265267296055464877 : Int64)), .second, .unset, .unset, .unset, .unset, .unset, .unset, .unset, .unset, .unset, .unset, .unset, .unset] [(.long (own_fI (-49064778989728563 : Int64)))])) t → Steps p.tables e below (s₁.setTop (entryFrame m #[(.long q0)] maxLocals)) t := fun t k => pre10 t (st10 _ k)
  obtain ⟨x13, hx13⟩ : ∃ z : Int64, z = (own_fI (-49064778989728563 : Int64)) := ⟨_, rfl⟩
  have pre15 : ∀ t, Steps p.tables e below (T10.setTop (mkF m 15 #[.val (.long q0), .second, .val (.long (-49064778989728563 : Int64)), .second, .val (.long (-4265267296055464877 : Int64)), .second, .val (.long x13), .second, .unset, .unset, .unset, .unset, .unset, .unset, .unset, .unset, .unset, .unset] [])) t → Steps p.tables e below (s₁.setTop (entryFrame m #[(.long q0)] maxLocals)) t := fun t k => pre13 t (by
    show Steps p.tables e below (T10.setTop (mkF m 13 #[.val (.long q0), .second, .val (.long (-49064778989728563 : Int64)), .second, .val (.long (-4265267296055464877 : Int64)), .second, .unset, .unset, .unset, .unset, .unset, .unset, .unset, .unset, .unset, .unset, .unset, .unset] [(.long (own_fI (-49064778989728563 : Int64)))])) t
    refine XS.lstore X10.here hx rfl (hb hby at_13) rfl (l' := #[.val (.long q0), .second, .val (.long (-49064778989728563 : Int64)), .second, .val (.long (-4265267296055464877 : Int64)), .second, .val (.long (own_fI (-49064778989728563 : Int64))), .second, .unset, .unset, .unset, .unset, .unset, .unset, .unset, .unset, .unset, .unset]) rfl ?_
    show Steps p.tables e below (T10.setTop (mkF m 15 #[.val (.long q0), .second, .val (.long (-49064778989728563 : Int64)), .second, .val (.long (-4265267296055464877 : Int64)), .second, .val (.long (own_fI (-49064778989728563 : Int64))), .second, .unset, .unset, .unset, .unset, .unset, .unset, .unset, .unset, .unset, .unset] [])) _
    subst hx13
    exact k)
  have pre17 : ∀ t, Steps p.tables e below (T10.setTop (mkF m 17 #[.val (.long q0), .second, .val (.long (-49064778989728563 : Int64)), .second, .val (.long (-4265267296055464877 : Int64)), .second, .val (.long x13), .second, .unset, .unset, .unset, .unset, .unset, .unset, .unset, .unset, .unset, .unset] [(.long (-4265267296055464877 : Int64))])) t → Steps p.tables e below (s₁.setTop (entryFrame m #[(.long q0)] maxLocals)) t := fun t k => pre15 t (by
    show Steps p.tables e below (T10.setTop (mkF m 15 #[.val (.long q0), .second, .val (.long (-49064778989728563 : Int64)), .second, .val (.long (-4265267296055464877 : Int64)), .second, .val (.long x13), .second, .unset, .unset, .unset, .unset, .unset, .unset, .unset, .unset, .unset, .unset] [])) t
    refine XS.lload X10.here hx rfl (hb hby at_15) rfl ?_
    show Steps p.tables e below (T10.setTop (mkF m 17 #[.val (.long q0), .second, .val (.long (-49064778989728563 : Int64)), .second, .val (.long (-4265267296055464877 : Int64)), .second, .val (.long x13), .second, .unset, .unset, .unset, .unset, .unset, .unset, .unset, .unset, .unset, .unset] [(.long (-4265267296055464877 : Int64))])) _
    exact k)
  obtain ⟨_, _, ⟨T17, L17, k17, n17⟩, -, X17, ⟨Lc17, hQ17, l17, y17, z17⟩, st17⟩ := Jvm.LawKit.callS X10 hx (y := (⟨"com/example/bitsieve/bitsieve/MurmurHash3Fmix64PinLaw", "inverseOdd", "(J)J"⟩ : MethodName)) hown (mvT hZ (hw _ (List.mem_of_getElem? (i := 2) rfl))) (mvT hZ (hw _ (List.mem_of_getElem? (i := 3) rfl))) (mvT hZ (hw _ (List.mem_of_getElem? (i := 4) rfl))) (mvT hZ (hw _ (List.mem_of_getElem? (i := 5) rfl))) (by decide) (backOf (W := 0) (rmI l Z a0 hw [] (-4265267296055464877 : Int64)  h0 n0 Z0 ) hZ (hw _ (List.mem_of_getElem? (i := 5) rfl)) (hw _ (List.mem_of_getElem? (i := 4) rfl)) (by decide) (by decide)) (g := (mkF m 17 #[.val (.long q0), .second, .val (.long (-49064778989728563 : Int64)), .second, .val (.long (-4265267296055464877 : Int64)), .second, .val (.long x13), .second, .unset, .unset, .unset, .unset, .unset, .unset, .unset, .unset, .unset, .unset] [(.long (-4265267296055464877 : Int64))])) rfl (by rw [hml]; rfl) (argsL := [(.long (-4265267296055464877 : Int64))]) (rest := []) (lenOf pd0_0 rfl) rfl (by show 2 * 0 + _ ≤ _; exact Nat.le_of_eq rfl) (hb hby at_17) (fun _ _ => ⟨rfl, e10, (by decide : 0 + 0 ≤ _), (by decide : 0 + 0 ≤ _)⟩)
  dsimp only [Pt.U, Pt.locs, Pt.cells, Pt.slots] at X17 l17 y17 z17 st17 hQ17
  subst l17 y17 z17
  obtain ⟨rfl, N17q, e17⟩ := hQ17
  have N17 := Fr.app N10 N17q
  have pre20 : ∀ t, Steps p.tables e below (T17.setTop (mkF m 20 #[.val (.long q0), .second, .val (.long (-49064778989728563 : Int64)), .second, .val (.long (-4265267296055464877 : Int64)), .second, .val (.long x13), .second, .unset, .unset, .unset, .unset, .unset, .unset, .unset, .unset, .unset, .unset] [(.long (own_fI (-4265267296055464877 : Int64)))])) t → Steps p.tables e below (s₁.setTop (entryFrame m #[(.long q0)] maxLocals)) t := fun t k => pre17 t (st17 _ k)
  obtain ⟨x20, hx20⟩ : ∃ z : Int64, z = (own_fI (-4265267296055464877 : Int64)) := ⟨_, rfl⟩
  have pre22 : ∀ t, Steps p.tables e below (T17.setTop (mkF m 22 #[.val (.long q0), .second, .val (.long (-49064778989728563 : Int64)), .second, .val (.long (-4265267296055464877 : Int64)), .second, .val (.long x13), .second, .val (.long x20), .second, .unset, .unset, .unset, .unset, .unset, .unset, .unset, .unset] [])) t → Steps p.tables e below (s₁.setTop (entryFrame m #[(.long q0)] maxLocals)) t := fun t k => pre20 t (by
    show Steps p.tables e below (T17.setTop (mkF m 20 #[.val (.long q0), .second, .val (.long (-49064778989728563 : Int64)), .second, .val (.long (-4265267296055464877 : Int64)), .second, .val (.long x13), .second, .unset, .unset, .unset, .unset, .unset, .unset, .unset, .unset, .unset, .unset] [(.long (own_fI (-4265267296055464877 : Int64)))])) t
    refine XS.lstore X17.here hx rfl (hb hby at_20) rfl (l' := #[.val (.long q0), .second, .val (.long (-49064778989728563 : Int64)), .second, .val (.long (-4265267296055464877 : Int64)), .second, .val (.long x13), .second, .val (.long (own_fI (-4265267296055464877 : Int64))), .second, .unset, .unset, .unset, .unset, .unset, .unset, .unset, .unset]) rfl ?_
    show Steps p.tables e below (T17.setTop (mkF m 22 #[.val (.long q0), .second, .val (.long (-49064778989728563 : Int64)), .second, .val (.long (-4265267296055464877 : Int64)), .second, .val (.long x13), .second, .val (.long (own_fI (-4265267296055464877 : Int64))), .second, .unset, .unset, .unset, .unset, .unset, .unset, .unset, .unset] [])) _
    subst hx20
    exact k)
  have pre44 : ∀ t, Steps p.tables e below (T17.setTop (mkF m 44 #[.val (.long q0), .second, .val (.long (-49064778989728563 : Int64)), .second, .val (.long (-4265267296055464877 : Int64)), .second, .val (.long x13), .second, .val (.long x20), .second, .unset, .unset, .unset, .unset, .unset, .unset, .unset, .unset] [(.long q0)])) t → Steps p.tables e below (s₁.setTop (entryFrame m #[(.long q0)] maxLocals)) t := fun t k => pre22 t (by
    show Steps p.tables e below (T17.setTop (mkF m 22 #[.val (.long q0), .second, .val (.long (-49064778989728563 : Int64)), .second, .val (.long (-4265267296055464877 : Int64)), .second, .val (.long x13), .second, .val (.long x20), .second, .unset, .unset, .unset, .unset, .unset, .unset, .unset, .unset] [])) t
    refine XS.lloadN X17.here hx rfl (hb hby at_22) rfl ?_
    show Steps p.tables e below (T17.setTop (mkF m 23 #[.val (.long q0), .second, .val (.long (-49064778989728563 : Int64)), .second, .val (.long (-4265267296055464877 : Int64)), .second, .val (.long x13), .second, .val (.long x20), .second, .unset, .unset, .unset, .unset, .unset, .unset, .unset, .unset] [(.long (-49064778989728563 : Int64))])) _
    refine XS.lload X17.here hx rfl (hb hby at_23) rfl ?_
    show Steps p.tables e below (T17.setTop (mkF m 25 #[.val (.long q0), .second, .val (.long (-49064778989728563 : Int64)), .second, .val (.long (-4265267296055464877 : Int64)), .second, .val (.long x13), .second, .val (.long x20), .second, .unset, .unset, .unset, .unset, .unset, .unset, .unset, .unset] [(.long x13), (.long (-49064778989728563 : Int64))])) _
    refine XS.lmul X17.here hx rfl (hb hby at_25) rfl ?_
    show Steps p.tables e below (T17.setTop (mkF m 26 #[.val (.long q0), .second, .val (.long (-49064778989728563 : Int64)), .second, .val (.long (-4265267296055464877 : Int64)), .second, .val (.long x13), .second, .val (.long x20), .second, .unset, .unset, .unset, .unset, .unset, .unset, .unset, .unset] [(.long ((-49064778989728563 : Int64) * x13))])) _
    refine XS.lconst X17.here hx rfl (hb hby at_26) ?_
    show Steps p.tables e below (T17.setTop (mkF m 27 #[.val (.long q0), .second, .val (.long (-49064778989728563 : Int64)), .second, .val (.long (-4265267296055464877 : Int64)), .second, .val (.long x13), .second, .val (.long x20), .second, .unset, .unset, .unset, .unset, .unset, .unset, .unset, .unset] [(.long (1 : Int64)), (.long ((-49064778989728563 : Int64) * x13))])) _
    refine XS.lcmp X17.here hx rfl (hb hby at_27) rfl ?_
    show Steps p.tables e below (T17.setTop (mkF m 28 #[.val (.long q0), .second, .val (.long (-49064778989728563 : Int64)), .second, .val (.long (-4265267296055464877 : Int64)), .second, .val (.long x13), .second, .val (.long x20), .second, .unset, .unset, .unset, .unset, .unset, .unset, .unset, .unset] [(.int (lcmpW ((-49064778989728563 : Int64) * x13) (1 : Int64)))])) _
    refine XS.ifNo X17.here hx rfl (hb hby at_28) rfl ((if0 _ _).trans (teq ((lw_eq _ _).mpr (by rw [hx13]; exact own_i1))).2) ?_
    show Steps p.tables e below (T17.setTop (mkF m 31 #[.val (.long q0), .second, .val (.long (-49064778989728563 : Int64)), .second, .val (.long (-4265267296055464877 : Int64)), .second, .val (.long x13), .second, .val (.long x20), .second, .unset, .unset, .unset, .unset, .unset, .unset, .unset, .unset] [])) _
    refine XS.lload X17.here hx rfl (hb hby at_31) rfl ?_
    show Steps p.tables e below (T17.setTop (mkF m 33 #[.val (.long q0), .second, .val (.long (-49064778989728563 : Int64)), .second, .val (.long (-4265267296055464877 : Int64)), .second, .val (.long x13), .second, .val (.long x20), .second, .unset, .unset, .unset, .unset, .unset, .unset, .unset, .unset] [(.long (-4265267296055464877 : Int64))])) _
    refine XS.lload X17.here hx rfl (hb hby at_33) rfl ?_
    show Steps p.tables e below (T17.setTop (mkF m 35 #[.val (.long q0), .second, .val (.long (-49064778989728563 : Int64)), .second, .val (.long (-4265267296055464877 : Int64)), .second, .val (.long x13), .second, .val (.long x20), .second, .unset, .unset, .unset, .unset, .unset, .unset, .unset, .unset] [(.long x20), (.long (-4265267296055464877 : Int64))])) _
    refine XS.lmul X17.here hx rfl (hb hby at_35) rfl ?_
    show Steps p.tables e below (T17.setTop (mkF m 36 #[.val (.long q0), .second, .val (.long (-49064778989728563 : Int64)), .second, .val (.long (-4265267296055464877 : Int64)), .second, .val (.long x13), .second, .val (.long x20), .second, .unset, .unset, .unset, .unset, .unset, .unset, .unset, .unset] [(.long ((-4265267296055464877 : Int64) * x20))])) _
    refine XS.lconst X17.here hx rfl (hb hby at_36) ?_
    show Steps p.tables e below (T17.setTop (mkF m 37 #[.val (.long q0), .second, .val (.long (-49064778989728563 : Int64)), .second, .val (.long (-4265267296055464877 : Int64)), .second, .val (.long x13), .second, .val (.long x20), .second, .unset, .unset, .unset, .unset, .unset, .unset, .unset, .unset] [(.long (1 : Int64)), (.long ((-4265267296055464877 : Int64) * x20))])) _
    refine XS.lcmp X17.here hx rfl (hb hby at_37) rfl ?_
    show Steps p.tables e below (T17.setTop (mkF m 38 #[.val (.long q0), .second, .val (.long (-49064778989728563 : Int64)), .second, .val (.long (-4265267296055464877 : Int64)), .second, .val (.long x13), .second, .val (.long x20), .second, .unset, .unset, .unset, .unset, .unset, .unset, .unset, .unset] [(.int (lcmpW ((-4265267296055464877 : Int64) * x20) (1 : Int64)))])) _
    refine XS.ifYes X17.here hx rfl (pc0 := 38) (pc' := 43) rfl (hb hby at_38) rfl ((if0 _ _).trans (teq ((lw_eq _ _).mpr (by rw [hx20]; exact own_i2))).1) (by decide) (by decide) ?_
    show Steps p.tables e below (T17.setTop (mkF m 43 #[.val (.long q0), .second, .val (.long (-49064778989728563 : Int64)), .second, .val (.long (-4265267296055464877 : Int64)), .second, .val (.long x13), .second, .val (.long x20), .second, .unset, .unset, .unset, .unset, .unset, .unset, .unset, .unset] [])) _
    refine XS.lloadN X17.here hx rfl (hb hby at_43) rfl ?_
    show Steps p.tables e below (T17.setTop (mkF m 44 #[.val (.long q0), .second, .val (.long (-49064778989728563 : Int64)), .second, .val (.long (-4265267296055464877 : Int64)), .second, .val (.long x13), .second, .val (.long x20), .second, .unset, .unset, .unset, .unset, .unset, .unset, .unset, .unset] [(.long q0)])) _
    exact k)
  obtain ⟨_, _, ⟨T44, L44, k44, n44⟩, -, X44, ⟨Lc44, hQ44, l44, y44, z44⟩, st44⟩ := Jvm.LawKit.callS X17 hx (y := (⟨"com/example/bitsieve/bitsieve/MurmurHash3", "fmix64", "(J)J"⟩ : MethodName)) hown (mvT hZ (hw _ (List.mem_of_getElem? (i := 7) rfl))) (mvT hZ (hw _ (List.mem_of_getElem? (i := 8) rfl))) (mvT hZ (hw _ (List.mem_of_getElem? (i := 9) rfl))) (mvT hZ (hw _ (List.mem_of_getElem? (i := 10) rfl))) (by decide) (backOf (W := 0) (rmM l Z a0 hw [] q0  h0 n0 Z0 ) hZ (hw _ (List.mem_of_getElem? (i := 10) rfl)) (hw _ (List.mem_of_getElem? (i := 9) rfl)) (by decide) (by decide)) (g := (mkF m 44 #[.val (.long q0), .second, .val (.long (-49064778989728563 : Int64)), .second, .val (.long (-4265267296055464877 : Int64)), .second, .val (.long x13), .second, .val (.long x20), .second, .unset, .unset, .unset, .unset, .unset, .unset, .unset, .unset] [(.long q0)])) rfl (by rw [hml]; rfl) (argsL := [(.long q0)]) (rest := []) (lenOf pd0_0 rfl) rfl (by show 2 * 0 + _ ≤ _; exact Nat.le_of_eq rfl) (hb hby at_44) (fun _ _ => ⟨rfl, e17, (by decide : 0 + 0 ≤ _), (by decide : 0 + 0 ≤ _)⟩)
  dsimp only [Pt.U, Pt.locs, Pt.cells, Pt.slots] at X44 l44 y44 z44 st44 hQ44
  subst l44 y44 z44
  obtain ⟨rfl, N44q, e44⟩ := hQ44
  have N44 := Fr.app N17 N44q
  have pre47 : ∀ t, Steps p.tables e below (T44.setTop (mkF m 47 #[.val (.long q0), .second, .val (.long (-49064778989728563 : Int64)), .second, .val (.long (-4265267296055464877 : Int64)), .second, .val (.long x13), .second, .val (.long x20), .second, .unset, .unset, .unset, .unset, .unset, .unset, .unset, .unset] [(.long (own_fM q0))])) t → Steps p.tables e below (s₁.setTop (entryFrame m #[(.long q0)] maxLocals)) t := fun t k => pre44 t (st44 _ k)
  obtain ⟨x47, hx47⟩ : ∃ z : Int64, z = (own_fM q0) := ⟨_, rfl⟩
  have pre49 : ∀ t, Steps p.tables e below (T44.setTop (mkF m 49 #[.val (.long q0), .second, .val (.long (-49064778989728563 : Int64)), .second, .val (.long (-4265267296055464877 : Int64)), .second, .val (.long x13), .second, .val (.long x20), .second, .val (.long x47), .second, .unset, .unset, .unset, .unset, .unset, .unset] [])) t → Steps p.tables e below (s₁.setTop (entryFrame m #[(.long q0)] maxLocals)) t := fun t k => pre47 t (by
    show Steps p.tables e below (T44.setTop (mkF m 47 #[.val (.long q0), .second, .val (.long (-49064778989728563 : Int64)), .second, .val (.long (-4265267296055464877 : Int64)), .second, .val (.long x13), .second, .val (.long x20), .second, .unset, .unset, .unset, .unset, .unset, .unset, .unset, .unset] [(.long (own_fM q0))])) t
    refine XS.lstore X44.here hx rfl (hb hby at_47) rfl (l' := #[.val (.long q0), .second, .val (.long (-49064778989728563 : Int64)), .second, .val (.long (-4265267296055464877 : Int64)), .second, .val (.long x13), .second, .val (.long x20), .second, .val (.long (own_fM q0)), .second, .unset, .unset, .unset, .unset, .unset, .unset]) rfl ?_
    show Steps p.tables e below (T44.setTop (mkF m 49 #[.val (.long q0), .second, .val (.long (-49064778989728563 : Int64)), .second, .val (.long (-4265267296055464877 : Int64)), .second, .val (.long x13), .second, .val (.long x20), .second, .val (.long (own_fM q0)), .second, .unset, .unset, .unset, .unset, .unset, .unset] [])) _
    subst hx47
    exact k)
  have pre51 : ∀ t, Steps p.tables e below (T44.setTop (mkF m 51 #[.val (.long q0), .second, .val (.long (-49064778989728563 : Int64)), .second, .val (.long (-4265267296055464877 : Int64)), .second, .val (.long x13), .second, .val (.long x20), .second, .val (.long x47), .second, .unset, .unset, .unset, .unset, .unset, .unset] [(.long x47)])) t → Steps p.tables e below (s₁.setTop (entryFrame m #[(.long q0)] maxLocals)) t := fun t k => pre49 t (by
    show Steps p.tables e below (T44.setTop (mkF m 49 #[.val (.long q0), .second, .val (.long (-49064778989728563 : Int64)), .second, .val (.long (-4265267296055464877 : Int64)), .second, .val (.long x13), .second, .val (.long x20), .second, .val (.long x47), .second, .unset, .unset, .unset, .unset, .unset, .unset] [])) t
    refine XS.lload X44.here hx rfl (hb hby at_49) rfl ?_
    show Steps p.tables e below (T44.setTop (mkF m 51 #[.val (.long q0), .second, .val (.long (-49064778989728563 : Int64)), .second, .val (.long (-4265267296055464877 : Int64)), .second, .val (.long x13), .second, .val (.long x20), .second, .val (.long x47), .second, .unset, .unset, .unset, .unset, .unset, .unset] [(.long x47)])) _
    exact k)
  obtain ⟨_, _, ⟨T51, L51, k51, n51⟩, -, X51, ⟨Lc51, hQ51, l51, y51, z51⟩, st51⟩ := Jvm.LawKit.callS X44 hx (y := (⟨"com/example/bitsieve/bitsieve/MurmurHash3Fmix64PinLaw", "unshift", "(J)J"⟩ : MethodName)) hown (mvT hZ (hw _ (List.mem_of_getElem? (i := 13) rfl))) (mvT hZ (hw _ (List.mem_of_getElem? (i := 14) rfl))) (mvT hZ (hw _ (List.mem_of_getElem? (i := 4) rfl))) (mvT hZ (hw _ (List.mem_of_getElem? (i := 15) rfl))) (by decide) (backOf (W := 0) (rmS l Z a0 hw [] x47  h0 n0 Z0 ) hZ (hw _ (List.mem_of_getElem? (i := 15) rfl)) (hw _ (List.mem_of_getElem? (i := 4) rfl)) (by decide) (by decide)) (g := (mkF m 51 #[.val (.long q0), .second, .val (.long (-49064778989728563 : Int64)), .second, .val (.long (-4265267296055464877 : Int64)), .second, .val (.long x13), .second, .val (.long x20), .second, .val (.long x47), .second, .unset, .unset, .unset, .unset, .unset, .unset] [(.long x47)])) rfl (by rw [hml]; rfl) (argsL := [(.long x47)]) (rest := []) (lenOf pd0_0 rfl) rfl (by show 2 * 0 + _ ≤ _; exact Nat.le_of_eq rfl) (hb hby at_51) (fun _ _ => ⟨rfl, e44, (by decide : 0 + 0 ≤ _), (by decide : 0 + 0 ≤ _)⟩)
  dsimp only [Pt.U, Pt.locs, Pt.cells, Pt.slots] at X51 l51 y51 z51 st51 hQ51
  subst l51 y51 z51
  obtain ⟨rfl, N51q, e51⟩ := hQ51
  have N51 := Fr.app N44 N51q
  have pre54 : ∀ t, Steps p.tables e below (T51.setTop (mkF m 54 #[.val (.long q0), .second, .val (.long (-49064778989728563 : Int64)), .second, .val (.long (-4265267296055464877 : Int64)), .second, .val (.long x13), .second, .val (.long x20), .second, .val (.long x47), .second, .unset, .unset, .unset, .unset, .unset, .unset] [(.long (own_fS x47))])) t → Steps p.tables e below (s₁.setTop (entryFrame m #[(.long q0)] maxLocals)) t := fun t k => pre51 t (st51 _ k)
  obtain ⟨x54, hx54⟩ : ∃ z : Int64, z = (own_fS x47) := ⟨_, rfl⟩
  have pre56 : ∀ t, Steps p.tables e below (T51.setTop (mkF m 56 #[.val (.long q0), .second, .val (.long (-49064778989728563 : Int64)), .second, .val (.long (-4265267296055464877 : Int64)), .second, .val (.long x13), .second, .val (.long x20), .second, .val (.long x47), .second, .val (.long x54), .second, .unset, .unset, .unset, .unset] [])) t → Steps p.tables e below (s₁.setTop (entryFrame m #[(.long q0)] maxLocals)) t := fun t k => pre54 t (by
    show Steps p.tables e below (T51.setTop (mkF m 54 #[.val (.long q0), .second, .val (.long (-49064778989728563 : Int64)), .second, .val (.long (-4265267296055464877 : Int64)), .second, .val (.long x13), .second, .val (.long x20), .second, .val (.long x47), .second, .unset, .unset, .unset, .unset, .unset, .unset] [(.long (own_fS x47))])) t
    refine XS.lstore X51.here hx rfl (hb hby at_54) rfl (l' := #[.val (.long q0), .second, .val (.long (-49064778989728563 : Int64)), .second, .val (.long (-4265267296055464877 : Int64)), .second, .val (.long x13), .second, .val (.long x20), .second, .val (.long x47), .second, .val (.long (own_fS x47)), .second, .unset, .unset, .unset, .unset]) rfl ?_
    show Steps p.tables e below (T51.setTop (mkF m 56 #[.val (.long q0), .second, .val (.long (-49064778989728563 : Int64)), .second, .val (.long (-4265267296055464877 : Int64)), .second, .val (.long x13), .second, .val (.long x20), .second, .val (.long x47), .second, .val (.long (own_fS x47)), .second, .unset, .unset, .unset, .unset] [])) _
    subst hx54
    exact k)
  have pre61 : ∀ t, Steps p.tables e below (T51.setTop (mkF m 61 #[.val (.long q0), .second, .val (.long (-49064778989728563 : Int64)), .second, .val (.long (-4265267296055464877 : Int64)), .second, .val (.long x13), .second, .val (.long x20), .second, .val (.long x47), .second, .val (.long x54), .second, .unset, .unset, .unset, .unset] [(.long (x54 * x20))])) t → Steps p.tables e below (s₁.setTop (entryFrame m #[(.long q0)] maxLocals)) t := fun t k => pre56 t (by
    show Steps p.tables e below (T51.setTop (mkF m 56 #[.val (.long q0), .second, .val (.long (-49064778989728563 : Int64)), .second, .val (.long (-4265267296055464877 : Int64)), .second, .val (.long x13), .second, .val (.long x20), .second, .val (.long x47), .second, .val (.long x54), .second, .unset, .unset, .unset, .unset] [])) t
    refine XS.lload X51.here hx rfl (hb hby at_56) rfl ?_
    show Steps p.tables e below (T51.setTop (mkF m 58 #[.val (.long q0), .second, .val (.long (-49064778989728563 : Int64)), .second, .val (.long (-4265267296055464877 : Int64)), .second, .val (.long x13), .second, .val (.long x20), .second, .val (.long x47), .second, .val (.long x54), .second, .unset, .unset, .unset, .unset] [(.long x54)])) _
    refine XS.lload X51.here hx rfl (hb hby at_58) rfl ?_
    show Steps p.tables e below (T51.setTop (mkF m 60 #[.val (.long q0), .second, .val (.long (-49064778989728563 : Int64)), .second, .val (.long (-4265267296055464877 : Int64)), .second, .val (.long x13), .second, .val (.long x20), .second, .val (.long x47), .second, .val (.long x54), .second, .unset, .unset, .unset, .unset] [(.long x20), (.long x54)])) _
    refine XS.lmul X51.here hx rfl (hb hby at_60) rfl ?_
    show Steps p.tables e below (T51.setTop (mkF m 61 #[.val (.long q0), .second, .val (.long (-49064778989728563 : Int64)), .second, .val (.long (-4265267296055464877 : Int64)), .second, .val (.long x13), .second, .val (.long x20), .second, .val (.long x47), .second, .val (.long x54), .second, .unset, .unset, .unset, .unset] [(.long (x54 * x20))])) _
    exact k)
  obtain ⟨_, _, ⟨T61, L61, k61, n61⟩, -, X61, ⟨Lc61, hQ61, l61, y61, z61⟩, st61⟩ := Jvm.LawKit.callS X51 hx (y := (⟨"com/example/bitsieve/bitsieve/MurmurHash3Fmix64PinLaw", "unshift", "(J)J"⟩ : MethodName)) hown (mvT hZ (hw _ (List.mem_of_getElem? (i := 13) rfl))) (mvT hZ (hw _ (List.mem_of_getElem? (i := 14) rfl))) (mvT hZ (hw _ (List.mem_of_getElem? (i := 4) rfl))) (mvT hZ (hw _ (List.mem_of_getElem? (i := 15) rfl))) (by decide) (backOf (W := 0) (rmS l Z a0 hw [] (x54 * x20)  h0 n0 Z0 ) hZ (hw _ (List.mem_of_getElem? (i := 15) rfl)) (hw _ (List.mem_of_getElem? (i := 4) rfl)) (by decide) (by decide)) (g := (mkF m 61 #[.val (.long q0), .second, .val (.long (-49064778989728563 : Int64)), .second, .val (.long (-4265267296055464877 : Int64)), .second, .val (.long x13), .second, .val (.long x20), .second, .val (.long x47), .second, .val (.long x54), .second, .unset, .unset, .unset, .unset] [(.long (x54 * x20))])) rfl (by rw [hml]; rfl) (argsL := [(.long (x54 * x20))]) (rest := []) (lenOf pd0_0 rfl) rfl (by show 2 * 0 + _ ≤ _; exact Nat.le_of_eq rfl) (hb hby at_61) (fun _ _ => ⟨rfl, e51, (by decide : 0 + 0 ≤ _), (by decide : 0 + 0 ≤ _)⟩)
  dsimp only [Pt.U, Pt.locs, Pt.cells, Pt.slots] at X61 l61 y61 z61 st61 hQ61
  subst l61 y61 z61
  obtain ⟨rfl, N61q, e61⟩ := hQ61
  have N61 := Fr.app N51 N61q
  have pre64 : ∀ t, Steps p.tables e below (T61.setTop (mkF m 64 #[.val (.long q0), .second, .val (.long (-49064778989728563 : Int64)), .second, .val (.long (-4265267296055464877 : Int64)), .second, .val (.long x13), .second, .val (.long x20), .second, .val (.long x47), .second, .val (.long x54), .second, .unset, .unset, .unset, .unset] [(.long (own_fS (x54 * x20)))])) t → Steps p.tables e below (s₁.setTop (entryFrame m #[(.long q0)] maxLocals)) t := fun t k => pre61 t (st61 _ k)
  obtain ⟨x64, hx64⟩ : ∃ z : Int64, z = (own_fS (x54 * x20)) := ⟨_, rfl⟩
  have pre66 : ∀ t, Steps p.tables e below (T61.setTop (mkF m 66 #[.val (.long q0), .second, .val (.long (-49064778989728563 : Int64)), .second, .val (.long (-4265267296055464877 : Int64)), .second, .val (.long x13), .second, .val (.long x20), .second, .val (.long x47), .second, .val (.long x54), .second, .val (.long x64), .second, .unset, .unset] [])) t → Steps p.tables e below (s₁.setTop (entryFrame m #[(.long q0)] maxLocals)) t := fun t k => pre64 t (by
    show Steps p.tables e below (T61.setTop (mkF m 64 #[.val (.long q0), .second, .val (.long (-49064778989728563 : Int64)), .second, .val (.long (-4265267296055464877 : Int64)), .second, .val (.long x13), .second, .val (.long x20), .second, .val (.long x47), .second, .val (.long x54), .second, .unset, .unset, .unset, .unset] [(.long (own_fS (x54 * x20)))])) t
    refine XS.lstore X61.here hx rfl (hb hby at_64) rfl (l' := #[.val (.long q0), .second, .val (.long (-49064778989728563 : Int64)), .second, .val (.long (-4265267296055464877 : Int64)), .second, .val (.long x13), .second, .val (.long x20), .second, .val (.long x47), .second, .val (.long x54), .second, .val (.long (own_fS (x54 * x20))), .second, .unset, .unset]) rfl ?_
    show Steps p.tables e below (T61.setTop (mkF m 66 #[.val (.long q0), .second, .val (.long (-49064778989728563 : Int64)), .second, .val (.long (-4265267296055464877 : Int64)), .second, .val (.long x13), .second, .val (.long x20), .second, .val (.long x47), .second, .val (.long x54), .second, .val (.long (own_fS (x54 * x20))), .second, .unset, .unset] [])) _
    subst hx64
    exact k)
  have pre71 : ∀ t, Steps p.tables e below (T61.setTop (mkF m 71 #[.val (.long q0), .second, .val (.long (-49064778989728563 : Int64)), .second, .val (.long (-4265267296055464877 : Int64)), .second, .val (.long x13), .second, .val (.long x20), .second, .val (.long x47), .second, .val (.long x54), .second, .val (.long x64), .second, .unset, .unset] [(.long (x64 * x13))])) t → Steps p.tables e below (s₁.setTop (entryFrame m #[(.long q0)] maxLocals)) t := fun t k => pre66 t (by
    show Steps p.tables e below (T61.setTop (mkF m 66 #[.val (.long q0), .second, .val (.long (-49064778989728563 : Int64)), .second, .val (.long (-4265267296055464877 : Int64)), .second, .val (.long x13), .second, .val (.long x20), .second, .val (.long x47), .second, .val (.long x54), .second, .val (.long x64), .second, .unset, .unset] [])) t
    refine XS.lload X61.here hx rfl (hb hby at_66) rfl ?_
    show Steps p.tables e below (T61.setTop (mkF m 68 #[.val (.long q0), .second, .val (.long (-49064778989728563 : Int64)), .second, .val (.long (-4265267296055464877 : Int64)), .second, .val (.long x13), .second, .val (.long x20), .second, .val (.long x47), .second, .val (.long x54), .second, .val (.long x64), .second, .unset, .unset] [(.long x64)])) _
    refine XS.lload X61.here hx rfl (hb hby at_68) rfl ?_
    show Steps p.tables e below (T61.setTop (mkF m 70 #[.val (.long q0), .second, .val (.long (-49064778989728563 : Int64)), .second, .val (.long (-4265267296055464877 : Int64)), .second, .val (.long x13), .second, .val (.long x20), .second, .val (.long x47), .second, .val (.long x54), .second, .val (.long x64), .second, .unset, .unset] [(.long x13), (.long x64)])) _
    refine XS.lmul X61.here hx rfl (hb hby at_70) rfl ?_
    show Steps p.tables e below (T61.setTop (mkF m 71 #[.val (.long q0), .second, .val (.long (-49064778989728563 : Int64)), .second, .val (.long (-4265267296055464877 : Int64)), .second, .val (.long x13), .second, .val (.long x20), .second, .val (.long x47), .second, .val (.long x54), .second, .val (.long x64), .second, .unset, .unset] [(.long (x64 * x13))])) _
    exact k)
  obtain ⟨_, _, ⟨T71, L71, k71, n71⟩, -, X71, ⟨Lc71, hQ71, l71, y71, z71⟩, st71⟩ := Jvm.LawKit.callS X61 hx (y := (⟨"com/example/bitsieve/bitsieve/MurmurHash3Fmix64PinLaw", "unshift", "(J)J"⟩ : MethodName)) hown (mvT hZ (hw _ (List.mem_of_getElem? (i := 13) rfl))) (mvT hZ (hw _ (List.mem_of_getElem? (i := 14) rfl))) (mvT hZ (hw _ (List.mem_of_getElem? (i := 4) rfl))) (mvT hZ (hw _ (List.mem_of_getElem? (i := 15) rfl))) (by decide) (backOf (W := 0) (rmS l Z a0 hw [] (x64 * x13)  h0 n0 Z0 ) hZ (hw _ (List.mem_of_getElem? (i := 15) rfl)) (hw _ (List.mem_of_getElem? (i := 4) rfl)) (by decide) (by decide)) (g := (mkF m 71 #[.val (.long q0), .second, .val (.long (-49064778989728563 : Int64)), .second, .val (.long (-4265267296055464877 : Int64)), .second, .val (.long x13), .second, .val (.long x20), .second, .val (.long x47), .second, .val (.long x54), .second, .val (.long x64), .second, .unset, .unset] [(.long (x64 * x13))])) rfl (by rw [hml]; rfl) (argsL := [(.long (x64 * x13))]) (rest := []) (lenOf pd0_0 rfl) rfl (by show 2 * 0 + _ ≤ _; exact Nat.le_of_eq rfl) (hb hby at_71) (fun _ _ => ⟨rfl, e61, (by decide : 0 + 0 ≤ _), (by decide : 0 + 0 ≤ _)⟩)
  dsimp only [Pt.U, Pt.locs, Pt.cells, Pt.slots] at X71 l71 y71 z71 st71 hQ71
  subst l71 y71 z71
  obtain ⟨rfl, N71q, e71⟩ := hQ71
  have N71 := Fr.app N61 N71q
  have pre74 : ∀ t, Steps p.tables e below (T71.setTop (mkF m 74 #[.val (.long q0), .second, .val (.long (-49064778989728563 : Int64)), .second, .val (.long (-4265267296055464877 : Int64)), .second, .val (.long x13), .second, .val (.long x20), .second, .val (.long x47), .second, .val (.long x54), .second, .val (.long x64), .second, .unset, .unset] [(.long (own_fS (x64 * x13)))])) t → Steps p.tables e below (s₁.setTop (entryFrame m #[(.long q0)] maxLocals)) t := fun t k => pre71 t (st71 _ k)
  obtain ⟨x74, hx74⟩ : ∃ z : Int64, z = (own_fS (x64 * x13)) := ⟨_, rfl⟩
  have pre76 : ∀ t, Steps p.tables e below (T71.setTop (mkF m 76 #[.val (.long q0), .second, .val (.long (-49064778989728563 : Int64)), .second, .val (.long (-4265267296055464877 : Int64)), .second, .val (.long x13), .second, .val (.long x20), .second, .val (.long x47), .second, .val (.long x54), .second, .val (.long x64), .second, .val (.long x74), .second] [])) t → Steps p.tables e below (s₁.setTop (entryFrame m #[(.long q0)] maxLocals)) t := fun t k => pre74 t (by
    show Steps p.tables e below (T71.setTop (mkF m 74 #[.val (.long q0), .second, .val (.long (-49064778989728563 : Int64)), .second, .val (.long (-4265267296055464877 : Int64)), .second, .val (.long x13), .second, .val (.long x20), .second, .val (.long x47), .second, .val (.long x54), .second, .val (.long x64), .second, .unset, .unset] [(.long (own_fS (x64 * x13)))])) t
    refine XS.lstore X71.here hx rfl (hb hby at_74) rfl (l' := #[.val (.long q0), .second, .val (.long (-49064778989728563 : Int64)), .second, .val (.long (-4265267296055464877 : Int64)), .second, .val (.long x13), .second, .val (.long x20), .second, .val (.long x47), .second, .val (.long x54), .second, .val (.long x64), .second, .val (.long (own_fS (x64 * x13))), .second]) rfl ?_
    show Steps p.tables e below (T71.setTop (mkF m 76 #[.val (.long q0), .second, .val (.long (-49064778989728563 : Int64)), .second, .val (.long (-4265267296055464877 : Int64)), .second, .val (.long x13), .second, .val (.long x20), .second, .val (.long x47), .second, .val (.long x54), .second, .val (.long x64), .second, .val (.long (own_fS (x64 * x13))), .second] [])) _
    subst hx74
    exact k)
  have pre80 : ∀ t, Steps p.tables e below (T71.setTop (mkF m 80 #[.val (.long q0), .second, .val (.long (-49064778989728563 : Int64)), .second, .val (.long (-4265267296055464877 : Int64)), .second, .val (.long x13), .second, .val (.long x20), .second, .val (.long x47), .second, .val (.long x54), .second, .val (.long x64), .second, .val (.long x74), .second] [(.int (lcmpW x74 q0))])) t → Steps p.tables e below (s₁.setTop (entryFrame m #[(.long q0)] maxLocals)) t := fun t k => pre76 t (by
    show Steps p.tables e below (T71.setTop (mkF m 76 #[.val (.long q0), .second, .val (.long (-49064778989728563 : Int64)), .second, .val (.long (-4265267296055464877 : Int64)), .second, .val (.long x13), .second, .val (.long x20), .second, .val (.long x47), .second, .val (.long x54), .second, .val (.long x64), .second, .val (.long x74), .second] [])) t
    refine XS.lload X71.here hx rfl (hb hby at_76) rfl ?_
    show Steps p.tables e below (T71.setTop (mkF m 78 #[.val (.long q0), .second, .val (.long (-49064778989728563 : Int64)), .second, .val (.long (-4265267296055464877 : Int64)), .second, .val (.long x13), .second, .val (.long x20), .second, .val (.long x47), .second, .val (.long x54), .second, .val (.long x64), .second, .val (.long x74), .second] [(.long x74)])) _
    refine XS.lloadN X71.here hx rfl (hb hby at_78) rfl ?_
    show Steps p.tables e below (T71.setTop (mkF m 79 #[.val (.long q0), .second, .val (.long (-49064778989728563 : Int64)), .second, .val (.long (-4265267296055464877 : Int64)), .second, .val (.long x13), .second, .val (.long x20), .second, .val (.long x47), .second, .val (.long x54), .second, .val (.long x64), .second, .val (.long x74), .second] [(.long q0), (.long x74)])) _
    refine XS.lcmp X71.here hx rfl (hb hby at_79) rfl ?_
    show Steps p.tables e below (T71.setTop (mkF m 80 #[.val (.long q0), .second, .val (.long (-49064778989728563 : Int64)), .second, .val (.long (-4265267296055464877 : Int64)), .second, .val (.long x13), .second, .val (.long x20), .second, .val (.long x47), .second, .val (.long x54), .second, .val (.long x64), .second, .val (.long x74), .second] [(.int (lcmpW x74 q0))])) _
    exact k)
  obtain ⟨v88_s0, hv88_s0⟩ : ∃ z : Int32, z = if (x74 = q0) then (1 : Int32) else 0 := ⟨_, rfl⟩
  have pre88 : ∀ t, Steps p.tables e below (T71.setTop (mkF m 88 #[.val (.long q0), .second, .val (.long (-49064778989728563 : Int64)), .second, .val (.long (-4265267296055464877 : Int64)), .second, .val (.long x13), .second, .val (.long x20), .second, .val (.long x47), .second, .val (.long x54), .second, .val (.long x64), .second, .val (.long x74), .second] [(.int v88_s0)])) t → Steps p.tables e below (s₁.setTop (entryFrame m #[(.long q0)] maxLocals)) t := by
    by_cases hc80 : x74 = q0
    · -- x74 = q0
      have pre83 : ∀ t, Steps p.tables e below (T71.setTop (mkF m 83 #[.val (.long q0), .second, .val (.long (-49064778989728563 : Int64)), .second, .val (.long (-4265267296055464877 : Int64)), .second, .val (.long x13), .second, .val (.long x20), .second, .val (.long x47), .second, .val (.long x54), .second, .val (.long x64), .second, .val (.long x74), .second] [])) t → Steps p.tables e below (s₁.setTop (entryFrame m #[(.long q0)] maxLocals)) t := fun t k => pre80 t (by
        show Steps p.tables e below (T71.setTop (mkF m 80 #[.val (.long q0), .second, .val (.long (-49064778989728563 : Int64)), .second, .val (.long (-4265267296055464877 : Int64)), .second, .val (.long x13), .second, .val (.long x20), .second, .val (.long x47), .second, .val (.long x54), .second, .val (.long x64), .second, .val (.long x74), .second] [(.int (lcmpW x74 q0))])) t
        refine XS.ifNo X71.here hx rfl (hb hby at_80) rfl ((if0 _ _).trans (teq ((lw_eq _ _).mpr hc80)).2) ?_
        exact k)
      have pre88 : ∀ t, Steps p.tables e below (T71.setTop (mkF m 88 #[.val (.long q0), .second, .val (.long (-49064778989728563 : Int64)), .second, .val (.long (-4265267296055464877 : Int64)), .second, .val (.long x13), .second, .val (.long x20), .second, .val (.long x47), .second, .val (.long x54), .second, .val (.long x64), .second, .val (.long x74), .second] [(.int (1 : Int32))])) t → Steps p.tables e below (s₁.setTop (entryFrame m #[(.long q0)] maxLocals)) t := fun t k => pre83 t (by
        show Steps p.tables e below (T71.setTop (mkF m 83 #[.val (.long q0), .second, .val (.long (-49064778989728563 : Int64)), .second, .val (.long (-4265267296055464877 : Int64)), .second, .val (.long x13), .second, .val (.long x20), .second, .val (.long x47), .second, .val (.long x54), .second, .val (.long x64), .second, .val (.long x74), .second] [])) t
        refine XS.iconst X71.here hx rfl (hb hby at_83) ?_
        show Steps p.tables e below (T71.setTop (mkF m 84 #[.val (.long q0), .second, .val (.long (-49064778989728563 : Int64)), .second, .val (.long (-4265267296055464877 : Int64)), .second, .val (.long x13), .second, .val (.long x20), .second, .val (.long x47), .second, .val (.long x54), .second, .val (.long x64), .second, .val (.long x74), .second] [(.int (1 : Int32))])) _
        refine XS.goto X71.here hx rfl (pc0 := 84) (pc' := 88) rfl (hb hby at_84) (by decide) (by decide) ?_
        show Steps p.tables e below (T71.setTop (mkF m 88 #[.val (.long q0), .second, .val (.long (-49064778989728563 : Int64)), .second, .val (.long (-4265267296055464877 : Int64)), .second, .val (.long x13), .second, .val (.long x20), .second, .val (.long x47), .second, .val (.long x54), .second, .val (.long x64), .second, .val (.long x74), .second] [(.int (1 : Int32))])) _
        exact k)
      have ehv88_s0 := hv88_s0.trans (if_pos hc80)
      exact fun t k => pre88 t (by subst ehv88_s0; exact k)
    · -- not x74 = q0
      have pre87 : ∀ t, Steps p.tables e below (T71.setTop (mkF m 87 #[.val (.long q0), .second, .val (.long (-49064778989728563 : Int64)), .second, .val (.long (-4265267296055464877 : Int64)), .second, .val (.long x13), .second, .val (.long x20), .second, .val (.long x47), .second, .val (.long x54), .second, .val (.long x64), .second, .val (.long x74), .second] [])) t → Steps p.tables e below (s₁.setTop (entryFrame m #[(.long q0)] maxLocals)) t := fun t k => pre80 t (by
        show Steps p.tables e below (T71.setTop (mkF m 80 #[.val (.long q0), .second, .val (.long (-49064778989728563 : Int64)), .second, .val (.long (-4265267296055464877 : Int64)), .second, .val (.long x13), .second, .val (.long x20), .second, .val (.long x47), .second, .val (.long x54), .second, .val (.long x64), .second, .val (.long x74), .second] [(.int (lcmpW x74 q0))])) t
        refine XS.ifYes X71.here hx rfl (pc0 := 80) (pc' := 87) rfl (hb hby at_80) rfl ((if0 _ _).trans (feq (fun q => hc80 ((lw_eq _ _).mp q))).2) (by decide) (by decide) ?_
        exact k)
      have pre88 : ∀ t, Steps p.tables e below (T71.setTop (mkF m 88 #[.val (.long q0), .second, .val (.long (-49064778989728563 : Int64)), .second, .val (.long (-4265267296055464877 : Int64)), .second, .val (.long x13), .second, .val (.long x20), .second, .val (.long x47), .second, .val (.long x54), .second, .val (.long x64), .second, .val (.long x74), .second] [(.int (0 : Int32))])) t → Steps p.tables e below (s₁.setTop (entryFrame m #[(.long q0)] maxLocals)) t := fun t k => pre87 t (by
        show Steps p.tables e below (T71.setTop (mkF m 87 #[.val (.long q0), .second, .val (.long (-49064778989728563 : Int64)), .second, .val (.long (-4265267296055464877 : Int64)), .second, .val (.long x13), .second, .val (.long x20), .second, .val (.long x47), .second, .val (.long x54), .second, .val (.long x64), .second, .val (.long x74), .second] [])) t
        refine XS.iconst X71.here hx rfl (hb hby at_87) ?_
        show Steps p.tables e below (T71.setTop (mkF m 88 #[.val (.long q0), .second, .val (.long (-49064778989728563 : Int64)), .second, .val (.long (-4265267296055464877 : Int64)), .second, .val (.long x13), .second, .val (.long x20), .second, .val (.long x47), .second, .val (.long x54), .second, .val (.long x64), .second, .val (.long x74), .second] [(.int (0 : Int32))])) _
        exact k)
      have ehv88_s0 := hv88_s0.trans (if_neg hc80)
      exact fun t k => pre88 t (by subst ehv88_s0; exact k)
  obtain ⟨fs, hr, hrun, hended, hW, hsame⟩ := X71.leave (v := some (.int (nar .boolean v88_s0))) (fun h => by rw [Bd.returns] at h; cases h)
  refine ⟨_, _, pre88 _ ?_, hrun, hended, _, _, rfl, ?_, ⟨_, rfl⟩, hW, hsame.mono (by decide) (by decide)⟩
  · show Steps p.tables e below (T71.setTop (mkF m 88 #[.val (.long q0), .second, .val (.long (-49064778989728563 : Int64)), .second, .val (.long (-4265267296055464877 : Int64)), .second, .val (.long x13), .second, .val (.long x20), .second, .val (.long x47), .second, .val (.long x54), .second, .val (.long x64), .second, .val (.long x74), .second] [(.int v88_s0)])) _
    exact retN X71 hx (t := .boolean) Bd.returns (by simp) (hb hby at_88) hr
  · show Q0 Z q0 h0 n0 _ T71.heap _
    rw [e71]
    have hres : (nar .boolean v88_s0) = (1 : Int32) := by
      rw [hv88_s0, own_narB]
      exact if_pos (by rw [hx74, hx64, hx54, hx47, hx20, hx13]; exact own_back q0)
    exact ⟨congrArg (fun q => some (Value.int q)) hres, N71⟩
set_option maxRecDepth 65536 in
set_option maxHeartbeats 40000000 in
theorem comes_1 {Post : Tables → Env → Array Value → State → Outcome → State → Prop} (hpost : ∀ tb e args s v u, (limb_1_1.after args s (.returned v) u = true ∧ limb_1_2.after args s (.returned v) u = true ∧ True) → FrameEnd s (.returned v) u (Jvm.fieldLocs frame_1_writes args s ++ Jvm.arrayLocs frame_1_arrays args s ++ Jvm.staticLocs frame_1_statics s) 0 0 → Post tb e args s (.returned v) u) :
    ArmFor flags0 classFile x code maxLocals ret World_1 tables_1 room_1 Calls_1 rest_1 Pre_1 Post := by
  intro l hfl _ _ p e ha hc hk s m args below hf hA hF happ hP
  obtain ⟨hcalls, hrest, hpre⟩ := hP
  obtain ⟨-, -, -, hnamed, -, -, -, hat⟩ := (Spec.applies_iff hf).mp happ
  obtain ⟨hg, hn⟩ := and_e (Cond.before_iff.mp (show (Jvm.Cond.and given_1 narrow_1).before args s = true from hpre))
  obtain ⟨gc, g0⟩ := and_e hg
  obtain ⟨w0, rfl⟩ : ∃ w0 : Value, args = #[w0] := by
    have hs : args.size = 1 := by simpa [Cond.value, given_1] using gc
    obtain ⟨L⟩ := args
    match L, hs with
    | [w0], _ => exact ⟨w0, rfl⟩
  have hw := fun d (hd : d ∈ tables_1) => atoms_spec (ws := Jvm.Cond.code x code maxLocals ret :: tables_1) hat d (List.mem_cons_of_mem _ hd)
  have hfit : Fit s := fun {y c} hc i hi => by
    obtain ⟨ha, rfl⟩ := Array.getElem?_eq_some_iff.mp hc
    have q := List.all_eq_true.mp ((Array.all_eq_true_iff_forall_mem.mp hF) _ (Array.getElem_mem ha)) i (List.mem_range.mpr hi)
    simpa [Array.getElem?_eq_getElem hi] using q
  obtain ⟨i0, ei0⟩ := isL_v g0
  obtain rfl : w0 = (.long i0) := Option.some.inj ei0
  obtain ⟨n, o, h1, h2, h3, _, L, rfl, ⟨rfl, N⟩, hq⟩ := rm0 l s _ hw tables_1 i0 s.heap s.heap.size (Nat.le_refl _)  p e ha hc hk s m _ below hf ((Spec.applies_iff_loose hf).mp happ).1 ⟨rfl, State.Warmed39.refl s, rfl⟩ trivial
  refine ⟨n, _, h1, h2, h3, hpost _ _ _ _ _ _ ⟨Cond.after_iff.mpr rfl, Cond.after_iff.mpr (eq_i res_at (Term.int_eval (1)) rfl), trivial⟩ ⟨hq.1, hq.2.1, (hq.2.2.sift fun y hy => Or.inr (N y hy)).mono (by decide) (by decide)⟩⟩
theorem main_1_1 : Claimed_1_1 := comes_1 fun _ _ _ _ _ _ h hF => ⟨h.1, hF⟩
theorem main_1_2 : Claimed_1_2 := comes_1 fun _ _ _ _ _ _ h hF => ⟨h.2.1, hF⟩
end Jvm.Pilot.@@N@@
namespace Jvm.Pilot.@@N@@
open Jvm Jvm.ClassFile Sem Op Lib Jvm.Free Jvm.Stand Jvm.Pilot.@@N@@.Jvm.D
/-! MADE BY PROGRAM (witnessworld.py) out of the Statement's table words and the real class files: 9 classes; the members and pool entries that the words name. The judged class is class 1, her method 3. -/
namespace start1
open Jvm.ClassFile
def u (s : String) : CpInfo := .utf8 (stringToUtf16 s)
/-- a pool by its gaps: so many unusable entries, then the entry; so many at the end -/
def gap : Nat → List CpInfo → List CpInfo
  | 0, r => r
  | n + 1, r => .unusable :: gap n r
def poolList (es : List (Nat × CpInfo)) (last : Nat) : List CpInfo := es.foldr (fun e r => gap e.1 (e.2 :: r)) (gap last [])
def pool (es : List (Nat × CpInfo)) (last : Nat) : Array CpInfo := ⟨poolList es last⟩
def fileOf (pool : Array CpInfo) (this : Nat) (attrs : Array Attribute := #[]) (ms : Array MethodInfo := #[]) (fl : Nat := 33) (sup : Nat := 0) (ifs : Array Nat := #[]) (fds : Array FieldInfo := #[]) : ClassFile where
  minorVersion := 0
  majorVersion := 65
  constantPool := pool
  accessFlags := fl
  thisClass := this
  superClass := sup
  interfaces := ifs
  fields := fds
  methods := ms
  attributes := attrs
def plain (name : String) (sup : Option ClassId) : Class where
  name := name
  kind := .ordinary
  loader := none
  accessFlags := 33
  super := sup
  interfaces := #[]
  cf := none
  fields := #[]
  methods := #[]
  instanceTypes := #[]
  staticTypes := #[]
  resolved := #[]
  callSites := []
  init := .initialized
  statics := none
  mirror := none

def pool0 : Array CpInfo := pool [(5, u "<init>"), (0, u "()V"), (1, .class_ 10), (1, u "java/lang/Object")] 113

def k0m0 : Method := { name := "<init>", desc := "()V", sig := { parameters := [], returnType := none }, accessFlags := 1, code := none }
/-- java/lang/Object -/
def k0 : Class := { plain "java/lang/Object" none with
  accessFlags := 33
  interfaces := #[]
  cf := some (fileOf pool0 8 #[] #[{ accessFlags := 1, nameIndex := 5, descriptorIndex := 6, attributes := #[] }] 33 0 #[] #[])
  fields := #[]
  methods := #[k0m0]
  instanceTypes := #[]
  staticTypes := #[]
  resolved := Array.replicate 124 none
  statics := none }

def pool1 : Array CpInfo := pool [(2, .class_ 4), (1, u "java/lang/Object"), (0, u "<init>"), (0, u "()V"), (0, .long 2), (1, .long 18397679294719823053), (1, .long 14181476777654086739), (1, .methodref 14 15), (0, .class_ 16), (0, .nameAndType 17 18), (0, u "com/example/bitsieve/bitsieve/MurmurHash3Fmix64PinLaw"), (0, u "inverseOdd"), (0, u "(J)J"), (0, .methodref 20 21), (0, .class_ 22), (0, .nameAndType 23 18), (0, u "com/example/bitsieve/bitsieve/MurmurHash3"), (0, u "fmix64"), (0, .methodref 14 25), (0, .nameAndType 26 18), (0, u "unshift"), (2, u "law"), (0, u "(J)Z")] 3

def k1m0 : Method := { name := "<init>", desc := "()V", sig := { parameters := [], returnType := none }, accessFlags := 2, code := none }
def k1c1 : Code := { maxStack := 8, maxLocals := 4, code := method_2_code, exceptionTable := #[], attributes := #[] }
def k1m1 : Method := { name := "inverseOdd", desc := "(J)J", sig := { parameters := [.long], returnType := some .long }, accessFlags := 10, code := some k1c1 }
def k1c2 : Code := { maxStack := 5, maxLocals := 2, code := method_3_code, exceptionTable := #[], attributes := #[] }
def k1m2 : Method := { name := "unshift", desc := "(J)J", sig := { parameters := [.long], returnType := some .long }, accessFlags := 10, code := some k1c2 }
def k1c3 : Code := { maxStack := 4, maxLocals := 18, code := code, exceptionTable := #[], attributes := #[] }
def k1m3 : Method := { name := "law", desc := "(J)Z", sig := { parameters := [.long], returnType := some .boolean }, accessFlags := 9, code := some k1c3 }
/-- com/example/bitsieve/bitsieve/MurmurHash3Fmix64PinLaw -/
def k1 : Class := { plain "com/example/bitsieve/bitsieve/MurmurHash3Fmix64PinLaw" (some 0) with
  accessFlags := 49
  interfaces := #[]
  cf := some (fileOf pool1 14 #[] #[{ accessFlags := 2, nameIndex := 5, descriptorIndex := 6, attributes := #[] }, { accessFlags := 10, nameIndex := 17, descriptorIndex := 18, attributes := #[] }, { accessFlags := 10, nameIndex := 26, descriptorIndex := 18, attributes := #[] }, { accessFlags := 9, nameIndex := 29, descriptorIndex := 30, attributes := #[] }] 49 2 #[] #[])
  fields := #[]
  methods := #[k1m0, k1m1, k1m2, k1m3]
  instanceTypes := #[]
  staticTypes := #[]
  resolved := Array.replicate 34 none
  statics := none }

def pool2 : Array CpInfo := pool [(2, .class_ 4), (1, u "java/lang/Object"), (0, u "<init>"), (0, u "()V"), (1, .class_ 10), (1, u "com/example/bitsieve/bitsieve/MurmurHash3"), (46, u "(J)J"), (61, u "INT_LE"), (0, u "Ljava/lang/invoke/VarHandle;"), (12, u "SHORT_LE"), (5, u "LONG_LE"), (26, u "fmix64"), (0, .long 18397679294719823053), (1, .long 14181476777654086739), (19, u "C1"), (0, u "J"), (1, u "C2"), (0, u "BLOCK_BYTES"), (0, u "I"), (1, u "GATHERED_CHARS"), (1, u "WRITTEN_CHARS")] 11

def k2m0 : Method := { name := "<init>", desc := "()V", sig := { parameters := [], returnType := none }, accessFlags := 2, code := none }
def k2c1 : Code := { maxStack := 5, maxLocals := 4, code := prog_23_method_21_code, exceptionTable := #[], attributes := #[] }
def k2m1 : Method := { name := "fmix64", desc := "(J)J", sig := { parameters := [.long], returnType := some .long }, accessFlags := 8, code := some k2c1 }
/-- com/example/bitsieve/bitsieve/MurmurHash3 -/
def k2 : Class := { plain "com/example/bitsieve/bitsieve/MurmurHash3" (some 0) with
  accessFlags := 48
  interfaces := #[]
  cf := some (fileOf pool2 8 #[] #[{ accessFlags := 2, nameIndex := 5, descriptorIndex := 6, attributes := #[] }, { accessFlags := 8, nameIndex := 166, descriptorIndex := 57, attributes := #[] }] 48 2 #[] #[{ accessFlags := 26, nameIndex := 189, descriptorIndex := 190, attributes := #[] }, { accessFlags := 26, nameIndex := 192, descriptorIndex := 190, attributes := #[] }, { accessFlags := 26, nameIndex := 193, descriptorIndex := 194, attributes := #[] }, { accessFlags := 24, nameIndex := 196, descriptorIndex := 194, attributes := #[] }, { accessFlags := 26, nameIndex := 198, descriptorIndex := 194, attributes := #[] }, { accessFlags := 26, nameIndex := 133, descriptorIndex := 120, attributes := #[] }, { accessFlags := 26, nameIndex := 119, descriptorIndex := 120, attributes := #[] }, { accessFlags := 26, nameIndex := 139, descriptorIndex := 120, attributes := #[] }])
  fields := #[{ name := "C1", type := .long, accessFlags := 26, slot := 0, constantValue := 0 }, { name := "C2", type := .long, accessFlags := 26, slot := 1, constantValue := 0 }, { name := "BLOCK_BYTES", type := .int, accessFlags := 26, slot := 2, constantValue := 0 }, { name := "GATHERED_CHARS", type := .int, accessFlags := 24, slot := 3, constantValue := 0 }, { name := "WRITTEN_CHARS", type := .int, accessFlags := 26, slot := 4, constantValue := 0 }, { name := "SHORT_LE", type := (.object "java/lang/invoke/VarHandle"), accessFlags := 26, slot := 5, constantValue := 0 }, { name := "INT_LE", type := (.object "java/lang/invoke/VarHandle"), accessFlags := 26, slot := 6, constantValue := 0 }, { name := "LONG_LE", type := (.object "java/lang/invoke/VarHandle"), accessFlags := 26, slot := 7, constantValue := 0 }]
  methods := #[k2m0, k2m1]
  instanceTypes := #[]
  staticTypes := #[.long, .long, .int, .int, .int, (.object "java/lang/invoke/VarHandle"), (.object "java/lang/invoke/VarHandle"), (.object "java/lang/invoke/VarHandle")]
  resolved := Array.replicate 210 none
  statics := none }

def pool3 : Array CpInfo := pool [(1, u "java/lang/Cloneable"), (0, .class_ 1), (0, u "java/lang/Object"), (0, .class_ 3)] 3

/-- java/lang/Cloneable -/
def k3 : Class := { plain "java/lang/Cloneable" (some 0) with
  accessFlags := 1537
  interfaces := #[]
  cf := some (fileOf pool3 2 #[] #[] 1537 4 #[] #[])
  fields := #[]
  methods := #[]
  instanceTypes := #[]
  staticTypes := #[]
  resolved := Array.replicate 8 none
  statics := none }

def pool4 : Array CpInfo := pool [(1, u "java/io/Serializable"), (0, .class_ 1), (0, u "java/lang/Object"), (0, .class_ 3)] 3

/-- java/io/Serializable -/
def k4 : Class := { plain "java/io/Serializable" (some 0) with
  accessFlags := 1537
  interfaces := #[]
  cf := some (fileOf pool4 2 #[] #[] 1537 4 #[] #[])
  fields := #[]
  methods := #[]
  instanceTypes := #[]
  staticTypes := #[]
  resolved := Array.replicate 8 none
  statics := none }

/-- the primitive byte -/
def k5 : Class := { plain "byte" none with kind := .primitive 'B', accessFlags := 0x411 }
/-- [B -/
def k6 : Class := { plain "[B" (some 0) with kind := .array 5 .byte, interfaces := #[3, 4], accessFlags := 1041 }

/-- the primitive int -/
def k7 : Class := { plain "int" none with kind := .primitive 'I', accessFlags := 0x411 }
/-- [I -/
def k8 : Class := { plain "[I" (some 0) with kind := .array 7 .int, interfaces := #[3, 4], accessFlags := 1041 }

def heap : Heap := #[]
def classes : Array Class := #[k0, k1, k2, k3, k4, k5, k6, k7, k8]
def interned : List (Array UInt16 × Addr) := []
def slotsUsed : Nat := 0
def theMethod : MethodId := ⟨1, 3⟩
def args0 : Array Value := #[.long 5]
def aboutOver (below : List Frame) : State where
  vm := { classes := classes, interned := interned.toArray }
  heap := heap
  slotsUsed := slotsUsed
  threads := #[{ frames := .invoking theMethod args0 :: below }]
def below0 : List Frame := [.native { method := ⟨0, 0⟩, args := #[] }]
def about1 : State := aboutOver below0
def p0 : Program := .bare "" "" ""
def e0 : Env := launch0.env 0 0 0
theorem w_frames : about1.frames = Frame.invoking theMethod args0 :: below0 := rfl
set_option maxRecDepth 65536 in
theorem w_args : argsFit about1.vm theMethod args0 = true := by decide +kernel
set_option maxRecDepth 65536 in
theorem w_heap : heapFits about1 = true := by decide +kernel
set_option maxRecDepth 65536 in
theorem w_runnable : about1.curStatus? = some .runnable := by decide +kernel
set_option maxRecDepth 65536 in
theorem w_alone : about1.alone = true := by decide +kernel
set_option maxRecDepth 65536 in
theorem w_named : about1.methodNamed? x = some theMethod := by decide +kernel
set_option maxRecDepth 65536 in
theorem w_hears : about1.hears theMethod below0 = true := by decide +kernel
set_option maxRecDepth 65536 in
theorem w_ripe : about1.ripe theMethod args0 below0 = true := by decide +kernel
theorem w_running : about1.status = .running := rfl
set_option maxRecDepth 65536 in
theorem w_room : about1.hasRoom e0.platform room_1 = true :=
  launch0.hasRoom_least _ room_1 (by decide +kernel) (by decide +kernel) (by decide +kernel) (by decide +kernel) (by decide +kernel) (by decide +kernel)
theorem allAtoms_all (ts : List Jvm.Cond) (a : Array Jvm.Value) (st : Jvm.State) : (allAtoms ts).before a st = ts.all (fun c => c.before a st) := by
  induction ts with
  | nil => rfl
  | cons c t ih =>
    show (Jvm.Cond.and c (allAtoms t)).before a st = _
    rw [Jvm.Cond.before_and, ih, List.all_cons]
def words1 : List Jvm.Cond := Jvm.Cond.code x code maxLocals ret :: tables_1
/-- a 'code' word, met by the world's own term for the bytes: nothing is compared byte by byte -/
theorem code_word {y : MethodName} {bytes : ByteArray} {mx : Nat} {rt : Option FieldType} {a : Array Value} {s : State} {m : MethodId} {meth : Method} {c : Code} (h1 : s.methodNamed? y = some m) (h2 : s.vm.method? m = some meth) (h3 : meth.code = some c) (h4 : c.code = bytes)
    (h5 : (c.maxLocals == mx && c.exceptionTable.isEmpty && decide (c.maxStack ≤ mostOperands) && decide (meth.sig.returnType = rt) && !meth.locks && decide (parseMethodDescriptor y.desc = some meth.sig)) = true) : (Jvm.Cond.code y bytes mx rt).before a s = true := by
  simp only [Bool.and_eq_true, beq_iff_eq, Bool.not_eq_true', decide_eq_true_eq] at h5
  obtain ⟨⟨⟨⟨⟨g1, g2⟩, g3⟩, g4⟩, g5⟩, g6⟩ := h5
  simp [Cond.before, Cond.holds, Cond.value, h1, h2, h3, h4, g1, g2, g3, g4, g5, g6]
def isCode : Jvm.Cond → Bool
  | .code _ _ _ _ => true
  | _ => false
theorem all_split {L : List Jvm.Cond} {P : Jvm.Cond → Bool} (h1 : L.all (fun c => isCode c || P c) = true) (h2 : ∀ c ∈ L.filter isCode, P c = true) : L.all P = true := by
  refine List.all_eq_true.mpr fun c hc => ?_
  have h := List.all_eq_true.mp h1 c hc
  rcases Bool.eq_false_or_eq_true (isCode c) with hi | hi
  · exact h2 c (List.mem_filter.mpr ⟨hc, hi⟩)
  · simpa [hi] using h
set_option maxRecDepth 65536 in
theorem w_c0 : (Jvm.Cond.code x code maxLocals ret).before args0 about1 = true := code_word (m := ⟨1, 3⟩) (meth := k1m3) (c := k1c3) (by decide +kernel) rfl rfl rfl (by decide +kernel)
set_option maxRecDepth 65536 in
theorem w_c1 : (Jvm.Cond.code ({ cls := "com/example/bitsieve/bitsieve/MurmurHash3Fmix64PinLaw", name := "inverseOdd", desc := "(J)J" } : Jvm.MethodName) method_2_code (4 : Nat) (Option.some Jvm.ClassFile.FieldType.long)).before args0 about1 = true := code_word (m := ⟨1, 1⟩) (meth := k1m1) (c := k1c1) (by decide +kernel) rfl rfl rfl (by decide +kernel)
set_option maxRecDepth 65536 in
theorem w_c2 : (Jvm.Cond.code ({ cls := "com/example/bitsieve/bitsieve/MurmurHash3", name := "fmix64", desc := "(J)J" } : Jvm.MethodName) prog_23_method_21_code (4 : Nat) (Option.some Jvm.ClassFile.FieldType.long)).before args0 about1 = true := code_word (m := ⟨2, 1⟩) (meth := k2m1) (c := k2c1) (by decide +kernel) rfl rfl rfl (by decide +kernel)
set_option maxRecDepth 65536 in
theorem w_c3 : (Jvm.Cond.code ({ cls := "com/example/bitsieve/bitsieve/MurmurHash3Fmix64PinLaw", name := "unshift", desc := "(J)J" } : Jvm.MethodName) method_3_code (2 : Nat) (Option.some Jvm.ClassFile.FieldType.long)).before args0 about1 = true := code_word (m := ⟨1, 2⟩) (meth := k1m2) (c := k1c2) (by decide +kernel) rfl rfl rfl (by decide +kernel)
def codes1 : List Jvm.Cond := [Jvm.Cond.code x code maxLocals ret, Jvm.Cond.code ({ cls := "com/example/bitsieve/bitsieve/MurmurHash3Fmix64PinLaw", name := "inverseOdd", desc := "(J)J" } : Jvm.MethodName) method_2_code (4 : Nat) (Option.some Jvm.ClassFile.FieldType.long), Jvm.Cond.code ({ cls := "com/example/bitsieve/bitsieve/MurmurHash3", name := "fmix64", desc := "(J)J" } : Jvm.MethodName) prog_23_method_21_code (4 : Nat) (Option.some Jvm.ClassFile.FieldType.long), Jvm.Cond.code ({ cls := "com/example/bitsieve/bitsieve/MurmurHash3Fmix64PinLaw", name := "unshift", desc := "(J)J" } : Jvm.MethodName) method_3_code (2 : Nat) (Option.some Jvm.ClassFile.FieldType.long)]
set_option maxRecDepth 65536 in
theorem codes_eq : words1.filter isCode = codes1 := rfl
theorem w_codes : ∀ c ∈ words1.filter isCode, c.before args0 about1 = true := by
  rw [codes_eq]
  intro c hc
  simp only [codes1, List.mem_cons, List.not_mem_nil, or_false] at hc
  rcases hc with rfl | rfl | rfl | rfl
  · exact w_c0
  · exact w_c1
  · exact w_c2
  · exact w_c3
set_option maxRecDepth 65536 in
theorem w_t1 : words1.all (fun c => isCode c || c.before args0 about1) = true := by decide +kernel
theorem w_tables : (allAtoms (Jvm.Cond.code x code maxLocals ret :: tables_1)).before args0 about1 = true := by
  rw [allAtoms_all]
  show words1.all (fun c => c.before args0 about1) = true
  refine all_split ?_ w_codes
  rw [w_t1]
set_option maxRecDepth 65536 in
theorem w_case : (Jvm.Cond.and given_1 narrow_1).before args0 about1 = true := by decide +kernel
theorem w_applies : (headSpec (Jvm.Cond.code x code maxLocals ret :: tables_1) room_1).applies x e0.platform about1 = true :=
  (Spec.applies_iff w_frames).mpr ⟨w_running, w_runnable, w_alone, w_named, w_hears, w_ripe, w_room, w_tables⟩
theorem atStart : AtStart classFile x code maxLocals ret World_1 tables_1 room_1 Calls_1 rest_1 Pre_1 launch0 p0 e0 about1 theMethod args0 below0 :=
  ⟨lists_1, trivial, launch0.admits_env _ _ _, launch0.least_env, fairChoices_fair.cas, fairChoices_fair.clock, w_frames, w_args, w_heap, w_applies, trivial, trivial, w_case⟩
end start1
theorem witness_1 : WitnessClaimed_1 := ⟨start1.p0, start1.e0, start1.about1, start1.theMethod, start1.args0, start1.below0, start1.atStart⟩
end Jvm.Pilot.@@N@@
