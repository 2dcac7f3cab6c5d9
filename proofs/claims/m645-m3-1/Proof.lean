import JvmDerived
import JvmDerived.Pilot.@@N@@Statement
import JvmDerived.Pilot.@@N@@Code
set_option linter.unusedVariables false
set_option linter.unusedSimpArgs false
namespace Jvm.RoadKit
open Sem ClassFile Op Lib Jvm.Stand Jvm.Free Jvm.LawKit
section New
variable {p : Program} {l : Launch} {e : Env} {R : Room} {s : State} {m : MethodId} {args : Array Value} {below : List Frame} {meth : Method} {c : Code} {T : State} {locs : List Loc} {cells slots : Nat}
theorem retI (X : Stand p l e R s m args below meth c T locs cells slots) (hx : p.tables.exec = Jvm.exec) {pc : Nat} {Ls : Array Slot} {z : Int32} {rest : List Value} (hret : meth.sig.returnType = some .int) (hd : decode c.code pc = .ok (.ireturn, 1)) {fs : List Frame}
    (hl : ∀ (f : JFrame) (acts : List Action), f.method = m → f.locked = none → f.entered = [] → (doReturn e (T.setTop f) acts (some (.int z))).1 = T.setFrames fs) : Steps p.tables e below (T.setTop (mkF m pc Ls (.int z :: rest))) (T.setFrames fs) := by
  have hm' : T.vm.method? m = some meth := X.method'
  have hn : narrow .int (.int z) = .int z := rfl
  show Steps p.tables e below (T.setTop { method := m, pc := pc, locals := Ls, stack := _ :: rest, locked := none }) _
  jvm_step X.here [X.here.top, hx, hd, hm', hret, hn]
  first | (intro acts; rw [hl _ acts rfl rfl rfl]) | rw [hl _ _ rfl rfl rfl]
  exact Steps.refl _
theorem own_lremM {g : JFrame} {target : State} (X : Stand p l e R s m args below meth c T locs cells slots) (hx : p.tables.exec = Jvm.exec) (hg : g.method = m) {x y : Int64} {rest : List Value} (hd : decode c.code g.pc = .ok (.lrem, 1)) (hs : g.stack = .long y :: .long x :: rest) (hy : y ≠ 0)
    (hr : Steps p.tables e below (T.setTop { g with pc := g.pc + 1, stack := .long (x % y) :: rest }) target) : Steps p.tables e below (T.setTop g) target := by
  have q : x - x / y * y = x % y := lrem_mod x y
  exact XS.lrem X.here hx hg hd hs hy (by rw [q]; exact hr)
theorem own_narB (P : Prop) [Decidable P] : nar .boolean (if P then (1 : Int32) else 0) = if P then (1 : Int32) else 0 := by split <;> rfl
end New
end Jvm.RoadKit
namespace Jvm.Pilot.@@N@@
open Jvm Jvm.ClassFile Sem Op Lib Jvm.Free Jvm.Stand Jvm.LawKit Jvm.RoadKit Bundle Jvm.Pilot.@@N@@.Jvm.D
theorem dT_0 : decode prog_224_method_7_code 0 = .ok (.lload_n 0, 1) := by decide +kernel
theorem dT_1 : decode prog_224_method_7_code 1 = .ok (.lconst 0, 1) := by decide +kernel
theorem dT_2 : decode prog_224_method_7_code 2 = .ok (.lcmp, 1) := by decide +kernel
theorem dT_3 : decode prog_224_method_7_code 3 = .ok (.ifCond .eq 9, 3) := by decide +kernel
theorem dT_6 : decode prog_224_method_7_code 6 = .ok (.lload_n 2, 1) := by decide +kernel
theorem dT_7 : decode prog_224_method_7_code 7 = .ok (.lconst 0, 1) := by decide +kernel
theorem dT_8 : decode prog_224_method_7_code 8 = .ok (.lcmp, 1) := by decide +kernel
theorem dT_9 : decode prog_224_method_7_code 9 = .ok (.ifCond .ne 9, 3) := by decide +kernel
theorem dT_12 : decode prog_224_method_7_code 12 = .ok (.lconst 0, 1) := by decide +kernel
theorem dT_13 : decode prog_224_method_7_code 13 = .ok (.lstore 4, 2) := by decide +kernel
theorem dT_15 : decode prog_224_method_7_code 15 = .ok (.goto 26, 3) := by decide +kernel
theorem dT_18 : decode prog_224_method_7_code 18 = .ok (.lload_n 0, 1) := by decide +kernel
theorem dT_19 : decode prog_224_method_7_code 19 = .ok (.ldc2_w 143, 3) := by decide +kernel
theorem dT_22 : decode prog_224_method_7_code 22 = .ok (.lload_n 2, 1) := by decide +kernel
theorem dT_23 : decode prog_224_method_7_code 23 = .ok (.ldiv, 1) := by decide +kernel
theorem dT_24 : decode prog_224_method_7_code 24 = .ok (.lcmp, 1) := by decide +kernel
theorem dT_25 : decode prog_224_method_7_code 25 = .ok (.ifCond .le 11, 3) := by decide +kernel
theorem dT_28 : decode prog_224_method_7_code 28 = .ok (.ldc2_w 143, 3) := by decide +kernel
theorem dT_31 : decode prog_224_method_7_code 31 = .ok (.lstore 4, 2) := by decide +kernel
theorem dT_33 : decode prog_224_method_7_code 33 = .ok (.goto 8, 3) := by decide +kernel
theorem dT_36 : decode prog_224_method_7_code 36 = .ok (.lload_n 0, 1) := by decide +kernel
theorem dT_37 : decode prog_224_method_7_code 37 = .ok (.lload_n 2, 1) := by decide +kernel
theorem dT_38 : decode prog_224_method_7_code 38 = .ok (.lmul, 1) := by decide +kernel
theorem dT_39 : decode prog_224_method_7_code 39 = .ok (.lstore 4, 2) := by decide +kernel
theorem dT_41 : decode prog_224_method_7_code 41 = .ok (.lload 4, 2) := by decide +kernel
theorem dT_43 : decode prog_224_method_7_code 43 = .ok (.lreturn, 1) := by decide +kernel
theorem pnT : plainName "com/example/ustav/ustav/service/ParticleNode" = true := by first | (simp [plainName, overriddenIn]; done) | decide +kernel
theorem efT (m : MethodId) (q0 : Int64) (q1 : Int64) : entryFrame m #[(.long q0), (.long q1)] 6 = mkF m 0 #[.val (.long q0), .second, .val (.long q1), .second, .unset, .unset] [] := by first | (simp [entryFrame, mkF, argsToLocals, Value.category]; done) | rfl
def own_fT (q0 : Int64) (q1 : Int64) : Int64 := ((if q0 = (0 : Int64) then (0 : Int64) else (if q1 = (0 : Int64) then (0 : Int64) else (if ((9223372036854775807 : Int64) / q1) < q0 then (9223372036854775807 : Int64) else (q0 * q1)))))
abbrev own_roomT : Room := { frames := 0, cells := 0, slots := 0, locals := 0 }
def QT (Z : State) (q0 : Int64) (q1 : Int64) (h0 : Heap) (n0 : Nat) (v : Option Value) (h : Heap) (L : List Loc) : Prop := v = some (.long (own_fT q0 q1)) ∧ Fr n0 L ∧ h = h0
set_option maxRecDepth 65536 in
set_option maxHeartbeats 40000000 in
theorem rmT (l : Launch) (Z : State) (a0 : Array Value) (hw : ∀ d ∈ tables_1, d.before a0 Z = true) (ws : List Jvm.Cond) (q0 : Int64) (q1 : Int64) (h0 : Heap) (n0 : Nat) (Z0 : n0 ≤ h0.size) :
    MetFree l (⟨"com/example/ustav/ustav/service/ParticleNode", "times", "(JJ)J"⟩ : MethodName) (head1 (Jvm.Cond.code (⟨"com/example/ustav/ustav/service/ParticleNode", "times", "(JJ)J"⟩ : MethodName) prog_224_method_7_code 6 (some .long) :: ws) own_roomT) (fun a U => a = #[(.long q0), (.long q1)] ∧ Z.Warmed39 U.vm ∧ U.heap = h0) (fun _ _ _ _ _ => True) (fun _ U o U' => ∃ v L, o = .returned v ∧ QT Z q0 q1 h0 n0 v U'.heap L ∧ FrameEnd U o U' L own_roomT.cells own_roomT.slots) := by
  refine MetFree.of_bodySF (plainFor_of_name pnT) hisR ?_
  intro p e s m args below meth c s₁ Bd hml0 hP hK
  obtain ⟨rfl, hZ, hh⟩ := hP
  have hx := Bd.exec
  have hby := Bd.bytes
  have hml : c.maxLocals = 6 := hml0
  have hown : s.vm.findClass "com/example/ustav/ustav/service/ParticleNode" = some m.cls := findClass_of_methodNamed Bd.named
  have hnm := (name_of_methodNamed Bd.named Bd.method).1
  have X0 : Stand p l e own_roomT s m #[(.long q0), (.long q1)] below meth c s₁ [] 0 0 := Stand.of_body Bd
  have e0 : s₁.heap = h0 := by rw [← hh, Bd.state]; rfl
  have N0 := Fr.nil n0
  have pre0 : ∀ t, Steps p.tables e below (s₁.setTop (mkF m 0 #[.val (.long q0), .second, .val (.long q1), .second, .unset, .unset] [])) t → Steps p.tables e below (s₁.setTop (entryFrame m #[(.long q0), (.long q1)] 6)) t := fun t k => castTop (efT m q0 q1) k
  have pre3 : ∀ t, Steps p.tables e below (s₁.setTop (mkF m 3 #[.val (.long q0), .second, .val (.long q1), .second, .unset, .unset] [(.int (lcmpW q0 (0 : Int64)))])) t → Steps p.tables e below (s₁.setTop (entryFrame m #[(.long q0), (.long q1)] 6)) t := fun t k => pre0 t (by
    show Steps p.tables e below (s₁.setTop (mkF m 0 #[.val (.long q0), .second, .val (.long q1), .second, .unset, .unset] [])) t
    refine XS.lloadN X0.here hx rfl (hb hby dT_0) rfl ?_
    show Steps p.tables e below (s₁.setTop (mkF m 1 #[.val (.long q0), .second, .val (.long q1), .second, .unset, .unset] [(.long q0)])) _
    refine XS.lconst X0.here hx rfl (hb hby dT_1) ?_
    show Steps p.tables e below (s₁.setTop (mkF m 2 #[.val (.long q0), .second, .val (.long q1), .second, .unset, .unset] [(.long (0 : Int64)), (.long q0)])) _
    refine XS.lcmp X0.here hx rfl (hb hby dT_2) rfl ?_
    show Steps p.tables e below (s₁.setTop (mkF m 3 #[.val (.long q0), .second, .val (.long q1), .second, .unset, .unset] [(.int (lcmpW q0 (0 : Int64)))])) _
    exact k)
  obtain ⟨v41_l4, hv41_l4⟩ : ∃ z : Int64, z = (if q0 = (0 : Int64) then (0 : Int64) else (if q1 = (0 : Int64) then (0 : Int64) else (if ((9223372036854775807 : Int64) / q1) < q0 then (9223372036854775807 : Int64) else (q0 * q1)))) := ⟨_, rfl⟩
  have pre41 : ∀ t, Steps p.tables e below (s₁.setTop (mkF m 41 #[.val (.long q0), .second, .val (.long q1), .second, .val (.long v41_l4), .second] [])) t → Steps p.tables e below (s₁.setTop (entryFrame m #[(.long q0), (.long q1)] 6)) t := by
    by_cases hc3 : q0 = (0 : Int64)
    · -- q0 = (0 : Int64)
      have pre12 : ∀ t, Steps p.tables e below (s₁.setTop (mkF m 12 #[.val (.long q0), .second, .val (.long q1), .second, .unset, .unset] [])) t → Steps p.tables e below (s₁.setTop (entryFrame m #[(.long q0), (.long q1)] 6)) t := fun t k => pre3 t (by
        show Steps p.tables e below (s₁.setTop (mkF m 3 #[.val (.long q0), .second, .val (.long q1), .second, .unset, .unset] [(.int (lcmpW q0 (0 : Int64)))])) t
        refine XS.ifYes X0.here hx rfl (pc0 := 3) (pc' := 12) rfl (hb hby dT_3) rfl ((if0 _ _).trans (teq ((lw_eq _ _).mpr hc3)).1) (by decide) (by decide) ?_
        exact k)
      have pre41 : ∀ t, Steps p.tables e below (s₁.setTop (mkF m 41 #[.val (.long q0), .second, .val (.long q1), .second, .val (.long (0 : Int64)), .second] [])) t → Steps p.tables e below (s₁.setTop (entryFrame m #[(.long q0), (.long q1)] 6)) t := fun t k => pre12 t (by
        show Steps p.tables e below (s₁.setTop (mkF m 12 #[.val (.long q0), .second, .val (.long q1), .second, .unset, .unset] [])) t
        refine XS.lconst X0.here hx rfl (hb hby dT_12) ?_
        show Steps p.tables e below (s₁.setTop (mkF m 13 #[.val (.long q0), .second, .val (.long q1), .second, .unset, .unset] [(.long (0 : Int64))])) _
        refine XS.lstore X0.here hx rfl (hb hby dT_13) rfl (l' := #[.val (.long q0), .second, .val (.long q1), .second, .val (.long (0 : Int64)), .second]) rfl ?_
        show Steps p.tables e below (s₁.setTop (mkF m 15 #[.val (.long q0), .second, .val (.long q1), .second, .val (.long (0 : Int64)), .second] [])) _
        refine XS.goto X0.here hx rfl (pc0 := 15) (pc' := 41) rfl (hb hby dT_15) (by decide) (by decide) ?_
        show Steps p.tables e below (s₁.setTop (mkF m 41 #[.val (.long q0), .second, .val (.long q1), .second, .val (.long (0 : Int64)), .second] [])) _
        exact k)
      have ehv41_l4 := hv41_l4.trans (if_pos hc3)
      exact fun t k => pre41 t (by subst ehv41_l4; exact k)
    · -- not q0 = (0 : Int64)
      have pre6 : ∀ t, Steps p.tables e below (s₁.setTop (mkF m 6 #[.val (.long q0), .second, .val (.long q1), .second, .unset, .unset] [])) t → Steps p.tables e below (s₁.setTop (entryFrame m #[(.long q0), (.long q1)] 6)) t := fun t k => pre3 t (by
        show Steps p.tables e below (s₁.setTop (mkF m 3 #[.val (.long q0), .second, .val (.long q1), .second, .unset, .unset] [(.int (lcmpW q0 (0 : Int64)))])) t
        refine XS.ifNo X0.here hx rfl (hb hby dT_3) rfl ((if0 _ _).trans (feq (fun q => hc3 ((lw_eq _ _).mp q))).1) ?_
        exact k)
      have pre9 : ∀ t, Steps p.tables e below (s₁.setTop (mkF m 9 #[.val (.long q0), .second, .val (.long q1), .second, .unset, .unset] [(.int (lcmpW q1 (0 : Int64)))])) t → Steps p.tables e below (s₁.setTop (entryFrame m #[(.long q0), (.long q1)] 6)) t := fun t k => pre6 t (by
        show Steps p.tables e below (s₁.setTop (mkF m 6 #[.val (.long q0), .second, .val (.long q1), .second, .unset, .unset] [])) t
        refine XS.lloadN X0.here hx rfl (hb hby dT_6) rfl ?_
        show Steps p.tables e below (s₁.setTop (mkF m 7 #[.val (.long q0), .second, .val (.long q1), .second, .unset, .unset] [(.long q1)])) _
        refine XS.lconst X0.here hx rfl (hb hby dT_7) ?_
        show Steps p.tables e below (s₁.setTop (mkF m 8 #[.val (.long q0), .second, .val (.long q1), .second, .unset, .unset] [(.long (0 : Int64)), (.long q1)])) _
        refine XS.lcmp X0.here hx rfl (hb hby dT_8) rfl ?_
        show Steps p.tables e below (s₁.setTop (mkF m 9 #[.val (.long q0), .second, .val (.long q1), .second, .unset, .unset] [(.int (lcmpW q1 (0 : Int64)))])) _
        exact k)
      by_cases hc9 : q1 = (0 : Int64)
      · -- q1 = (0 : Int64)
        have pre12 : ∀ t, Steps p.tables e below (s₁.setTop (mkF m 12 #[.val (.long q0), .second, .val (.long q1), .second, .unset, .unset] [])) t → Steps p.tables e below (s₁.setTop (entryFrame m #[(.long q0), (.long q1)] 6)) t := fun t k => pre9 t (by
          show Steps p.tables e below (s₁.setTop (mkF m 9 #[.val (.long q0), .second, .val (.long q1), .second, .unset, .unset] [(.int (lcmpW q1 (0 : Int64)))])) t
          refine XS.ifNo X0.here hx rfl (hb hby dT_9) rfl ((if0 _ _).trans (teq ((lw_eq _ _).mpr hc9)).2) ?_
          exact k)
        have pre41 : ∀ t, Steps p.tables e below (s₁.setTop (mkF m 41 #[.val (.long q0), .second, .val (.long q1), .second, .val (.long (0 : Int64)), .second] [])) t → Steps p.tables e below (s₁.setTop (entryFrame m #[(.long q0), (.long q1)] 6)) t := fun t k => pre12 t (by
          show Steps p.tables e below (s₁.setTop (mkF m 12 #[.val (.long q0), .second, .val (.long q1), .second, .unset, .unset] [])) t
          refine XS.lconst X0.here hx rfl (hb hby dT_12) ?_
          show Steps p.tables e below (s₁.setTop (mkF m 13 #[.val (.long q0), .second, .val (.long q1), .second, .unset, .unset] [(.long (0 : Int64))])) _
          refine XS.lstore X0.here hx rfl (hb hby dT_13) rfl (l' := #[.val (.long q0), .second, .val (.long q1), .second, .val (.long (0 : Int64)), .second]) rfl ?_
          show Steps p.tables e below (s₁.setTop (mkF m 15 #[.val (.long q0), .second, .val (.long q1), .second, .val (.long (0 : Int64)), .second] [])) _
          refine XS.goto X0.here hx rfl (pc0 := 15) (pc' := 41) rfl (hb hby dT_15) (by decide) (by decide) ?_
          show Steps p.tables e below (s₁.setTop (mkF m 41 #[.val (.long q0), .second, .val (.long q1), .second, .val (.long (0 : Int64)), .second] [])) _
          exact k)
        have ehv41_l4 := hv41_l4.trans ((if_neg hc3).trans (if_pos hc9))
        exact fun t k => pre41 t (by subst ehv41_l4; exact k)
      · -- not q1 = (0 : Int64)
        have pre18 : ∀ t, Steps p.tables e below (s₁.setTop (mkF m 18 #[.val (.long q0), .second, .val (.long q1), .second, .unset, .unset] [])) t → Steps p.tables e below (s₁.setTop (entryFrame m #[(.long q0), (.long q1)] 6)) t := fun t k => pre9 t (by
          show Steps p.tables e below (s₁.setTop (mkF m 9 #[.val (.long q0), .second, .val (.long q1), .second, .unset, .unset] [(.int (lcmpW q1 (0 : Int64)))])) t
          refine XS.ifYes X0.here hx rfl (pc0 := 9) (pc' := 18) rfl (hb hby dT_9) rfl ((if0 _ _).trans (feq (fun q => hc9 ((lw_eq _ _).mp q))).2) (by decide) (by decide) ?_
          exact k)
        have pre25 : ∀ t, Steps p.tables e below (s₁.setTop (mkF m 25 #[.val (.long q0), .second, .val (.long q1), .second, .unset, .unset] [(.int (lcmpW q0 ((9223372036854775807 : Int64) / q1)))])) t → Steps p.tables e below (s₁.setTop (entryFrame m #[(.long q0), (.long q1)] 6)) t := fun t k => pre18 t (by
          show Steps p.tables e below (s₁.setTop (mkF m 18 #[.val (.long q0), .second, .val (.long q1), .second, .unset, .unset] [])) t
          refine XS.lloadN X0.here hx rfl (hb hby dT_18) rfl ?_
          show Steps p.tables e below (s₁.setTop (mkF m 19 #[.val (.long q0), .second, .val (.long q1), .second, .unset, .unset] [(.long q0)])) _
          refine X0.ldc2Long hx hown (mvT hZ (hw _ (List.mem_of_getElem? (i := 5) rfl))) (g := (mkF m 19 #[.val (.long q0), .second, .val (.long q1), .second, .unset, .unset] [(.long q0)])) rfl (hb hby dT_19) _ ?_
          show Steps p.tables e below (s₁.setTop (mkF m 22 #[.val (.long q0), .second, .val (.long q1), .second, .unset, .unset] [(.long (9223372036854775807 : Int64)), (.long q0)])) _
          refine XS.lloadN X0.here hx rfl (hb hby dT_22) rfl ?_
          show Steps p.tables e below (s₁.setTop (mkF m 23 #[.val (.long q0), .second, .val (.long q1), .second, .unset, .unset] [(.long q1), (.long (9223372036854775807 : Int64)), (.long q0)])) _
          refine XS.ldiv X0.here hx rfl (hb hby dT_23) rfl hc9 ?_
          show Steps p.tables e below (s₁.setTop (mkF m 24 #[.val (.long q0), .second, .val (.long q1), .second, .unset, .unset] [(.long ((9223372036854775807 : Int64) / q1)), (.long q0)])) _
          refine XS.lcmp X0.here hx rfl (hb hby dT_24) rfl ?_
          show Steps p.tables e below (s₁.setTop (mkF m 25 #[.val (.long q0), .second, .val (.long q1), .second, .unset, .unset] [(.int (lcmpW q0 ((9223372036854775807 : Int64) / q1)))])) _
          exact k)
        by_cases hc25 : ((9223372036854775807 : Int64) / q1) < q0
        · -- ((9223372036854775807 : Int64) / q1) < q0
          have pre28 : ∀ t, Steps p.tables e below (s₁.setTop (mkF m 28 #[.val (.long q0), .second, .val (.long q1), .second, .unset, .unset] [])) t → Steps p.tables e below (s₁.setTop (entryFrame m #[(.long q0), (.long q1)] 6)) t := fun t k => pre25 t (by
            show Steps p.tables e below (s₁.setTop (mkF m 25 #[.val (.long q0), .second, .val (.long q1), .second, .unset, .unset] [(.int (lcmpW q0 ((9223372036854775807 : Int64) / q1)))])) t
            refine XS.ifNo X0.here hx rfl (hb hby dT_25) rfl ((if0 _ _).trans (tlt ((lw_gt _ _).mpr hc25)).2.2.2) ?_
            exact k)
          have pre41 : ∀ t, Steps p.tables e below (s₁.setTop (mkF m 41 #[.val (.long q0), .second, .val (.long q1), .second, .val (.long (9223372036854775807 : Int64)), .second] [])) t → Steps p.tables e below (s₁.setTop (entryFrame m #[(.long q0), (.long q1)] 6)) t := fun t k => pre28 t (by
            show Steps p.tables e below (s₁.setTop (mkF m 28 #[.val (.long q0), .second, .val (.long q1), .second, .unset, .unset] [])) t
            refine X0.ldc2Long hx hown (mvT hZ (hw _ (List.mem_of_getElem? (i := 5) rfl))) (g := (mkF m 28 #[.val (.long q0), .second, .val (.long q1), .second, .unset, .unset] [])) rfl (hb hby dT_28) _ ?_
            show Steps p.tables e below (s₁.setTop (mkF m 31 #[.val (.long q0), .second, .val (.long q1), .second, .unset, .unset] [(.long (9223372036854775807 : Int64))])) _
            refine XS.lstore X0.here hx rfl (hb hby dT_31) rfl (l' := #[.val (.long q0), .second, .val (.long q1), .second, .val (.long (9223372036854775807 : Int64)), .second]) rfl ?_
            show Steps p.tables e below (s₁.setTop (mkF m 33 #[.val (.long q0), .second, .val (.long q1), .second, .val (.long (9223372036854775807 : Int64)), .second] [])) _
            refine XS.goto X0.here hx rfl (pc0 := 33) (pc' := 41) rfl (hb hby dT_33) (by decide) (by decide) ?_
            show Steps p.tables e below (s₁.setTop (mkF m 41 #[.val (.long q0), .second, .val (.long q1), .second, .val (.long (9223372036854775807 : Int64)), .second] [])) _
            exact k)
          have ehv41_l4 := hv41_l4.trans ((if_neg hc3).trans ((if_neg hc9).trans (if_pos hc25)))
          exact fun t k => pre41 t (by subst ehv41_l4; exact k)
        · -- not ((9223372036854775807 : Int64) / q1) < q0
          have pre36 : ∀ t, Steps p.tables e below (s₁.setTop (mkF m 36 #[.val (.long q0), .second, .val (.long q1), .second, .unset, .unset] [])) t → Steps p.tables e below (s₁.setTop (entryFrame m #[(.long q0), (.long q1)] 6)) t := fun t k => pre25 t (by
            show Steps p.tables e below (s₁.setTop (mkF m 25 #[.val (.long q0), .second, .val (.long q1), .second, .unset, .unset] [(.int (lcmpW q0 ((9223372036854775807 : Int64) / q1)))])) t
            refine XS.ifYes X0.here hx rfl (pc0 := 25) (pc' := 36) rfl (hb hby dT_25) rfl ((if0 _ _).trans (flt (fun q => hc25 ((lw_gt _ _).mp q))).2.2.2) (by decide) (by decide) ?_
            exact k)
          have pre41 : ∀ t, Steps p.tables e below (s₁.setTop (mkF m 41 #[.val (.long q0), .second, .val (.long q1), .second, .val (.long (q0 * q1)), .second] [])) t → Steps p.tables e below (s₁.setTop (entryFrame m #[(.long q0), (.long q1)] 6)) t := fun t k => pre36 t (by
            show Steps p.tables e below (s₁.setTop (mkF m 36 #[.val (.long q0), .second, .val (.long q1), .second, .unset, .unset] [])) t
            refine XS.lloadN X0.here hx rfl (hb hby dT_36) rfl ?_
            show Steps p.tables e below (s₁.setTop (mkF m 37 #[.val (.long q0), .second, .val (.long q1), .second, .unset, .unset] [(.long q0)])) _
            refine XS.lloadN X0.here hx rfl (hb hby dT_37) rfl ?_
            show Steps p.tables e below (s₁.setTop (mkF m 38 #[.val (.long q0), .second, .val (.long q1), .second, .unset, .unset] [(.long q1), (.long q0)])) _
            refine XS.lmul X0.here hx rfl (hb hby dT_38) rfl ?_
            show Steps p.tables e below (s₁.setTop (mkF m 39 #[.val (.long q0), .second, .val (.long q1), .second, .unset, .unset] [(.long (q0 * q1))])) _
            refine XS.lstore X0.here hx rfl (hb hby dT_39) rfl (l' := #[.val (.long q0), .second, .val (.long q1), .second, .val (.long (q0 * q1)), .second]) rfl ?_
            show Steps p.tables e below (s₁.setTop (mkF m 41 #[.val (.long q0), .second, .val (.long q1), .second, .val (.long (q0 * q1)), .second] [])) _
            exact k)
          have ehv41_l4 := hv41_l4.trans ((if_neg hc3).trans ((if_neg hc9).trans (if_neg hc25)))
          exact fun t k => pre41 t (by subst ehv41_l4; exact k)
  have pre43 : ∀ t, Steps p.tables e below (s₁.setTop (mkF m 43 #[.val (.long q0), .second, .val (.long q1), .second, .val (.long v41_l4), .second] [(.long v41_l4)])) t → Steps p.tables e below (s₁.setTop (entryFrame m #[(.long q0), (.long q1)] 6)) t := fun t k => pre41 t (by
    show Steps p.tables e below (s₁.setTop (mkF m 41 #[.val (.long q0), .second, .val (.long q1), .second, .val (.long v41_l4), .second] [])) t
    refine XS.lload X0.here hx rfl (hb hby dT_41) rfl ?_
    show Steps p.tables e below (s₁.setTop (mkF m 43 #[.val (.long q0), .second, .val (.long q1), .second, .val (.long v41_l4), .second] [(.long v41_l4)])) _
    exact k)
  obtain ⟨fs, hr, hrun, hended, hW, hsame⟩ := X0.leave (v := some (.long v41_l4)) (fun h => by rw [Bd.returns] at h; cases h)
  refine ⟨_, _, pre43 _ ?_, hrun, hended, _, _, rfl, ?_, ⟨_, rfl⟩, hW, hsame.mono (by decide) (by decide)⟩
  · show Steps p.tables e below (s₁.setTop (mkF m 43 #[.val (.long q0), .second, .val (.long q1), .second, .val (.long v41_l4), .second] [(.long v41_l4)])) _
    exact retOut X0 hx Bd.returns rfl (Or.inr (Or.inl ⟨rfl, rfl, _, rfl⟩)) (hb hby dT_43) hr
  · show QT Z q0 q1 h0 n0 _ s₁.heap _
    rw [e0]
    have hres : v41_l4 = (own_fT q0 q1) := by
      try subst hv41_l4
      rw [own_fT]
      first | done | rfl | exact own_narB _
    exact ⟨congrArg (fun q => some (Value.long q)) hres, N0, rfl⟩
theorem own_nonneg (a : Int64) (w : UInt64) : 0 ≤ (((a &&& (9223372036854775807 : Int64)).toUInt64 >>> w).toInt64).toInt := by
  have h1 := c_maskL a (9223372036854775807 : Int64) 63 (by decide) (by decide)
  have h2 : (0 : Int) ≤ (a &&& (9223372036854775807 : Int64)).toInt ∧ (a &&& (9223372036854775807 : Int64)).toInt < 9223372036854775808 := by rw [h1]; omega
  have h3 : (a &&& (9223372036854775807 : Int64)).toUInt64.toNat < 9223372036854775808 := by
    have h4 : ((a &&& (9223372036854775807 : Int64)).toBitVec.toInt) = (a &&& (9223372036854775807 : Int64)).toInt := rfl
    have h5 : (a &&& (9223372036854775807 : Int64)).toUInt64.toNat = (a &&& (9223372036854775807 : Int64)).toBitVec.toNat := rfl
    rw [h5]
    rw [BitVec.toInt_eq_toNat_cond] at h4
    have h6 := (a &&& (9223372036854775807 : Int64)).toBitVec.isLt
    split at h4 <;> omega
  have h7 : ((a &&& (9223372036854775807 : Int64)).toUInt64 >>> w).toNat < 9223372036854775808 := by
    rw [UInt64.toNat_shiftRight]
    exact Nat.lt_of_le_of_lt (Nat.shiftRight_le _ _) h3
  generalize (a &&& (9223372036854775807 : Int64)).toUInt64 >>> w = z at *
  have h8 : z.toInt64.toInt = z.toBitVec.toInt := rfl
  have h9 : z.toBitVec.toNat = z.toNat := rfl
  rw [h8, BitVec.toInt_eq_toNat_cond, h9]
  split <;> omega
theorem own_div (x y : Int64) (hx : 0 ≤ x.toInt) (hy : 0 ≤ y.toInt) : (x / y).toInt = x.toInt / y.toInt := by
  rw [Int64.toInt_div_of_ne_right x y (by intro h; rw [h] at hy; revert hy; decide), Int.tdiv_eq_ediv_of_nonneg hx]
theorem own_mod (x y : Int64) (hx : 0 ≤ x.toInt) : (x % y).toInt = x.toInt % y.toInt := by
  rw [Int64.toInt_mod, Int.tmod_eq_emod_of_nonneg hx]
theorem own_pos {x : Int64} (h : 0 ≤ x.toInt) (h0 : ¬ x = 0) : 0 < x.toInt := by
  have : x.toInt ≠ 0 := fun q => h0 (Int64.toInt_inj.mp q)
  omega
theorem own_times {x y : Int64} (hx : 0 ≤ x.toInt) (hy : 0 ≤ y.toInt) (hx0 : ¬ x = 0) (hy0 : ¬ y = 0) :
    (9223372036854775807 < x.toInt * y.toInt ∧ own_fT x y = (9223372036854775807 : Int64)) ∨ (x.toInt * y.toInt ≤ 9223372036854775807 ∧ (own_fT x y).toInt = x.toInt * y.toInt) := by
  have px := own_pos hx hx0
  have py := own_pos hy hy0
  have hd : ((9223372036854775807 : Int64) / y).toInt = 9223372036854775807 / y.toInt := own_div _ y (by decide) hy
  rw [own_fT, if_neg hx0, if_neg hy0]
  by_cases h : (9223372036854775807 : Int64) / y < x
  · left
    rw [if_pos h]
    refine ⟨?_, rfl⟩
    rw [Int64.lt_iff_toInt_lt, hd] at h
    exact (Int.ediv_lt_iff_lt_mul py).mp h
  · right
    rw [if_neg h]
    rw [Int64.lt_iff_toInt_lt, hd] at h
    have h2 : x.toInt * y.toInt ≤ 9223372036854775807 := by
      have h3 : ¬ (9223372036854775807 < x.toInt * y.toInt) := fun q => h ((Int.ediv_lt_iff_lt_mul py).mpr q)
      omega
    refine ⟨h2, ?_⟩
    have h4 : 0 ≤ x.toInt * y.toInt := Int.mul_nonneg hx hy
    have h5 := c_lmul x y
    have h6 := rng64 (x * y)
    omega
theorem own_zero1 (x y : Int64) (h : x = 0) : own_fT x y = 0 := by rw [own_fT, if_pos h]
theorem own_zero2 (x y : Int64) (h : ¬ x = 0) (h2 : y = 0) : own_fT x y = 0 := by rw [own_fT, if_neg h, if_pos h2]
theorem own_top {x y q : Int64} (hx : 0 ≤ x.toInt) (hy : 0 ≤ y.toInt) (hx0 : ¬ x = 0) (hy0 : ¬ y = 0) (hq : q = (9223372036854775807 : Int64) / x) (h : (q < y) ∨ ((y = q) ∧ ((9223372036854775807 : Int64) % x) = (0 : Int64))) : own_fT x y = (9223372036854775807 : Int64) := by
  have px := own_pos hx hx0
  have hd : q.toInt = 9223372036854775807 / x.toInt := by rw [hq]; exact own_div _ x (by decide) hx
  have hm : ((9223372036854775807 : Int64) % x).toInt = 9223372036854775807 % x.toInt := own_mod _ x (by decide)
  have hdm := Int.mul_ediv_add_emod 9223372036854775807 x.toInt
  rcases own_times hx hy hx0 hy0 with ⟨h1, h2⟩ | ⟨h1, h2⟩
  · exact h2
  · apply Int64.toInt_inj.mp
    rw [h2]
    show x.toInt * y.toInt = 9223372036854775807
    rcases h with h | ⟨h3, h4⟩
    · rw [Int64.lt_iff_toInt_lt, hd] at h
      have := (Int.ediv_lt_iff_lt_mul px).mp h
      rw [Int.mul_comm] at this
      omega
    · rw [h4] at hm
      rw [h3, hd]
      have : (0 : Int64).toInt = 0 := rfl
      omega
theorem own_low {x y q : Int64} (hx : 0 ≤ x.toInt) (hy : 0 ≤ y.toInt) (hx0 : ¬ x = 0) (hy0 : ¬ y = 0) (hq : q = (9223372036854775807 : Int64) / x) (h : ¬ ((q < y) ∨ ((y = q) ∧ ((9223372036854775807 : Int64) % x) = (0 : Int64)))) : (own_fT x y % x) = (0 : Int64) ∧ (own_fT x y / x) = y := by
  have px := own_pos hx hx0
  have hd : q.toInt = 9223372036854775807 / x.toInt := by rw [hq]; exact own_div _ x (by decide) hx
  rcases own_times hx hy hx0 hy0 with ⟨h1, h2⟩ | ⟨h1, h2⟩
  · exfalso
    apply h
    left
    rw [Int64.lt_iff_toInt_lt, hd]
    apply (Int.ediv_lt_iff_lt_mul px).mpr
    rw [Int.mul_comm]; exact h1
  · have h4 : 0 ≤ x.toInt * y.toInt := Int.mul_nonneg hx hy
    have hr : 0 ≤ (own_fT x y).toInt := by rw [h2]; exact h4
    constructor
    · apply Int64.toInt_inj.mp
      rw [own_mod _ _ hr, h2, Int.mul_emod_right]
      rfl
    · apply Int64.toInt_inj.mp
      rw [own_div _ _ hr hx, h2, Int.mul_ediv_cancel_left _ (by omega)]
theorem pn0 : plainName "com/example/ustav/ustav/service/ParticleNodeTimesPinLaw" = true := by first | (simp [plainName, overriddenIn]; done) | decide +kernel
theorem pd0_0 : parseMethodDescriptor "(JJ)J" = some ⟨[.long, .long], some .long⟩ := by decide +kernel
theorem ef0 (m : MethodId) (q0 : Int64) (q1 : Int64) (p2 : Int32) (p3 : Int32) : entryFrame m #[(.long q0), (.long q1), (.int p2), (.int p3)] maxLocals = mkF m 0 #[.val (.long q0), .second, .val (.long q1), .second, .val (.int p2), .val (.int p3), .unset, .unset, .unset, .unset, .unset, .unset, .unset, .unset, .unset, .unset, .unset] [] := by first | (simp [entryFrame, mkF, argsToLocals, Value.category, maxLocals]; done) | rfl
def Q0 (Z : State) (q0 : Int64) (q1 : Int64) (p2 : Int32) (p3 : Int32) (h0 : Heap) (n0 : Nat) (v : Option Value) (h : Heap) (L : List Loc) : Prop := v = some (.int (1 : Int32)) ∧ Fr n0 L
set_option maxRecDepth 65536 in
set_option maxHeartbeats 40000000 in
theorem rm0 (l : Launch) (Z : State) (a0 : Array Value) (hw : ∀ d ∈ tables_1, d.before a0 Z = true) (ws : List Jvm.Cond) (q0 : Int64) (q1 : Int64) (p2 : Int32) (p3 : Int32) (h0 : Heap) (n0 : Nat) (Z0 : n0 ≤ h0.size) :
    MetFree l x (head1 (Jvm.Cond.code x code maxLocals ret :: ws) room_1) (fun a U => a = #[(.long q0), (.long q1), (.int p2), (.int p3)] ∧ Z.Warmed39 U.vm ∧ U.heap = h0) (fun _ _ _ _ _ => True) (fun _ U o U' => ∃ v L, o = .returned v ∧ Q0 Z q0 q1 p2 p3 h0 n0 v U'.heap L ∧ FrameEnd U o U' L room_1.cells room_1.slots) := by
  refine MetFree.of_bodySF (plainFor_of_name pn0) hisR ?_
  intro p e s m args below meth c s₁ Bd hml0 hP hK
  obtain ⟨rfl, hZ, hh⟩ := hP
  have hx := Bd.exec
  have hby := Bd.bytes
  have hml : c.maxLocals = 17 := hml0
  have hown : s.vm.findClass "com/example/ustav/ustav/service/ParticleNodeTimesPinLaw" = some m.cls := findClass_of_methodNamed Bd.named
  have hnm := (name_of_methodNamed Bd.named Bd.method).1
  have X0 : Stand p l e room_1 s m #[(.long q0), (.long q1), (.int p2), (.int p3)] below meth c s₁ [] 0 0 := Stand.of_body Bd
  have e0 : s₁.heap = h0 := by rw [← hh, Bd.state]; rfl
  have N0 := Fr.nil n0
  have pre0 : ∀ t, Steps p.tables e below (s₁.setTop (mkF m 0 #[.val (.long q0), .second, .val (.long q1), .second, .val (.int p2), .val (.int p3), .unset, .unset, .unset, .unset, .unset, .unset, .unset, .unset, .unset, .unset, .unset] [])) t → Steps p.tables e below (s₁.setTop (entryFrame m #[(.long q0), (.long q1), (.int p2), (.int p3)] maxLocals)) t := fun t k => castTop (ef0 m q0 q1 p2 p3) k
  obtain ⟨x15, hx15⟩ : ∃ z : Int64, z = (((q0 &&& (9223372036854775807 : Int64)).toUInt64 >>> ((p2 &&& (63 : Int32)) &&& 0x3f).toInt64.toUInt64).toInt64) := ⟨_, rfl⟩
  have pre17 : ∀ t, Steps p.tables e below (s₁.setTop (mkF m 17 #[.val (.long q0), .second, .val (.long q1), .second, .val (.int p2), .val (.int p3), .val (.long (9223372036854775807 : Int64)), .second, .val (.long x15), .second, .unset, .unset, .unset, .unset, .unset, .unset, .unset] [])) t → Steps p.tables e below (s₁.setTop (entryFrame m #[(.long q0), (.long q1), (.int p2), (.int p3)] maxLocals)) t := fun t k => pre0 t (by
    show Steps p.tables e below (s₁.setTop (mkF m 0 #[.val (.long q0), .second, .val (.long q1), .second, .val (.int p2), .val (.int p3), .unset, .unset, .unset, .unset, .unset, .unset, .unset, .unset, .unset, .unset, .unset] [])) t
    refine X0.ldc2Long hx hown (mvT hZ (hw _ (List.mem_of_getElem? (i := 0) rfl))) (g := (mkF m 0 #[.val (.long q0), .second, .val (.long q1), .second, .val (.int p2), .val (.int p3), .unset, .unset, .unset, .unset, .unset, .unset, .unset, .unset, .unset, .unset, .unset] [])) rfl (hb hby at_0) _ ?_
    show Steps p.tables e below (s₁.setTop (mkF m 3 #[.val (.long q0), .second, .val (.long q1), .second, .val (.int p2), .val (.int p3), .unset, .unset, .unset, .unset, .unset, .unset, .unset, .unset, .unset, .unset, .unset] [(.long (9223372036854775807 : Int64))])) _
    refine XS.lstore X0.here hx rfl (hb hby at_3) rfl (l' := #[.val (.long q0), .second, .val (.long q1), .second, .val (.int p2), .val (.int p3), .val (.long (9223372036854775807 : Int64)), .second, .unset, .unset, .unset, .unset, .unset, .unset, .unset, .unset, .unset]) rfl ?_
    show Steps p.tables e below (s₁.setTop (mkF m 5 #[.val (.long q0), .second, .val (.long q1), .second, .val (.int p2), .val (.int p3), .val (.long (9223372036854775807 : Int64)), .second, .unset, .unset, .unset, .unset, .unset, .unset, .unset, .unset, .unset] [])) _
    refine XS.lloadN X0.here hx rfl (hb hby at_5) rfl ?_
    show Steps p.tables e below (s₁.setTop (mkF m 6 #[.val (.long q0), .second, .val (.long q1), .second, .val (.int p2), .val (.int p3), .val (.long (9223372036854775807 : Int64)), .second, .unset, .unset, .unset, .unset, .unset, .unset, .unset, .unset, .unset] [(.long q0)])) _
    refine XS.lload X0.here hx rfl (hb hby at_6) rfl ?_
    show Steps p.tables e below (s₁.setTop (mkF m 8 #[.val (.long q0), .second, .val (.long q1), .second, .val (.int p2), .val (.int p3), .val (.long (9223372036854775807 : Int64)), .second, .unset, .unset, .unset, .unset, .unset, .unset, .unset, .unset, .unset] [(.long (9223372036854775807 : Int64)), (.long q0)])) _
    refine XS.land X0.here hx rfl (hb hby at_8) rfl ?_
    show Steps p.tables e below (s₁.setTop (mkF m 9 #[.val (.long q0), .second, .val (.long q1), .second, .val (.int p2), .val (.int p3), .val (.long (9223372036854775807 : Int64)), .second, .unset, .unset, .unset, .unset, .unset, .unset, .unset, .unset, .unset] [(.long (q0 &&& (9223372036854775807 : Int64)))])) _
    refine XS.iload X0.here hx rfl (hb hby at_9) rfl ?_
    show Steps p.tables e below (s₁.setTop (mkF m 11 #[.val (.long q0), .second, .val (.long q1), .second, .val (.int p2), .val (.int p3), .val (.long (9223372036854775807 : Int64)), .second, .unset, .unset, .unset, .unset, .unset, .unset, .unset, .unset, .unset] [(.int p2), (.long (q0 &&& (9223372036854775807 : Int64)))])) _
    refine XS.bipush X0.here hx rfl (hb hby at_11) ?_
    show Steps p.tables e below (s₁.setTop (mkF m 13 #[.val (.long q0), .second, .val (.long q1), .second, .val (.int p2), .val (.int p3), .val (.long (9223372036854775807 : Int64)), .second, .unset, .unset, .unset, .unset, .unset, .unset, .unset, .unset, .unset] [(.int (63 : Int32)), (.int p2), (.long (q0 &&& (9223372036854775807 : Int64)))])) _
    refine XS.iand X0.here hx rfl (hb hby at_13) rfl ?_
    show Steps p.tables e below (s₁.setTop (mkF m 14 #[.val (.long q0), .second, .val (.long q1), .second, .val (.int p2), .val (.int p3), .val (.long (9223372036854775807 : Int64)), .second, .unset, .unset, .unset, .unset, .unset, .unset, .unset, .unset, .unset] [(.int (p2 &&& (63 : Int32))), (.long (q0 &&& (9223372036854775807 : Int64)))])) _
    refine XS.lushr X0.here hx rfl (hb hby at_14) rfl ?_
    show Steps p.tables e below (s₁.setTop (mkF m 15 #[.val (.long q0), .second, .val (.long q1), .second, .val (.int p2), .val (.int p3), .val (.long (9223372036854775807 : Int64)), .second, .unset, .unset, .unset, .unset, .unset, .unset, .unset, .unset, .unset] [(.long (((q0 &&& (9223372036854775807 : Int64)).toUInt64 >>> ((p2 &&& (63 : Int32)) &&& 0x3f).toInt64.toUInt64).toInt64))])) _
    refine XS.lstore X0.here hx rfl (hb hby at_15) rfl (l' := #[.val (.long q0), .second, .val (.long q1), .second, .val (.int p2), .val (.int p3), .val (.long (9223372036854775807 : Int64)), .second, .val (.long (((q0 &&& (9223372036854775807 : Int64)).toUInt64 >>> ((p2 &&& (63 : Int32)) &&& 0x3f).toInt64.toUInt64).toInt64)), .second, .unset, .unset, .unset, .unset, .unset, .unset, .unset]) rfl ?_
    show Steps p.tables e below (s₁.setTop (mkF m 17 #[.val (.long q0), .second, .val (.long q1), .second, .val (.int p2), .val (.int p3), .val (.long (9223372036854775807 : Int64)), .second, .val (.long (((q0 &&& (9223372036854775807 : Int64)).toUInt64 >>> ((p2 &&& (63 : Int32)) &&& 0x3f).toInt64.toUInt64).toInt64)), .second, .unset, .unset, .unset, .unset, .unset, .unset, .unset] [])) _
    subst hx15
    exact k)
  obtain ⟨x27, hx27⟩ : ∃ z : Int64, z = (((q1 &&& (9223372036854775807 : Int64)).toUInt64 >>> ((p3 &&& (63 : Int32)) &&& 0x3f).toInt64.toUInt64).toInt64) := ⟨_, rfl⟩
  have pre29 : ∀ t, Steps p.tables e below (s₁.setTop (mkF m 29 #[.val (.long q0), .second, .val (.long q1), .second, .val (.int p2), .val (.int p3), .val (.long (9223372036854775807 : Int64)), .second, .val (.long x15), .second, .val (.long x27), .second, .unset, .unset, .unset, .unset, .unset] [])) t → Steps p.tables e below (s₁.setTop (entryFrame m #[(.long q0), (.long q1), (.int p2), (.int p3)] maxLocals)) t := fun t k => pre17 t (by
    show Steps p.tables e below (s₁.setTop (mkF m 17 #[.val (.long q0), .second, .val (.long q1), .second, .val (.int p2), .val (.int p3), .val (.long (9223372036854775807 : Int64)), .second, .val (.long x15), .second, .unset, .unset, .unset, .unset, .unset, .unset, .unset] [])) t
    refine XS.lloadN X0.here hx rfl (hb hby at_17) rfl ?_
    show Steps p.tables e below (s₁.setTop (mkF m 18 #[.val (.long q0), .second, .val (.long q1), .second, .val (.int p2), .val (.int p3), .val (.long (9223372036854775807 : Int64)), .second, .val (.long x15), .second, .unset, .unset, .unset, .unset, .unset, .unset, .unset] [(.long q1)])) _
    refine XS.lload X0.here hx rfl (hb hby at_18) rfl ?_
    show Steps p.tables e below (s₁.setTop (mkF m 20 #[.val (.long q0), .second, .val (.long q1), .second, .val (.int p2), .val (.int p3), .val (.long (9223372036854775807 : Int64)), .second, .val (.long x15), .second, .unset, .unset, .unset, .unset, .unset, .unset, .unset] [(.long (9223372036854775807 : Int64)), (.long q1)])) _
    refine XS.land X0.here hx rfl (hb hby at_20) rfl ?_
    show Steps p.tables e below (s₁.setTop (mkF m 21 #[.val (.long q0), .second, .val (.long q1), .second, .val (.int p2), .val (.int p3), .val (.long (9223372036854775807 : Int64)), .second, .val (.long x15), .second, .unset, .unset, .unset, .unset, .unset, .unset, .unset] [(.long (q1 &&& (9223372036854775807 : Int64)))])) _
    refine XS.iload X0.here hx rfl (hb hby at_21) rfl ?_
    show Steps p.tables e below (s₁.setTop (mkF m 23 #[.val (.long q0), .second, .val (.long q1), .second, .val (.int p2), .val (.int p3), .val (.long (9223372036854775807 : Int64)), .second, .val (.long x15), .second, .unset, .unset, .unset, .unset, .unset, .unset, .unset] [(.int p3), (.long (q1 &&& (9223372036854775807 : Int64)))])) _
    refine XS.bipush X0.here hx rfl (hb hby at_23) ?_
    show Steps p.tables e below (s₁.setTop (mkF m 25 #[.val (.long q0), .second, .val (.long q1), .second, .val (.int p2), .val (.int p3), .val (.long (9223372036854775807 : Int64)), .second, .val (.long x15), .second, .unset, .unset, .unset, .unset, .unset, .unset, .unset] [(.int (63 : Int32)), (.int p3), (.long (q1 &&& (9223372036854775807 : Int64)))])) _
    refine XS.iand X0.here hx rfl (hb hby at_25) rfl ?_
    show Steps p.tables e below (s₁.setTop (mkF m 26 #[.val (.long q0), .second, .val (.long q1), .second, .val (.int p2), .val (.int p3), .val (.long (9223372036854775807 : Int64)), .second, .val (.long x15), .second, .unset, .unset, .unset, .unset, .unset, .unset, .unset] [(.int (p3 &&& (63 : Int32))), (.long (q1 &&& (9223372036854775807 : Int64)))])) _
    refine XS.lushr X0.here hx rfl (hb hby at_26) rfl ?_
    show Steps p.tables e below (s₁.setTop (mkF m 27 #[.val (.long q0), .second, .val (.long q1), .second, .val (.int p2), .val (.int p3), .val (.long (9223372036854775807 : Int64)), .second, .val (.long x15), .second, .unset, .unset, .unset, .unset, .unset, .unset, .unset] [(.long (((q1 &&& (9223372036854775807 : Int64)).toUInt64 >>> ((p3 &&& (63 : Int32)) &&& 0x3f).toInt64.toUInt64).toInt64))])) _
    refine XS.lstore X0.here hx rfl (hb hby at_27) rfl (l' := #[.val (.long q0), .second, .val (.long q1), .second, .val (.int p2), .val (.int p3), .val (.long (9223372036854775807 : Int64)), .second, .val (.long x15), .second, .val (.long (((q1 &&& (9223372036854775807 : Int64)).toUInt64 >>> ((p3 &&& (63 : Int32)) &&& 0x3f).toInt64.toUInt64).toInt64)), .second, .unset, .unset, .unset, .unset, .unset]) rfl ?_
    show Steps p.tables e below (s₁.setTop (mkF m 29 #[.val (.long q0), .second, .val (.long q1), .second, .val (.int p2), .val (.int p3), .val (.long (9223372036854775807 : Int64)), .second, .val (.long x15), .second, .val (.long (((q1 &&& (9223372036854775807 : Int64)).toUInt64 >>> ((p3 &&& (63 : Int32)) &&& 0x3f).toInt64.toUInt64).toInt64)), .second, .unset, .unset, .unset, .unset, .unset] [])) _
    subst hx27
    exact k)
  have n15 : 0 ≤ x15.toInt := by rw [hx15]; exact own_nonneg _ _
  have n27 : 0 ≤ x27.toInt := by rw [hx27]; exact own_nonneg _ _
  have pre33 : ∀ t, Steps p.tables e below (s₁.setTop (mkF m 33 #[.val (.long q0), .second, .val (.long q1), .second, .val (.int p2), .val (.int p3), .val (.long (9223372036854775807 : Int64)), .second, .val (.long x15), .second, .val (.long x27), .second, .unset, .unset, .unset, .unset, .unset] [(.long x27), (.long x15)])) t → Steps p.tables e below (s₁.setTop (entryFrame m #[(.long q0), (.long q1), (.int p2), (.int p3)] maxLocals)) t := fun t k => pre29 t (by
    show Steps p.tables e below (s₁.setTop (mkF m 29 #[.val (.long q0), .second, .val (.long q1), .second, .val (.int p2), .val (.int p3), .val (.long (9223372036854775807 : Int64)), .second, .val (.long x15), .second, .val (.long x27), .second, .unset, .unset, .unset, .unset, .unset] [])) t
    refine XS.lload X0.here hx rfl (hb hby at_29) rfl ?_
    show Steps p.tables e below (s₁.setTop (mkF m 31 #[.val (.long q0), .second, .val (.long q1), .second, .val (.int p2), .val (.int p3), .val (.long (9223372036854775807 : Int64)), .second, .val (.long x15), .second, .val (.long x27), .second, .unset, .unset, .unset, .unset, .unset] [(.long x15)])) _
    refine XS.lload X0.here hx rfl (hb hby at_31) rfl ?_
    show Steps p.tables e below (s₁.setTop (mkF m 33 #[.val (.long q0), .second, .val (.long q1), .second, .val (.int p2), .val (.int p3), .val (.long (9223372036854775807 : Int64)), .second, .val (.long x15), .second, .val (.long x27), .second, .unset, .unset, .unset, .unset, .unset] [(.long x27), (.long x15)])) _
    exact k)
  obtain ⟨_, _, ⟨T33, L33, k33, n33⟩, -, X33, ⟨Lc33, hQ33, l33, y33, z33⟩, st33⟩ := Jvm.LawKit.callS X0 hx (y := (⟨"com/example/ustav/ustav/service/ParticleNode", "times", "(JJ)J"⟩ : MethodName)) hown (mvT hZ (hw _ (List.mem_of_getElem? (i := 1) rfl))) (mvT hZ (hw _ (List.mem_of_getElem? (i := 2) rfl))) (mvT hZ (hw _ (List.mem_of_getElem? (i := 3) rfl))) (mvT hZ (hw _ (List.mem_of_getElem? (i := 4) rfl))) (by decide) (backOf (W := 0) (rmT l Z a0 hw [] x15 x27  h0 n0 Z0 ) hZ (hw _ (List.mem_of_getElem? (i := 4) rfl)) (hw _ (List.mem_of_getElem? (i := 3) rfl)) (by decide) (by decide)) (g := (mkF m 33 #[.val (.long q0), .second, .val (.long q1), .second, .val (.int p2), .val (.int p3), .val (.long (9223372036854775807 : Int64)), .second, .val (.long x15), .second, .val (.long x27), .second, .unset, .unset, .unset, .unset, .unset] [(.long x27), (.long x15)])) rfl (by rw [hml]; rfl) (argsL := [(.long x15), (.long x27)]) (rest := []) (lenOf pd0_0 rfl) rfl (by show 2 * 0 + _ ≤ _; exact Nat.le_of_eq rfl) (hb hby at_33) (fun _ _ => ⟨rfl, e0, (by decide : 0 + 0 ≤ _), (by decide : 0 + 0 ≤ _)⟩)
  dsimp only [Pt.U, Pt.locs, Pt.cells, Pt.slots] at X33 l33 y33 z33 st33 hQ33
  subst l33 y33 z33
  obtain ⟨rfl, N33q, e33⟩ := hQ33
  have N33 := Fr.app N0 N33q
  have pre36 : ∀ t, Steps p.tables e below (T33.setTop (mkF m 36 #[.val (.long q0), .second, .val (.long q1), .second, .val (.int p2), .val (.int p3), .val (.long (9223372036854775807 : Int64)), .second, .val (.long x15), .second, .val (.long x27), .second, .unset, .unset, .unset, .unset, .unset] [(.long (own_fT x15 x27))])) t → Steps p.tables e below (s₁.setTop (entryFrame m #[(.long q0), (.long q1), (.int p2), (.int p3)] maxLocals)) t := fun t k => pre33 t (st33 _ k)
  obtain ⟨x36, hx36⟩ : ∃ z : Int64, z = (own_fT x15 x27) := ⟨_, rfl⟩
  have pre38 : ∀ t, Steps p.tables e below (T33.setTop (mkF m 38 #[.val (.long q0), .second, .val (.long q1), .second, .val (.int p2), .val (.int p3), .val (.long (9223372036854775807 : Int64)), .second, .val (.long x15), .second, .val (.long x27), .second, .val (.long x36), .second, .unset, .unset, .unset] [])) t → Steps p.tables e below (s₁.setTop (entryFrame m #[(.long q0), (.long q1), (.int p2), (.int p3)] maxLocals)) t := fun t k => pre36 t (by
    show Steps p.tables e below (T33.setTop (mkF m 36 #[.val (.long q0), .second, .val (.long q1), .second, .val (.int p2), .val (.int p3), .val (.long (9223372036854775807 : Int64)), .second, .val (.long x15), .second, .val (.long x27), .second, .unset, .unset, .unset, .unset, .unset] [(.long (own_fT x15 x27))])) t
    refine XS.lstore X33.here hx rfl (hb hby at_36) rfl (l' := #[.val (.long q0), .second, .val (.long q1), .second, .val (.int p2), .val (.int p3), .val (.long (9223372036854775807 : Int64)), .second, .val (.long x15), .second, .val (.long x27), .second, .val (.long (own_fT x15 x27)), .second, .unset, .unset, .unset]) rfl ?_
    show Steps p.tables e below (T33.setTop (mkF m 38 #[.val (.long q0), .second, .val (.long q1), .second, .val (.int p2), .val (.int p3), .val (.long (9223372036854775807 : Int64)), .second, .val (.long x15), .second, .val (.long x27), .second, .val (.long (own_fT x15 x27)), .second, .unset, .unset, .unset] [])) _
    subst hx36
    exact k)
  have pre42 : ∀ t, Steps p.tables e below (T33.setTop (mkF m 42 #[.val (.long q0), .second, .val (.long q1), .second, .val (.int p2), .val (.int p3), .val (.long (9223372036854775807 : Int64)), .second, .val (.long x15), .second, .val (.long x27), .second, .val (.long x36), .second, .unset, .unset, .unset] [(.int (lcmpW x15 (0 : Int64)))])) t → Steps p.tables e below (s₁.setTop (entryFrame m #[(.long q0), (.long q1), (.int p2), (.int p3)] maxLocals)) t := fun t k => pre38 t (by
    show Steps p.tables e below (T33.setTop (mkF m 38 #[.val (.long q0), .second, .val (.long q1), .second, .val (.int p2), .val (.int p3), .val (.long (9223372036854775807 : Int64)), .second, .val (.long x15), .second, .val (.long x27), .second, .val (.long x36), .second, .unset, .unset, .unset] [])) t
    refine XS.lload X33.here hx rfl (hb hby at_38) rfl ?_
    show Steps p.tables e below (T33.setTop (mkF m 40 #[.val (.long q0), .second, .val (.long q1), .second, .val (.int p2), .val (.int p3), .val (.long (9223372036854775807 : Int64)), .second, .val (.long x15), .second, .val (.long x27), .second, .val (.long x36), .second, .unset, .unset, .unset] [(.long x15)])) _
    refine XS.lconst X33.here hx rfl (hb hby at_40) ?_
    show Steps p.tables e below (T33.setTop (mkF m 41 #[.val (.long q0), .second, .val (.long q1), .second, .val (.int p2), .val (.int p3), .val (.long (9223372036854775807 : Int64)), .second, .val (.long x15), .second, .val (.long x27), .second, .val (.long x36), .second, .unset, .unset, .unset] [(.long (0 : Int64)), (.long x15)])) _
    refine XS.lcmp X33.here hx rfl (hb hby at_41) rfl ?_
    show Steps p.tables e below (T33.setTop (mkF m 42 #[.val (.long q0), .second, .val (.long q1), .second, .val (.int p2), .val (.int p3), .val (.long (9223372036854775807 : Int64)), .second, .val (.long x15), .second, .val (.long x27), .second, .val (.long x36), .second, .unset, .unset, .unset] [(.int (lcmpW x15 (0 : Int64)))])) _
    exact k)
  by_cases hc42 : x15 = (0 : Int64)
  · -- x15 = (0 : Int64)
    have pre52 : ∀ t, Steps p.tables e below (T33.setTop (mkF m 52 #[.val (.long q0), .second, .val (.long q1), .second, .val (.int p2), .val (.int p3), .val (.long (9223372036854775807 : Int64)), .second, .val (.long x15), .second, .val (.long x27), .second, .val (.long x36), .second, .unset, .unset, .unset] [])) t → Steps p.tables e below (s₁.setTop (entryFrame m #[(.long q0), (.long q1), (.int p2), (.int p3)] maxLocals)) t := fun t k => pre42 t (by
      show Steps p.tables e below (T33.setTop (mkF m 42 #[.val (.long q0), .second, .val (.long q1), .second, .val (.int p2), .val (.int p3), .val (.long (9223372036854775807 : Int64)), .second, .val (.long x15), .second, .val (.long x27), .second, .val (.long x36), .second, .unset, .unset, .unset] [(.int (lcmpW x15 (0 : Int64)))])) t
      refine XS.ifYes X33.here hx rfl (pc0 := 42) (pc' := 52) rfl (hb hby at_42) rfl ((if0 _ _).trans (teq ((lw_eq _ _).mpr hc42)).1) (by decide) (by decide) ?_
      exact k)
    have pre56 : ∀ t, Steps p.tables e below (T33.setTop (mkF m 56 #[.val (.long q0), .second, .val (.long q1), .second, .val (.int p2), .val (.int p3), .val (.long (9223372036854775807 : Int64)), .second, .val (.long x15), .second, .val (.long x27), .second, .val (.long x36), .second, .unset, .unset, .unset] [(.int (lcmpW x36 (0 : Int64)))])) t → Steps p.tables e below (s₁.setTop (entryFrame m #[(.long q0), (.long q1), (.int p2), (.int p3)] maxLocals)) t := fun t k => pre52 t (by
      show Steps p.tables e below (T33.setTop (mkF m 52 #[.val (.long q0), .second, .val (.long q1), .second, .val (.int p2), .val (.int p3), .val (.long (9223372036854775807 : Int64)), .second, .val (.long x15), .second, .val (.long x27), .second, .val (.long x36), .second, .unset, .unset, .unset] [])) t
      refine XS.lload X33.here hx rfl (hb hby at_52) rfl ?_
      show Steps p.tables e below (T33.setTop (mkF m 54 #[.val (.long q0), .second, .val (.long q1), .second, .val (.int p2), .val (.int p3), .val (.long (9223372036854775807 : Int64)), .second, .val (.long x15), .second, .val (.long x27), .second, .val (.long x36), .second, .unset, .unset, .unset] [(.long x36)])) _
      refine XS.lconst X33.here hx rfl (hb hby at_54) ?_
      show Steps p.tables e below (T33.setTop (mkF m 55 #[.val (.long q0), .second, .val (.long q1), .second, .val (.int p2), .val (.int p3), .val (.long (9223372036854775807 : Int64)), .second, .val (.long x15), .second, .val (.long x27), .second, .val (.long x36), .second, .unset, .unset, .unset] [(.long (0 : Int64)), (.long x36)])) _
      refine XS.lcmp X33.here hx rfl (hb hby at_55) rfl ?_
      show Steps p.tables e below (T33.setTop (mkF m 56 #[.val (.long q0), .second, .val (.long q1), .second, .val (.int p2), .val (.int p3), .val (.long (9223372036854775807 : Int64)), .second, .val (.long x15), .second, .val (.long x27), .second, .val (.long x36), .second, .unset, .unset, .unset] [(.int (lcmpW x36 (0 : Int64)))])) _
      exact k)
    obtain ⟨v64_s0, hv64_s0⟩ : ∃ z : Int32, z = if (x36 = (0 : Int64)) then (1 : Int32) else 0 := ⟨_, rfl⟩
    have pre64 : ∀ t, Steps p.tables e below (T33.setTop (mkF m 64 #[.val (.long q0), .second, .val (.long q1), .second, .val (.int p2), .val (.int p3), .val (.long (9223372036854775807 : Int64)), .second, .val (.long x15), .second, .val (.long x27), .second, .val (.long x36), .second, .unset, .unset, .unset] [(.int v64_s0)])) t → Steps p.tables e below (s₁.setTop (entryFrame m #[(.long q0), (.long q1), (.int p2), (.int p3)] maxLocals)) t := by
      by_cases hc56 : x36 = (0 : Int64)
      · -- x36 = (0 : Int64)
        have pre59 : ∀ t, Steps p.tables e below (T33.setTop (mkF m 59 #[.val (.long q0), .second, .val (.long q1), .second, .val (.int p2), .val (.int p3), .val (.long (9223372036854775807 : Int64)), .second, .val (.long x15), .second, .val (.long x27), .second, .val (.long x36), .second, .unset, .unset, .unset] [])) t → Steps p.tables e below (s₁.setTop (entryFrame m #[(.long q0), (.long q1), (.int p2), (.int p3)] maxLocals)) t := fun t k => pre56 t (by
          show Steps p.tables e below (T33.setTop (mkF m 56 #[.val (.long q0), .second, .val (.long q1), .second, .val (.int p2), .val (.int p3), .val (.long (9223372036854775807 : Int64)), .second, .val (.long x15), .second, .val (.long x27), .second, .val (.long x36), .second, .unset, .unset, .unset] [(.int (lcmpW x36 (0 : Int64)))])) t
          refine XS.ifNo X33.here hx rfl (hb hby at_56) rfl ((if0 _ _).trans (teq ((lw_eq _ _).mpr hc56)).2) ?_
          exact k)
        have pre64 : ∀ t, Steps p.tables e below (T33.setTop (mkF m 64 #[.val (.long q0), .second, .val (.long q1), .second, .val (.int p2), .val (.int p3), .val (.long (9223372036854775807 : Int64)), .second, .val (.long x15), .second, .val (.long x27), .second, .val (.long x36), .second, .unset, .unset, .unset] [(.int (1 : Int32))])) t → Steps p.tables e below (s₁.setTop (entryFrame m #[(.long q0), (.long q1), (.int p2), (.int p3)] maxLocals)) t := fun t k => pre59 t (by
          show Steps p.tables e below (T33.setTop (mkF m 59 #[.val (.long q0), .second, .val (.long q1), .second, .val (.int p2), .val (.int p3), .val (.long (9223372036854775807 : Int64)), .second, .val (.long x15), .second, .val (.long x27), .second, .val (.long x36), .second, .unset, .unset, .unset] [])) t
          refine XS.iconst X33.here hx rfl (hb hby at_59) ?_
          show Steps p.tables e below (T33.setTop (mkF m 60 #[.val (.long q0), .second, .val (.long q1), .second, .val (.int p2), .val (.int p3), .val (.long (9223372036854775807 : Int64)), .second, .val (.long x15), .second, .val (.long x27), .second, .val (.long x36), .second, .unset, .unset, .unset] [(.int (1 : Int32))])) _
          refine XS.goto X33.here hx rfl (pc0 := 60) (pc' := 64) rfl (hb hby at_60) (by decide) (by decide) ?_
          show Steps p.tables e below (T33.setTop (mkF m 64 #[.val (.long q0), .second, .val (.long q1), .second, .val (.int p2), .val (.int p3), .val (.long (9223372036854775807 : Int64)), .second, .val (.long x15), .second, .val (.long x27), .second, .val (.long x36), .second, .unset, .unset, .unset] [(.int (1 : Int32))])) _
          exact k)
        have ehv64_s0 := hv64_s0.trans (if_pos hc56)
        exact fun t k => pre64 t (by subst ehv64_s0; exact k)
      · -- not x36 = (0 : Int64)
        have pre63 : ∀ t, Steps p.tables e below (T33.setTop (mkF m 63 #[.val (.long q0), .second, .val (.long q1), .second, .val (.int p2), .val (.int p3), .val (.long (9223372036854775807 : Int64)), .second, .val (.long x15), .second, .val (.long x27), .second, .val (.long x36), .second, .unset, .unset, .unset] [])) t → Steps p.tables e below (s₁.setTop (entryFrame m #[(.long q0), (.long q1), (.int p2), (.int p3)] maxLocals)) t := fun t k => pre56 t (by
          show Steps p.tables e below (T33.setTop (mkF m 56 #[.val (.long q0), .second, .val (.long q1), .second, .val (.int p2), .val (.int p3), .val (.long (9223372036854775807 : Int64)), .second, .val (.long x15), .second, .val (.long x27), .second, .val (.long x36), .second, .unset, .unset, .unset] [(.int (lcmpW x36 (0 : Int64)))])) t
          refine XS.ifYes X33.here hx rfl (pc0 := 56) (pc' := 63) rfl (hb hby at_56) rfl ((if0 _ _).trans (feq (fun q => hc56 ((lw_eq _ _).mp q))).2) (by decide) (by decide) ?_
          exact k)
        have pre64 : ∀ t, Steps p.tables e below (T33.setTop (mkF m 64 #[.val (.long q0), .second, .val (.long q1), .second, .val (.int p2), .val (.int p3), .val (.long (9223372036854775807 : Int64)), .second, .val (.long x15), .second, .val (.long x27), .second, .val (.long x36), .second, .unset, .unset, .unset] [(.int (0 : Int32))])) t → Steps p.tables e below (s₁.setTop (entryFrame m #[(.long q0), (.long q1), (.int p2), (.int p3)] maxLocals)) t := fun t k => pre63 t (by
          show Steps p.tables e below (T33.setTop (mkF m 63 #[.val (.long q0), .second, .val (.long q1), .second, .val (.int p2), .val (.int p3), .val (.long (9223372036854775807 : Int64)), .second, .val (.long x15), .second, .val (.long x27), .second, .val (.long x36), .second, .unset, .unset, .unset] [])) t
          refine XS.iconst X33.here hx rfl (hb hby at_63) ?_
          show Steps p.tables e below (T33.setTop (mkF m 64 #[.val (.long q0), .second, .val (.long q1), .second, .val (.int p2), .val (.int p3), .val (.long (9223372036854775807 : Int64)), .second, .val (.long x15), .second, .val (.long x27), .second, .val (.long x36), .second, .unset, .unset, .unset] [(.int (0 : Int32))])) _
          exact k)
        have ehv64_s0 := hv64_s0.trans (if_neg hc56)
        exact fun t k => pre64 t (by subst ehv64_s0; exact k)
    obtain ⟨fs, hr, hrun, hended, hW, hsame⟩ := X33.leave (v := some (.int (nar .boolean v64_s0))) (fun h => by rw [Bd.returns] at h; cases h)
    refine ⟨_, _, pre64 _ ?_, hrun, hended, _, _, rfl, ?_, ⟨_, rfl⟩, hW, hsame.mono (by decide) (by decide)⟩
    · show Steps p.tables e below (T33.setTop (mkF m 64 #[.val (.long q0), .second, .val (.long q1), .second, .val (.int p2), .val (.int p3), .val (.long (9223372036854775807 : Int64)), .second, .val (.long x15), .second, .val (.long x27), .second, .val (.long x36), .second, .unset, .unset, .unset] [(.int v64_s0)])) _
      exact retN X33 hx (t := .boolean) Bd.returns (by simp) (hb hby at_64) hr
    · show Q0 Z q0 q1 p2 p3 h0 n0 _ T33.heap _
      rw [e33]
      have hres : (nar .boolean v64_s0) = (1 : Int32) := by
        rw [hv64_s0, own_narB]
        exact if_pos (by rw [hx36]; first | exact own_zero1 _ _ hc42 | exact own_zero2 _ _ hc42 hc49)
      exact ⟨congrArg (fun q => some (Value.int q)) hres, N33⟩
  · -- not x15 = (0 : Int64)
    have pre45 : ∀ t, Steps p.tables e below (T33.setTop (mkF m 45 #[.val (.long q0), .second, .val (.long q1), .second, .val (.int p2), .val (.int p3), .val (.long (9223372036854775807 : Int64)), .second, .val (.long x15), .second, .val (.long x27), .second, .val (.long x36), .second, .unset, .unset, .unset] [])) t → Steps p.tables e below (s₁.setTop (entryFrame m #[(.long q0), (.long q1), (.int p2), (.int p3)] maxLocals)) t := fun t k => pre42 t (by
      show Steps p.tables e below (T33.setTop (mkF m 42 #[.val (.long q0), .second, .val (.long q1), .second, .val (.int p2), .val (.int p3), .val (.long (9223372036854775807 : Int64)), .second, .val (.long x15), .second, .val (.long x27), .second, .val (.long x36), .second, .unset, .unset, .unset] [(.int (lcmpW x15 (0 : Int64)))])) t
      refine XS.ifNo X33.here hx rfl (hb hby at_42) rfl ((if0 _ _).trans (feq (fun q => hc42 ((lw_eq _ _).mp q))).1) ?_
      exact k)
    have pre49 : ∀ t, Steps p.tables e below (T33.setTop (mkF m 49 #[.val (.long q0), .second, .val (.long q1), .second, .val (.int p2), .val (.int p3), .val (.long (9223372036854775807 : Int64)), .second, .val (.long x15), .second, .val (.long x27), .second, .val (.long x36), .second, .unset, .unset, .unset] [(.int (lcmpW x27 (0 : Int64)))])) t → Steps p.tables e below (s₁.setTop (entryFrame m #[(.long q0), (.long q1), (.int p2), (.int p3)] maxLocals)) t := fun t k => pre45 t (by
      show Steps p.tables e below (T33.setTop (mkF m 45 #[.val (.long q0), .second, .val (.long q1), .second, .val (.int p2), .val (.int p3), .val (.long (9223372036854775807 : Int64)), .second, .val (.long x15), .second, .val (.long x27), .second, .val (.long x36), .second, .unset, .unset, .unset] [])) t
      refine XS.lload X33.here hx rfl (hb hby at_45) rfl ?_
      show Steps p.tables e below (T33.setTop (mkF m 47 #[.val (.long q0), .second, .val (.long q1), .second, .val (.int p2), .val (.int p3), .val (.long (9223372036854775807 : Int64)), .second, .val (.long x15), .second, .val (.long x27), .second, .val (.long x36), .second, .unset, .unset, .unset] [(.long x27)])) _
      refine XS.lconst X33.here hx rfl (hb hby at_47) ?_
      show Steps p.tables e below (T33.setTop (mkF m 48 #[.val (.long q0), .second, .val (.long q1), .second, .val (.int p2), .val (.int p3), .val (.long (9223372036854775807 : Int64)), .second, .val (.long x15), .second, .val (.long x27), .second, .val (.long x36), .second, .unset, .unset, .unset] [(.long (0 : Int64)), (.long x27)])) _
      refine XS.lcmp X33.here hx rfl (hb hby at_48) rfl ?_
      show Steps p.tables e below (T33.setTop (mkF m 49 #[.val (.long q0), .second, .val (.long q1), .second, .val (.int p2), .val (.int p3), .val (.long (9223372036854775807 : Int64)), .second, .val (.long x15), .second, .val (.long x27), .second, .val (.long x36), .second, .unset, .unset, .unset] [(.int (lcmpW x27 (0 : Int64)))])) _
      exact k)
    by_cases hc49 : x27 = (0 : Int64)
    · -- x27 = (0 : Int64)
      have pre52 : ∀ t, Steps p.tables e below (T33.setTop (mkF m 52 #[.val (.long q0), .second, .val (.long q1), .second, .val (.int p2), .val (.int p3), .val (.long (9223372036854775807 : Int64)), .second, .val (.long x15), .second, .val (.long x27), .second, .val (.long x36), .second, .unset, .unset, .unset] [])) t → Steps p.tables e below (s₁.setTop (entryFrame m #[(.long q0), (.long q1), (.int p2), (.int p3)] maxLocals)) t := fun t k => pre49 t (by
        show Steps p.tables e below (T33.setTop (mkF m 49 #[.val (.long q0), .second, .val (.long q1), .second, .val (.int p2), .val (.int p3), .val (.long (9223372036854775807 : Int64)), .second, .val (.long x15), .second, .val (.long x27), .second, .val (.long x36), .second, .unset, .unset, .unset] [(.int (lcmpW x27 (0 : Int64)))])) t
        refine XS.ifNo X33.here hx rfl (hb hby at_49) rfl ((if0 _ _).trans (teq ((lw_eq _ _).mpr hc49)).2) ?_
        exact k)
      have pre56 : ∀ t, Steps p.tables e below (T33.setTop (mkF m 56 #[.val (.long q0), .second, .val (.long q1), .second, .val (.int p2), .val (.int p3), .val (.long (9223372036854775807 : Int64)), .second, .val (.long x15), .second, .val (.long x27), .second, .val (.long x36), .second, .unset, .unset, .unset] [(.int (lcmpW x36 (0 : Int64)))])) t → Steps p.tables e below (s₁.setTop (entryFrame m #[(.long q0), (.long q1), (.int p2), (.int p3)] maxLocals)) t := fun t k => pre52 t (by
        show Steps p.tables e below (T33.setTop (mkF m 52 #[.val (.long q0), .second, .val (.long q1), .second, .val (.int p2), .val (.int p3), .val (.long (9223372036854775807 : Int64)), .second, .val (.long x15), .second, .val (.long x27), .second, .val (.long x36), .second, .unset, .unset, .unset] [])) t
        refine XS.lload X33.here hx rfl (hb hby at_52) rfl ?_
        show Steps p.tables e below (T33.setTop (mkF m 54 #[.val (.long q0), .second, .val (.long q1), .second, .val (.int p2), .val (.int p3), .val (.long (9223372036854775807 : Int64)), .second, .val (.long x15), .second, .val (.long x27), .second, .val (.long x36), .second, .unset, .unset, .unset] [(.long x36)])) _
        refine XS.lconst X33.here hx rfl (hb hby at_54) ?_
        show Steps p.tables e below (T33.setTop (mkF m 55 #[.val (.long q0), .second, .val (.long q1), .second, .val (.int p2), .val (.int p3), .val (.long (9223372036854775807 : Int64)), .second, .val (.long x15), .second, .val (.long x27), .second, .val (.long x36), .second, .unset, .unset, .unset] [(.long (0 : Int64)), (.long x36)])) _
        refine XS.lcmp X33.here hx rfl (hb hby at_55) rfl ?_
        show Steps p.tables e below (T33.setTop (mkF m 56 #[.val (.long q0), .second, .val (.long q1), .second, .val (.int p2), .val (.int p3), .val (.long (9223372036854775807 : Int64)), .second, .val (.long x15), .second, .val (.long x27), .second, .val (.long x36), .second, .unset, .unset, .unset] [(.int (lcmpW x36 (0 : Int64)))])) _
        exact k)
      obtain ⟨v64_s0, hv64_s0⟩ : ∃ z : Int32, z = if (x36 = (0 : Int64)) then (1 : Int32) else 0 := ⟨_, rfl⟩
      have pre64 : ∀ t, Steps p.tables e below (T33.setTop (mkF m 64 #[.val (.long q0), .second, .val (.long q1), .second, .val (.int p2), .val (.int p3), .val (.long (9223372036854775807 : Int64)), .second, .val (.long x15), .second, .val (.long x27), .second, .val (.long x36), .second, .unset, .unset, .unset] [(.int v64_s0)])) t → Steps p.tables e below (s₁.setTop (entryFrame m #[(.long q0), (.long q1), (.int p2), (.int p3)] maxLocals)) t := by
        by_cases hc56 : x36 = (0 : Int64)
        · -- x36 = (0 : Int64)
          have pre59 : ∀ t, Steps p.tables e below (T33.setTop (mkF m 59 #[.val (.long q0), .second, .val (.long q1), .second, .val (.int p2), .val (.int p3), .val (.long (9223372036854775807 : Int64)), .second, .val (.long x15), .second, .val (.long x27), .second, .val (.long x36), .second, .unset, .unset, .unset] [])) t → Steps p.tables e below (s₁.setTop (entryFrame m #[(.long q0), (.long q1), (.int p2), (.int p3)] maxLocals)) t := fun t k => pre56 t (by
            show Steps p.tables e below (T33.setTop (mkF m 56 #[.val (.long q0), .second, .val (.long q1), .second, .val (.int p2), .val (.int p3), .val (.long (9223372036854775807 : Int64)), .second, .val (.long x15), .second, .val (.long x27), .second, .val (.long x36), .second, .unset, .unset, .unset] [(.int (lcmpW x36 (0 : Int64)))])) t
            refine XS.ifNo X33.here hx rfl (hb hby at_56) rfl ((if0 _ _).trans (teq ((lw_eq _ _).mpr hc56)).2) ?_
            exact k)
          have pre64 : ∀ t, Steps p.tables e below (T33.setTop (mkF m 64 #[.val (.long q0), .second, .val (.long q1), .second, .val (.int p2), .val (.int p3), .val (.long (9223372036854775807 : Int64)), .second, .val (.long x15), .second, .val (.long x27), .second, .val (.long x36), .second, .unset, .unset, .unset] [(.int (1 : Int32))])) t → Steps p.tables e below (s₁.setTop (entryFrame m #[(.long q0), (.long q1), (.int p2), (.int p3)] maxLocals)) t := fun t k => pre59 t (by
            show Steps p.tables e below (T33.setTop (mkF m 59 #[.val (.long q0), .second, .val (.long q1), .second, .val (.int p2), .val (.int p3), .val (.long (9223372036854775807 : Int64)), .second, .val (.long x15), .second, .val (.long x27), .second, .val (.long x36), .second, .unset, .unset, .unset] [])) t
            refine XS.iconst X33.here hx rfl (hb hby at_59) ?_
            show Steps p.tables e below (T33.setTop (mkF m 60 #[.val (.long q0), .second, .val (.long q1), .second, .val (.int p2), .val (.int p3), .val (.long (9223372036854775807 : Int64)), .second, .val (.long x15), .second, .val (.long x27), .second, .val (.long x36), .second, .unset, .unset, .unset] [(.int (1 : Int32))])) _
            refine XS.goto X33.here hx rfl (pc0 := 60) (pc' := 64) rfl (hb hby at_60) (by decide) (by decide) ?_
            show Steps p.tables e below (T33.setTop (mkF m 64 #[.val (.long q0), .second, .val (.long q1), .second, .val (.int p2), .val (.int p3), .val (.long (9223372036854775807 : Int64)), .second, .val (.long x15), .second, .val (.long x27), .second, .val (.long x36), .second, .unset, .unset, .unset] [(.int (1 : Int32))])) _
            exact k)
          have ehv64_s0 := hv64_s0.trans (if_pos hc56)
          exact fun t k => pre64 t (by subst ehv64_s0; exact k)
        · -- not x36 = (0 : Int64)
          have pre63 : ∀ t, Steps p.tables e below (T33.setTop (mkF m 63 #[.val (.long q0), .second, .val (.long q1), .second, .val (.int p2), .val (.int p3), .val (.long (9223372036854775807 : Int64)), .second, .val (.long x15), .second, .val (.long x27), .second, .val (.long x36), .second, .unset, .unset, .unset] [])) t → Steps p.tables e below (s₁.setTop (entryFrame m #[(.long q0), (.long q1), (.int p2), (.int p3)] maxLocals)) t := fun t k => pre56 t (by
            show Steps p.tables e below (T33.setTop (mkF m 56 #[.val (.long q0), .second, .val (.long q1), .second, .val (.int p2), .val (.int p3), .val (.long (9223372036854775807 : Int64)), .second, .val (.long x15), .second, .val (.long x27), .second, .val (.long x36), .second, .unset, .unset, .unset] [(.int (lcmpW x36 (0 : Int64)))])) t
            refine XS.ifYes X33.here hx rfl (pc0 := 56) (pc' := 63) rfl (hb hby at_56) rfl ((if0 _ _).trans (feq (fun q => hc56 ((lw_eq _ _).mp q))).2) (by decide) (by decide) ?_
            exact k)
          have pre64 : ∀ t, Steps p.tables e below (T33.setTop (mkF m 64 #[.val (.long q0), .second, .val (.long q1), .second, .val (.int p2), .val (.int p3), .val (.long (9223372036854775807 : Int64)), .second, .val (.long x15), .second, .val (.long x27), .second, .val (.long x36), .second, .unset, .unset, .unset] [(.int (0 : Int32))])) t → Steps p.tables e below (s₁.setTop (entryFrame m #[(.long q0), (.long q1), (.int p2), (.int p3)] maxLocals)) t := fun t k => pre63 t (by
            show Steps p.tables e below (T33.setTop (mkF m 63 #[.val (.long q0), .second, .val (.long q1), .second, .val (.int p2), .val (.int p3), .val (.long (9223372036854775807 : Int64)), .second, .val (.long x15), .second, .val (.long x27), .second, .val (.long x36), .second, .unset, .unset, .unset] [])) t
            refine XS.iconst X33.here hx rfl (hb hby at_63) ?_
            show Steps p.tables e below (T33.setTop (mkF m 64 #[.val (.long q0), .second, .val (.long q1), .second, .val (.int p2), .val (.int p3), .val (.long (9223372036854775807 : Int64)), .second, .val (.long x15), .second, .val (.long x27), .second, .val (.long x36), .second, .unset, .unset, .unset] [(.int (0 : Int32))])) _
            exact k)
          have ehv64_s0 := hv64_s0.trans (if_neg hc56)
          exact fun t k => pre64 t (by subst ehv64_s0; exact k)
      obtain ⟨fs, hr, hrun, hended, hW, hsame⟩ := X33.leave (v := some (.int (nar .boolean v64_s0))) (fun h => by rw [Bd.returns] at h; cases h)
      refine ⟨_, _, pre64 _ ?_, hrun, hended, _, _, rfl, ?_, ⟨_, rfl⟩, hW, hsame.mono (by decide) (by decide)⟩
      · show Steps p.tables e below (T33.setTop (mkF m 64 #[.val (.long q0), .second, .val (.long q1), .second, .val (.int p2), .val (.int p3), .val (.long (9223372036854775807 : Int64)), .second, .val (.long x15), .second, .val (.long x27), .second, .val (.long x36), .second, .unset, .unset, .unset] [(.int v64_s0)])) _
        exact retN X33 hx (t := .boolean) Bd.returns (by simp) (hb hby at_64) hr
      · show Q0 Z q0 q1 p2 p3 h0 n0 _ T33.heap _
        rw [e33]
        have hres : (nar .boolean v64_s0) = (1 : Int32) := by
          rw [hv64_s0, own_narB]
          exact if_pos (by rw [hx36]; first | exact own_zero1 _ _ hc42 | exact own_zero2 _ _ hc42 hc49)
        exact ⟨congrArg (fun q => some (Value.int q)) hres, N33⟩
    · -- not x27 = (0 : Int64)
      have pre65 : ∀ t, Steps p.tables e below (T33.setTop (mkF m 65 #[.val (.long q0), .second, .val (.long q1), .second, .val (.int p2), .val (.int p3), .val (.long (9223372036854775807 : Int64)), .second, .val (.long x15), .second, .val (.long x27), .second, .val (.long x36), .second, .unset, .unset, .unset] [])) t → Steps p.tables e below (s₁.setTop (entryFrame m #[(.long q0), (.long q1), (.int p2), (.int p3)] maxLocals)) t := fun t k => pre49 t (by
        show Steps p.tables e below (T33.setTop (mkF m 49 #[.val (.long q0), .second, .val (.long q1), .second, .val (.int p2), .val (.int p3), .val (.long (9223372036854775807 : Int64)), .second, .val (.long x15), .second, .val (.long x27), .second, .val (.long x36), .second, .unset, .unset, .unset] [(.int (lcmpW x27 (0 : Int64)))])) t
        refine XS.ifYes X33.here hx rfl (pc0 := 49) (pc' := 65) rfl (hb hby at_49) rfl ((if0 _ _).trans (feq (fun q => hc49 ((lw_eq _ _).mp q))).2) (by decide) (by decide) ?_
        exact k)
      obtain ⟨x70, hx70⟩ : ∃ z : Int64, z = ((9223372036854775807 : Int64) / x15) := ⟨_, rfl⟩
      have pre72 : ∀ t, Steps p.tables e below (T33.setTop (mkF m 72 #[.val (.long q0), .second, .val (.long q1), .second, .val (.int p2), .val (.int p3), .val (.long (9223372036854775807 : Int64)), .second, .val (.long x15), .second, .val (.long x27), .second, .val (.long x36), .second, .val (.long x70), .second, .unset] [])) t → Steps p.tables e below (s₁.setTop (entryFrame m #[(.long q0), (.long q1), (.int p2), (.int p3)] maxLocals)) t := fun t k => pre65 t (by
        show Steps p.tables e below (T33.setTop (mkF m 65 #[.val (.long q0), .second, .val (.long q1), .second, .val (.int p2), .val (.int p3), .val (.long (9223372036854775807 : Int64)), .second, .val (.long x15), .second, .val (.long x27), .second, .val (.long x36), .second, .unset, .unset, .unset] [])) t
        refine XS.lload X33.here hx rfl (hb hby at_65) rfl ?_
        show Steps p.tables e below (T33.setTop (mkF m 67 #[.val (.long q0), .second, .val (.long q1), .second, .val (.int p2), .val (.int p3), .val (.long (9223372036854775807 : Int64)), .second, .val (.long x15), .second, .val (.long x27), .second, .val (.long x36), .second, .unset, .unset, .unset] [(.long (9223372036854775807 : Int64))])) _
        refine XS.lload X33.here hx rfl (hb hby at_67) rfl ?_
        show Steps p.tables e below (T33.setTop (mkF m 69 #[.val (.long q0), .second, .val (.long q1), .second, .val (.int p2), .val (.int p3), .val (.long (9223372036854775807 : Int64)), .second, .val (.long x15), .second, .val (.long x27), .second, .val (.long x36), .second, .unset, .unset, .unset] [(.long x15), (.long (9223372036854775807 : Int64))])) _
        refine XS.ldiv X33.here hx rfl (hb hby at_69) rfl hc42 ?_
        show Steps p.tables e below (T33.setTop (mkF m 70 #[.val (.long q0), .second, .val (.long q1), .second, .val (.int p2), .val (.int p3), .val (.long (9223372036854775807 : Int64)), .second, .val (.long x15), .second, .val (.long x27), .second, .val (.long x36), .second, .unset, .unset, .unset] [(.long ((9223372036854775807 : Int64) / x15))])) _
        refine XS.lstore X33.here hx rfl (hb hby at_70) rfl (l' := #[.val (.long q0), .second, .val (.long q1), .second, .val (.int p2), .val (.int p3), .val (.long (9223372036854775807 : Int64)), .second, .val (.long x15), .second, .val (.long x27), .second, .val (.long x36), .second, .val (.long ((9223372036854775807 : Int64) / x15)), .second, .unset]) rfl ?_
        show Steps p.tables e below (T33.setTop (mkF m 72 #[.val (.long q0), .second, .val (.long q1), .second, .val (.int p2), .val (.int p3), .val (.long (9223372036854775807 : Int64)), .second, .val (.long x15), .second, .val (.long x27), .second, .val (.long x36), .second, .val (.long ((9223372036854775807 : Int64) / x15)), .second, .unset] [])) _
        subst hx70
        exact k)
      have pre77 : ∀ t, Steps p.tables e below (T33.setTop (mkF m 77 #[.val (.long q0), .second, .val (.long q1), .second, .val (.int p2), .val (.int p3), .val (.long (9223372036854775807 : Int64)), .second, .val (.long x15), .second, .val (.long x27), .second, .val (.long x36), .second, .val (.long x70), .second, .unset] [(.int (lcmpW x27 x70))])) t → Steps p.tables e below (s₁.setTop (entryFrame m #[(.long q0), (.long q1), (.int p2), (.int p3)] maxLocals)) t := fun t k => pre72 t (by
        show Steps p.tables e below (T33.setTop (mkF m 72 #[.val (.long q0), .second, .val (.long q1), .second, .val (.int p2), .val (.int p3), .val (.long (9223372036854775807 : Int64)), .second, .val (.long x15), .second, .val (.long x27), .second, .val (.long x36), .second, .val (.long x70), .second, .unset] [])) t
        refine XS.lload X33.here hx rfl (hb hby at_72) rfl ?_
        show Steps p.tables e below (T33.setTop (mkF m 74 #[.val (.long q0), .second, .val (.long q1), .second, .val (.int p2), .val (.int p3), .val (.long (9223372036854775807 : Int64)), .second, .val (.long x15), .second, .val (.long x27), .second, .val (.long x36), .second, .val (.long x70), .second, .unset] [(.long x27)])) _
        refine XS.lload X33.here hx rfl (hb hby at_74) rfl ?_
        show Steps p.tables e below (T33.setTop (mkF m 76 #[.val (.long q0), .second, .val (.long q1), .second, .val (.int p2), .val (.int p3), .val (.long (9223372036854775807 : Int64)), .second, .val (.long x15), .second, .val (.long x27), .second, .val (.long x36), .second, .val (.long x70), .second, .unset] [(.long x70), (.long x27)])) _
        refine XS.lcmp X33.here hx rfl (hb hby at_76) rfl ?_
        show Steps p.tables e below (T33.setTop (mkF m 77 #[.val (.long q0), .second, .val (.long q1), .second, .val (.int p2), .val (.int p3), .val (.long (9223372036854775807 : Int64)), .second, .val (.long x15), .second, .val (.long x27), .second, .val (.long x36), .second, .val (.long x70), .second, .unset] [(.int (lcmpW x27 x70))])) _
        exact k)
      obtain ⟨v103_s0, hv103_s0⟩ : ∃ z : Int32, z = if ((x70 < x27) ∨ ((x27 = x70) ∧ (((9223372036854775807 : Int64) % x15) = (0 : Int64)))) then (1 : Int32) else 0 := ⟨_, rfl⟩
      have pre103 : ∀ t, Steps p.tables e below (T33.setTop (mkF m 103 #[.val (.long q0), .second, .val (.long q1), .second, .val (.int p2), .val (.int p3), .val (.long (9223372036854775807 : Int64)), .second, .val (.long x15), .second, .val (.long x27), .second, .val (.long x36), .second, .val (.long x70), .second, .unset] [(.int v103_s0)])) t → Steps p.tables e below (s₁.setTop (entryFrame m #[(.long q0), (.long q1), (.int p2), (.int p3)] maxLocals)) t := by
        by_cases hc77 : x70 < x27
        · -- x70 < x27
          have pre98 : ∀ t, Steps p.tables e below (T33.setTop (mkF m 98 #[.val (.long q0), .second, .val (.long q1), .second, .val (.int p2), .val (.int p3), .val (.long (9223372036854775807 : Int64)), .second, .val (.long x15), .second, .val (.long x27), .second, .val (.long x36), .second, .val (.long x70), .second, .unset] [])) t → Steps p.tables e below (s₁.setTop (entryFrame m #[(.long q0), (.long q1), (.int p2), (.int p3)] maxLocals)) t := fun t k => pre77 t (by
            show Steps p.tables e below (T33.setTop (mkF m 77 #[.val (.long q0), .second, .val (.long q1), .second, .val (.int p2), .val (.int p3), .val (.long (9223372036854775807 : Int64)), .second, .val (.long x15), .second, .val (.long x27), .second, .val (.long x36), .second, .val (.long x70), .second, .unset] [(.int (lcmpW x27 x70))])) t
            refine XS.ifYes X33.here hx rfl (pc0 := 77) (pc' := 98) rfl (hb hby at_77) rfl ((if0 _ _).trans (tlt ((lw_gt _ _).mpr hc77)).2.2.1) (by decide) (by decide) ?_
            exact k)
          have pre103 : ∀ t, Steps p.tables e below (T33.setTop (mkF m 103 #[.val (.long q0), .second, .val (.long q1), .second, .val (.int p2), .val (.int p3), .val (.long (9223372036854775807 : Int64)), .second, .val (.long x15), .second, .val (.long x27), .second, .val (.long x36), .second, .val (.long x70), .second, .unset] [(.int (1 : Int32))])) t → Steps p.tables e below (s₁.setTop (entryFrame m #[(.long q0), (.long q1), (.int p2), (.int p3)] maxLocals)) t := fun t k => pre98 t (by
            show Steps p.tables e below (T33.setTop (mkF m 98 #[.val (.long q0), .second, .val (.long q1), .second, .val (.int p2), .val (.int p3), .val (.long (9223372036854775807 : Int64)), .second, .val (.long x15), .second, .val (.long x27), .second, .val (.long x36), .second, .val (.long x70), .second, .unset] [])) t
            refine XS.iconst X33.here hx rfl (hb hby at_98) ?_
            show Steps p.tables e below (T33.setTop (mkF m 99 #[.val (.long q0), .second, .val (.long q1), .second, .val (.int p2), .val (.int p3), .val (.long (9223372036854775807 : Int64)), .second, .val (.long x15), .second, .val (.long x27), .second, .val (.long x36), .second, .val (.long x70), .second, .unset] [(.int (1 : Int32))])) _
            refine XS.goto X33.here hx rfl (pc0 := 99) (pc' := 103) rfl (hb hby at_99) (by decide) (by decide) ?_
            show Steps p.tables e below (T33.setTop (mkF m 103 #[.val (.long q0), .second, .val (.long q1), .second, .val (.int p2), .val (.int p3), .val (.long (9223372036854775807 : Int64)), .second, .val (.long x15), .second, .val (.long x27), .second, .val (.long x36), .second, .val (.long x70), .second, .unset] [(.int (1 : Int32))])) _
            exact k)
          have ehv103_s0 := hv103_s0.trans (if_pos (Or.inl hc77))
          exact fun t k => pre103 t (by subst ehv103_s0; exact k)
        · -- not x70 < x27
          have pre80 : ∀ t, Steps p.tables e below (T33.setTop (mkF m 80 #[.val (.long q0), .second, .val (.long q1), .second, .val (.int p2), .val (.int p3), .val (.long (9223372036854775807 : Int64)), .second, .val (.long x15), .second, .val (.long x27), .second, .val (.long x36), .second, .val (.long x70), .second, .unset] [])) t → Steps p.tables e below (s₁.setTop (entryFrame m #[(.long q0), (.long q1), (.int p2), (.int p3)] maxLocals)) t := fun t k => pre77 t (by
            show Steps p.tables e below (T33.setTop (mkF m 77 #[.val (.long q0), .second, .val (.long q1), .second, .val (.int p2), .val (.int p3), .val (.long (9223372036854775807 : Int64)), .second, .val (.long x15), .second, .val (.long x27), .second, .val (.long x36), .second, .val (.long x70), .second, .unset] [(.int (lcmpW x27 x70))])) t
            refine XS.ifNo X33.here hx rfl (hb hby at_77) rfl ((if0 _ _).trans (flt (fun q => hc77 ((lw_gt _ _).mp q))).2.2.1) ?_
            exact k)
          have pre85 : ∀ t, Steps p.tables e below (T33.setTop (mkF m 85 #[.val (.long q0), .second, .val (.long q1), .second, .val (.int p2), .val (.int p3), .val (.long (9223372036854775807 : Int64)), .second, .val (.long x15), .second, .val (.long x27), .second, .val (.long x36), .second, .val (.long x70), .second, .unset] [(.int (lcmpW x27 x70))])) t → Steps p.tables e below (s₁.setTop (entryFrame m #[(.long q0), (.long q1), (.int p2), (.int p3)] maxLocals)) t := fun t k => pre80 t (by
            show Steps p.tables e below (T33.setTop (mkF m 80 #[.val (.long q0), .second, .val (.long q1), .second, .val (.int p2), .val (.int p3), .val (.long (9223372036854775807 : Int64)), .second, .val (.long x15), .second, .val (.long x27), .second, .val (.long x36), .second, .val (.long x70), .second, .unset] [])) t
            refine XS.lload X33.here hx rfl (hb hby at_80) rfl ?_
            show Steps p.tables e below (T33.setTop (mkF m 82 #[.val (.long q0), .second, .val (.long q1), .second, .val (.int p2), .val (.int p3), .val (.long (9223372036854775807 : Int64)), .second, .val (.long x15), .second, .val (.long x27), .second, .val (.long x36), .second, .val (.long x70), .second, .unset] [(.long x27)])) _
            refine XS.lload X33.here hx rfl (hb hby at_82) rfl ?_
            show Steps p.tables e below (T33.setTop (mkF m 84 #[.val (.long q0), .second, .val (.long q1), .second, .val (.int p2), .val (.int p3), .val (.long (9223372036854775807 : Int64)), .second, .val (.long x15), .second, .val (.long x27), .second, .val (.long x36), .second, .val (.long x70), .second, .unset] [(.long x70), (.long x27)])) _
            refine XS.lcmp X33.here hx rfl (hb hby at_84) rfl ?_
            show Steps p.tables e below (T33.setTop (mkF m 85 #[.val (.long q0), .second, .val (.long q1), .second, .val (.int p2), .val (.int p3), .val (.long (9223372036854775807 : Int64)), .second, .val (.long x15), .second, .val (.long x27), .second, .val (.long x36), .second, .val (.long x70), .second, .unset] [(.int (lcmpW x27 x70))])) _
            exact k)
          by_cases hc85 : x27 = x70
          · -- x27 = x70
            have pre88 : ∀ t, Steps p.tables e below (T33.setTop (mkF m 88 #[.val (.long q0), .second, .val (.long q1), .second, .val (.int p2), .val (.int p3), .val (.long (9223372036854775807 : Int64)), .second, .val (.long x15), .second, .val (.long x27), .second, .val (.long x36), .second, .val (.long x70), .second, .unset] [])) t → Steps p.tables e below (s₁.setTop (entryFrame m #[(.long q0), (.long q1), (.int p2), (.int p3)] maxLocals)) t := fun t k => pre85 t (by
              show Steps p.tables e below (T33.setTop (mkF m 85 #[.val (.long q0), .second, .val (.long q1), .second, .val (.int p2), .val (.int p3), .val (.long (9223372036854775807 : Int64)), .second, .val (.long x15), .second, .val (.long x27), .second, .val (.long x36), .second, .val (.long x70), .second, .unset] [(.int (lcmpW x27 x70))])) t
              refine XS.ifNo X33.here hx rfl (hb hby at_85) rfl ((if0 _ _).trans (teq ((lw_eq _ _).mpr hc85)).2) ?_
              exact k)
            have pre95 : ∀ t, Steps p.tables e below (T33.setTop (mkF m 95 #[.val (.long q0), .second, .val (.long q1), .second, .val (.int p2), .val (.int p3), .val (.long (9223372036854775807 : Int64)), .second, .val (.long x15), .second, .val (.long x27), .second, .val (.long x36), .second, .val (.long x70), .second, .unset] [(.int (lcmpW ((9223372036854775807 : Int64) % x15) (0 : Int64)))])) t → Steps p.tables e below (s₁.setTop (entryFrame m #[(.long q0), (.long q1), (.int p2), (.int p3)] maxLocals)) t := fun t k => pre88 t (by
              show Steps p.tables e below (T33.setTop (mkF m 88 #[.val (.long q0), .second, .val (.long q1), .second, .val (.int p2), .val (.int p3), .val (.long (9223372036854775807 : Int64)), .second, .val (.long x15), .second, .val (.long x27), .second, .val (.long x36), .second, .val (.long x70), .second, .unset] [])) t
              refine XS.lload X33.here hx rfl (hb hby at_88) rfl ?_
              show Steps p.tables e below (T33.setTop (mkF m 90 #[.val (.long q0), .second, .val (.long q1), .second, .val (.int p2), .val (.int p3), .val (.long (9223372036854775807 : Int64)), .second, .val (.long x15), .second, .val (.long x27), .second, .val (.long x36), .second, .val (.long x70), .second, .unset] [(.long (9223372036854775807 : Int64))])) _
              refine XS.lload X33.here hx rfl (hb hby at_90) rfl ?_
              show Steps p.tables e below (T33.setTop (mkF m 92 #[.val (.long q0), .second, .val (.long q1), .second, .val (.int p2), .val (.int p3), .val (.long (9223372036854775807 : Int64)), .second, .val (.long x15), .second, .val (.long x27), .second, .val (.long x36), .second, .val (.long x70), .second, .unset] [(.long x15), (.long (9223372036854775807 : Int64))])) _
              refine own_lremM X33 hx rfl (hb hby at_92) rfl hc42 ?_
              show Steps p.tables e below (T33.setTop (mkF m 93 #[.val (.long q0), .second, .val (.long q1), .second, .val (.int p2), .val (.int p3), .val (.long (9223372036854775807 : Int64)), .second, .val (.long x15), .second, .val (.long x27), .second, .val (.long x36), .second, .val (.long x70), .second, .unset] [(.long ((9223372036854775807 : Int64) % x15))])) _
              refine XS.lconst X33.here hx rfl (hb hby at_93) ?_
              show Steps p.tables e below (T33.setTop (mkF m 94 #[.val (.long q0), .second, .val (.long q1), .second, .val (.int p2), .val (.int p3), .val (.long (9223372036854775807 : Int64)), .second, .val (.long x15), .second, .val (.long x27), .second, .val (.long x36), .second, .val (.long x70), .second, .unset] [(.long (0 : Int64)), (.long ((9223372036854775807 : Int64) % x15))])) _
              refine XS.lcmp X33.here hx rfl (hb hby at_94) rfl ?_
              show Steps p.tables e below (T33.setTop (mkF m 95 #[.val (.long q0), .second, .val (.long q1), .second, .val (.int p2), .val (.int p3), .val (.long (9223372036854775807 : Int64)), .second, .val (.long x15), .second, .val (.long x27), .second, .val (.long x36), .second, .val (.long x70), .second, .unset] [(.int (lcmpW ((9223372036854775807 : Int64) % x15) (0 : Int64)))])) _
              exact k)
            by_cases hc95 : ((9223372036854775807 : Int64) % x15) = (0 : Int64)
            · -- ((9223372036854775807 : Int64) % x15) = (0 : Int64)
              have pre98 : ∀ t, Steps p.tables e below (T33.setTop (mkF m 98 #[.val (.long q0), .second, .val (.long q1), .second, .val (.int p2), .val (.int p3), .val (.long (9223372036854775807 : Int64)), .second, .val (.long x15), .second, .val (.long x27), .second, .val (.long x36), .second, .val (.long x70), .second, .unset] [])) t → Steps p.tables e below (s₁.setTop (entryFrame m #[(.long q0), (.long q1), (.int p2), (.int p3)] maxLocals)) t := fun t k => pre95 t (by
                show Steps p.tables e below (T33.setTop (mkF m 95 #[.val (.long q0), .second, .val (.long q1), .second, .val (.int p2), .val (.int p3), .val (.long (9223372036854775807 : Int64)), .second, .val (.long x15), .second, .val (.long x27), .second, .val (.long x36), .second, .val (.long x70), .second, .unset] [(.int (lcmpW ((9223372036854775807 : Int64) % x15) (0 : Int64)))])) t
                refine XS.ifNo X33.here hx rfl (hb hby at_95) rfl ((if0 _ _).trans (teq ((lw_eq _ _).mpr hc95)).2) ?_
                exact k)
              have pre103 : ∀ t, Steps p.tables e below (T33.setTop (mkF m 103 #[.val (.long q0), .second, .val (.long q1), .second, .val (.int p2), .val (.int p3), .val (.long (9223372036854775807 : Int64)), .second, .val (.long x15), .second, .val (.long x27), .second, .val (.long x36), .second, .val (.long x70), .second, .unset] [(.int (1 : Int32))])) t → Steps p.tables e below (s₁.setTop (entryFrame m #[(.long q0), (.long q1), (.int p2), (.int p3)] maxLocals)) t := fun t k => pre98 t (by
                show Steps p.tables e below (T33.setTop (mkF m 98 #[.val (.long q0), .second, .val (.long q1), .second, .val (.int p2), .val (.int p3), .val (.long (9223372036854775807 : Int64)), .second, .val (.long x15), .second, .val (.long x27), .second, .val (.long x36), .second, .val (.long x70), .second, .unset] [])) t
                refine XS.iconst X33.here hx rfl (hb hby at_98) ?_
                show Steps p.tables e below (T33.setTop (mkF m 99 #[.val (.long q0), .second, .val (.long q1), .second, .val (.int p2), .val (.int p3), .val (.long (9223372036854775807 : Int64)), .second, .val (.long x15), .second, .val (.long x27), .second, .val (.long x36), .second, .val (.long x70), .second, .unset] [(.int (1 : Int32))])) _
                refine XS.goto X33.here hx rfl (pc0 := 99) (pc' := 103) rfl (hb hby at_99) (by decide) (by decide) ?_
                show Steps p.tables e below (T33.setTop (mkF m 103 #[.val (.long q0), .second, .val (.long q1), .second, .val (.int p2), .val (.int p3), .val (.long (9223372036854775807 : Int64)), .second, .val (.long x15), .second, .val (.long x27), .second, .val (.long x36), .second, .val (.long x70), .second, .unset] [(.int (1 : Int32))])) _
                exact k)
              have ehv103_s0 := hv103_s0.trans (if_pos (Or.inr ⟨hc85, hc95⟩))
              exact fun t k => pre103 t (by subst ehv103_s0; exact k)
            · -- not ((9223372036854775807 : Int64) % x15) = (0 : Int64)
              have pre102 : ∀ t, Steps p.tables e below (T33.setTop (mkF m 102 #[.val (.long q0), .second, .val (.long q1), .second, .val (.int p2), .val (.int p3), .val (.long (9223372036854775807 : Int64)), .second, .val (.long x15), .second, .val (.long x27), .second, .val (.long x36), .second, .val (.long x70), .second, .unset] [])) t → Steps p.tables e below (s₁.setTop (entryFrame m #[(.long q0), (.long q1), (.int p2), (.int p3)] maxLocals)) t := fun t k => pre95 t (by
                show Steps p.tables e below (T33.setTop (mkF m 95 #[.val (.long q0), .second, .val (.long q1), .second, .val (.int p2), .val (.int p3), .val (.long (9223372036854775807 : Int64)), .second, .val (.long x15), .second, .val (.long x27), .second, .val (.long x36), .second, .val (.long x70), .second, .unset] [(.int (lcmpW ((9223372036854775807 : Int64) % x15) (0 : Int64)))])) t
                refine XS.ifYes X33.here hx rfl (pc0 := 95) (pc' := 102) rfl (hb hby at_95) rfl ((if0 _ _).trans (feq (fun q => hc95 ((lw_eq _ _).mp q))).2) (by decide) (by decide) ?_
                exact k)
              have pre103 : ∀ t, Steps p.tables e below (T33.setTop (mkF m 103 #[.val (.long q0), .second, .val (.long q1), .second, .val (.int p2), .val (.int p3), .val (.long (9223372036854775807 : Int64)), .second, .val (.long x15), .second, .val (.long x27), .second, .val (.long x36), .second, .val (.long x70), .second, .unset] [(.int (0 : Int32))])) t → Steps p.tables e below (s₁.setTop (entryFrame m #[(.long q0), (.long q1), (.int p2), (.int p3)] maxLocals)) t := fun t k => pre102 t (by
                show Steps p.tables e below (T33.setTop (mkF m 102 #[.val (.long q0), .second, .val (.long q1), .second, .val (.int p2), .val (.int p3), .val (.long (9223372036854775807 : Int64)), .second, .val (.long x15), .second, .val (.long x27), .second, .val (.long x36), .second, .val (.long x70), .second, .unset] [])) t
                refine XS.iconst X33.here hx rfl (hb hby at_102) ?_
                show Steps p.tables e below (T33.setTop (mkF m 103 #[.val (.long q0), .second, .val (.long q1), .second, .val (.int p2), .val (.int p3), .val (.long (9223372036854775807 : Int64)), .second, .val (.long x15), .second, .val (.long x27), .second, .val (.long x36), .second, .val (.long x70), .second, .unset] [(.int (0 : Int32))])) _
                exact k)
              have ehv103_s0 := hv103_s0.trans (if_neg (fun r => r.elim hc77 (fun r => hc95 r.2)))
              exact fun t k => pre103 t (by subst ehv103_s0; exact k)
          · -- not x27 = x70
            have pre102 : ∀ t, Steps p.tables e below (T33.setTop (mkF m 102 #[.val (.long q0), .second, .val (.long q1), .second, .val (.int p2), .val (.int p3), .val (.long (9223372036854775807 : Int64)), .second, .val (.long x15), .second, .val (.long x27), .second, .val (.long x36), .second, .val (.long x70), .second, .unset] [])) t → Steps p.tables e below (s₁.setTop (entryFrame m #[(.long q0), (.long q1), (.int p2), (.int p3)] maxLocals)) t := fun t k => pre85 t (by
              show Steps p.tables e below (T33.setTop (mkF m 85 #[.val (.long q0), .second, .val (.long q1), .second, .val (.int p2), .val (.int p3), .val (.long (9223372036854775807 : Int64)), .second, .val (.long x15), .second, .val (.long x27), .second, .val (.long x36), .second, .val (.long x70), .second, .unset] [(.int (lcmpW x27 x70))])) t
              refine XS.ifYes X33.here hx rfl (pc0 := 85) (pc' := 102) rfl (hb hby at_85) rfl ((if0 _ _).trans (feq (fun q => hc85 ((lw_eq _ _).mp q))).2) (by decide) (by decide) ?_
              exact k)
            have pre103 : ∀ t, Steps p.tables e below (T33.setTop (mkF m 103 #[.val (.long q0), .second, .val (.long q1), .second, .val (.int p2), .val (.int p3), .val (.long (9223372036854775807 : Int64)), .second, .val (.long x15), .second, .val (.long x27), .second, .val (.long x36), .second, .val (.long x70), .second, .unset] [(.int (0 : Int32))])) t → Steps p.tables e below (s₁.setTop (entryFrame m #[(.long q0), (.long q1), (.int p2), (.int p3)] maxLocals)) t := fun t k => pre102 t (by
              show Steps p.tables e below (T33.setTop (mkF m 102 #[.val (.long q0), .second, .val (.long q1), .second, .val (.int p2), .val (.int p3), .val (.long (9223372036854775807 : Int64)), .second, .val (.long x15), .second, .val (.long x27), .second, .val (.long x36), .second, .val (.long x70), .second, .unset] [])) t
              refine XS.iconst X33.here hx rfl (hb hby at_102) ?_
              show Steps p.tables e below (T33.setTop (mkF m 103 #[.val (.long q0), .second, .val (.long q1), .second, .val (.int p2), .val (.int p3), .val (.long (9223372036854775807 : Int64)), .second, .val (.long x15), .second, .val (.long x27), .second, .val (.long x36), .second, .val (.long x70), .second, .unset] [(.int (0 : Int32))])) _
              exact k)
            have ehv103_s0 := hv103_s0.trans (if_neg (fun r => r.elim hc77 (fun q => hc85 q.1)))
            exact fun t k => pre103 t (by subst ehv103_s0; exact k)
      have pre107 : ∀ t, Steps p.tables e below (T33.setTop (mkF m 107 #[.val (.long q0), .second, .val (.long q1), .second, .val (.int p2), .val (.int p3), .val (.long (9223372036854775807 : Int64)), .second, .val (.long x15), .second, .val (.long x27), .second, .val (.long x36), .second, .val (.long x70), .second, .val (.int v103_s0)] [(.int v103_s0)])) t → Steps p.tables e below (s₁.setTop (entryFrame m #[(.long q0), (.long q1), (.int p2), (.int p3)] maxLocals)) t := fun t k => pre103 t (by
        show Steps p.tables e below (T33.setTop (mkF m 103 #[.val (.long q0), .second, .val (.long q1), .second, .val (.int p2), .val (.int p3), .val (.long (9223372036854775807 : Int64)), .second, .val (.long x15), .second, .val (.long x27), .second, .val (.long x36), .second, .val (.long x70), .second, .unset] [(.int v103_s0)])) t
        refine XS.istore X33.here hx rfl (hb hby at_103) rfl (l' := #[.val (.long q0), .second, .val (.long q1), .second, .val (.int p2), .val (.int p3), .val (.long (9223372036854775807 : Int64)), .second, .val (.long x15), .second, .val (.long x27), .second, .val (.long x36), .second, .val (.long x70), .second, .val (.int v103_s0)]) rfl ?_
        show Steps p.tables e below (T33.setTop (mkF m 105 #[.val (.long q0), .second, .val (.long q1), .second, .val (.int p2), .val (.int p3), .val (.long (9223372036854775807 : Int64)), .second, .val (.long x15), .second, .val (.long x27), .second, .val (.long x36), .second, .val (.long x70), .second, .val (.int v103_s0)] [])) _
        refine XS.iload X33.here hx rfl (hb hby at_105) rfl ?_
        show Steps p.tables e below (T33.setTop (mkF m 107 #[.val (.long q0), .second, .val (.long q1), .second, .val (.int p2), .val (.int p3), .val (.long (9223372036854775807 : Int64)), .second, .val (.long x15), .second, .val (.long x27), .second, .val (.long x36), .second, .val (.long x70), .second, .val (.int v103_s0)] [(.int v103_s0)])) _
        exact k)
      by_cases hc107 : ((x70 < x27) ∨ ((x27 = x70) ∧ (((9223372036854775807 : Int64) % x15) = (0 : Int64))))
      · -- ((x70 < x27) ∨ ((x27 = x70) ∧ (((9223372036854775807 : Int64) % x15) = (0 : Int64))))
        have pre110 : ∀ t, Steps p.tables e below (T33.setTop (mkF m 110 #[.val (.long q0), .second, .val (.long q1), .second, .val (.int p2), .val (.int p3), .val (.long (9223372036854775807 : Int64)), .second, .val (.long x15), .second, .val (.long x27), .second, .val (.long x36), .second, .val (.long x70), .second, .val (.int v103_s0)] [])) t → Steps p.tables e below (s₁.setTop (entryFrame m #[(.long q0), (.long q1), (.int p2), (.int p3)] maxLocals)) t := fun t k => pre107 t (by
          show Steps p.tables e below (T33.setTop (mkF m 107 #[.val (.long q0), .second, .val (.long q1), .second, .val (.int p2), .val (.int p3), .val (.long (9223372036854775807 : Int64)), .second, .val (.long x15), .second, .val (.long x27), .second, .val (.long x36), .second, .val (.long x70), .second, .val (.int v103_s0)] [(.int v103_s0)])) t
          refine XS.ifNo X33.here hx rfl (hb hby at_107) rfl ((if0 _ _).trans (feq (by rw [hv103_s0, if_pos hc107]; decide)).1) ?_
          exact k)
        have pre115 : ∀ t, Steps p.tables e below (T33.setTop (mkF m 115 #[.val (.long q0), .second, .val (.long q1), .second, .val (.int p2), .val (.int p3), .val (.long (9223372036854775807 : Int64)), .second, .val (.long x15), .second, .val (.long x27), .second, .val (.long x36), .second, .val (.long x70), .second, .val (.int v103_s0)] [(.int (lcmpW x36 (9223372036854775807 : Int64)))])) t → Steps p.tables e below (s₁.setTop (entryFrame m #[(.long q0), (.long q1), (.int p2), (.int p3)] maxLocals)) t := fun t k => pre110 t (by
          show Steps p.tables e below (T33.setTop (mkF m 110 #[.val (.long q0), .second, .val (.long q1), .second, .val (.int p2), .val (.int p3), .val (.long (9223372036854775807 : Int64)), .second, .val (.long x15), .second, .val (.long x27), .second, .val (.long x36), .second, .val (.long x70), .second, .val (.int v103_s0)] [])) t
          refine XS.lload X33.here hx rfl (hb hby at_110) rfl ?_
          show Steps p.tables e below (T33.setTop (mkF m 112 #[.val (.long q0), .second, .val (.long q1), .second, .val (.int p2), .val (.int p3), .val (.long (9223372036854775807 : Int64)), .second, .val (.long x15), .second, .val (.long x27), .second, .val (.long x36), .second, .val (.long x70), .second, .val (.int v103_s0)] [(.long x36)])) _
          refine XS.lload X33.here hx rfl (hb hby at_112) rfl ?_
          show Steps p.tables e below (T33.setTop (mkF m 114 #[.val (.long q0), .second, .val (.long q1), .second, .val (.int p2), .val (.int p3), .val (.long (9223372036854775807 : Int64)), .second, .val (.long x15), .second, .val (.long x27), .second, .val (.long x36), .second, .val (.long x70), .second, .val (.int v103_s0)] [(.long (9223372036854775807 : Int64)), (.long x36)])) _
          refine XS.lcmp X33.here hx rfl (hb hby at_114) rfl ?_
          show Steps p.tables e below (T33.setTop (mkF m 115 #[.val (.long q0), .second, .val (.long q1), .second, .val (.int p2), .val (.int p3), .val (.long (9223372036854775807 : Int64)), .second, .val (.long x15), .second, .val (.long x27), .second, .val (.long x36), .second, .val (.long x70), .second, .val (.int v103_s0)] [(.int (lcmpW x36 (9223372036854775807 : Int64)))])) _
          exact k)
        obtain ⟨v123_s0, hv123_s0⟩ : ∃ z : Int32, z = if (x36 = (9223372036854775807 : Int64)) then (1 : Int32) else 0 := ⟨_, rfl⟩
        have pre123 : ∀ t, Steps p.tables e below (T33.setTop (mkF m 123 #[.val (.long q0), .second, .val (.long q1), .second, .val (.int p2), .val (.int p3), .val (.long (9223372036854775807 : Int64)), .second, .val (.long x15), .second, .val (.long x27), .second, .val (.long x36), .second, .val (.long x70), .second, .val (.int v103_s0)] [(.int v123_s0)])) t → Steps p.tables e below (s₁.setTop (entryFrame m #[(.long q0), (.long q1), (.int p2), (.int p3)] maxLocals)) t := by
          by_cases hc115 : x36 = (9223372036854775807 : Int64)
          · -- x36 = (9223372036854775807 : Int64)
            have pre118 : ∀ t, Steps p.tables e below (T33.setTop (mkF m 118 #[.val (.long q0), .second, .val (.long q1), .second, .val (.int p2), .val (.int p3), .val (.long (9223372036854775807 : Int64)), .second, .val (.long x15), .second, .val (.long x27), .second, .val (.long x36), .second, .val (.long x70), .second, .val (.int v103_s0)] [])) t → Steps p.tables e below (s₁.setTop (entryFrame m #[(.long q0), (.long q1), (.int p2), (.int p3)] maxLocals)) t := fun t k => pre115 t (by
              show Steps p.tables e below (T33.setTop (mkF m 115 #[.val (.long q0), .second, .val (.long q1), .second, .val (.int p2), .val (.int p3), .val (.long (9223372036854775807 : Int64)), .second, .val (.long x15), .second, .val (.long x27), .second, .val (.long x36), .second, .val (.long x70), .second, .val (.int v103_s0)] [(.int (lcmpW x36 (9223372036854775807 : Int64)))])) t
              refine XS.ifNo X33.here hx rfl (hb hby at_115) rfl ((if0 _ _).trans (teq ((lw_eq _ _).mpr hc115)).2) ?_
              exact k)
            have pre123 : ∀ t, Steps p.tables e below (T33.setTop (mkF m 123 #[.val (.long q0), .second, .val (.long q1), .second, .val (.int p2), .val (.int p3), .val (.long (9223372036854775807 : Int64)), .second, .val (.long x15), .second, .val (.long x27), .second, .val (.long x36), .second, .val (.long x70), .second, .val (.int v103_s0)] [(.int (1 : Int32))])) t → Steps p.tables e below (s₁.setTop (entryFrame m #[(.long q0), (.long q1), (.int p2), (.int p3)] maxLocals)) t := fun t k => pre118 t (by
              show Steps p.tables e below (T33.setTop (mkF m 118 #[.val (.long q0), .second, .val (.long q1), .second, .val (.int p2), .val (.int p3), .val (.long (9223372036854775807 : Int64)), .second, .val (.long x15), .second, .val (.long x27), .second, .val (.long x36), .second, .val (.long x70), .second, .val (.int v103_s0)] [])) t
              refine XS.iconst X33.here hx rfl (hb hby at_118) ?_
              show Steps p.tables e below (T33.setTop (mkF m 119 #[.val (.long q0), .second, .val (.long q1), .second, .val (.int p2), .val (.int p3), .val (.long (9223372036854775807 : Int64)), .second, .val (.long x15), .second, .val (.long x27), .second, .val (.long x36), .second, .val (.long x70), .second, .val (.int v103_s0)] [(.int (1 : Int32))])) _
              refine XS.goto X33.here hx rfl (pc0 := 119) (pc' := 123) rfl (hb hby at_119) (by decide) (by decide) ?_
              show Steps p.tables e below (T33.setTop (mkF m 123 #[.val (.long q0), .second, .val (.long q1), .second, .val (.int p2), .val (.int p3), .val (.long (9223372036854775807 : Int64)), .second, .val (.long x15), .second, .val (.long x27), .second, .val (.long x36), .second, .val (.long x70), .second, .val (.int v103_s0)] [(.int (1 : Int32))])) _
              exact k)
            have ehv123_s0 := hv123_s0.trans (if_pos hc115)
            exact fun t k => pre123 t (by subst ehv123_s0; exact k)
          · -- not x36 = (9223372036854775807 : Int64)
            have pre122 : ∀ t, Steps p.tables e below (T33.setTop (mkF m 122 #[.val (.long q0), .second, .val (.long q1), .second, .val (.int p2), .val (.int p3), .val (.long (9223372036854775807 : Int64)), .second, .val (.long x15), .second, .val (.long x27), .second, .val (.long x36), .second, .val (.long x70), .second, .val (.int v103_s0)] [])) t → Steps p.tables e below (s₁.setTop (entryFrame m #[(.long q0), (.long q1), (.int p2), (.int p3)] maxLocals)) t := fun t k => pre115 t (by
              show Steps p.tables e below (T33.setTop (mkF m 115 #[.val (.long q0), .second, .val (.long q1), .second, .val (.int p2), .val (.int p3), .val (.long (9223372036854775807 : Int64)), .second, .val (.long x15), .second, .val (.long x27), .second, .val (.long x36), .second, .val (.long x70), .second, .val (.int v103_s0)] [(.int (lcmpW x36 (9223372036854775807 : Int64)))])) t
              refine XS.ifYes X33.here hx rfl (pc0 := 115) (pc' := 122) rfl (hb hby at_115) rfl ((if0 _ _).trans (feq (fun q => hc115 ((lw_eq _ _).mp q))).2) (by decide) (by decide) ?_
              exact k)
            have pre123 : ∀ t, Steps p.tables e below (T33.setTop (mkF m 123 #[.val (.long q0), .second, .val (.long q1), .second, .val (.int p2), .val (.int p3), .val (.long (9223372036854775807 : Int64)), .second, .val (.long x15), .second, .val (.long x27), .second, .val (.long x36), .second, .val (.long x70), .second, .val (.int v103_s0)] [(.int (0 : Int32))])) t → Steps p.tables e below (s₁.setTop (entryFrame m #[(.long q0), (.long q1), (.int p2), (.int p3)] maxLocals)) t := fun t k => pre122 t (by
              show Steps p.tables e below (T33.setTop (mkF m 122 #[.val (.long q0), .second, .val (.long q1), .second, .val (.int p2), .val (.int p3), .val (.long (9223372036854775807 : Int64)), .second, .val (.long x15), .second, .val (.long x27), .second, .val (.long x36), .second, .val (.long x70), .second, .val (.int v103_s0)] [])) t
              refine XS.iconst X33.here hx rfl (hb hby at_122) ?_
              show Steps p.tables e below (T33.setTop (mkF m 123 #[.val (.long q0), .second, .val (.long q1), .second, .val (.int p2), .val (.int p3), .val (.long (9223372036854775807 : Int64)), .second, .val (.long x15), .second, .val (.long x27), .second, .val (.long x36), .second, .val (.long x70), .second, .val (.int v103_s0)] [(.int (0 : Int32))])) _
              exact k)
            have ehv123_s0 := hv123_s0.trans (if_neg hc115)
            exact fun t k => pre123 t (by subst ehv123_s0; exact k)
        obtain ⟨fs, hr, hrun, hended, hW, hsame⟩ := X33.leave (v := some (.int (nar .boolean v123_s0))) (fun h => by rw [Bd.returns] at h; cases h)
        refine ⟨_, _, pre123 _ ?_, hrun, hended, _, _, rfl, ?_, ⟨_, rfl⟩, hW, hsame.mono (by decide) (by decide)⟩
        · show Steps p.tables e below (T33.setTop (mkF m 123 #[.val (.long q0), .second, .val (.long q1), .second, .val (.int p2), .val (.int p3), .val (.long (9223372036854775807 : Int64)), .second, .val (.long x15), .second, .val (.long x27), .second, .val (.long x36), .second, .val (.long x70), .second, .val (.int v103_s0)] [(.int v123_s0)])) _
          exact retN X33 hx (t := .boolean) Bd.returns (by simp) (hb hby at_123) hr
        · show Q0 Z q0 q1 p2 p3 h0 n0 _ T33.heap _
          rw [e33]
          have hres : (nar .boolean v123_s0) = (1 : Int32) := by
            rw [hv123_s0, own_narB]
            exact if_pos (by rw [hx36]; exact own_top n15 n27 hc42 hc49 hx70 hc107)
          exact ⟨congrArg (fun q => some (Value.int q)) hres, N33⟩
      · -- not ((x70 < x27) ∨ ((x27 = x70) ∧ (((9223372036854775807 : Int64) % x15) = (0 : Int64))))
        have pre124 : ∀ t, Steps p.tables e below (T33.setTop (mkF m 124 #[.val (.long q0), .second, .val (.long q1), .second, .val (.int p2), .val (.int p3), .val (.long (9223372036854775807 : Int64)), .second, .val (.long x15), .second, .val (.long x27), .second, .val (.long x36), .second, .val (.long x70), .second, .val (.int v103_s0)] [])) t → Steps p.tables e below (s₁.setTop (entryFrame m #[(.long q0), (.long q1), (.int p2), (.int p3)] maxLocals)) t := fun t k => pre107 t (by
          show Steps p.tables e below (T33.setTop (mkF m 107 #[.val (.long q0), .second, .val (.long q1), .second, .val (.int p2), .val (.int p3), .val (.long (9223372036854775807 : Int64)), .second, .val (.long x15), .second, .val (.long x27), .second, .val (.long x36), .second, .val (.long x70), .second, .val (.int v103_s0)] [(.int v103_s0)])) t
          refine XS.ifYes X33.here hx rfl (pc0 := 107) (pc' := 124) rfl (hb hby at_107) rfl ((if0 _ _).trans (teq (by rw [hv103_s0, if_neg hc107])).1) (by decide) (by decide) ?_
          exact k)
        have pre131 : ∀ t, Steps p.tables e below (T33.setTop (mkF m 131 #[.val (.long q0), .second, .val (.long q1), .second, .val (.int p2), .val (.int p3), .val (.long (9223372036854775807 : Int64)), .second, .val (.long x15), .second, .val (.long x27), .second, .val (.long x36), .second, .val (.long x70), .second, .val (.int v103_s0)] [(.int (lcmpW (x36 % x15) (0 : Int64)))])) t → Steps p.tables e below (s₁.setTop (entryFrame m #[(.long q0), (.long q1), (.int p2), (.int p3)] maxLocals)) t := fun t k => pre124 t (by
          show Steps p.tables e below (T33.setTop (mkF m 124 #[.val (.long q0), .second, .val (.long q1), .second, .val (.int p2), .val (.int p3), .val (.long (9223372036854775807 : Int64)), .second, .val (.long x15), .second, .val (.long x27), .second, .val (.long x36), .second, .val (.long x70), .second, .val (.int v103_s0)] [])) t
          refine XS.lload X33.here hx rfl (hb hby at_124) rfl ?_
          show Steps p.tables e below (T33.setTop (mkF m 126 #[.val (.long q0), .second, .val (.long q1), .second, .val (.int p2), .val (.int p3), .val (.long (9223372036854775807 : Int64)), .second, .val (.long x15), .second, .val (.long x27), .second, .val (.long x36), .second, .val (.long x70), .second, .val (.int v103_s0)] [(.long x36)])) _
          refine XS.lload X33.here hx rfl (hb hby at_126) rfl ?_
          show Steps p.tables e below (T33.setTop (mkF m 128 #[.val (.long q0), .second, .val (.long q1), .second, .val (.int p2), .val (.int p3), .val (.long (9223372036854775807 : Int64)), .second, .val (.long x15), .second, .val (.long x27), .second, .val (.long x36), .second, .val (.long x70), .second, .val (.int v103_s0)] [(.long x15), (.long x36)])) _
          refine own_lremM X33 hx rfl (hb hby at_128) rfl hc42 ?_
          show Steps p.tables e below (T33.setTop (mkF m 129 #[.val (.long q0), .second, .val (.long q1), .second, .val (.int p2), .val (.int p3), .val (.long (9223372036854775807 : Int64)), .second, .val (.long x15), .second, .val (.long x27), .second, .val (.long x36), .second, .val (.long x70), .second, .val (.int v103_s0)] [(.long (x36 % x15))])) _
          refine XS.lconst X33.here hx rfl (hb hby at_129) ?_
          show Steps p.tables e below (T33.setTop (mkF m 130 #[.val (.long q0), .second, .val (.long q1), .second, .val (.int p2), .val (.int p3), .val (.long (9223372036854775807 : Int64)), .second, .val (.long x15), .second, .val (.long x27), .second, .val (.long x36), .second, .val (.long x70), .second, .val (.int v103_s0)] [(.long (0 : Int64)), (.long (x36 % x15))])) _
          refine XS.lcmp X33.here hx rfl (hb hby at_130) rfl ?_
          show Steps p.tables e below (T33.setTop (mkF m 131 #[.val (.long q0), .second, .val (.long q1), .second, .val (.int p2), .val (.int p3), .val (.long (9223372036854775807 : Int64)), .second, .val (.long x15), .second, .val (.long x27), .second, .val (.long x36), .second, .val (.long x70), .second, .val (.int v103_s0)] [(.int (lcmpW (x36 % x15) (0 : Int64)))])) _
          exact k)
        obtain ⟨v150_s0, hv150_s0⟩ : ∃ z : Int32, z = if (((x36 % x15) = (0 : Int64)) ∧ ((x36 / x15) = x27)) then (1 : Int32) else 0 := ⟨_, rfl⟩
        have pre150 : ∀ t, Steps p.tables e below (T33.setTop (mkF m 150 #[.val (.long q0), .second, .val (.long q1), .second, .val (.int p2), .val (.int p3), .val (.long (9223372036854775807 : Int64)), .second, .val (.long x15), .second, .val (.long x27), .second, .val (.long x36), .second, .val (.long x70), .second, .val (.int v103_s0)] [(.int v150_s0)])) t → Steps p.tables e below (s₁.setTop (entryFrame m #[(.long q0), (.long q1), (.int p2), (.int p3)] maxLocals)) t := by
          by_cases hc131 : (x36 % x15) = (0 : Int64)
          · -- (x36 % x15) = (0 : Int64)
            have pre134 : ∀ t, Steps p.tables e below (T33.setTop (mkF m 134 #[.val (.long q0), .second, .val (.long q1), .second, .val (.int p2), .val (.int p3), .val (.long (9223372036854775807 : Int64)), .second, .val (.long x15), .second, .val (.long x27), .second, .val (.long x36), .second, .val (.long x70), .second, .val (.int v103_s0)] [])) t → Steps p.tables e below (s₁.setTop (entryFrame m #[(.long q0), (.long q1), (.int p2), (.int p3)] maxLocals)) t := fun t k => pre131 t (by
              show Steps p.tables e below (T33.setTop (mkF m 131 #[.val (.long q0), .second, .val (.long q1), .second, .val (.int p2), .val (.int p3), .val (.long (9223372036854775807 : Int64)), .second, .val (.long x15), .second, .val (.long x27), .second, .val (.long x36), .second, .val (.long x70), .second, .val (.int v103_s0)] [(.int (lcmpW (x36 % x15) (0 : Int64)))])) t
              refine XS.ifNo X33.here hx rfl (hb hby at_131) rfl ((if0 _ _).trans (teq ((lw_eq _ _).mpr hc131)).2) ?_
              exact k)
            have pre142 : ∀ t, Steps p.tables e below (T33.setTop (mkF m 142 #[.val (.long q0), .second, .val (.long q1), .second, .val (.int p2), .val (.int p3), .val (.long (9223372036854775807 : Int64)), .second, .val (.long x15), .second, .val (.long x27), .second, .val (.long x36), .second, .val (.long x70), .second, .val (.int v103_s0)] [(.int (lcmpW (x36 / x15) x27))])) t → Steps p.tables e below (s₁.setTop (entryFrame m #[(.long q0), (.long q1), (.int p2), (.int p3)] maxLocals)) t := fun t k => pre134 t (by
              show Steps p.tables e below (T33.setTop (mkF m 134 #[.val (.long q0), .second, .val (.long q1), .second, .val (.int p2), .val (.int p3), .val (.long (9223372036854775807 : Int64)), .second, .val (.long x15), .second, .val (.long x27), .second, .val (.long x36), .second, .val (.long x70), .second, .val (.int v103_s0)] [])) t
              refine XS.lload X33.here hx rfl (hb hby at_134) rfl ?_
              show Steps p.tables e below (T33.setTop (mkF m 136 #[.val (.long q0), .second, .val (.long q1), .second, .val (.int p2), .val (.int p3), .val (.long (9223372036854775807 : Int64)), .second, .val (.long x15), .second, .val (.long x27), .second, .val (.long x36), .second, .val (.long x70), .second, .val (.int v103_s0)] [(.long x36)])) _
              refine XS.lload X33.here hx rfl (hb hby at_136) rfl ?_
              show Steps p.tables e below (T33.setTop (mkF m 138 #[.val (.long q0), .second, .val (.long q1), .second, .val (.int p2), .val (.int p3), .val (.long (9223372036854775807 : Int64)), .second, .val (.long x15), .second, .val (.long x27), .second, .val (.long x36), .second, .val (.long x70), .second, .val (.int v103_s0)] [(.long x15), (.long x36)])) _
              refine XS.ldiv X33.here hx rfl (hb hby at_138) rfl hc42 ?_
              show Steps p.tables e below (T33.setTop (mkF m 139 #[.val (.long q0), .second, .val (.long q1), .second, .val (.int p2), .val (.int p3), .val (.long (9223372036854775807 : Int64)), .second, .val (.long x15), .second, .val (.long x27), .second, .val (.long x36), .second, .val (.long x70), .second, .val (.int v103_s0)] [(.long (x36 / x15))])) _
              refine XS.lload X33.here hx rfl (hb hby at_139) rfl ?_
              show Steps p.tables e below (T33.setTop (mkF m 141 #[.val (.long q0), .second, .val (.long q1), .second, .val (.int p2), .val (.int p3), .val (.long (9223372036854775807 : Int64)), .second, .val (.long x15), .second, .val (.long x27), .second, .val (.long x36), .second, .val (.long x70), .second, .val (.int v103_s0)] [(.long x27), (.long (x36 / x15))])) _
              refine XS.lcmp X33.here hx rfl (hb hby at_141) rfl ?_
              show Steps p.tables e below (T33.setTop (mkF m 142 #[.val (.long q0), .second, .val (.long q1), .second, .val (.int p2), .val (.int p3), .val (.long (9223372036854775807 : Int64)), .second, .val (.long x15), .second, .val (.long x27), .second, .val (.long x36), .second, .val (.long x70), .second, .val (.int v103_s0)] [(.int (lcmpW (x36 / x15) x27))])) _
              exact k)
            by_cases hc142 : (x36 / x15) = x27
            · -- (x36 / x15) = x27
              have pre145 : ∀ t, Steps p.tables e below (T33.setTop (mkF m 145 #[.val (.long q0), .second, .val (.long q1), .second, .val (.int p2), .val (.int p3), .val (.long (9223372036854775807 : Int64)), .second, .val (.long x15), .second, .val (.long x27), .second, .val (.long x36), .second, .val (.long x70), .second, .val (.int v103_s0)] [])) t → Steps p.tables e below (s₁.setTop (entryFrame m #[(.long q0), (.long q1), (.int p2), (.int p3)] maxLocals)) t := fun t k => pre142 t (by
                show Steps p.tables e below (T33.setTop (mkF m 142 #[.val (.long q0), .second, .val (.long q1), .second, .val (.int p2), .val (.int p3), .val (.long (9223372036854775807 : Int64)), .second, .val (.long x15), .second, .val (.long x27), .second, .val (.long x36), .second, .val (.long x70), .second, .val (.int v103_s0)] [(.int (lcmpW (x36 / x15) x27))])) t
                refine XS.ifNo X33.here hx rfl (hb hby at_142) rfl ((if0 _ _).trans (teq ((lw_eq _ _).mpr hc142)).2) ?_
                exact k)
              have pre150 : ∀ t, Steps p.tables e below (T33.setTop (mkF m 150 #[.val (.long q0), .second, .val (.long q1), .second, .val (.int p2), .val (.int p3), .val (.long (9223372036854775807 : Int64)), .second, .val (.long x15), .second, .val (.long x27), .second, .val (.long x36), .second, .val (.long x70), .second, .val (.int v103_s0)] [(.int (1 : Int32))])) t → Steps p.tables e below (s₁.setTop (entryFrame m #[(.long q0), (.long q1), (.int p2), (.int p3)] maxLocals)) t := fun t k => pre145 t (by
                show Steps p.tables e below (T33.setTop (mkF m 145 #[.val (.long q0), .second, .val (.long q1), .second, .val (.int p2), .val (.int p3), .val (.long (9223372036854775807 : Int64)), .second, .val (.long x15), .second, .val (.long x27), .second, .val (.long x36), .second, .val (.long x70), .second, .val (.int v103_s0)] [])) t
                refine XS.iconst X33.here hx rfl (hb hby at_145) ?_
                show Steps p.tables e below (T33.setTop (mkF m 146 #[.val (.long q0), .second, .val (.long q1), .second, .val (.int p2), .val (.int p3), .val (.long (9223372036854775807 : Int64)), .second, .val (.long x15), .second, .val (.long x27), .second, .val (.long x36), .second, .val (.long x70), .second, .val (.int v103_s0)] [(.int (1 : Int32))])) _
                refine XS.goto X33.here hx rfl (pc0 := 146) (pc' := 150) rfl (hb hby at_146) (by decide) (by decide) ?_
                show Steps p.tables e below (T33.setTop (mkF m 150 #[.val (.long q0), .second, .val (.long q1), .second, .val (.int p2), .val (.int p3), .val (.long (9223372036854775807 : Int64)), .second, .val (.long x15), .second, .val (.long x27), .second, .val (.long x36), .second, .val (.long x70), .second, .val (.int v103_s0)] [(.int (1 : Int32))])) _
                exact k)
              have ehv150_s0 := hv150_s0.trans (if_pos ⟨hc131, hc142⟩)
              exact fun t k => pre150 t (by subst ehv150_s0; exact k)
            · -- not (x36 / x15) = x27
              have pre149 : ∀ t, Steps p.tables e below (T33.setTop (mkF m 149 #[.val (.long q0), .second, .val (.long q1), .second, .val (.int p2), .val (.int p3), .val (.long (9223372036854775807 : Int64)), .second, .val (.long x15), .second, .val (.long x27), .second, .val (.long x36), .second, .val (.long x70), .second, .val (.int v103_s0)] [])) t → Steps p.tables e below (s₁.setTop (entryFrame m #[(.long q0), (.long q1), (.int p2), (.int p3)] maxLocals)) t := fun t k => pre142 t (by
                show Steps p.tables e below (T33.setTop (mkF m 142 #[.val (.long q0), .second, .val (.long q1), .second, .val (.int p2), .val (.int p3), .val (.long (9223372036854775807 : Int64)), .second, .val (.long x15), .second, .val (.long x27), .second, .val (.long x36), .second, .val (.long x70), .second, .val (.int v103_s0)] [(.int (lcmpW (x36 / x15) x27))])) t
                refine XS.ifYes X33.here hx rfl (pc0 := 142) (pc' := 149) rfl (hb hby at_142) rfl ((if0 _ _).trans (feq (fun q => hc142 ((lw_eq _ _).mp q))).2) (by decide) (by decide) ?_
                exact k)
              have pre150 : ∀ t, Steps p.tables e below (T33.setTop (mkF m 150 #[.val (.long q0), .second, .val (.long q1), .second, .val (.int p2), .val (.int p3), .val (.long (9223372036854775807 : Int64)), .second, .val (.long x15), .second, .val (.long x27), .second, .val (.long x36), .second, .val (.long x70), .second, .val (.int v103_s0)] [(.int (0 : Int32))])) t → Steps p.tables e below (s₁.setTop (entryFrame m #[(.long q0), (.long q1), (.int p2), (.int p3)] maxLocals)) t := fun t k => pre149 t (by
                show Steps p.tables e below (T33.setTop (mkF m 149 #[.val (.long q0), .second, .val (.long q1), .second, .val (.int p2), .val (.int p3), .val (.long (9223372036854775807 : Int64)), .second, .val (.long x15), .second, .val (.long x27), .second, .val (.long x36), .second, .val (.long x70), .second, .val (.int v103_s0)] [])) t
                refine XS.iconst X33.here hx rfl (hb hby at_149) ?_
                show Steps p.tables e below (T33.setTop (mkF m 150 #[.val (.long q0), .second, .val (.long q1), .second, .val (.int p2), .val (.int p3), .val (.long (9223372036854775807 : Int64)), .second, .val (.long x15), .second, .val (.long x27), .second, .val (.long x36), .second, .val (.long x70), .second, .val (.int v103_s0)] [(.int (0 : Int32))])) _
                exact k)
              have ehv150_s0 := hv150_s0.trans (if_neg (fun r => hc142 r.2))
              exact fun t k => pre150 t (by subst ehv150_s0; exact k)
          · -- not (x36 % x15) = (0 : Int64)
            have pre149 : ∀ t, Steps p.tables e below (T33.setTop (mkF m 149 #[.val (.long q0), .second, .val (.long q1), .second, .val (.int p2), .val (.int p3), .val (.long (9223372036854775807 : Int64)), .second, .val (.long x15), .second, .val (.long x27), .second, .val (.long x36), .second, .val (.long x70), .second, .val (.int v103_s0)] [])) t → Steps p.tables e below (s₁.setTop (entryFrame m #[(.long q0), (.long q1), (.int p2), (.int p3)] maxLocals)) t := fun t k => pre131 t (by
              show Steps p.tables e below (T33.setTop (mkF m 131 #[.val (.long q0), .second, .val (.long q1), .second, .val (.int p2), .val (.int p3), .val (.long (9223372036854775807 : Int64)), .second, .val (.long x15), .second, .val (.long x27), .second, .val (.long x36), .second, .val (.long x70), .second, .val (.int v103_s0)] [(.int (lcmpW (x36 % x15) (0 : Int64)))])) t
              refine XS.ifYes X33.here hx rfl (pc0 := 131) (pc' := 149) rfl (hb hby at_131) rfl ((if0 _ _).trans (feq (fun q => hc131 ((lw_eq _ _).mp q))).2) (by decide) (by decide) ?_
              exact k)
            have pre150 : ∀ t, Steps p.tables e below (T33.setTop (mkF m 150 #[.val (.long q0), .second, .val (.long q1), .second, .val (.int p2), .val (.int p3), .val (.long (9223372036854775807 : Int64)), .second, .val (.long x15), .second, .val (.long x27), .second, .val (.long x36), .second, .val (.long x70), .second, .val (.int v103_s0)] [(.int (0 : Int32))])) t → Steps p.tables e below (s₁.setTop (entryFrame m #[(.long q0), (.long q1), (.int p2), (.int p3)] maxLocals)) t := fun t k => pre149 t (by
              show Steps p.tables e below (T33.setTop (mkF m 149 #[.val (.long q0), .second, .val (.long q1), .second, .val (.int p2), .val (.int p3), .val (.long (9223372036854775807 : Int64)), .second, .val (.long x15), .second, .val (.long x27), .second, .val (.long x36), .second, .val (.long x70), .second, .val (.int v103_s0)] [])) t
              refine XS.iconst X33.here hx rfl (hb hby at_149) ?_
              show Steps p.tables e below (T33.setTop (mkF m 150 #[.val (.long q0), .second, .val (.long q1), .second, .val (.int p2), .val (.int p3), .val (.long (9223372036854775807 : Int64)), .second, .val (.long x15), .second, .val (.long x27), .second, .val (.long x36), .second, .val (.long x70), .second, .val (.int v103_s0)] [(.int (0 : Int32))])) _
              exact k)
            have ehv150_s0 := hv150_s0.trans (if_neg (fun q => hc131 q.1))
            exact fun t k => pre150 t (by subst ehv150_s0; exact k)
        obtain ⟨fs, hr, hrun, hended, hW, hsame⟩ := X33.leave (v := some (.int (nar .boolean v150_s0))) (fun h => by rw [Bd.returns] at h; cases h)
        refine ⟨_, _, pre150 _ ?_, hrun, hended, _, _, rfl, ?_, ⟨_, rfl⟩, hW, hsame.mono (by decide) (by decide)⟩
        · show Steps p.tables e below (T33.setTop (mkF m 150 #[.val (.long q0), .second, .val (.long q1), .second, .val (.int p2), .val (.int p3), .val (.long (9223372036854775807 : Int64)), .second, .val (.long x15), .second, .val (.long x27), .second, .val (.long x36), .second, .val (.long x70), .second, .val (.int v103_s0)] [(.int v150_s0)])) _
          exact retN X33 hx (t := .boolean) Bd.returns (by simp) (hb hby at_150) hr
        · show Q0 Z q0 q1 p2 p3 h0 n0 _ T33.heap _
          rw [e33]
          have hres : (nar .boolean v150_s0) = (1 : Int32) := by
            rw [hv150_s0, own_narB]
            exact if_pos (by rw [hx36]; exact own_low n15 n27 hc42 hc49 hx70 hc107)
          exact ⟨congrArg (fun q => some (Value.int q)) hres, N33⟩
set_option maxRecDepth 65536 in
set_option maxHeartbeats 40000000 in
theorem comes_1 {Post : Tables → Env → Array Value → State → Outcome → State → Prop} (hpost : ∀ tb e args s v u, (limb_1_1.after args s (.returned v) u = true ∧ limb_1_2.after args s (.returned v) u = true ∧ True) → FrameEnd s (.returned v) u (Jvm.fieldLocs frame_1_writes args s ++ Jvm.arrayLocs frame_1_arrays args s ++ Jvm.staticLocs frame_1_statics s) 0 0 → Post tb e args s (.returned v) u) :
    ArmFor flags0 classFile x code maxLocals ret World_1 tables_1 room_1 Calls_1 rest_1 Pre_1 Post := by
  intro l hfl _ _ p e ha hc hk s m args below hf hA hF happ hP
  obtain ⟨hcalls, hrest, hpre⟩ := hP
  obtain ⟨-, -, -, hnamed, -, -, -, hat⟩ := (Spec.applies_iff hf).mp happ
  obtain ⟨hg, hn⟩ := and_e (Cond.before_iff.mp (show (Jvm.Cond.and given_1 narrow_1).before args s = true from hpre))
  obtain ⟨gc, g0⟩ := and_e hg
  obtain ⟨ga0, g1⟩ := and_e g0
  obtain ⟨ga1, g2⟩ := and_e g1
  obtain ⟨ga2, g3⟩ := and_e g2
  obtain ⟨w0, w1, w2, w3, rfl⟩ : ∃ w0 w1 w2 w3 : Value, args = #[w0, w1, w2, w3] := by
    have hs : args.size = 4 := by simpa [Cond.value, given_1] using gc
    obtain ⟨L⟩ := args
    match L, hs with
    | [w0, w1, w2, w3], _ => exact ⟨w0, w1, w2, w3, rfl⟩
  have hw := fun d (hd : d ∈ tables_1) => atoms_spec (ws := Jvm.Cond.code x code maxLocals ret :: tables_1) hat d (List.mem_cons_of_mem _ hd)
  have hfit : Fit s := fun {y c} hc i hi => by
    obtain ⟨ha, rfl⟩ := Array.getElem?_eq_some_iff.mp hc
    have q := List.all_eq_true.mp ((Array.all_eq_true_iff_forall_mem.mp hF) _ (Array.getElem_mem ha)) i (List.mem_range.mpr hi)
    simpa [Array.getElem?_eq_getElem hi] using q
  obtain ⟨i0, ei0⟩ := isL_v ga0
  obtain rfl : w0 = (.long i0) := Option.some.inj ei0
  obtain ⟨i1, ei1⟩ := isL_v ga1
  obtain rfl : w1 = (.long i1) := Option.some.inj ei1
  obtain ⟨i2, ei2⟩ := is_v ga2
  obtain rfl : w2 = (.int i2) := Option.some.inj ei2
  obtain ⟨i3, ei3⟩ := is_v g3
  obtain rfl : w3 = (.int i3) := Option.some.inj ei3
  obtain ⟨n, o, h1, h2, h3, _, L, rfl, ⟨rfl, N⟩, hq⟩ := rm0 l s _ hw tables_1 i0 i1 i2 i3 s.heap s.heap.size (Nat.le_refl _)  p e ha hc hk s m _ below hf ((Spec.applies_iff_loose hf).mp happ).1 ⟨rfl, State.Warmed39.refl s, rfl⟩ trivial
  refine ⟨n, _, h1, h2, h3, hpost _ _ _ _ _ _ ⟨Cond.after_iff.mpr rfl, Cond.after_iff.mpr (eq_i res_at (Term.int_eval (1)) rfl), trivial⟩ ⟨hq.1, hq.2.1, (hq.2.2.sift fun y hy => Or.inr (N y hy)).mono (by decide) (by decide)⟩⟩
theorem main_1_1 : Claimed_1_1 := comes_1 fun _ _ _ _ _ _ h hF => ⟨h.1, hF⟩
theorem main_1_2 : Claimed_1_2 := comes_1 fun _ _ _ _ _ _ h hF => ⟨h.2.1, hF⟩
end Jvm.Pilot.@@N@@
namespace Jvm.Pilot.@@N@@
open Jvm Jvm.ClassFile Sem Op Lib Jvm.Free Jvm.Stand Jvm.Pilot.@@N@@.Jvm.D
/-! MADE BY PROGRAM (witnessworld.py) out of the Statement's table words and the real class files: 9 classes; the members and pool entries that the words name. The judged class is class 1, her method 1. -/
namespace start1
open Jvm.ClassFile
def u (s : String) : CpInfo := .utf8 (stringToUtf16 s)
/-- a pool by its gaps: so many unusable entries, then the entry; so many at the end -/
def gap : Nat → List CpInfo → List CpInfo
  | 0, r => r
  | n + 1, r => .unusable :: gap n r
def poolList (es : List (Nat × CpInfo)) (last : Nat) : List CpInfo := es.foldr (fun e r => gap e.1 (e.2 :: r)) (gap last [])
def pool (es : List (Nat × CpInfo)) (last : Nat) : Array CpInfo := ⟨poolList es last⟩
def fileOf (pool : Array CpInfo) (this : Nat) (attrs : Array Attribute := #[]) (ms : Array MethodInfo := #[]) (fl : Nat := 33) (sup : Nat := 0) (ifs : Array Nat := #[]) (fds : Array FieldInfo := #[]) : ClassFile where
  minorVersion := 0
  majorVersion := 65
  constantPool := pool
  accessFlags := fl
  thisClass := this
  superClass := sup
  interfaces := ifs
  fields := fds
  methods := ms
  attributes := attrs
def plain (name : String) (sup : Option ClassId) : Class where
  name := name
  kind := .ordinary
  loader := none
  accessFlags := 33
  super := sup
  interfaces := #[]
  cf := none
  fields := #[]
  methods := #[]
  instanceTypes := #[]
  staticTypes := #[]
  resolved := #[]
  callSites := []
  init := .initialized
  statics := none
  mirror := none

def pool0 : Array CpInfo := pool [(5, u "<init>"), (0, u "()V"), (1, .class_ 10), (1, u "java/lang/Object")] 113

def k0m0 : Method := { name := "<init>", desc := "()V", sig := { parameters := [], returnType := none }, accessFlags := 1, code := none }
/-- java/lang/Object -/
def k0 : Class := { plain "java/lang/Object" none with
  accessFlags := 33
  interfaces := #[]
  cf := some (fileOf pool0 8 #[] #[{ accessFlags := 1, nameIndex := 5, descriptorIndex := 6, attributes := #[] }] 33 0 #[] #[])
  fields := #[]
  methods := #[k0m0]
  instanceTypes := #[]
  staticTypes := #[]
  resolved := Array.replicate 124 none
  statics := none }

def pool1 : Array CpInfo := pool [(2, .class_ 4), (1, u "java/lang/Object"), (0, u "<init>"), (0, u "()V"), (2, .long 9223372036854775807), (1, .methodref 12 13), (0, .class_ 14), (0, .nameAndType 15 16), (0, u "com/example/ustav/ustav/service/ParticleNode"), (0, u "times"), (0, u "(JJ)J"), (0, .class_ 18), (0, u "com/example/ustav/ustav/service/ParticleNodeTimesPinLaw"), (2, u "law"), (0, u "(JJII)Z")] 3

def k1m0 : Method := { name := "<init>", desc := "()V", sig := { parameters := [], returnType := none }, accessFlags := 2, code := none }
def k1c1 : Code := { maxStack := 4, maxLocals := 17, code := code, exceptionTable := #[], attributes := #[] }
def k1m1 : Method := { name := "law", desc := "(JJII)Z", sig := { parameters := [.long, .long, .int, .int], returnType := some .boolean }, accessFlags := 9, code := some k1c1 }
/-- com/example/ustav/ustav/service/ParticleNodeTimesPinLaw -/
def k1 : Class := { plain "com/example/ustav/ustav/service/ParticleNodeTimesPinLaw" (some 0) with
  accessFlags := 49
  interfaces := #[]
  cf := some (fileOf pool1 17 #[] #[{ accessFlags := 2, nameIndex := 5, descriptorIndex := 6, attributes := #[] }, { accessFlags := 9, nameIndex := 21, descriptorIndex := 22, attributes := #[] }] 49 2 #[] #[])
  fields := #[]
  methods := #[k1m0, k1m1]
  instanceTypes := #[]
  staticTypes := #[]
  resolved := Array.replicate 26 none
  statics := none }

def pool2 : Array CpInfo := pool [(2, .class_ 4), (1, u "java/lang/Object"), (3, .class_ 10), (1, u "com/example/ustav/ustav/service/ParticleNode"), (0, u "size"), (0, u "I"), (2, u "NO_CHILDREN"), (0, u "[Lcom/example/ustav/ustav/service/ParticleNode;"), (2, u "children"), (2, u "NONE_REQUIRED"), (0, u "[I"), (2, u "nextRequired"), (2, u "parent"), (0, u "Lcom/example/ustav/ustav/service/ParticleNode;"), (2, u "index"), (2, u "depth"), (2, u "number"), (2, u "particle"), (0, u "Lcom/example/ustav/ustav/model/Particle;"), (2, u "min"), (0, u "J"), (2, u "max"), (10, u "leaf"), (0, u "Lcom/example/ustav/ustav/model/Term;"), (6, u "compositor"), (0, u "Lcom/example/ustav/ustav/model/Compositor;"), (21, u "times"), (0, u "(JJ)J"), (47, u "contentEmptiable"), (0, u "Z"), (0, .long 9223372036854775807)] 77

def k2c0 : Code := { maxStack := 6, maxLocals := 6, code := prog_224_method_7_code, exceptionTable := #[], attributes := #[] }
def k2m0 : Method := { name := "times", desc := "(JJ)J", sig := { parameters := [.long, .long], returnType := some .long }, accessFlags := 8, code := some k2c0 }
/-- com/example/ustav/ustav/service/ParticleNode -/
def k2 : Class := { plain "com/example/ustav/ustav/service/ParticleNode" (some 0) with
  accessFlags := 32
  interfaces := #[]
  cf := some (fileOf pool2 8 #[] #[{ accessFlags := 8, nameIndex := 92, descriptorIndex := 93, attributes := #[] }] 32 2 #[] #[{ accessFlags := 26, nameIndex := 15, descriptorIndex := 16, attributes := #[] }, { accessFlags := 26, nameIndex := 22, descriptorIndex := 23, attributes := #[] }, { accessFlags := 18, nameIndex := 29, descriptorIndex := 30, attributes := #[] }, { accessFlags := 18, nameIndex := 33, descriptorIndex := 12, attributes := #[] }, { accessFlags := 18, nameIndex := 36, descriptorIndex := 12, attributes := #[] }, { accessFlags := 18, nameIndex := 39, descriptorIndex := 12, attributes := #[] }, { accessFlags := 2, nameIndex := 11, descriptorIndex := 12, attributes := #[] }, { accessFlags := 18, nameIndex := 42, descriptorIndex := 43, attributes := #[] }, { accessFlags := 18, nameIndex := 46, descriptorIndex := 47, attributes := #[] }, { accessFlags := 18, nameIndex := 50, descriptorIndex := 47, attributes := #[] }, { accessFlags := 18, nameIndex := 61, descriptorIndex := 62, attributes := #[] }, { accessFlags := 18, nameIndex := 69, descriptorIndex := 70, attributes := #[] }, { accessFlags := 2, nameIndex := 19, descriptorIndex := 16, attributes := #[] }, { accessFlags := 2, nameIndex := 141, descriptorIndex := 142, attributes := #[] }, { accessFlags := 2, nameIndex := 26, descriptorIndex := 23, attributes := #[] }])
  fields := #[{ name := "NO_CHILDREN", type := (.array (.object "com/example/ustav/ustav/service/ParticleNode")), accessFlags := 26, slot := 0, constantValue := 0 }, { name := "NONE_REQUIRED", type := (.array .int), accessFlags := 26, slot := 1, constantValue := 0 }, { name := "parent", type := (.object "com/example/ustav/ustav/service/ParticleNode"), accessFlags := 18, slot := 0, constantValue := 0 }, { name := "index", type := .int, accessFlags := 18, slot := 1, constantValue := 0 }, { name := "depth", type := .int, accessFlags := 18, slot := 2, constantValue := 0 }, { name := "number", type := .int, accessFlags := 18, slot := 3, constantValue := 0 }, { name := "size", type := .int, accessFlags := 2, slot := 4, constantValue := 0 }, { name := "particle", type := (.object "com/example/ustav/ustav/model/Particle"), accessFlags := 18, slot := 5, constantValue := 0 }, { name := "min", type := .long, accessFlags := 18, slot := 6, constantValue := 0 }, { name := "max", type := .long, accessFlags := 18, slot := 7, constantValue := 0 }, { name := "leaf", type := (.object "com/example/ustav/ustav/model/Term"), accessFlags := 18, slot := 8, constantValue := 0 }, { name := "compositor", type := (.object "com/example/ustav/ustav/model/Compositor"), accessFlags := 18, slot := 9, constantValue := 0 }, { name := "children", type := (.array (.object "com/example/ustav/ustav/service/ParticleNode")), accessFlags := 2, slot := 10, constantValue := 0 }, { name := "contentEmptiable", type := .boolean, accessFlags := 2, slot := 11, constantValue := 0 }, { name := "nextRequired", type := (.array .int), accessFlags := 2, slot := 12, constantValue := 0 }]
  methods := #[k2m0]
  instanceTypes := #[(.object "com/example/ustav/ustav/service/ParticleNode"), .int, .int, .int, .int, (.object "com/example/ustav/ustav/model/Particle"), .long, .long, (.object "com/example/ustav/ustav/model/Term"), (.object "com/example/ustav/ustav/model/Compositor"), (.array (.object "com/example/ustav/ustav/service/ParticleNode")), .boolean, (.array .int)]
  staticTypes := #[(.array (.object "com/example/ustav/ustav/service/ParticleNode")), (.array .int)]
  resolved := Array.replicate 221 none
  statics := none }

def pool3 : Array CpInfo := pool [(1, u "java/lang/Cloneable"), (0, .class_ 1), (0, u "java/lang/Object"), (0, .class_ 3)] 3

/-- java/lang/Cloneable -/
def k3 : Class := { plain "java/lang/Cloneable" (some 0) with
  accessFlags := 1537
  interfaces := #[]
  cf := some (fileOf pool3 2 #[] #[] 1537 4 #[] #[])
  fields := #[]
  methods := #[]
  instanceTypes := #[]
  staticTypes := #[]
  resolved := Array.replicate 8 none
  statics := none }

def pool4 : Array CpInfo := pool [(1, u "java/io/Serializable"), (0, .class_ 1), (0, u "java/lang/Object"), (0, .class_ 3)] 3

/-- java/io/Serializable -/
def k4 : Class := { plain "java/io/Serializable" (some 0) with
  accessFlags := 1537
  interfaces := #[]
  cf := some (fileOf pool4 2 #[] #[] 1537 4 #[] #[])
  fields := #[]
  methods := #[]
  instanceTypes := #[]
  staticTypes := #[]
  resolved := Array.replicate 8 none
  statics := none }

/-- the primitive byte -/
def k5 : Class := { plain "byte" none with kind := .primitive 'B', accessFlags := 0x411 }
/-- [B -/
def k6 : Class := { plain "[B" (some 0) with kind := .array 5 .byte, interfaces := #[3, 4], accessFlags := 1041 }

/-- the primitive int -/
def k7 : Class := { plain "int" none with kind := .primitive 'I', accessFlags := 0x411 }
/-- [I -/
def k8 : Class := { plain "[I" (some 0) with kind := .array 7 .int, interfaces := #[3, 4], accessFlags := 1041 }

def heap : Heap := #[]
def classes : Array Class := #[k0, k1, k2, k3, k4, k5, k6, k7, k8]
def interned : List (Array UInt16 × Addr) := []
def slotsUsed : Nat := 0
def theMethod : MethodId := ⟨1, 1⟩
def args0 : Array Value := #[.long 5, .long 6, .int 1, .int 2]
def aboutOver (below : List Frame) : State where
  vm := { classes := classes, interned := interned.toArray }
  heap := heap
  slotsUsed := slotsUsed
  threads := #[{ frames := .invoking theMethod args0 :: below }]
def below0 : List Frame := [.native { method := ⟨0, 0⟩, args := #[] }]
def about1 : State := aboutOver below0
def p0 : Program := .bare "" "" ""
def e0 : Env := launch0.env 0 0 0
theorem w_frames : about1.frames = Frame.invoking theMethod args0 :: below0 := rfl
set_option maxRecDepth 65536 in
theorem w_args : argsFit about1.vm theMethod args0 = true := by decide +kernel
set_option maxRecDepth 65536 in
theorem w_heap : heapFits about1 = true := by decide +kernel
set_option maxRecDepth 65536 in
theorem w_runnable : about1.curStatus? = some .runnable := by decide +kernel
set_option maxRecDepth 65536 in
theorem w_alone : about1.alone = true := by decide +kernel
set_option maxRecDepth 65536 in
theorem w_named : about1.methodNamed? x = some theMethod := by decide +kernel
set_option maxRecDepth 65536 in
theorem w_hears : about1.hears theMethod below0 = true := by decide +kernel
set_option maxRecDepth 65536 in
theorem w_ripe : about1.ripe theMethod args0 below0 = true := by decide +kernel
theorem w_running : about1.status = .running := rfl
set_option maxRecDepth 65536 in
theorem w_room : about1.hasRoom e0.platform room_1 = true :=
  launch0.hasRoom_least _ room_1 (by decide +kernel) (by decide +kernel) (by decide +kernel) (by decide +kernel) (by decide +kernel) (by decide +kernel)
theorem allAtoms_all (ts : List Jvm.Cond) (a : Array Jvm.Value) (st : Jvm.State) : (allAtoms ts).before a st = ts.all (fun c => c.before a st) := by
  induction ts with
  | nil => rfl
  | cons c t ih =>
    show (Jvm.Cond.and c (allAtoms t)).before a st = _
    rw [Jvm.Cond.before_and, ih, List.all_cons]
def words1 : List Jvm.Cond := Jvm.Cond.code x code maxLocals ret :: tables_1
/-- a 'code' word, met by the world's own term for the bytes: nothing is compared byte by byte -/
theorem code_word {y : MethodName} {bytes : ByteArray} {mx : Nat} {rt : Option FieldType} {a : Array Value} {s : State} {m : MethodId} {meth : Method} {c : Code} (h1 : s.methodNamed? y = some m) (h2 : s.vm.method? m = some meth) (h3 : meth.code = some c) (h4 : c.code = bytes)
    (h5 : (c.maxLocals == mx && c.exceptionTable.isEmpty && decide (c.maxStack ≤ mostOperands) && decide (meth.sig.returnType = rt) && !meth.locks && decide (parseMethodDescriptor y.desc = some meth.sig)) = true) : (Jvm.Cond.code y bytes mx rt).before a s = true := by
  simp only [Bool.and_eq_true, beq_iff_eq, Bool.not_eq_true', decide_eq_true_eq] at h5
  obtain ⟨⟨⟨⟨⟨g1, g2⟩, g3⟩, g4⟩, g5⟩, g6⟩ := h5
  simp [Cond.before, Cond.holds, Cond.value, h1, h2, h3, h4, g1, g2, g3, g4, g5, g6]
def isCode : Jvm.Cond → Bool
  | .code _ _ _ _ => true
  | _ => false
theorem all_split {L : List Jvm.Cond} {P : Jvm.Cond → Bool} (h1 : L.all (fun c => isCode c || P c) = true) (h2 : ∀ c ∈ L.filter isCode, P c = true) : L.all P = true := by
  refine List.all_eq_true.mpr fun c hc => ?_
  have h := List.all_eq_true.mp h1 c hc
  rcases Bool.eq_false_or_eq_true (isCode c) with hi | hi
  · exact h2 c (List.mem_filter.mpr ⟨hc, hi⟩)
  · simpa [hi] using h
set_option maxRecDepth 65536 in
theorem w_c0 : (Jvm.Cond.code x code maxLocals ret).before args0 about1 = true := code_word (m := ⟨1, 1⟩) (meth := k1m1) (c := k1c1) (by decide +kernel) rfl rfl rfl (by decide +kernel)
set_option maxRecDepth 65536 in
theorem w_c1 : (Jvm.Cond.code ({ cls := "com/example/ustav/ustav/service/ParticleNode", name := "times", desc := "(JJ)J" } : Jvm.MethodName) prog_224_method_7_code (6 : Nat) (Option.some Jvm.ClassFile.FieldType.long)).before args0 about1 = true := code_word (m := ⟨2, 0⟩) (meth := k2m0) (c := k2c0) (by decide +kernel) rfl rfl rfl (by decide +kernel)
def codes1 : List Jvm.Cond := [Jvm.Cond.code x code maxLocals ret, Jvm.Cond.code ({ cls := "com/example/ustav/ustav/service/ParticleNode", name := "times", desc := "(JJ)J" } : Jvm.MethodName) prog_224_method_7_code (6 : Nat) (Option.some Jvm.ClassFile.FieldType.long)]
set_option maxRecDepth 65536 in
theorem codes_eq : words1.filter isCode = codes1 := rfl
theorem w_codes : ∀ c ∈ words1.filter isCode, c.before args0 about1 = true := by
  rw [codes_eq]
  intro c hc
  simp only [codes1, List.mem_cons, List.not_mem_nil, or_false] at hc
  rcases hc with rfl | rfl
  · exact w_c0
  · exact w_c1
set_option maxRecDepth 65536 in
theorem w_t1 : words1.all (fun c => isCode c || c.before args0 about1) = true := by decide +kernel
theorem w_tables : (allAtoms (Jvm.Cond.code x code maxLocals ret :: tables_1)).before args0 about1 = true := by
  rw [allAtoms_all]
  show words1.all (fun c => c.before args0 about1) = true
  refine all_split ?_ w_codes
  rw [w_t1]
set_option maxRecDepth 65536 in
theorem w_case : (Jvm.Cond.and given_1 narrow_1).before args0 about1 = true := by decide +kernel
theorem w_applies : (headSpec (Jvm.Cond.code x code maxLocals ret :: tables_1) room_1).applies x e0.platform about1 = true :=
  (Spec.applies_iff w_frames).mpr ⟨w_running, w_runnable, w_alone, w_named, w_hears, w_ripe, w_room, w_tables⟩
theorem atStart : AtStart classFile x code maxLocals ret World_1 tables_1 room_1 Calls_1 rest_1 Pre_1 launch0 p0 e0 about1 theMethod args0 below0 :=
  ⟨lists_1, trivial, launch0.admits_env _ _ _, launch0.least_env, fairChoices_fair.cas, fairChoices_fair.clock, w_frames, w_args, w_heap, w_applies, trivial, trivial, w_case⟩
end start1
theorem witness_1 : WitnessClaimed_1 := ⟨start1.p0, start1.e0, start1.about1, start1.theMethod, start1.args0, start1.below0, start1.atStart⟩
end Jvm.Pilot.@@N@@
