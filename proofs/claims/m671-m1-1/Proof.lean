import JvmDerived
import JvmDerived.Pilot.@@N@@Statement
import JvmDerived.Pilot.@@N@@Code
set_option linter.unusedVariables false
set_option linter.unusedSimpArgs false
namespace Jvm.RoadKit
open Sem ClassFile Op Lib Jvm.Stand Jvm.Free Jvm.LawKit
section New
variable {p : Program} {l : Launch} {e : Env} {R : Room} {s : State} {m : MethodId} {args : Array Value} {below : List Frame} {meth : Method} {c : Code} {T : State} {locs : List Loc} {cells slots : Nat}
theorem retI (X : Stand p l e R s m args below meth c T locs cells slots) (hx : p.tables.exec = Jvm.exec) {pc : Nat} {Ls : Array Slot} {z : Int32} {rest : List Value} (hret : meth.sig.returnType = some .int) (hd : decode c.code pc = .ok (.ireturn, 1)) {fs : List Frame}
    (hl : ∀ (f : JFrame) (acts : List Action), f.method = m → f.locked = none → f.entered = [] → (doReturn e (T.setTop f) acts (some (.int z))).1 = T.setFrames fs) : Steps p.tables e below (T.setTop (mkF m pc Ls (.int z :: rest))) (T.setFrames fs) := by
  have hm' : T.vm.method? m = some meth := X.method'
  have hn : narrow .int (.int z) = .int z := rfl
  show Steps p.tables e below (T.setTop { method := m, pc := pc, locals := Ls, stack := _ :: rest, locked := none }) _
  jvm_step X.here [X.here.top, hx, hd, hm', hret, hn]
  first | (intro acts; rw [hl _ acts rfl rfl rfl]) | rw [hl _ _ rfl rfl rfl]
  exact Steps.refl _
theorem own_lremM {g : JFrame} {target : State} (X : Stand p l e R s m args below meth c T locs cells slots) (hx : p.tables.exec = Jvm.exec) (hg : g.method = m) {x y : Int64} {rest : List Value} (hd : decode c.code g.pc = .ok (.lrem, 1)) (hs : g.stack = .long y :: .long x :: rest) (hy : y ≠ 0)
    (hr : Steps p.tables e below (T.setTop { g with pc := g.pc + 1, stack := .long (x % y) :: rest }) target) : Steps p.tables e below (T.setTop g) target := by
  have q : x - x / y * y = x % y := lrem_mod x y
  exact XS.lrem X.here hx hg hd hs hy (by rw [q]; exact hr)
theorem own_narB (P : Prop) [Decidable P] : nar .boolean (if P then (1 : Int32) else 0) = if P then (1 : Int32) else 0 := by split <;> rfl
end New
end Jvm.RoadKit
namespace Jvm.Pilot.@@N@@
open Jvm Jvm.ClassFile Sem Op Lib Jvm.Free Jvm.Stand Jvm.LawKit Jvm.RoadKit Bundle Jvm.Pilot.@@N@@.Jvm.D
theorem dB_0 : decode prog_120_method_6_code 0 = .ok (.iload_n 0, 1) := by decide +kernel
theorem dB_1 : decode prog_120_method_6_code 1 = .ok (.bipush 32, 2) := by decide +kernel
theorem dB_3 : decode prog_120_method_6_code 3 = .ok (.if_icmp .eq 21, 3) := by decide +kernel
theorem dB_6 : decode prog_120_method_6_code 6 = .ok (.iload_n 0, 1) := by decide +kernel
theorem dB_7 : decode prog_120_method_6_code 7 = .ok (.bipush 9, 2) := by decide +kernel
theorem dB_9 : decode prog_120_method_6_code 9 = .ok (.if_icmp .eq 15, 3) := by decide +kernel
theorem dB_12 : decode prog_120_method_6_code 12 = .ok (.iload_n 0, 1) := by decide +kernel
theorem dB_13 : decode prog_120_method_6_code 13 = .ok (.bipush 13, 2) := by decide +kernel
theorem dB_15 : decode prog_120_method_6_code 15 = .ok (.if_icmp .eq 9, 3) := by decide +kernel
theorem dB_18 : decode prog_120_method_6_code 18 = .ok (.iload_n 0, 1) := by decide +kernel
theorem dB_19 : decode prog_120_method_6_code 19 = .ok (.bipush 12, 2) := by decide +kernel
theorem dB_21 : decode prog_120_method_6_code 21 = .ok (.if_icmp .ne 7, 3) := by decide +kernel
theorem dB_24 : decode prog_120_method_6_code 24 = .ok (.iconst 1, 1) := by decide +kernel
theorem dB_25 : decode prog_120_method_6_code 25 = .ok (.goto 4, 3) := by decide +kernel
theorem dB_28 : decode prog_120_method_6_code 28 = .ok (.iconst 0, 1) := by decide +kernel
theorem dB_29 : decode prog_120_method_6_code 29 = .ok (.ireturn, 1) := by decide +kernel
theorem pnB : plainName "com/example/hatua/hatua/Tokens" = true := by first | (simp [plainName, overriddenIn]; done) | decide +kernel
theorem efB (m : MethodId) (p0 : Int32) : entryFrame m #[(.int p0)] 1 = mkF m 0 #[.val (.int p0)] [] := by first | (simp [entryFrame, mkF, argsToLocals, Value.category]; done) | rfl
def own_fB (p0 : Int32) : Int32 := ((if ((p0 = (32 : Int32)) ∨ ((p0 = (9 : Int32)) ∨ ((p0 = (13 : Int32)) ∨ (p0 = (12 : Int32))))) then (1 : Int32) else 0))
abbrev own_roomB : Room := { frames := 0, cells := 0, slots := 0, locals := 0 }
def QB (Z : State) (p0 : Int32) (h0 : Heap) (n0 : Nat) (v : Option Value) (h : Heap) (L : List Loc) : Prop := v = some (.int (own_fB p0)) ∧ Fr n0 L ∧ h = h0
set_option maxRecDepth 65536 in
set_option maxHeartbeats 40000000 in
theorem rmB (l : Launch) (Z : State) (a0 : Array Value) (hw : ∀ d ∈ tables_1, d.before a0 Z = true) (ws : List Jvm.Cond) (p0 : Int32) (h0 : Heap) (n0 : Nat) (Z0 : n0 ≤ h0.size) :
    MetFree l (⟨"com/example/hatua/hatua/Tokens", "isBlank", "(I)Z"⟩ : MethodName) (head1 (Jvm.Cond.code (⟨"com/example/hatua/hatua/Tokens", "isBlank", "(I)Z"⟩ : MethodName) prog_120_method_6_code 1 (some .boolean) :: ws) own_roomB) (fun a U => a = #[(.int p0)] ∧ Z.Warmed39 U.vm ∧ U.heap = h0) (fun _ _ _ _ _ => True) (fun _ U o U' => ∃ v L, o = .returned v ∧ QB Z p0 h0 n0 v U'.heap L ∧ FrameEnd U o U' L own_roomB.cells own_roomB.slots) := by
  refine MetFree.of_bodySF (plainFor_of_name pnB) hisR ?_
  intro p e s m args below meth c s₁ Bd hml0 hP hK
  obtain ⟨rfl, hZ, hh⟩ := hP
  have hx := Bd.exec
  have hby := Bd.bytes
  have hml : c.maxLocals = 1 := hml0
  have hown : s.vm.findClass "com/example/hatua/hatua/Tokens" = some m.cls := findClass_of_methodNamed Bd.named
  have hnm := (name_of_methodNamed Bd.named Bd.method).1
  have X0 : Stand p l e own_roomB s m #[(.int p0)] below meth c s₁ [] 0 0 := Stand.of_body Bd
  have e0 : s₁.heap = h0 := by rw [← hh, Bd.state]; rfl
  have N0 := Fr.nil n0
  have pre0 : ∀ t, Steps p.tables e below (s₁.setTop (mkF m 0 #[.val (.int p0)] [])) t → Steps p.tables e below (s₁.setTop (entryFrame m #[(.int p0)] 1)) t := fun t k => castTop (efB m p0) k
  have pre3 : ∀ t, Steps p.tables e below (s₁.setTop (mkF m 3 #[.val (.int p0)] [(.int (32 : Int32)), (.int p0)])) t → Steps p.tables e below (s₁.setTop (entryFrame m #[(.int p0)] 1)) t := fun t k => pre0 t (by
    show Steps p.tables e below (s₁.setTop (mkF m 0 #[.val (.int p0)] [])) t
    refine XS.iloadN X0.here hx rfl (hb hby dB_0) rfl ?_
    show Steps p.tables e below (s₁.setTop (mkF m 1 #[.val (.int p0)] [(.int p0)])) _
    refine XS.bipush X0.here hx rfl (hb hby dB_1) ?_
    show Steps p.tables e below (s₁.setTop (mkF m 3 #[.val (.int p0)] [(.int (32 : Int32)), (.int p0)])) _
    exact k)
  obtain ⟨v29_s0, hv29_s0⟩ : ∃ z : Int32, z = if ((p0 = (32 : Int32)) ∨ ((p0 = (9 : Int32)) ∨ ((p0 = (13 : Int32)) ∨ (p0 = (12 : Int32))))) then (1 : Int32) else 0 := ⟨_, rfl⟩
  have pre29 : ∀ t, Steps p.tables e below (s₁.setTop (mkF m 29 #[.val (.int p0)] [(.int v29_s0)])) t → Steps p.tables e below (s₁.setTop (entryFrame m #[(.int p0)] 1)) t := by
    by_cases hc3 : p0 = (32 : Int32)
    · -- p0 = (32 : Int32)
      have pre24 : ∀ t, Steps p.tables e below (s₁.setTop (mkF m 24 #[.val (.int p0)] [])) t → Steps p.tables e below (s₁.setTop (entryFrame m #[(.int p0)] 1)) t := fun t k => pre3 t (by
        show Steps p.tables e below (s₁.setTop (mkF m 3 #[.val (.int p0)] [(.int (32 : Int32)), (.int p0)])) t
        refine XS.icmpYes X0.here hx rfl (pc0 := 3) (pc' := 24) rfl (hb hby dB_3) rfl (teq hc3).1 (by decide) (by decide) ?_
        exact k)
      have pre29 : ∀ t, Steps p.tables e below (s₁.setTop (mkF m 29 #[.val (.int p0)] [(.int (1 : Int32))])) t → Steps p.tables e below (s₁.setTop (entryFrame m #[(.int p0)] 1)) t := fun t k => pre24 t (by
        show Steps p.tables e below (s₁.setTop (mkF m 24 #[.val (.int p0)] [])) t
        refine XS.iconst X0.here hx rfl (hb hby dB_24) ?_
        show Steps p.tables e below (s₁.setTop (mkF m 25 #[.val (.int p0)] [(.int (1 : Int32))])) _
        refine XS.goto X0.here hx rfl (pc0 := 25) (pc' := 29) rfl (hb hby dB_25) (by decide) (by decide) ?_
        show Steps p.tables e below (s₁.setTop (mkF m 29 #[.val (.int p0)] [(.int (1 : Int32))])) _
        exact k)
      have ehv29_s0 := hv29_s0.trans (if_pos (Or.inl hc3))
      exact fun t k => pre29 t (by subst ehv29_s0; exact k)
    · -- not p0 = (32 : Int32)
      have pre6 : ∀ t, Steps p.tables e below (s₁.setTop (mkF m 6 #[.val (.int p0)] [])) t → Steps p.tables e below (s₁.setTop (entryFrame m #[(.int p0)] 1)) t := fun t k => pre3 t (by
        show Steps p.tables e below (s₁.setTop (mkF m 3 #[.val (.int p0)] [(.int (32 : Int32)), (.int p0)])) t
        refine XS.icmpNo X0.here hx rfl (hb hby dB_3) rfl (feq hc3).1 ?_
        exact k)
      have pre9 : ∀ t, Steps p.tables e below (s₁.setTop (mkF m 9 #[.val (.int p0)] [(.int (9 : Int32)), (.int p0)])) t → Steps p.tables e below (s₁.setTop (entryFrame m #[(.int p0)] 1)) t := fun t k => pre6 t (by
        show Steps p.tables e below (s₁.setTop (mkF m 6 #[.val (.int p0)] [])) t
        refine XS.iloadN X0.here hx rfl (hb hby dB_6) rfl ?_
        show Steps p.tables e below (s₁.setTop (mkF m 7 #[.val (.int p0)] [(.int p0)])) _
        refine XS.bipush X0.here hx rfl (hb hby dB_7) ?_
        show Steps p.tables e below (s₁.setTop (mkF m 9 #[.val (.int p0)] [(.int (9 : Int32)), (.int p0)])) _
        exact k)
      by_cases hc9 : p0 = (9 : Int32)
      · -- p0 = (9 : Int32)
        have pre24 : ∀ t, Steps p.tables e below (s₁.setTop (mkF m 24 #[.val (.int p0)] [])) t → Steps p.tables e below (s₁.setTop (entryFrame m #[(.int p0)] 1)) t := fun t k => pre9 t (by
          show Steps p.tables e below (s₁.setTop (mkF m 9 #[.val (.int p0)] [(.int (9 : Int32)), (.int p0)])) t
          refine XS.icmpYes X0.here hx rfl (pc0 := 9) (pc' := 24) rfl (hb hby dB_9) rfl (teq hc9).1 (by decide) (by decide) ?_
          exact k)
        have pre29 : ∀ t, Steps p.tables e below (s₁.setTop (mkF m 29 #[.val (.int p0)] [(.int (1 : Int32))])) t → Steps p.tables e below (s₁.setTop (entryFrame m #[(.int p0)] 1)) t := fun t k => pre24 t (by
          show Steps p.tables e below (s₁.setTop (mkF m 24 #[.val (.int p0)] [])) t
          refine XS.iconst X0.here hx rfl (hb hby dB_24) ?_
          show Steps p.tables e below (s₁.setTop (mkF m 25 #[.val (.int p0)] [(.int (1 : Int32))])) _
          refine XS.goto X0.here hx rfl (pc0 := 25) (pc' := 29) rfl (hb hby dB_25) (by decide) (by decide) ?_
          show Steps p.tables e below (s₁.setTop (mkF m 29 #[.val (.int p0)] [(.int (1 : Int32))])) _
          exact k)
        have ehv29_s0 := hv29_s0.trans (if_pos (Or.inr (Or.inl hc9)))
        exact fun t k => pre29 t (by subst ehv29_s0; exact k)
      · -- not p0 = (9 : Int32)
        have pre12 : ∀ t, Steps p.tables e below (s₁.setTop (mkF m 12 #[.val (.int p0)] [])) t → Steps p.tables e below (s₁.setTop (entryFrame m #[(.int p0)] 1)) t := fun t k => pre9 t (by
          show Steps p.tables e below (s₁.setTop (mkF m 9 #[.val (.int p0)] [(.int (9 : Int32)), (.int p0)])) t
          refine XS.icmpNo X0.here hx rfl (hb hby dB_9) rfl (feq hc9).1 ?_
          exact k)
        have pre15 : ∀ t, Steps p.tables e below (s₁.setTop (mkF m 15 #[.val (.int p0)] [(.int (13 : Int32)), (.int p0)])) t → Steps p.tables e below (s₁.setTop (entryFrame m #[(.int p0)] 1)) t := fun t k => pre12 t (by
          show Steps p.tables e below (s₁.setTop (mkF m 12 #[.val (.int p0)] [])) t
          refine XS.iloadN X0.here hx rfl (hb hby dB_12) rfl ?_
          show Steps p.tables e below (s₁.setTop (mkF m 13 #[.val (.int p0)] [(.int p0)])) _
          refine XS.bipush X0.here hx rfl (hb hby dB_13) ?_
          show Steps p.tables e below (s₁.setTop (mkF m 15 #[.val (.int p0)] [(.int (13 : Int32)), (.int p0)])) _
          exact k)
        by_cases hc15 : p0 = (13 : Int32)
        · -- p0 = (13 : Int32)
          have pre24 : ∀ t, Steps p.tables e below (s₁.setTop (mkF m 24 #[.val (.int p0)] [])) t → Steps p.tables e below (s₁.setTop (entryFrame m #[(.int p0)] 1)) t := fun t k => pre15 t (by
            show Steps p.tables e below (s₁.setTop (mkF m 15 #[.val (.int p0)] [(.int (13 : Int32)), (.int p0)])) t
            refine XS.icmpYes X0.here hx rfl (pc0 := 15) (pc' := 24) rfl (hb hby dB_15) rfl (teq hc15).1 (by decide) (by decide) ?_
            exact k)
          have pre29 : ∀ t, Steps p.tables e below (s₁.setTop (mkF m 29 #[.val (.int p0)] [(.int (1 : Int32))])) t → Steps p.tables e below (s₁.setTop (entryFrame m #[(.int p0)] 1)) t := fun t k => pre24 t (by
            show Steps p.tables e below (s₁.setTop (mkF m 24 #[.val (.int p0)] [])) t
            refine XS.iconst X0.here hx rfl (hb hby dB_24) ?_
            show Steps p.tables e below (s₁.setTop (mkF m 25 #[.val (.int p0)] [(.int (1 : Int32))])) _
            refine XS.goto X0.here hx rfl (pc0 := 25) (pc' := 29) rfl (hb hby dB_25) (by decide) (by decide) ?_
            show Steps p.tables e below (s₁.setTop (mkF m 29 #[.val (.int p0)] [(.int (1 : Int32))])) _
            exact k)
          have ehv29_s0 := hv29_s0.trans (if_pos (Or.inr (Or.inr (Or.inl hc15))))
          exact fun t k => pre29 t (by subst ehv29_s0; exact k)
        · -- not p0 = (13 : Int32)
          have pre18 : ∀ t, Steps p.tables e below (s₁.setTop (mkF m 18 #[.val (.int p0)] [])) t → Steps p.tables e below (s₁.setTop (entryFrame m #[(.int p0)] 1)) t := fun t k => pre15 t (by
            show Steps p.tables e below (s₁.setTop (mkF m 15 #[.val (.int p0)] [(.int (13 : Int32)), (.int p0)])) t
            refine XS.icmpNo X0.here hx rfl (hb hby dB_15) rfl (feq hc15).1 ?_
            exact k)
          have pre21 : ∀ t, Steps p.tables e below (s₁.setTop (mkF m 21 #[.val (.int p0)] [(.int (12 : Int32)), (.int p0)])) t → Steps p.tables e below (s₁.setTop (entryFrame m #[(.int p0)] 1)) t := fun t k => pre18 t (by
            show Steps p.tables e below (s₁.setTop (mkF m 18 #[.val (.int p0)] [])) t
            refine XS.iloadN X0.here hx rfl (hb hby dB_18) rfl ?_
            show Steps p.tables e below (s₁.setTop (mkF m 19 #[.val (.int p0)] [(.int p0)])) _
            refine XS.bipush X0.here hx rfl (hb hby dB_19) ?_
            show Steps p.tables e below (s₁.setTop (mkF m 21 #[.val (.int p0)] [(.int (12 : Int32)), (.int p0)])) _
            exact k)
          by_cases hc21 : p0 = (12 : Int32)
          · -- p0 = (12 : Int32)
            have pre24 : ∀ t, Steps p.tables e below (s₁.setTop (mkF m 24 #[.val (.int p0)] [])) t → Steps p.tables e below (s₁.setTop (entryFrame m #[(.int p0)] 1)) t := fun t k => pre21 t (by
              show Steps p.tables e below (s₁.setTop (mkF m 21 #[.val (.int p0)] [(.int (12 : Int32)), (.int p0)])) t
              refine XS.icmpNo X0.here hx rfl (hb hby dB_21) rfl (teq hc21).2 ?_
              exact k)
            have pre29 : ∀ t, Steps p.tables e below (s₁.setTop (mkF m 29 #[.val (.int p0)] [(.int (1 : Int32))])) t → Steps p.tables e below (s₁.setTop (entryFrame m #[(.int p0)] 1)) t := fun t k => pre24 t (by
              show Steps p.tables e below (s₁.setTop (mkF m 24 #[.val (.int p0)] [])) t
              refine XS.iconst X0.here hx rfl (hb hby dB_24) ?_
              show Steps p.tables e below (s₁.setTop (mkF m 25 #[.val (.int p0)] [(.int (1 : Int32))])) _
              refine XS.goto X0.here hx rfl (pc0 := 25) (pc' := 29) rfl (hb hby dB_25) (by decide) (by decide) ?_
              show Steps p.tables e below (s₁.setTop (mkF m 29 #[.val (.int p0)] [(.int (1 : Int32))])) _
              exact k)
            have ehv29_s0 := hv29_s0.trans (if_pos (Or.inr (Or.inr (Or.inr hc21))))
            exact fun t k => pre29 t (by subst ehv29_s0; exact k)
          · -- not p0 = (12 : Int32)
            have pre28 : ∀ t, Steps p.tables e below (s₁.setTop (mkF m 28 #[.val (.int p0)] [])) t → Steps p.tables e below (s₁.setTop (entryFrame m #[(.int p0)] 1)) t := fun t k => pre21 t (by
              show Steps p.tables e below (s₁.setTop (mkF m 21 #[.val (.int p0)] [(.int (12 : Int32)), (.int p0)])) t
              refine XS.icmpYes X0.here hx rfl (pc0 := 21) (pc' := 28) rfl (hb hby dB_21) rfl (feq hc21).2 (by decide) (by decide) ?_
              exact k)
            have pre29 : ∀ t, Steps p.tables e below (s₁.setTop (mkF m 29 #[.val (.int p0)] [(.int (0 : Int32))])) t → Steps p.tables e below (s₁.setTop (entryFrame m #[(.int p0)] 1)) t := fun t k => pre28 t (by
              show Steps p.tables e below (s₁.setTop (mkF m 28 #[.val (.int p0)] [])) t
              refine XS.iconst X0.here hx rfl (hb hby dB_28) ?_
              show Steps p.tables e below (s₁.setTop (mkF m 29 #[.val (.int p0)] [(.int (0 : Int32))])) _
              exact k)
            have ehv29_s0 := hv29_s0.trans (if_neg (fun r => r.elim hc3 (fun r => r.elim hc9 (fun r => r.elim hc15 hc21))))
            exact fun t k => pre29 t (by subst ehv29_s0; exact k)
  obtain ⟨fs, hr, hrun, hended, hW, hsame⟩ := X0.leave (v := some (.int (nar .boolean v29_s0))) (fun h => by rw [Bd.returns] at h; cases h)
  refine ⟨_, _, pre29 _ ?_, hrun, hended, _, _, rfl, ?_, ⟨_, rfl⟩, hW, hsame.mono (by decide) (by decide)⟩
  · show Steps p.tables e below (s₁.setTop (mkF m 29 #[.val (.int p0)] [(.int v29_s0)])) _
    exact retN X0 hx (t := .boolean) Bd.returns (by simp) (hb hby dB_29) hr
  · show QB Z p0 h0 n0 _ s₁.heap _
    rw [e0]
    have hres : (nar .boolean v29_s0) = (own_fB p0) := by
      try subst hv29_s0
      rw [own_fB]
      first | done | rfl | exact own_narB _
    exact ⟨congrArg (fun q => some (Value.int q)) hres, N0, rfl⟩
theorem dE_0 : decode method_2_code 0 = .ok (.iload_n 0, 1) := by decide +kernel
theorem dE_1 : decode method_2_code 1 = .ok (.bipush 32, 2) := by decide +kernel
theorem dE_3 : decode method_2_code 3 = .ok (.if_icmp .ne 5, 3) := by decide +kernel
theorem dE_6 : decode method_2_code 6 = .ok (.iconst 1, 1) := by decide +kernel
theorem dE_7 : decode method_2_code 7 = .ok (.ireturn, 1) := by decide +kernel
theorem dE_8 : decode method_2_code 8 = .ok (.iload_n 0, 1) := by decide +kernel
theorem dE_9 : decode method_2_code 9 = .ok (.bipush 9, 2) := by decide +kernel
theorem dE_11 : decode method_2_code 11 = .ok (.if_icmp .lt 9, 3) := by decide +kernel
theorem dE_14 : decode method_2_code 14 = .ok (.iload_n 0, 1) := by decide +kernel
theorem dE_15 : decode method_2_code 15 = .ok (.bipush 13, 2) := by decide +kernel
theorem dE_17 : decode method_2_code 17 = .ok (.if_icmp .le 5, 3) := by decide +kernel
theorem dE_20 : decode method_2_code 20 = .ok (.iconst 0, 1) := by decide +kernel
theorem dE_21 : decode method_2_code 21 = .ok (.ireturn, 1) := by decide +kernel
theorem dE_22 : decode method_2_code 22 = .ok (.iload_n 0, 1) := by decide +kernel
theorem dE_23 : decode method_2_code 23 = .ok (.bipush 10, 2) := by decide +kernel
theorem dE_25 : decode method_2_code 25 = .ok (.if_icmp .eq 13, 3) := by decide +kernel
theorem dE_28 : decode method_2_code 28 = .ok (.iload_n 0, 1) := by decide +kernel
theorem dE_29 : decode method_2_code 29 = .ok (.bipush 11, 2) := by decide +kernel
theorem dE_31 : decode method_2_code 31 = .ok (.if_icmp .eq 7, 3) := by decide +kernel
theorem dE_34 : decode method_2_code 34 = .ok (.iconst 1, 1) := by decide +kernel
theorem dE_35 : decode method_2_code 35 = .ok (.goto 4, 3) := by decide +kernel
theorem dE_38 : decode method_2_code 38 = .ok (.iconst 0, 1) := by decide +kernel
theorem dE_39 : decode method_2_code 39 = .ok (.ireturn, 1) := by decide +kernel
theorem pnE : plainName "com/example/hatua/hatua/TokensIsBlankPinLaw" = true := by first | (simp [plainName, overriddenIn]; done) | decide +kernel
theorem efE (m : MethodId) (p0 : Int32) : entryFrame m #[(.int p0)] 1 = mkF m 0 #[.val (.int p0)] [] := by first | (simp [entryFrame, mkF, argsToLocals, Value.category]; done) | rfl
def own_fE (p0 : Int32) : Int32 := (if p0 = (32 : Int32) then (1 : Int32) else (if p0 < (9 : Int32) then (0 : Int32) else (if (13 : Int32) < p0 then (0 : Int32) else ((if ((¬ (p0 = (10 : Int32))) ∧ (¬ (p0 = (11 : Int32)))) then (1 : Int32) else 0)))))
abbrev own_roomE : Room := { frames := 0, cells := 0, slots := 0, locals := 0 }
def QE (Z : State) (p0 : Int32) (h0 : Heap) (n0 : Nat) (v : Option Value) (h : Heap) (L : List Loc) : Prop := v = some (.int (own_fE p0)) ∧ Fr n0 L ∧ h = h0
set_option maxRecDepth 65536 in
set_option maxHeartbeats 40000000 in
theorem rmE (l : Launch) (Z : State) (a0 : Array Value) (hw : ∀ d ∈ tables_1, d.before a0 Z = true) (ws : List Jvm.Cond) (p0 : Int32) (h0 : Heap) (n0 : Nat) (Z0 : n0 ≤ h0.size) :
    MetFree l (⟨"com/example/hatua/hatua/TokensIsBlankPinLaw", "expected", "(I)Z"⟩ : MethodName) (head1 (Jvm.Cond.code (⟨"com/example/hatua/hatua/TokensIsBlankPinLaw", "expected", "(I)Z"⟩ : MethodName) method_2_code 1 (some .boolean) :: ws) own_roomE) (fun a U => a = #[(.int p0)] ∧ Z.Warmed39 U.vm ∧ U.heap = h0) (fun _ _ _ _ _ => True) (fun _ U o U' => ∃ v L, o = .returned v ∧ QE Z p0 h0 n0 v U'.heap L ∧ FrameEnd U o U' L own_roomE.cells own_roomE.slots) := by
  refine MetFree.of_bodySF (plainFor_of_name pnE) hisR ?_
  intro p e s m args below meth c s₁ Bd hml0 hP hK
  obtain ⟨rfl, hZ, hh⟩ := hP
  have hx := Bd.exec
  have hby := Bd.bytes
  have hml : c.maxLocals = 1 := hml0
  have hown : s.vm.findClass "com/example/hatua/hatua/TokensIsBlankPinLaw" = some m.cls := findClass_of_methodNamed Bd.named
  have hnm := (name_of_methodNamed Bd.named Bd.method).1
  have X0 : Stand p l e own_roomE s m #[(.int p0)] below meth c s₁ [] 0 0 := Stand.of_body Bd
  have e0 : s₁.heap = h0 := by rw [← hh, Bd.state]; rfl
  have N0 := Fr.nil n0
  have pre0 : ∀ t, Steps p.tables e below (s₁.setTop (mkF m 0 #[.val (.int p0)] [])) t → Steps p.tables e below (s₁.setTop (entryFrame m #[(.int p0)] 1)) t := fun t k => castTop (efE m p0) k
  have pre3 : ∀ t, Steps p.tables e below (s₁.setTop (mkF m 3 #[.val (.int p0)] [(.int (32 : Int32)), (.int p0)])) t → Steps p.tables e below (s₁.setTop (entryFrame m #[(.int p0)] 1)) t := fun t k => pre0 t (by
    show Steps p.tables e below (s₁.setTop (mkF m 0 #[.val (.int p0)] [])) t
    refine XS.iloadN X0.here hx rfl (hb hby dE_0) rfl ?_
    show Steps p.tables e below (s₁.setTop (mkF m 1 #[.val (.int p0)] [(.int p0)])) _
    refine XS.bipush X0.here hx rfl (hb hby dE_1) ?_
    show Steps p.tables e below (s₁.setTop (mkF m 3 #[.val (.int p0)] [(.int (32 : Int32)), (.int p0)])) _
    exact k)
  by_cases hc3 : p0 = (32 : Int32)
  · -- p0 = (32 : Int32)
    have pre6 : ∀ t, Steps p.tables e below (s₁.setTop (mkF m 6 #[.val (.int p0)] [])) t → Steps p.tables e below (s₁.setTop (entryFrame m #[(.int p0)] 1)) t := fun t k => pre3 t (by
      show Steps p.tables e below (s₁.setTop (mkF m 3 #[.val (.int p0)] [(.int (32 : Int32)), (.int p0)])) t
      refine XS.icmpNo X0.here hx rfl (hb hby dE_3) rfl (teq hc3).2 ?_
      exact k)
    have pre7 : ∀ t, Steps p.tables e below (s₁.setTop (mkF m 7 #[.val (.int p0)] [(.int (1 : Int32))])) t → Steps p.tables e below (s₁.setTop (entryFrame m #[(.int p0)] 1)) t := fun t k => pre6 t (by
      show Steps p.tables e below (s₁.setTop (mkF m 6 #[.val (.int p0)] [])) t
      refine XS.iconst X0.here hx rfl (hb hby dE_6) ?_
      show Steps p.tables e below (s₁.setTop (mkF m 7 #[.val (.int p0)] [(.int (1 : Int32))])) _
      exact k)
    obtain ⟨fs, hr, hrun, hended, hW, hsame⟩ := X0.leave (v := some (.int (nar .boolean (1 : Int32)))) (fun h => by rw [Bd.returns] at h; cases h)
    refine ⟨_, _, pre7 _ ?_, hrun, hended, _, _, rfl, ?_, ⟨_, rfl⟩, hW, hsame.mono (by decide) (by decide)⟩
    · show Steps p.tables e below (s₁.setTop (mkF m 7 #[.val (.int p0)] [(.int (1 : Int32))])) _
      exact retN X0 hx (t := .boolean) Bd.returns (by simp) (hb hby dE_7) hr
    · show QE Z p0 h0 n0 _ s₁.heap _
      rw [e0]
      have hres : (nar .boolean (1 : Int32)) = (own_fE p0) := by
        rw [own_fE, if_pos hc3]
        first | done | rfl | exact own_narB _
      exact ⟨congrArg (fun q => some (Value.int q)) hres, N0, rfl⟩
  · -- not p0 = (32 : Int32)
    have pre8 : ∀ t, Steps p.tables e below (s₁.setTop (mkF m 8 #[.val (.int p0)] [])) t → Steps p.tables e below (s₁.setTop (entryFrame m #[(.int p0)] 1)) t := fun t k => pre3 t (by
      show Steps p.tables e below (s₁.setTop (mkF m 3 #[.val (.int p0)] [(.int (32 : Int32)), (.int p0)])) t
      refine XS.icmpYes X0.here hx rfl (pc0 := 3) (pc' := 8) rfl (hb hby dE_3) rfl (feq hc3).2 (by decide) (by decide) ?_
      exact k)
    have pre11 : ∀ t, Steps p.tables e below (s₁.setTop (mkF m 11 #[.val (.int p0)] [(.int (9 : Int32)), (.int p0)])) t → Steps p.tables e below (s₁.setTop (entryFrame m #[(.int p0)] 1)) t := fun t k => pre8 t (by
      show Steps p.tables e below (s₁.setTop (mkF m 8 #[.val (.int p0)] [])) t
      refine XS.iloadN X0.here hx rfl (hb hby dE_8) rfl ?_
      show Steps p.tables e below (s₁.setTop (mkF m 9 #[.val (.int p0)] [(.int p0)])) _
      refine XS.bipush X0.here hx rfl (hb hby dE_9) ?_
      show Steps p.tables e below (s₁.setTop (mkF m 11 #[.val (.int p0)] [(.int (9 : Int32)), (.int p0)])) _
      exact k)
    by_cases hc11 : p0 < (9 : Int32)
    · -- p0 < (9 : Int32)
      have pre20 : ∀ t, Steps p.tables e below (s₁.setTop (mkF m 20 #[.val (.int p0)] [])) t → Steps p.tables e below (s₁.setTop (entryFrame m #[(.int p0)] 1)) t := fun t k => pre11 t (by
        show Steps p.tables e below (s₁.setTop (mkF m 11 #[.val (.int p0)] [(.int (9 : Int32)), (.int p0)])) t
        refine XS.icmpYes X0.here hx rfl (pc0 := 11) (pc' := 20) rfl (hb hby dE_11) rfl (tlt hc11).1 (by decide) (by decide) ?_
        exact k)
      have pre21 : ∀ t, Steps p.tables e below (s₁.setTop (mkF m 21 #[.val (.int p0)] [(.int (0 : Int32))])) t → Steps p.tables e below (s₁.setTop (entryFrame m #[(.int p0)] 1)) t := fun t k => pre20 t (by
        show Steps p.tables e below (s₁.setTop (mkF m 20 #[.val (.int p0)] [])) t
        refine XS.iconst X0.here hx rfl (hb hby dE_20) ?_
        show Steps p.tables e below (s₁.setTop (mkF m 21 #[.val (.int p0)] [(.int (0 : Int32))])) _
        exact k)
      obtain ⟨fs, hr, hrun, hended, hW, hsame⟩ := X0.leave (v := some (.int (nar .boolean (0 : Int32)))) (fun h => by rw [Bd.returns] at h; cases h)
      refine ⟨_, _, pre21 _ ?_, hrun, hended, _, _, rfl, ?_, ⟨_, rfl⟩, hW, hsame.mono (by decide) (by decide)⟩
      · show Steps p.tables e below (s₁.setTop (mkF m 21 #[.val (.int p0)] [(.int (0 : Int32))])) _
        exact retN X0 hx (t := .boolean) Bd.returns (by simp) (hb hby dE_21) hr
      · show QE Z p0 h0 n0 _ s₁.heap _
        rw [e0]
        have hres : (nar .boolean (0 : Int32)) = (own_fE p0) := by
          rw [own_fE, if_neg hc3, if_pos hc11]
          first | done | rfl | exact own_narB _
        exact ⟨congrArg (fun q => some (Value.int q)) hres, N0, rfl⟩
    · -- not p0 < (9 : Int32)
      have pre14 : ∀ t, Steps p.tables e below (s₁.setTop (mkF m 14 #[.val (.int p0)] [])) t → Steps p.tables e below (s₁.setTop (entryFrame m #[(.int p0)] 1)) t := fun t k => pre11 t (by
        show Steps p.tables e below (s₁.setTop (mkF m 11 #[.val (.int p0)] [(.int (9 : Int32)), (.int p0)])) t
        refine XS.icmpNo X0.here hx rfl (hb hby dE_11) rfl (flt hc11).1 ?_
        exact k)
      have pre17 : ∀ t, Steps p.tables e below (s₁.setTop (mkF m 17 #[.val (.int p0)] [(.int (13 : Int32)), (.int p0)])) t → Steps p.tables e below (s₁.setTop (entryFrame m #[(.int p0)] 1)) t := fun t k => pre14 t (by
        show Steps p.tables e below (s₁.setTop (mkF m 14 #[.val (.int p0)] [])) t
        refine XS.iloadN X0.here hx rfl (hb hby dE_14) rfl ?_
        show Steps p.tables e below (s₁.setTop (mkF m 15 #[.val (.int p0)] [(.int p0)])) _
        refine XS.bipush X0.here hx rfl (hb hby dE_15) ?_
        show Steps p.tables e below (s₁.setTop (mkF m 17 #[.val (.int p0)] [(.int (13 : Int32)), (.int p0)])) _
        exact k)
      by_cases hc17 : (13 : Int32) < p0
      · -- (13 : Int32) < p0
        have pre20 : ∀ t, Steps p.tables e below (s₁.setTop (mkF m 20 #[.val (.int p0)] [])) t → Steps p.tables e below (s₁.setTop (entryFrame m #[(.int p0)] 1)) t := fun t k => pre17 t (by
          show Steps p.tables e below (s₁.setTop (mkF m 17 #[.val (.int p0)] [(.int (13 : Int32)), (.int p0)])) t
          refine XS.icmpNo X0.here hx rfl (hb hby dE_17) rfl (tlt hc17).2.2.2 ?_
          exact k)
        have pre21 : ∀ t, Steps p.tables e below (s₁.setTop (mkF m 21 #[.val (.int p0)] [(.int (0 : Int32))])) t → Steps p.tables e below (s₁.setTop (entryFrame m #[(.int p0)] 1)) t := fun t k => pre20 t (by
          show Steps p.tables e below (s₁.setTop (mkF m 20 #[.val (.int p0)] [])) t
          refine XS.iconst X0.here hx rfl (hb hby dE_20) ?_
          show Steps p.tables e below (s₁.setTop (mkF m 21 #[.val (.int p0)] [(.int (0 : Int32))])) _
          exact k)
        obtain ⟨fs, hr, hrun, hended, hW, hsame⟩ := X0.leave (v := some (.int (nar .boolean (0 : Int32)))) (fun h => by rw [Bd.returns] at h; cases h)
        refine ⟨_, _, pre21 _ ?_, hrun, hended, _, _, rfl, ?_, ⟨_, rfl⟩, hW, hsame.mono (by decide) (by decide)⟩
        · show Steps p.tables e below (s₁.setTop (mkF m 21 #[.val (.int p0)] [(.int (0 : Int32))])) _
          exact retN X0 hx (t := .boolean) Bd.returns (by simp) (hb hby dE_21) hr
        · show QE Z p0 h0 n0 _ s₁.heap _
          rw [e0]
          have hres : (nar .boolean (0 : Int32)) = (own_fE p0) := by
            rw [own_fE, if_neg hc3, if_neg hc11, if_pos hc17]
            first | done | rfl | exact own_narB _
          exact ⟨congrArg (fun q => some (Value.int q)) hres, N0, rfl⟩
      · -- not (13 : Int32) < p0
        have pre22 : ∀ t, Steps p.tables e below (s₁.setTop (mkF m 22 #[.val (.int p0)] [])) t → Steps p.tables e below (s₁.setTop (entryFrame m #[(.int p0)] 1)) t := fun t k => pre17 t (by
          show Steps p.tables e below (s₁.setTop (mkF m 17 #[.val (.int p0)] [(.int (13 : Int32)), (.int p0)])) t
          refine XS.icmpYes X0.here hx rfl (pc0 := 17) (pc' := 22) rfl (hb hby dE_17) rfl (flt hc17).2.2.2 (by decide) (by decide) ?_
          exact k)
        have pre25 : ∀ t, Steps p.tables e below (s₁.setTop (mkF m 25 #[.val (.int p0)] [(.int (10 : Int32)), (.int p0)])) t → Steps p.tables e below (s₁.setTop (entryFrame m #[(.int p0)] 1)) t := fun t k => pre22 t (by
          show Steps p.tables e below (s₁.setTop (mkF m 22 #[.val (.int p0)] [])) t
          refine XS.iloadN X0.here hx rfl (hb hby dE_22) rfl ?_
          show Steps p.tables e below (s₁.setTop (mkF m 23 #[.val (.int p0)] [(.int p0)])) _
          refine XS.bipush X0.here hx rfl (hb hby dE_23) ?_
          show Steps p.tables e below (s₁.setTop (mkF m 25 #[.val (.int p0)] [(.int (10 : Int32)), (.int p0)])) _
          exact k)
        obtain ⟨v39_s0, hv39_s0⟩ : ∃ z : Int32, z = if ((¬ (p0 = (10 : Int32))) ∧ (¬ (p0 = (11 : Int32)))) then (1 : Int32) else 0 := ⟨_, rfl⟩
        have pre39 : ∀ t, Steps p.tables e below (s₁.setTop (mkF m 39 #[.val (.int p0)] [(.int v39_s0)])) t → Steps p.tables e below (s₁.setTop (entryFrame m #[(.int p0)] 1)) t := by
          by_cases hc25 : p0 = (10 : Int32)
          · -- p0 = (10 : Int32)
            have pre38 : ∀ t, Steps p.tables e below (s₁.setTop (mkF m 38 #[.val (.int p0)] [])) t → Steps p.tables e below (s₁.setTop (entryFrame m #[(.int p0)] 1)) t := fun t k => pre25 t (by
              show Steps p.tables e below (s₁.setTop (mkF m 25 #[.val (.int p0)] [(.int (10 : Int32)), (.int p0)])) t
              refine XS.icmpYes X0.here hx rfl (pc0 := 25) (pc' := 38) rfl (hb hby dE_25) rfl (teq hc25).1 (by decide) (by decide) ?_
              exact k)
            have pre39 : ∀ t, Steps p.tables e below (s₁.setTop (mkF m 39 #[.val (.int p0)] [(.int (0 : Int32))])) t → Steps p.tables e below (s₁.setTop (entryFrame m #[(.int p0)] 1)) t := fun t k => pre38 t (by
              show Steps p.tables e below (s₁.setTop (mkF m 38 #[.val (.int p0)] [])) t
              refine XS.iconst X0.here hx rfl (hb hby dE_38) ?_
              show Steps p.tables e below (s₁.setTop (mkF m 39 #[.val (.int p0)] [(.int (0 : Int32))])) _
              exact k)
            have ehv39_s0 := hv39_s0.trans (if_neg (fun q => q.1 hc25))
            exact fun t k => pre39 t (by subst ehv39_s0; exact k)
          · -- not p0 = (10 : Int32)
            have pre28 : ∀ t, Steps p.tables e below (s₁.setTop (mkF m 28 #[.val (.int p0)] [])) t → Steps p.tables e below (s₁.setTop (entryFrame m #[(.int p0)] 1)) t := fun t k => pre25 t (by
              show Steps p.tables e below (s₁.setTop (mkF m 25 #[.val (.int p0)] [(.int (10 : Int32)), (.int p0)])) t
              refine XS.icmpNo X0.here hx rfl (hb hby dE_25) rfl (feq hc25).1 ?_
              exact k)
            have pre31 : ∀ t, Steps p.tables e below (s₁.setTop (mkF m 31 #[.val (.int p0)] [(.int (11 : Int32)), (.int p0)])) t → Steps p.tables e below (s₁.setTop (entryFrame m #[(.int p0)] 1)) t := fun t k => pre28 t (by
              show Steps p.tables e below (s₁.setTop (mkF m 28 #[.val (.int p0)] [])) t
              refine XS.iloadN X0.here hx rfl (hb hby dE_28) rfl ?_
              show Steps p.tables e below (s₁.setTop (mkF m 29 #[.val (.int p0)] [(.int p0)])) _
              refine XS.bipush X0.here hx rfl (hb hby dE_29) ?_
              show Steps p.tables e below (s₁.setTop (mkF m 31 #[.val (.int p0)] [(.int (11 : Int32)), (.int p0)])) _
              exact k)
            by_cases hc31 : p0 = (11 : Int32)
            · -- p0 = (11 : Int32)
              have pre38 : ∀ t, Steps p.tables e below (s₁.setTop (mkF m 38 #[.val (.int p0)] [])) t → Steps p.tables e below (s₁.setTop (entryFrame m #[(.int p0)] 1)) t := fun t k => pre31 t (by
                show Steps p.tables e below (s₁.setTop (mkF m 31 #[.val (.int p0)] [(.int (11 : Int32)), (.int p0)])) t
                refine XS.icmpYes X0.here hx rfl (pc0 := 31) (pc' := 38) rfl (hb hby dE_31) rfl (teq hc31).1 (by decide) (by decide) ?_
                exact k)
              have pre39 : ∀ t, Steps p.tables e below (s₁.setTop (mkF m 39 #[.val (.int p0)] [(.int (0 : Int32))])) t → Steps p.tables e below (s₁.setTop (entryFrame m #[(.int p0)] 1)) t := fun t k => pre38 t (by
                show Steps p.tables e below (s₁.setTop (mkF m 38 #[.val (.int p0)] [])) t
                refine XS.iconst X0.here hx rfl (hb hby dE_38) ?_
                show Steps p.tables e below (s₁.setTop (mkF m 39 #[.val (.int p0)] [(.int (0 : Int32))])) _
                exact k)
              have ehv39_s0 := hv39_s0.trans (if_neg (fun r => (fun q => q hc31) r.2))
              exact fun t k => pre39 t (by subst ehv39_s0; exact k)
            · -- not p0 = (11 : Int32)
              have pre34 : ∀ t, Steps p.tables e below (s₁.setTop (mkF m 34 #[.val (.int p0)] [])) t → Steps p.tables e below (s₁.setTop (entryFrame m #[(.int p0)] 1)) t := fun t k => pre31 t (by
                show Steps p.tables e below (s₁.setTop (mkF m 31 #[.val (.int p0)] [(.int (11 : Int32)), (.int p0)])) t
                refine XS.icmpNo X0.here hx rfl (hb hby dE_31) rfl (feq hc31).1 ?_
                exact k)
              have pre39 : ∀ t, Steps p.tables e below (s₁.setTop (mkF m 39 #[.val (.int p0)] [(.int (1 : Int32))])) t → Steps p.tables e below (s₁.setTop (entryFrame m #[(.int p0)] 1)) t := fun t k => pre34 t (by
                show Steps p.tables e below (s₁.setTop (mkF m 34 #[.val (.int p0)] [])) t
                refine XS.iconst X0.here hx rfl (hb hby dE_34) ?_
                show Steps p.tables e below (s₁.setTop (mkF m 35 #[.val (.int p0)] [(.int (1 : Int32))])) _
                refine XS.goto X0.here hx rfl (pc0 := 35) (pc' := 39) rfl (hb hby dE_35) (by decide) (by decide) ?_
                show Steps p.tables e below (s₁.setTop (mkF m 39 #[.val (.int p0)] [(.int (1 : Int32))])) _
                exact k)
              have ehv39_s0 := hv39_s0.trans (if_pos ⟨hc25, hc31⟩)
              exact fun t k => pre39 t (by subst ehv39_s0; exact k)
        obtain ⟨fs, hr, hrun, hended, hW, hsame⟩ := X0.leave (v := some (.int (nar .boolean v39_s0))) (fun h => by rw [Bd.returns] at h; cases h)
        refine ⟨_, _, pre39 _ ?_, hrun, hended, _, _, rfl, ?_, ⟨_, rfl⟩, hW, hsame.mono (by decide) (by decide)⟩
        · show Steps p.tables e below (s₁.setTop (mkF m 39 #[.val (.int p0)] [(.int v39_s0)])) _
          exact retN X0 hx (t := .boolean) Bd.returns (by simp) (hb hby dE_39) hr
        · show QE Z p0 h0 n0 _ s₁.heap _
          rw [e0]
          have hres : (nar .boolean v39_s0) = (own_fE p0) := by
            try subst hv39_s0
            rw [own_fE, if_neg hc3, if_neg hc11, if_neg hc17]
            first | done | rfl | exact own_narB _
          exact ⟨congrArg (fun q => some (Value.int q)) hres, N0, rfl⟩
def own_pt (j : Int32) : Int32 := if j = (0 : Int32) then (32 : Int32) else (if j = (1 : Int32) then (9 : Int32) else (if j = (2 : Int32) then (13 : Int32) else (if j = (3 : Int32) then (12 : Int32) else (if j = (4 : Int32) then (10 : Int32) else (if j = (5 : Int32) then (11 : Int32) else (if j = (6 : Int32) then (0 : Int32) else ((160 : Int32))))))))
def own_bl (j : Int32) : Int32 := if j = (0 : Int32) then (1 : Int32) else (if j = (1 : Int32) then (1 : Int32) else (if j = (2 : Int32) then (1 : Int32) else (if j = (3 : Int32) then (1 : Int32) else (if j = (4 : Int32) then (0 : Int32) else (if j = (5 : Int32) then (0 : Int32) else (if j = (6 : Int32) then (0 : Int32) else ((0 : Int32))))))))
theorem own_eight {j p : Int32} (h : j = (p &&& (7 : Int32))) : j = 0 ∨ j = 1 ∨ j = 2 ∨ j = 3 ∨ j = 4 ∨ j = 5 ∨ j = 6 ∨ j = 7 := by
  have h1 := c_mask p (7 : Int32) 3 (by decide) (by decide)
  rw [← h] at h1
  have h2 : j.toInt = 0 ∨ j.toInt = 1 ∨ j.toInt = 2 ∨ j.toInt = 3 ∨ j.toInt = 4 ∨ j.toInt = 5 ∨ j.toInt = 6 ∨ j.toInt = 7 := by omega
  have k : ∀ z : Int32, j.toInt = z.toInt → j = z := fun z q => Int32.toInt_inj.mp q
  rcases h2 with q | q | q | q | q | q | q | q
  · exact Or.inl (k 0 q)
  · exact Or.inr (Or.inl (k 1 q))
  · exact Or.inr (Or.inr (Or.inl (k 2 q)))
  · exact Or.inr (Or.inr (Or.inr (Or.inl (k 3 q))))
  · exact Or.inr (Or.inr (Or.inr (Or.inr (Or.inl (k 4 q)))))
  · exact Or.inr (Or.inr (Or.inr (Or.inr (Or.inr (Or.inl (k 5 q))))))
  · exact Or.inr (Or.inr (Or.inr (Or.inr (Or.inr (Or.inr (Or.inl (k 6 q)))))))
  · exact Or.inr (Or.inr (Or.inr (Or.inr (Or.inr (Or.inr (Or.inr (k 7 q)))))))
theorem own_in {j p : Int32} (h : j = (p &&& (7 : Int32))) : ¬ j < 0 ∧ j < (8 : Int32) := by
  rcases own_eight h with rfl | rfl | rfl | rfl | rfl | rfl | rfl | rfl <;> exact ⟨by decide, by decide⟩
theorem own_gp {j p : Int32} (h : j = (p &&& (7 : Int32))) : [Value.int (32 : Int32), Value.int (9 : Int32), Value.int (13 : Int32), Value.int (12 : Int32), Value.int (10 : Int32), Value.int (11 : Int32), Value.int (0 : Int32), Value.int (160 : Int32)].getD j.toNatClampNeg (.int (0 : Int32)) = .int (own_pt j) := by
  rcases own_eight h with q | q | q | q | q | q | q | q <;> (rw [q]; rfl)
theorem own_gb {j p : Int32} (h : j = (p &&& (7 : Int32))) : [Value.int (1 : Int32), Value.int (1 : Int32), Value.int (1 : Int32), Value.int (1 : Int32), Value.int (0 : Int32), Value.int (0 : Int32), Value.int (0 : Int32), Value.int (0 : Int32)].getD j.toNatClampNeg (.int (0 : Int32)) = .int (own_bl j) := by
  rcases own_eight h with q | q | q | q | q | q | q | q <;> (rw [q]; rfl)
theorem own_anch {j p : Int32} (h : j = (p &&& (7 : Int32))) : own_fB (own_pt j) = own_bl j := by
  rcases own_eight h with q | q | q | q | q | q | q | q <;> (rw [q]; decide)
theorem own_same (c : Int32) : own_fB c = own_fE c := by
  by_cases h : 9 ≤ c.toInt ∧ c.toInt ≤ 32
  · have k : ∀ i : Fin 24, own_fB (Int32.ofNat (i.val + 9)) = own_fE (Int32.ofNat (i.val + 9)) := by decide +kernel
    obtain ⟨n, hn⟩ : ∃ n : Nat, c.toInt = n := ⟨c.toInt.toNat, by omega⟩
    have hc : c = Int32.ofNat (n - 9 + 9) := by
      apply Int32.toInt_inj.mp
      rw [Int32.toInt_ofNat_of_lt (by omega)]
      omega
    rw [hc]
    exact k ⟨n - 9, by omega⟩
  · have ne : ∀ z : Int32, 9 ≤ z.toInt → z.toInt ≤ 32 → ¬ c = z := fun z h1 h2 q => h (by rw [q]; exact ⟨h1, h2⟩)
    have n32 := ne 32 (by decide) (by decide)
    have n9 := ne 9 (by decide) (by decide)
    have n13 := ne 13 (by decide) (by decide)
    have n12 := ne 12 (by decide) (by decide)
    have hB : own_fB c = 0 := by
      rw [own_fB]
      exact if_neg (by simp [n32, n9, n13, n12])
    rw [hB, own_fE, if_neg n32]
    by_cases h9 : c < (9 : Int32)
    · rw [if_pos h9]
    · rw [if_neg h9]
      have h13 : (13 : Int32) < c := by
        rw [Int32.lt_iff_toInt_lt] at h9 ⊢
        have z9 : (9 : Int32).toInt = 9 := rfl
        have z13 : (13 : Int32).toInt = 13 := rfl
        omega
      rw [if_pos h13]
theorem pn0 : plainName "com/example/hatua/hatua/TokensIsBlankPinLaw" = true := by first | (simp [plainName, overriddenIn]; done) | decide +kernel
theorem pd0_0 : parseMethodDescriptor "(I)Z" = some ⟨[.int], some .boolean⟩ := by decide +kernel
theorem ef0 (m : MethodId) (p0 : Int32) (p1 : Int32) : entryFrame m #[(.int p0), (.int p1)] maxLocals = mkF m 0 #[.val (.int p0), .val (.int p1), .unset, .unset, .unset, .unset, .unset] [] := by first | (simp [entryFrame, mkF, argsToLocals, Value.category, maxLocals]; done) | rfl
def Q0 (Z : State) (p0 : Int32) (p1 : Int32) (h0 : Heap) (n0 : Nat) (v : Option Value) (h : Heap) (L : List Loc) : Prop := v = some (.int (1 : Int32)) ∧ Fr n0 L
set_option maxRecDepth 65536 in
set_option maxHeartbeats 40000000 in
theorem rm0 (l : Launch) (Z : State) (a0 : Array Value) (hw : ∀ d ∈ tables_1, d.before a0 Z = true) (ws : List Jvm.Cond) (p0 : Int32) (p1 : Int32) (h0 : Heap) (n0 : Nat) (Z0 : n0 ≤ h0.size) :
    MetFree l x (head1 (Jvm.Cond.code x code maxLocals ret :: ws) room_1) (fun a U => a = #[(.int p0), (.int p1)] ∧ Z.Warmed39 U.vm ∧ U.heap = h0) (fun _ _ _ _ _ => True) (fun _ U o U' => ∃ v L, o = .returned v ∧ Q0 Z p0 p1 h0 n0 v U'.heap L ∧ FrameEnd U o U' L room_1.cells room_1.slots) := by
  refine MetFree.of_bodySF (plainFor_of_name pn0) hisR ?_
  intro p e s m args below meth c s₁ Bd hml0 hP hK
  obtain ⟨rfl, hZ, hh⟩ := hP
  have hx := Bd.exec
  have hby := Bd.bytes
  have hml : c.maxLocals = 7 := hml0
  have hown : s.vm.findClass "com/example/hatua/hatua/TokensIsBlankPinLaw" = some m.cls := findClass_of_methodNamed Bd.named
  have hnm := (name_of_methodNamed Bd.named Bd.method).1
  have X0 : Stand p l e room_1 s m #[(.int p0), (.int p1)] below meth c s₁ [] 0 0 := Stand.of_body Bd
  have e0 : s₁.heap = h0 := by rw [← hh, Bd.state]; rfl
  have N0 := Fr.nil n0
  have pre0 : ∀ t, Steps p.tables e below (s₁.setTop (mkF m 0 #[.val (.int p0), .val (.int p1), .unset, .unset, .unset, .unset, .unset] [])) t → Steps p.tables e below (s₁.setTop (entryFrame m #[(.int p0), (.int p1)] maxLocals)) t := fun t k => castTop (ef0 m p0 p1) k
  have pre2 : ∀ t, Steps p.tables e below (s₁.setTop (mkF m 2 #[.val (.int p0), .val (.int p1), .unset, .unset, .unset, .unset, .unset] [(.int (8 : Int32))])) t → Steps p.tables e below (s₁.setTop (entryFrame m #[(.int p0), (.int p1)] maxLocals)) t := fun t k => pre0 t (by
    show Steps p.tables e below (s₁.setTop (mkF m 0 #[.val (.int p0), .val (.int p1), .unset, .unset, .unset, .unset, .unset] [])) t
    refine XS.bipush X0.here hx rfl (hb hby at_0) ?_
    show Steps p.tables e below (s₁.setTop (mkF m 2 #[.val (.int p0), .val (.int p1), .unset, .unset, .unset, .unset, .unset] [(.int (8 : Int32))])) _
    exact k)
  obtain ⟨T2, h2, k2, X2, e2, E2, A2, st2⟩ := newP X0 hx hZ (hw _ (List.mem_of_getElem? (i := 0) rfl)) e0 (g := (mkF m 2 #[.val (.int p0), .val (.int p1), .unset, .unset, .unset, .unset, .unset] [(.int (8 : Int32))])) rfl (hb hby at_2) rfl (by decide) (cap := 8) (by decide) (by decide) (by decide) (by decide)
  obtain ⟨b2, g2⟩ : ∃ z, z = h0.size := ⟨_, rfl⟩
  rw [← g2] at A2 st2
  have g_b2 : n0 ≤ b2 := Nat.le_trans Z0 (Nat.le_of_eq g2.symm)
  have ZS2 : n0 ≤ h2.size := Nat.le_trans Z0 E2.1
  have V_b2 : Arv Z h2 b2 k2 .int (8 : Int32) [(.int (0 : Int32)), (.int (0 : Int32)), (.int (0 : Int32)), (.int (0 : Int32)), (.int (0 : Int32)), (.int (0 : Int32)), (.int (0 : Int32)), (.int (0 : Int32))] (.int (0 : Int32)) := (Arv.new A2 (by decide)).pad (pad_rep [] (.int (0 : Int32)) 8)
  have pre4 : ∀ t, Steps p.tables e below (T2.setTop (mkF m 4 #[.val (.int p0), .val (.int p1), .unset, .unset, .unset, .unset, .unset] [(.ref b2)])) t → Steps p.tables e below (s₁.setTop (entryFrame m #[(.int p0), (.int p1)] maxLocals)) t := fun t k => pre2 t (st2 _ k)
  have pre8 : ∀ t, Steps p.tables e below (T2.setTop (mkF m 8 #[.val (.int p0), .val (.int p1), .unset, .unset, .unset, .unset, .unset] [(.int (32 : Int32)), (.int (0 : Int32)), (.ref b2), (.ref b2)])) t → Steps p.tables e below (s₁.setTop (entryFrame m #[(.int p0), (.int p1)] maxLocals)) t := fun t k => pre4 t (by
    show Steps p.tables e below (T2.setTop (mkF m 4 #[.val (.int p0), .val (.int p1), .unset, .unset, .unset, .unset, .unset] [(.ref b2)])) t
    refine XS.dup X2.here hx rfl (hb hby at_4) rfl rfl ?_
    show Steps p.tables e below (T2.setTop (mkF m 5 #[.val (.int p0), .val (.int p1), .unset, .unset, .unset, .unset, .unset] [(.ref b2), (.ref b2)])) _
    refine XS.iconst X2.here hx rfl (hb hby at_5) ?_
    show Steps p.tables e below (T2.setTop (mkF m 6 #[.val (.int p0), .val (.int p1), .unset, .unset, .unset, .unset, .unset] [(.int (0 : Int32)), (.ref b2), (.ref b2)])) _
    refine XS.bipush X2.here hx rfl (hb hby at_6) ?_
    show Steps p.tables e below (T2.setTop (mkF m 8 #[.val (.int p0), .val (.int p1), .unset, .unset, .unset, .unset, .unset] [(.int (32 : Int32)), (.int (0 : Int32)), (.ref b2), (.ref b2)])) _
    exact k)
  obtain ⟨cl8, Ar8, qc8, Sz8, Nn8, Hs8, Gs8⟩ := V_b2
  have hin8 : ¬ ((0 : Int32) < 0 ∨ cl8.slots.size ≤ ((0 : Int32)).toNatClampNeg) := inb_of Sz8 ⟨by decide, by decide⟩
  obtain ⟨T8, h8, X8, e8, W8, st8⟩ := stI X2 hx hZ e2 Ar8 (j := (0 : Int32)) hin8 (g := (mkF m 8 #[.val (.int p0), .val (.int p1), .unset, .unset, .unset, .unset, .unset] [(.int (32 : Int32)), (.int (0 : Int32)), (.ref b2), (.ref b2)])) rfl rfl (hb hby at_8)
  have V_b2_8 : Arv Z h8 b2 k2 .int (8 : Int32) [(.int (32 : Int32)), (.int (0 : Int32)), (.int (0 : Int32)), (.int (0 : Int32)), (.int (0 : Int32)), (.int (0 : Int32)), (.int (0 : Int32)), (.int (0 : Int32))] (.int (0 : Int32)) := Arv.set Ar8 qc8 Sz8 Nn8 Hs8 Gs8 rfl W8 0 rfl (Nat.le_of_ble_eq_true rfl)
  have N8 := Fr.snoc X8 N0 g_b2
  have ZS8 : n0 ≤ h8.size := Nat.le_trans ZS2 (Keep.of_wr W8).1
  have pre9 : ∀ t, Steps p.tables e below (T8.setTop (mkF m 9 #[.val (.int p0), .val (.int p1), .unset, .unset, .unset, .unset, .unset] [(.ref b2)])) t → Steps p.tables e below (s₁.setTop (entryFrame m #[(.int p0), (.int p1)] maxLocals)) t := fun t k => pre8 t (st8 _ k)
  have pre13 : ∀ t, Steps p.tables e below (T8.setTop (mkF m 13 #[.val (.int p0), .val (.int p1), .unset, .unset, .unset, .unset, .unset] [(.int (9 : Int32)), (.int (1 : Int32)), (.ref b2), (.ref b2)])) t → Steps p.tables e below (s₁.setTop (entryFrame m #[(.int p0), (.int p1)] maxLocals)) t := fun t k => pre9 t (by
    show Steps p.tables e below (T8.setTop (mkF m 9 #[.val (.int p0), .val (.int p1), .unset, .unset, .unset, .unset, .unset] [(.ref b2)])) t
    refine XS.dup X8.here hx rfl (hb hby at_9) rfl rfl ?_
    show Steps p.tables e below (T8.setTop (mkF m 10 #[.val (.int p0), .val (.int p1), .unset, .unset, .unset, .unset, .unset] [(.ref b2), (.ref b2)])) _
    refine XS.iconst X8.here hx rfl (hb hby at_10) ?_
    show Steps p.tables e below (T8.setTop (mkF m 11 #[.val (.int p0), .val (.int p1), .unset, .unset, .unset, .unset, .unset] [(.int (1 : Int32)), (.ref b2), (.ref b2)])) _
    refine XS.bipush X8.here hx rfl (hb hby at_11) ?_
    show Steps p.tables e below (T8.setTop (mkF m 13 #[.val (.int p0), .val (.int p1), .unset, .unset, .unset, .unset, .unset] [(.int (9 : Int32)), (.int (1 : Int32)), (.ref b2), (.ref b2)])) _
    exact k)
  obtain ⟨cl13, Ar13, qc13, Sz13, Nn13, Hs13, Gs13⟩ := V_b2_8
  have hin13 : ¬ ((1 : Int32) < 0 ∨ cl13.slots.size ≤ ((1 : Int32)).toNatClampNeg) := inb_of Sz13 ⟨by decide, by decide⟩
  obtain ⟨T13, h13, X13, e13, W13, st13⟩ := stI X8 hx hZ e8 Ar13 (j := (1 : Int32)) hin13 (g := (mkF m 13 #[.val (.int p0), .val (.int p1), .unset, .unset, .unset, .unset, .unset] [(.int (9 : Int32)), (.int (1 : Int32)), (.ref b2), (.ref b2)])) rfl rfl (hb hby at_13)
  have V_b2_13 : Arv Z h13 b2 k2 .int (8 : Int32) [(.int (32 : Int32)), (.int (9 : Int32)), (.int (0 : Int32)), (.int (0 : Int32)), (.int (0 : Int32)), (.int (0 : Int32)), (.int (0 : Int32)), (.int (0 : Int32))] (.int (0 : Int32)) := Arv.set Ar13 qc13 Sz13 Nn13 Hs13 Gs13 rfl W13 1 rfl (Nat.le_of_ble_eq_true rfl)
  have N13 := Fr.snoc X13 N8 g_b2
  have ZS13 : n0 ≤ h13.size := Nat.le_trans ZS8 (Keep.of_wr W13).1
  have pre14 : ∀ t, Steps p.tables e below (T13.setTop (mkF m 14 #[.val (.int p0), .val (.int p1), .unset, .unset, .unset, .unset, .unset] [(.ref b2)])) t → Steps p.tables e below (s₁.setTop (entryFrame m #[(.int p0), (.int p1)] maxLocals)) t := fun t k => pre13 t (st13 _ k)
  have pre18 : ∀ t, Steps p.tables e below (T13.setTop (mkF m 18 #[.val (.int p0), .val (.int p1), .unset, .unset, .unset, .unset, .unset] [(.int (13 : Int32)), (.int (2 : Int32)), (.ref b2), (.ref b2)])) t → Steps p.tables e below (s₁.setTop (entryFrame m #[(.int p0), (.int p1)] maxLocals)) t := fun t k => pre14 t (by
    show Steps p.tables e below (T13.setTop (mkF m 14 #[.val (.int p0), .val (.int p1), .unset, .unset, .unset, .unset, .unset] [(.ref b2)])) t
    refine XS.dup X13.here hx rfl (hb hby at_14) rfl rfl ?_
    show Steps p.tables e below (T13.setTop (mkF m 15 #[.val (.int p0), .val (.int p1), .unset, .unset, .unset, .unset, .unset] [(.ref b2), (.ref b2)])) _
    refine XS.iconst X13.here hx rfl (hb hby at_15) ?_
    show Steps p.tables e below (T13.setTop (mkF m 16 #[.val (.int p0), .val (.int p1), .unset, .unset, .unset, .unset, .unset] [(.int (2 : Int32)), (.ref b2), (.ref b2)])) _
    refine XS.bipush X13.here hx rfl (hb hby at_16) ?_
    show Steps p.tables e below (T13.setTop (mkF m 18 #[.val (.int p0), .val (.int p1), .unset, .unset, .unset, .unset, .unset] [(.int (13 : Int32)), (.int (2 : Int32)), (.ref b2), (.ref b2)])) _
    exact k)
  obtain ⟨cl18, Ar18, qc18, Sz18, Nn18, Hs18, Gs18⟩ := V_b2_13
  have hin18 : ¬ ((2 : Int32) < 0 ∨ cl18.slots.size ≤ ((2 : Int32)).toNatClampNeg) := inb_of Sz18 ⟨by decide, by decide⟩
  obtain ⟨T18, h18, X18, e18, W18, st18⟩ := stI X13 hx hZ e13 Ar18 (j := (2 : Int32)) hin18 (g := (mkF m 18 #[.val (.int p0), .val (.int p1), .unset, .unset, .unset, .unset, .unset] [(.int (13 : Int32)), (.int (2 : Int32)), (.ref b2), (.ref b2)])) rfl rfl (hb hby at_18)
  have V_b2_18 : Arv Z h18 b2 k2 .int (8 : Int32) [(.int (32 : Int32)), (.int (9 : Int32)), (.int (13 : Int32)), (.int (0 : Int32)), (.int (0 : Int32)), (.int (0 : Int32)), (.int (0 : Int32)), (.int (0 : Int32))] (.int (0 : Int32)) := Arv.set Ar18 qc18 Sz18 Nn18 Hs18 Gs18 rfl W18 2 rfl (Nat.le_of_ble_eq_true rfl)
  have N18 := Fr.snoc X18 N13 g_b2
  have ZS18 : n0 ≤ h18.size := Nat.le_trans ZS13 (Keep.of_wr W18).1
  have pre19 : ∀ t, Steps p.tables e below (T18.setTop (mkF m 19 #[.val (.int p0), .val (.int p1), .unset, .unset, .unset, .unset, .unset] [(.ref b2)])) t → Steps p.tables e below (s₁.setTop (entryFrame m #[(.int p0), (.int p1)] maxLocals)) t := fun t k => pre18 t (st18 _ k)
  have pre23 : ∀ t, Steps p.tables e below (T18.setTop (mkF m 23 #[.val (.int p0), .val (.int p1), .unset, .unset, .unset, .unset, .unset] [(.int (12 : Int32)), (.int (3 : Int32)), (.ref b2), (.ref b2)])) t → Steps p.tables e below (s₁.setTop (entryFrame m #[(.int p0), (.int p1)] maxLocals)) t := fun t k => pre19 t (by
    show Steps p.tables e below (T18.setTop (mkF m 19 #[.val (.int p0), .val (.int p1), .unset, .unset, .unset, .unset, .unset] [(.ref b2)])) t
    refine XS.dup X18.here hx rfl (hb hby at_19) rfl rfl ?_
    show Steps p.tables e below (T18.setTop (mkF m 20 #[.val (.int p0), .val (.int p1), .unset, .unset, .unset, .unset, .unset] [(.ref b2), (.ref b2)])) _
    refine XS.iconst X18.here hx rfl (hb hby at_20) ?_
    show Steps p.tables e below (T18.setTop (mkF m 21 #[.val (.int p0), .val (.int p1), .unset, .unset, .unset, .unset, .unset] [(.int (3 : Int32)), (.ref b2), (.ref b2)])) _
    refine XS.bipush X18.here hx rfl (hb hby at_21) ?_
    show Steps p.tables e below (T18.setTop (mkF m 23 #[.val (.int p0), .val (.int p1), .unset, .unset, .unset, .unset, .unset] [(.int (12 : Int32)), (.int (3 : Int32)), (.ref b2), (.ref b2)])) _
    exact k)
  obtain ⟨cl23, Ar23, qc23, Sz23, Nn23, Hs23, Gs23⟩ := V_b2_18
  have hin23 : ¬ ((3 : Int32) < 0 ∨ cl23.slots.size ≤ ((3 : Int32)).toNatClampNeg) := inb_of Sz23 ⟨by decide, by decide⟩
  obtain ⟨T23, h23, X23, e23, W23, st23⟩ := stI X18 hx hZ e18 Ar23 (j := (3 : Int32)) hin23 (g := (mkF m 23 #[.val (.int p0), .val (.int p1), .unset, .unset, .unset, .unset, .unset] [(.int (12 : Int32)), (.int (3 : Int32)), (.ref b2), (.ref b2)])) rfl rfl (hb hby at_23)
  have V_b2_23 : Arv Z h23 b2 k2 .int (8 : Int32) [(.int (32 : Int32)), (.int (9 : Int32)), (.int (13 : Int32)), (.int (12 : Int32)), (.int (0 : Int32)), (.int (0 : Int32)), (.int (0 : Int32)), (.int (0 : Int32))] (.int (0 : Int32)) := Arv.set Ar23 qc23 Sz23 Nn23 Hs23 Gs23 rfl W23 3 rfl (Nat.le_of_ble_eq_true rfl)
  have N23 := Fr.snoc X23 N18 g_b2
  have ZS23 : n0 ≤ h23.size := Nat.le_trans ZS18 (Keep.of_wr W23).1
  have pre24 : ∀ t, Steps p.tables e below (T23.setTop (mkF m 24 #[.val (.int p0), .val (.int p1), .unset, .unset, .unset, .unset, .unset] [(.ref b2)])) t → Steps p.tables e below (s₁.setTop (entryFrame m #[(.int p0), (.int p1)] maxLocals)) t := fun t k => pre23 t (st23 _ k)
  have pre28 : ∀ t, Steps p.tables e below (T23.setTop (mkF m 28 #[.val (.int p0), .val (.int p1), .unset, .unset, .unset, .unset, .unset] [(.int (10 : Int32)), (.int (4 : Int32)), (.ref b2), (.ref b2)])) t → Steps p.tables e below (s₁.setTop (entryFrame m #[(.int p0), (.int p1)] maxLocals)) t := fun t k => pre24 t (by
    show Steps p.tables e below (T23.setTop (mkF m 24 #[.val (.int p0), .val (.int p1), .unset, .unset, .unset, .unset, .unset] [(.ref b2)])) t
    refine XS.dup X23.here hx rfl (hb hby at_24) rfl rfl ?_
    show Steps p.tables e below (T23.setTop (mkF m 25 #[.val (.int p0), .val (.int p1), .unset, .unset, .unset, .unset, .unset] [(.ref b2), (.ref b2)])) _
    refine XS.iconst X23.here hx rfl (hb hby at_25) ?_
    show Steps p.tables e below (T23.setTop (mkF m 26 #[.val (.int p0), .val (.int p1), .unset, .unset, .unset, .unset, .unset] [(.int (4 : Int32)), (.ref b2), (.ref b2)])) _
    refine XS.bipush X23.here hx rfl (hb hby at_26) ?_
    show Steps p.tables e below (T23.setTop (mkF m 28 #[.val (.int p0), .val (.int p1), .unset, .unset, .unset, .unset, .unset] [(.int (10 : Int32)), (.int (4 : Int32)), (.ref b2), (.ref b2)])) _
    exact k)
  obtain ⟨cl28, Ar28, qc28, Sz28, Nn28, Hs28, Gs28⟩ := V_b2_23
  have hin28 : ¬ ((4 : Int32) < 0 ∨ cl28.slots.size ≤ ((4 : Int32)).toNatClampNeg) := inb_of Sz28 ⟨by decide, by decide⟩
  obtain ⟨T28, h28, X28, e28, W28, st28⟩ := stI X23 hx hZ e23 Ar28 (j := (4 : Int32)) hin28 (g := (mkF m 28 #[.val (.int p0), .val (.int p1), .unset, .unset, .unset, .unset, .unset] [(.int (10 : Int32)), (.int (4 : Int32)), (.ref b2), (.ref b2)])) rfl rfl (hb hby at_28)
  have V_b2_28 : Arv Z h28 b2 k2 .int (8 : Int32) [(.int (32 : Int32)), (.int (9 : Int32)), (.int (13 : Int32)), (.int (12 : Int32)), (.int (10 : Int32)), (.int (0 : Int32)), (.int (0 : Int32)), (.int (0 : Int32))] (.int (0 : Int32)) := Arv.set Ar28 qc28 Sz28 Nn28 Hs28 Gs28 rfl W28 4 rfl (Nat.le_of_ble_eq_true rfl)
  have N28 := Fr.snoc X28 N23 g_b2
  have ZS28 : n0 ≤ h28.size := Nat.le_trans ZS23 (Keep.of_wr W28).1
  have pre29 : ∀ t, Steps p.tables e below (T28.setTop (mkF m 29 #[.val (.int p0), .val (.int p1), .unset, .unset, .unset, .unset, .unset] [(.ref b2)])) t → Steps p.tables e below (s₁.setTop (entryFrame m #[(.int p0), (.int p1)] maxLocals)) t := fun t k => pre28 t (st28 _ k)
  have pre33 : ∀ t, Steps p.tables e below (T28.setTop (mkF m 33 #[.val (.int p0), .val (.int p1), .unset, .unset, .unset, .unset, .unset] [(.int (11 : Int32)), (.int (5 : Int32)), (.ref b2), (.ref b2)])) t → Steps p.tables e below (s₁.setTop (entryFrame m #[(.int p0), (.int p1)] maxLocals)) t := fun t k => pre29 t (by
    show Steps p.tables e below (T28.setTop (mkF m 29 #[.val (.int p0), .val (.int p1), .unset, .unset, .unset, .unset, .unset] [(.ref b2)])) t
    refine XS.dup X28.here hx rfl (hb hby at_29) rfl rfl ?_
    show Steps p.tables e below (T28.setTop (mkF m 30 #[.val (.int p0), .val (.int p1), .unset, .unset, .unset, .unset, .unset] [(.ref b2), (.ref b2)])) _
    refine XS.iconst X28.here hx rfl (hb hby at_30) ?_
    show Steps p.tables e below (T28.setTop (mkF m 31 #[.val (.int p0), .val (.int p1), .unset, .unset, .unset, .unset, .unset] [(.int (5 : Int32)), (.ref b2), (.ref b2)])) _
    refine XS.bipush X28.here hx rfl (hb hby at_31) ?_
    show Steps p.tables e below (T28.setTop (mkF m 33 #[.val (.int p0), .val (.int p1), .unset, .unset, .unset, .unset, .unset] [(.int (11 : Int32)), (.int (5 : Int32)), (.ref b2), (.ref b2)])) _
    exact k)
  obtain ⟨cl33, Ar33, qc33, Sz33, Nn33, Hs33, Gs33⟩ := V_b2_28
  have hin33 : ¬ ((5 : Int32) < 0 ∨ cl33.slots.size ≤ ((5 : Int32)).toNatClampNeg) := inb_of Sz33 ⟨by decide, by decide⟩
  obtain ⟨T33, h33, X33, e33, W33, st33⟩ := stI X28 hx hZ e28 Ar33 (j := (5 : Int32)) hin33 (g := (mkF m 33 #[.val (.int p0), .val (.int p1), .unset, .unset, .unset, .unset, .unset] [(.int (11 : Int32)), (.int (5 : Int32)), (.ref b2), (.ref b2)])) rfl rfl (hb hby at_33)
  have V_b2_33 : Arv Z h33 b2 k2 .int (8 : Int32) [(.int (32 : Int32)), (.int (9 : Int32)), (.int (13 : Int32)), (.int (12 : Int32)), (.int (10 : Int32)), (.int (11 : Int32)), (.int (0 : Int32)), (.int (0 : Int32))] (.int (0 : Int32)) := Arv.set Ar33 qc33 Sz33 Nn33 Hs33 Gs33 rfl W33 5 rfl (Nat.le_of_ble_eq_true rfl)
  have N33 := Fr.snoc X33 N28 g_b2
  have ZS33 : n0 ≤ h33.size := Nat.le_trans ZS28 (Keep.of_wr W33).1
  have pre34 : ∀ t, Steps p.tables e below (T33.setTop (mkF m 34 #[.val (.int p0), .val (.int p1), .unset, .unset, .unset, .unset, .unset] [(.ref b2)])) t → Steps p.tables e below (s₁.setTop (entryFrame m #[(.int p0), (.int p1)] maxLocals)) t := fun t k => pre33 t (st33 _ k)
  have pre38 : ∀ t, Steps p.tables e below (T33.setTop (mkF m 38 #[.val (.int p0), .val (.int p1), .unset, .unset, .unset, .unset, .unset] [(.int (0 : Int32)), (.int (6 : Int32)), (.ref b2), (.ref b2)])) t → Steps p.tables e below (s₁.setTop (entryFrame m #[(.int p0), (.int p1)] maxLocals)) t := fun t k => pre34 t (by
    show Steps p.tables e below (T33.setTop (mkF m 34 #[.val (.int p0), .val (.int p1), .unset, .unset, .unset, .unset, .unset] [(.ref b2)])) t
    refine XS.dup X33.here hx rfl (hb hby at_34) rfl rfl ?_
    show Steps p.tables e below (T33.setTop (mkF m 35 #[.val (.int p0), .val (.int p1), .unset, .unset, .unset, .unset, .unset] [(.ref b2), (.ref b2)])) _
    refine XS.bipush X33.here hx rfl (hb hby at_35) ?_
    show Steps p.tables e below (T33.setTop (mkF m 37 #[.val (.int p0), .val (.int p1), .unset, .unset, .unset, .unset, .unset] [(.int (6 : Int32)), (.ref b2), (.ref b2)])) _
    refine XS.iconst X33.here hx rfl (hb hby at_37) ?_
    show Steps p.tables e below (T33.setTop (mkF m 38 #[.val (.int p0), .val (.int p1), .unset, .unset, .unset, .unset, .unset] [(.int (0 : Int32)), (.int (6 : Int32)), (.ref b2), (.ref b2)])) _
    exact k)
  obtain ⟨cl38, Ar38, qc38, Sz38, Nn38, Hs38, Gs38⟩ := V_b2_33
  have hin38 : ¬ ((6 : Int32) < 0 ∨ cl38.slots.size ≤ ((6 : Int32)).toNatClampNeg) := inb_of Sz38 ⟨by decide, by decide⟩
  obtain ⟨T38, h38, X38, e38, W38, st38⟩ := stI X33 hx hZ e33 Ar38 (j := (6 : Int32)) hin38 (g := (mkF m 38 #[.val (.int p0), .val (.int p1), .unset, .unset, .unset, .unset, .unset] [(.int (0 : Int32)), (.int (6 : Int32)), (.ref b2), (.ref b2)])) rfl rfl (hb hby at_38)
  have V_b2_38 : Arv Z h38 b2 k2 .int (8 : Int32) [(.int (32 : Int32)), (.int (9 : Int32)), (.int (13 : Int32)), (.int (12 : Int32)), (.int (10 : Int32)), (.int (11 : Int32)), (.int (0 : Int32)), (.int (0 : Int32))] (.int (0 : Int32)) := Arv.set Ar38 qc38 Sz38 Nn38 Hs38 Gs38 rfl W38 6 rfl (Nat.le_of_ble_eq_true rfl)
  have N38 := Fr.snoc X38 N33 g_b2
  have ZS38 : n0 ≤ h38.size := Nat.le_trans ZS33 (Keep.of_wr W38).1
  have pre39 : ∀ t, Steps p.tables e below (T38.setTop (mkF m 39 #[.val (.int p0), .val (.int p1), .unset, .unset, .unset, .unset, .unset] [(.ref b2)])) t → Steps p.tables e below (s₁.setTop (entryFrame m #[(.int p0), (.int p1)] maxLocals)) t := fun t k => pre38 t (st38 _ k)
  have pre45 : ∀ t, Steps p.tables e below (T38.setTop (mkF m 45 #[.val (.int p0), .val (.int p1), .unset, .unset, .unset, .unset, .unset] [(.int (160 : Int32)), (.int (7 : Int32)), (.ref b2), (.ref b2)])) t → Steps p.tables e below (s₁.setTop (entryFrame m #[(.int p0), (.int p1)] maxLocals)) t := fun t k => pre39 t (by
    show Steps p.tables e below (T38.setTop (mkF m 39 #[.val (.int p0), .val (.int p1), .unset, .unset, .unset, .unset, .unset] [(.ref b2)])) t
    refine XS.dup X38.here hx rfl (hb hby at_39) rfl rfl ?_
    show Steps p.tables e below (T38.setTop (mkF m 40 #[.val (.int p0), .val (.int p1), .unset, .unset, .unset, .unset, .unset] [(.ref b2), (.ref b2)])) _
    refine XS.bipush X38.here hx rfl (hb hby at_40) ?_
    show Steps p.tables e below (T38.setTop (mkF m 42 #[.val (.int p0), .val (.int p1), .unset, .unset, .unset, .unset, .unset] [(.int (7 : Int32)), (.ref b2), (.ref b2)])) _
    refine XS.sipush X38.here hx rfl (hb hby at_42) ?_
    show Steps p.tables e below (T38.setTop (mkF m 45 #[.val (.int p0), .val (.int p1), .unset, .unset, .unset, .unset, .unset] [(.int (160 : Int32)), (.int (7 : Int32)), (.ref b2), (.ref b2)])) _
    exact k)
  obtain ⟨cl45, Ar45, qc45, Sz45, Nn45, Hs45, Gs45⟩ := V_b2_38
  have hin45 : ¬ ((7 : Int32) < 0 ∨ cl45.slots.size ≤ ((7 : Int32)).toNatClampNeg) := inb_of Sz45 ⟨by decide, by decide⟩
  obtain ⟨T45, h45, X45, e45, W45, st45⟩ := stI X38 hx hZ e38 Ar45 (j := (7 : Int32)) hin45 (g := (mkF m 45 #[.val (.int p0), .val (.int p1), .unset, .unset, .unset, .unset, .unset] [(.int (160 : Int32)), (.int (7 : Int32)), (.ref b2), (.ref b2)])) rfl rfl (hb hby at_45)
  have V_b2_45 : Arv Z h45 b2 k2 .int (8 : Int32) [(.int (32 : Int32)), (.int (9 : Int32)), (.int (13 : Int32)), (.int (12 : Int32)), (.int (10 : Int32)), (.int (11 : Int32)), (.int (0 : Int32)), (.int (160 : Int32))] (.int (0 : Int32)) := Arv.set Ar45 qc45 Sz45 Nn45 Hs45 Gs45 rfl W45 7 rfl (Nat.le_of_ble_eq_true rfl)
  have N45 := Fr.snoc X45 N38 g_b2
  have ZS45 : n0 ≤ h45.size := Nat.le_trans ZS38 (Keep.of_wr W45).1
  have pre46 : ∀ t, Steps p.tables e below (T45.setTop (mkF m 46 #[.val (.int p0), .val (.int p1), .unset, .unset, .unset, .unset, .unset] [(.ref b2)])) t → Steps p.tables e below (s₁.setTop (entryFrame m #[(.int p0), (.int p1)] maxLocals)) t := fun t k => pre45 t (st45 _ k)
  have pre49 : ∀ t, Steps p.tables e below (T45.setTop (mkF m 49 #[.val (.int p0), .val (.int p1), .val (.ref b2), .unset, .unset, .unset, .unset] [(.int (8 : Int32))])) t → Steps p.tables e below (s₁.setTop (entryFrame m #[(.int p0), (.int p1)] maxLocals)) t := fun t k => pre46 t (by
    show Steps p.tables e below (T45.setTop (mkF m 46 #[.val (.int p0), .val (.int p1), .unset, .unset, .unset, .unset, .unset] [(.ref b2)])) t
    refine XS.astoreN X45.here hx rfl (hb hby at_46) rfl rfl (l' := #[.val (.int p0), .val (.int p1), .val (.ref b2), .unset, .unset, .unset, .unset]) rfl ?_
    show Steps p.tables e below (T45.setTop (mkF m 47 #[.val (.int p0), .val (.int p1), .val (.ref b2), .unset, .unset, .unset, .unset] [])) _
    refine XS.bipush X45.here hx rfl (hb hby at_47) ?_
    show Steps p.tables e below (T45.setTop (mkF m 49 #[.val (.int p0), .val (.int p1), .val (.ref b2), .unset, .unset, .unset, .unset] [(.int (8 : Int32))])) _
    exact k)
  obtain ⟨T49, h49, k49, X49, e49, E49, A49, st49⟩ := newP X45 hx hZ (hw _ (List.mem_of_getElem? (i := 1) rfl)) e45 (g := (mkF m 49 #[.val (.int p0), .val (.int p1), .val (.ref b2), .unset, .unset, .unset, .unset] [(.int (8 : Int32))])) rfl (hb hby at_49) rfl (by decide) (cap := 8) (by decide) (by decide) (by decide) (by decide)
  obtain ⟨b49, g49⟩ : ∃ z, z = h45.size := ⟨_, rfl⟩
  rw [← g49] at A49 st49
  have g_b49 : n0 ≤ b49 := Nat.le_trans ZS45 (Nat.le_of_eq g49.symm)
  have ZS49 : n0 ≤ h49.size := Nat.le_trans ZS45 E49.1
  have ne_b2_b49 : b2 ≠ b49 := Nat.ne_of_lt (Nat.lt_of_lt_of_le (V_b2_45).lt (Nat.le_of_eq g49.symm))
  have V_b2_45_c49 := Arv.ext V_b2_45 E49
  have V_b49 : Arv Z h49 b49 k49 .boolean (8 : Int32) [(.int (0 : Int32)), (.int (0 : Int32)), (.int (0 : Int32)), (.int (0 : Int32)), (.int (0 : Int32)), (.int (0 : Int32)), (.int (0 : Int32)), (.int (0 : Int32))] (.int (0 : Int32)) := (Arv.new A49 (by decide)).pad (pad_rep [] (.int (0 : Int32)) 8)
  have pre51 : ∀ t, Steps p.tables e below (T49.setTop (mkF m 51 #[.val (.int p0), .val (.int p1), .val (.ref b2), .unset, .unset, .unset, .unset] [(.ref b49)])) t → Steps p.tables e below (s₁.setTop (entryFrame m #[(.int p0), (.int p1)] maxLocals)) t := fun t k => pre49 t (st49 _ k)
  have pre54 : ∀ t, Steps p.tables e below (T49.setTop (mkF m 54 #[.val (.int p0), .val (.int p1), .val (.ref b2), .unset, .unset, .unset, .unset] [(.int (1 : Int32)), (.int (0 : Int32)), (.ref b49), (.ref b49)])) t → Steps p.tables e below (s₁.setTop (entryFrame m #[(.int p0), (.int p1)] maxLocals)) t := fun t k => pre51 t (by
    show Steps p.tables e below (T49.setTop (mkF m 51 #[.val (.int p0), .val (.int p1), .val (.ref b2), .unset, .unset, .unset, .unset] [(.ref b49)])) t
    refine XS.dup X49.here hx rfl (hb hby at_51) rfl rfl ?_
    show Steps p.tables e below (T49.setTop (mkF m 52 #[.val (.int p0), .val (.int p1), .val (.ref b2), .unset, .unset, .unset, .unset] [(.ref b49), (.ref b49)])) _
    refine XS.iconst X49.here hx rfl (hb hby at_52) ?_
    show Steps p.tables e below (T49.setTop (mkF m 53 #[.val (.int p0), .val (.int p1), .val (.ref b2), .unset, .unset, .unset, .unset] [(.int (0 : Int32)), (.ref b49), (.ref b49)])) _
    refine XS.iconst X49.here hx rfl (hb hby at_53) ?_
    show Steps p.tables e below (T49.setTop (mkF m 54 #[.val (.int p0), .val (.int p1), .val (.ref b2), .unset, .unset, .unset, .unset] [(.int (1 : Int32)), (.int (0 : Int32)), (.ref b49), (.ref b49)])) _
    exact k)
  obtain ⟨cl54, Ar54, qc54, Sz54, Nn54, Hs54, Gs54⟩ := V_b49
  have hin54 : ¬ ((0 : Int32) < 0 ∨ cl54.slots.size ≤ ((0 : Int32)).toNatClampNeg) := inb_of Sz54 ⟨by decide, by decide⟩
  obtain ⟨T54, h54, X54, e54, W54, st54⟩ := stZ X49 hx hZ e49 Ar54 (j := (0 : Int32)) hin54 (g := (mkF m 54 #[.val (.int p0), .val (.int p1), .val (.ref b2), .unset, .unset, .unset, .unset] [(.int (1 : Int32)), (.int (0 : Int32)), (.ref b49), (.ref b49)])) rfl rfl (hb hby at_54)
  have V_b2_45_c54 := Arv.other V_b2_45_c49 W54 ne_b2_b49
  have V_b49_54 : Arv Z h54 b49 k49 .boolean (8 : Int32) [(.int (1 : Int32)), (.int (0 : Int32)), (.int (0 : Int32)), (.int (0 : Int32)), (.int (0 : Int32)), (.int (0 : Int32)), (.int (0 : Int32)), (.int (0 : Int32))] (.int (0 : Int32)) := Arv.set Ar54 qc54 Sz54 Nn54 Hs54 Gs54 (fits_nar_bool _) W54 0 rfl (Nat.le_of_ble_eq_true rfl)
  have N54 := Fr.snoc X54 N45 g_b49
  have ZS54 : n0 ≤ h54.size := Nat.le_trans ZS49 (Keep.of_wr W54).1
  have pre55 : ∀ t, Steps p.tables e below (T54.setTop (mkF m 55 #[.val (.int p0), .val (.int p1), .val (.ref b2), .unset, .unset, .unset, .unset] [(.ref b49)])) t → Steps p.tables e below (s₁.setTop (entryFrame m #[(.int p0), (.int p1)] maxLocals)) t := fun t k => pre54 t (st54 _ k)
  have pre58 : ∀ t, Steps p.tables e below (T54.setTop (mkF m 58 #[.val (.int p0), .val (.int p1), .val (.ref b2), .unset, .unset, .unset, .unset] [(.int (1 : Int32)), (.int (1 : Int32)), (.ref b49), (.ref b49)])) t → Steps p.tables e below (s₁.setTop (entryFrame m #[(.int p0), (.int p1)] maxLocals)) t := fun t k => pre55 t (by
    show Steps p.tables e below (T54.setTop (mkF m 55 #[.val (.int p0), .val (.int p1), .val (.ref b2), .unset, .unset, .unset, .unset] [(.ref b49)])) t
    refine XS.dup X54.here hx rfl (hb hby at_55) rfl rfl ?_
    show Steps p.tables e below (T54.setTop (mkF m 56 #[.val (.int p0), .val (.int p1), .val (.ref b2), .unset, .unset, .unset, .unset] [(.ref b49), (.ref b49)])) _
    refine XS.iconst X54.here hx rfl (hb hby at_56) ?_
    show Steps p.tables e below (T54.setTop (mkF m 57 #[.val (.int p0), .val (.int p1), .val (.ref b2), .unset, .unset, .unset, .unset] [(.int (1 : Int32)), (.ref b49), (.ref b49)])) _
    refine XS.iconst X54.here hx rfl (hb hby at_57) ?_
    show Steps p.tables e below (T54.setTop (mkF m 58 #[.val (.int p0), .val (.int p1), .val (.ref b2), .unset, .unset, .unset, .unset] [(.int (1 : Int32)), (.int (1 : Int32)), (.ref b49), (.ref b49)])) _
    exact k)
  obtain ⟨cl58, Ar58, qc58, Sz58, Nn58, Hs58, Gs58⟩ := V_b49_54
  have hin58 : ¬ ((1 : Int32) < 0 ∨ cl58.slots.size ≤ ((1 : Int32)).toNatClampNeg) := inb_of Sz58 ⟨by decide, by decide⟩
  obtain ⟨T58, h58, X58, e58, W58, st58⟩ := stZ X54 hx hZ e54 Ar58 (j := (1 : Int32)) hin58 (g := (mkF m 58 #[.val (.int p0), .val (.int p1), .val (.ref b2), .unset, .unset, .unset, .unset] [(.int (1 : Int32)), (.int (1 : Int32)), (.ref b49), (.ref b49)])) rfl rfl (hb hby at_58)
  have V_b2_45_c58 := Arv.other V_b2_45_c54 W58 ne_b2_b49
  have V_b49_58 : Arv Z h58 b49 k49 .boolean (8 : Int32) [(.int (1 : Int32)), (.int (1 : Int32)), (.int (0 : Int32)), (.int (0 : Int32)), (.int (0 : Int32)), (.int (0 : Int32)), (.int (0 : Int32)), (.int (0 : Int32))] (.int (0 : Int32)) := Arv.set Ar58 qc58 Sz58 Nn58 Hs58 Gs58 (fits_nar_bool _) W58 1 rfl (Nat.le_of_ble_eq_true rfl)
  have N58 := Fr.snoc X58 N54 g_b49
  have ZS58 : n0 ≤ h58.size := Nat.le_trans ZS54 (Keep.of_wr W58).1
  have pre59 : ∀ t, Steps p.tables e below (T58.setTop (mkF m 59 #[.val (.int p0), .val (.int p1), .val (.ref b2), .unset, .unset, .unset, .unset] [(.ref b49)])) t → Steps p.tables e below (s₁.setTop (entryFrame m #[(.int p0), (.int p1)] maxLocals)) t := fun t k => pre58 t (st58 _ k)
  have pre62 : ∀ t, Steps p.tables e below (T58.setTop (mkF m 62 #[.val (.int p0), .val (.int p1), .val (.ref b2), .unset, .unset, .unset, .unset] [(.int (1 : Int32)), (.int (2 : Int32)), (.ref b49), (.ref b49)])) t → Steps p.tables e below (s₁.setTop (entryFrame m #[(.int p0), (.int p1)] maxLocals)) t := fun t k => pre59 t (by
    show Steps p.tables e below (T58.setTop (mkF m 59 #[.val (.int p0), .val (.int p1), .val (.ref b2), .unset, .unset, .unset, .unset] [(.ref b49)])) t
    refine XS.dup X58.here hx rfl (hb hby at_59) rfl rfl ?_
    show Steps p.tables e below (T58.setTop (mkF m 60 #[.val (.int p0), .val (.int p1), .val (.ref b2), .unset, .unset, .unset, .unset] [(.ref b49), (.ref b49)])) _
    refine XS.iconst X58.here hx rfl (hb hby at_60) ?_
    show Steps p.tables e below (T58.setTop (mkF m 61 #[.val (.int p0), .val (.int p1), .val (.ref b2), .unset, .unset, .unset, .unset] [(.int (2 : Int32)), (.ref b49), (.ref b49)])) _
    refine XS.iconst X58.here hx rfl (hb hby at_61) ?_
    show Steps p.tables e below (T58.setTop (mkF m 62 #[.val (.int p0), .val (.int p1), .val (.ref b2), .unset, .unset, .unset, .unset] [(.int (1 : Int32)), (.int (2 : Int32)), (.ref b49), (.ref b49)])) _
    exact k)
  obtain ⟨cl62, Ar62, qc62, Sz62, Nn62, Hs62, Gs62⟩ := V_b49_58
  have hin62 : ¬ ((2 : Int32) < 0 ∨ cl62.slots.size ≤ ((2 : Int32)).toNatClampNeg) := inb_of Sz62 ⟨by decide, by decide⟩
  obtain ⟨T62, h62, X62, e62, W62, st62⟩ := stZ X58 hx hZ e58 Ar62 (j := (2 : Int32)) hin62 (g := (mkF m 62 #[.val (.int p0), .val (.int p1), .val (.ref b2), .unset, .unset, .unset, .unset] [(.int (1 : Int32)), (.int (2 : Int32)), (.ref b49), (.ref b49)])) rfl rfl (hb hby at_62)
  have V_b2_45_c62 := Arv.other V_b2_45_c58 W62 ne_b2_b49
  have V_b49_62 : Arv Z h62 b49 k49 .boolean (8 : Int32) [(.int (1 : Int32)), (.int (1 : Int32)), (.int (1 : Int32)), (.int (0 : Int32)), (.int (0 : Int32)), (.int (0 : Int32)), (.int (0 : Int32)), (.int (0 : Int32))] (.int (0 : Int32)) := Arv.set Ar62 qc62 Sz62 Nn62 Hs62 Gs62 (fits_nar_bool _) W62 2 rfl (Nat.le_of_ble_eq_true rfl)
  have N62 := Fr.snoc X62 N58 g_b49
  have ZS62 : n0 ≤ h62.size := Nat.le_trans ZS58 (Keep.of_wr W62).1
  have pre63 : ∀ t, Steps p.tables e below (T62.setTop (mkF m 63 #[.val (.int p0), .val (.int p1), .val (.ref b2), .unset, .unset, .unset, .unset] [(.ref b49)])) t → Steps p.tables e below (s₁.setTop (entryFrame m #[(.int p0), (.int p1)] maxLocals)) t := fun t k => pre62 t (st62 _ k)
  have pre66 : ∀ t, Steps p.tables e below (T62.setTop (mkF m 66 #[.val (.int p0), .val (.int p1), .val (.ref b2), .unset, .unset, .unset, .unset] [(.int (1 : Int32)), (.int (3 : Int32)), (.ref b49), (.ref b49)])) t → Steps p.tables e below (s₁.setTop (entryFrame m #[(.int p0), (.int p1)] maxLocals)) t := fun t k => pre63 t (by
    show Steps p.tables e below (T62.setTop (mkF m 63 #[.val (.int p0), .val (.int p1), .val (.ref b2), .unset, .unset, .unset, .unset] [(.ref b49)])) t
    refine XS.dup X62.here hx rfl (hb hby at_63) rfl rfl ?_
    show Steps p.tables e below (T62.setTop (mkF m 64 #[.val (.int p0), .val (.int p1), .val (.ref b2), .unset, .unset, .unset, .unset] [(.ref b49), (.ref b49)])) _
    refine XS.iconst X62.here hx rfl (hb hby at_64) ?_
    show Steps p.tables e below (T62.setTop (mkF m 65 #[.val (.int p0), .val (.int p1), .val (.ref b2), .unset, .unset, .unset, .unset] [(.int (3 : Int32)), (.ref b49), (.ref b49)])) _
    refine XS.iconst X62.here hx rfl (hb hby at_65) ?_
    show Steps p.tables e below (T62.setTop (mkF m 66 #[.val (.int p0), .val (.int p1), .val (.ref b2), .unset, .unset, .unset, .unset] [(.int (1 : Int32)), (.int (3 : Int32)), (.ref b49), (.ref b49)])) _
    exact k)
  obtain ⟨cl66, Ar66, qc66, Sz66, Nn66, Hs66, Gs66⟩ := V_b49_62
  have hin66 : ¬ ((3 : Int32) < 0 ∨ cl66.slots.size ≤ ((3 : Int32)).toNatClampNeg) := inb_of Sz66 ⟨by decide, by decide⟩
  obtain ⟨T66, h66, X66, e66, W66, st66⟩ := stZ X62 hx hZ e62 Ar66 (j := (3 : Int32)) hin66 (g := (mkF m 66 #[.val (.int p0), .val (.int p1), .val (.ref b2), .unset, .unset, .unset, .unset] [(.int (1 : Int32)), (.int (3 : Int32)), (.ref b49), (.ref b49)])) rfl rfl (hb hby at_66)
  have V_b2_45_c66 := Arv.other V_b2_45_c62 W66 ne_b2_b49
  have V_b49_66 : Arv Z h66 b49 k49 .boolean (8 : Int32) [(.int (1 : Int32)), (.int (1 : Int32)), (.int (1 : Int32)), (.int (1 : Int32)), (.int (0 : Int32)), (.int (0 : Int32)), (.int (0 : Int32)), (.int (0 : Int32))] (.int (0 : Int32)) := Arv.set Ar66 qc66 Sz66 Nn66 Hs66 Gs66 (fits_nar_bool _) W66 3 rfl (Nat.le_of_ble_eq_true rfl)
  have N66 := Fr.snoc X66 N62 g_b49
  have ZS66 : n0 ≤ h66.size := Nat.le_trans ZS62 (Keep.of_wr W66).1
  have pre67 : ∀ t, Steps p.tables e below (T66.setTop (mkF m 67 #[.val (.int p0), .val (.int p1), .val (.ref b2), .unset, .unset, .unset, .unset] [(.ref b49)])) t → Steps p.tables e below (s₁.setTop (entryFrame m #[(.int p0), (.int p1)] maxLocals)) t := fun t k => pre66 t (st66 _ k)
  have pre70 : ∀ t, Steps p.tables e below (T66.setTop (mkF m 70 #[.val (.int p0), .val (.int p1), .val (.ref b2), .unset, .unset, .unset, .unset] [(.int (0 : Int32)), (.int (4 : Int32)), (.ref b49), (.ref b49)])) t → Steps p.tables e below (s₁.setTop (entryFrame m #[(.int p0), (.int p1)] maxLocals)) t := fun t k => pre67 t (by
    show Steps p.tables e below (T66.setTop (mkF m 67 #[.val (.int p0), .val (.int p1), .val (.ref b2), .unset, .unset, .unset, .unset] [(.ref b49)])) t
    refine XS.dup X66.here hx rfl (hb hby at_67) rfl rfl ?_
    show Steps p.tables e below (T66.setTop (mkF m 68 #[.val (.int p0), .val (.int p1), .val (.ref b2), .unset, .unset, .unset, .unset] [(.ref b49), (.ref b49)])) _
    refine XS.iconst X66.here hx rfl (hb hby at_68) ?_
    show Steps p.tables e below (T66.setTop (mkF m 69 #[.val (.int p0), .val (.int p1), .val (.ref b2), .unset, .unset, .unset, .unset] [(.int (4 : Int32)), (.ref b49), (.ref b49)])) _
    refine XS.iconst X66.here hx rfl (hb hby at_69) ?_
    show Steps p.tables e below (T66.setTop (mkF m 70 #[.val (.int p0), .val (.int p1), .val (.ref b2), .unset, .unset, .unset, .unset] [(.int (0 : Int32)), (.int (4 : Int32)), (.ref b49), (.ref b49)])) _
    exact k)
  obtain ⟨cl70, Ar70, qc70, Sz70, Nn70, Hs70, Gs70⟩ := V_b49_66
  have hin70 : ¬ ((4 : Int32) < 0 ∨ cl70.slots.size ≤ ((4 : Int32)).toNatClampNeg) := inb_of Sz70 ⟨by decide, by decide⟩
  obtain ⟨T70, h70, X70, e70, W70, st70⟩ := stZ X66 hx hZ e66 Ar70 (j := (4 : Int32)) hin70 (g := (mkF m 70 #[.val (.int p0), .val (.int p1), .val (.ref b2), .unset, .unset, .unset, .unset] [(.int (0 : Int32)), (.int (4 : Int32)), (.ref b49), (.ref b49)])) rfl rfl (hb hby at_70)
  have V_b2_45_c70 := Arv.other V_b2_45_c66 W70 ne_b2_b49
  have V_b49_70 : Arv Z h70 b49 k49 .boolean (8 : Int32) [(.int (1 : Int32)), (.int (1 : Int32)), (.int (1 : Int32)), (.int (1 : Int32)), (.int (0 : Int32)), (.int (0 : Int32)), (.int (0 : Int32)), (.int (0 : Int32))] (.int (0 : Int32)) := Arv.set Ar70 qc70 Sz70 Nn70 Hs70 Gs70 (fits_nar_bool _) W70 4 rfl (Nat.le_of_ble_eq_true rfl)
  have N70 := Fr.snoc X70 N66 g_b49
  have ZS70 : n0 ≤ h70.size := Nat.le_trans ZS66 (Keep.of_wr W70).1
  have pre71 : ∀ t, Steps p.tables e below (T70.setTop (mkF m 71 #[.val (.int p0), .val (.int p1), .val (.ref b2), .unset, .unset, .unset, .unset] [(.ref b49)])) t → Steps p.tables e below (s₁.setTop (entryFrame m #[(.int p0), (.int p1)] maxLocals)) t := fun t k => pre70 t (st70 _ k)
  have pre74 : ∀ t, Steps p.tables e below (T70.setTop (mkF m 74 #[.val (.int p0), .val (.int p1), .val (.ref b2), .unset, .unset, .unset, .unset] [(.int (0 : Int32)), (.int (5 : Int32)), (.ref b49), (.ref b49)])) t → Steps p.tables e below (s₁.setTop (entryFrame m #[(.int p0), (.int p1)] maxLocals)) t := fun t k => pre71 t (by
    show Steps p.tables e below (T70.setTop (mkF m 71 #[.val (.int p0), .val (.int p1), .val (.ref b2), .unset, .unset, .unset, .unset] [(.ref b49)])) t
    refine XS.dup X70.here hx rfl (hb hby at_71) rfl rfl ?_
    show Steps p.tables e below (T70.setTop (mkF m 72 #[.val (.int p0), .val (.int p1), .val (.ref b2), .unset, .unset, .unset, .unset] [(.ref b49), (.ref b49)])) _
    refine XS.iconst X70.here hx rfl (hb hby at_72) ?_
    show Steps p.tables e below (T70.setTop (mkF m 73 #[.val (.int p0), .val (.int p1), .val (.ref b2), .unset, .unset, .unset, .unset] [(.int (5 : Int32)), (.ref b49), (.ref b49)])) _
    refine XS.iconst X70.here hx rfl (hb hby at_73) ?_
    show Steps p.tables e below (T70.setTop (mkF m 74 #[.val (.int p0), .val (.int p1), .val (.ref b2), .unset, .unset, .unset, .unset] [(.int (0 : Int32)), (.int (5 : Int32)), (.ref b49), (.ref b49)])) _
    exact k)
  obtain ⟨cl74, Ar74, qc74, Sz74, Nn74, Hs74, Gs74⟩ := V_b49_70
  have hin74 : ¬ ((5 : Int32) < 0 ∨ cl74.slots.size ≤ ((5 : Int32)).toNatClampNeg) := inb_of Sz74 ⟨by decide, by decide⟩
  obtain ⟨T74, h74, X74, e74, W74, st74⟩ := stZ X70 hx hZ e70 Ar74 (j := (5 : Int32)) hin74 (g := (mkF m 74 #[.val (.int p0), .val (.int p1), .val (.ref b2), .unset, .unset, .unset, .unset] [(.int (0 : Int32)), (.int (5 : Int32)), (.ref b49), (.ref b49)])) rfl rfl (hb hby at_74)
  have V_b2_45_c74 := Arv.other V_b2_45_c70 W74 ne_b2_b49
  have V_b49_74 : Arv Z h74 b49 k49 .boolean (8 : Int32) [(.int (1 : Int32)), (.int (1 : Int32)), (.int (1 : Int32)), (.int (1 : Int32)), (.int (0 : Int32)), (.int (0 : Int32)), (.int (0 : Int32)), (.int (0 : Int32))] (.int (0 : Int32)) := Arv.set Ar74 qc74 Sz74 Nn74 Hs74 Gs74 (fits_nar_bool _) W74 5 rfl (Nat.le_of_ble_eq_true rfl)
  have N74 := Fr.snoc X74 N70 g_b49
  have ZS74 : n0 ≤ h74.size := Nat.le_trans ZS70 (Keep.of_wr W74).1
  have pre75 : ∀ t, Steps p.tables e below (T74.setTop (mkF m 75 #[.val (.int p0), .val (.int p1), .val (.ref b2), .unset, .unset, .unset, .unset] [(.ref b49)])) t → Steps p.tables e below (s₁.setTop (entryFrame m #[(.int p0), (.int p1)] maxLocals)) t := fun t k => pre74 t (st74 _ k)
  have pre79 : ∀ t, Steps p.tables e below (T74.setTop (mkF m 79 #[.val (.int p0), .val (.int p1), .val (.ref b2), .unset, .unset, .unset, .unset] [(.int (0 : Int32)), (.int (6 : Int32)), (.ref b49), (.ref b49)])) t → Steps p.tables e below (s₁.setTop (entryFrame m #[(.int p0), (.int p1)] maxLocals)) t := fun t k => pre75 t (by
    show Steps p.tables e below (T74.setTop (mkF m 75 #[.val (.int p0), .val (.int p1), .val (.ref b2), .unset, .unset, .unset, .unset] [(.ref b49)])) t
    refine XS.dup X74.here hx rfl (hb hby at_75) rfl rfl ?_
    show Steps p.tables e below (T74.setTop (mkF m 76 #[.val (.int p0), .val (.int p1), .val (.ref b2), .unset, .unset, .unset, .unset] [(.ref b49), (.ref b49)])) _
    refine XS.bipush X74.here hx rfl (hb hby at_76) ?_
    show Steps p.tables e below (T74.setTop (mkF m 78 #[.val (.int p0), .val (.int p1), .val (.ref b2), .unset, .unset, .unset, .unset] [(.int (6 : Int32)), (.ref b49), (.ref b49)])) _
    refine XS.iconst X74.here hx rfl (hb hby at_78) ?_
    show Steps p.tables e below (T74.setTop (mkF m 79 #[.val (.int p0), .val (.int p1), .val (.ref b2), .unset, .unset, .unset, .unset] [(.int (0 : Int32)), (.int (6 : Int32)), (.ref b49), (.ref b49)])) _
    exact k)
  obtain ⟨cl79, Ar79, qc79, Sz79, Nn79, Hs79, Gs79⟩ := V_b49_74
  have hin79 : ¬ ((6 : Int32) < 0 ∨ cl79.slots.size ≤ ((6 : Int32)).toNatClampNeg) := inb_of Sz79 ⟨by decide, by decide⟩
  obtain ⟨T79, h79, X79, e79, W79, st79⟩ := stZ X74 hx hZ e74 Ar79 (j := (6 : Int32)) hin79 (g := (mkF m 79 #[.val (.int p0), .val (.int p1), .val (.ref b2), .unset, .unset, .unset, .unset] [(.int (0 : Int32)), (.int (6 : Int32)), (.ref b49), (.ref b49)])) rfl rfl (hb hby at_79)
  have V_b2_45_c79 := Arv.other V_b2_45_c74 W79 ne_b2_b49
  have V_b49_79 : Arv Z h79 b49 k49 .boolean (8 : Int32) [(.int (1 : Int32)), (.int (1 : Int32)), (.int (1 : Int32)), (.int (1 : Int32)), (.int (0 : Int32)), (.int (0 : Int32)), (.int (0 : Int32)), (.int (0 : Int32))] (.int (0 : Int32)) := Arv.set Ar79 qc79 Sz79 Nn79 Hs79 Gs79 (fits_nar_bool _) W79 6 rfl (Nat.le_of_ble_eq_true rfl)
  have N79 := Fr.snoc X79 N74 g_b49
  have ZS79 : n0 ≤ h79.size := Nat.le_trans ZS74 (Keep.of_wr W79).1
  have pre80 : ∀ t, Steps p.tables e below (T79.setTop (mkF m 80 #[.val (.int p0), .val (.int p1), .val (.ref b2), .unset, .unset, .unset, .unset] [(.ref b49)])) t → Steps p.tables e below (s₁.setTop (entryFrame m #[(.int p0), (.int p1)] maxLocals)) t := fun t k => pre79 t (st79 _ k)
  have pre84 : ∀ t, Steps p.tables e below (T79.setTop (mkF m 84 #[.val (.int p0), .val (.int p1), .val (.ref b2), .unset, .unset, .unset, .unset] [(.int (0 : Int32)), (.int (7 : Int32)), (.ref b49), (.ref b49)])) t → Steps p.tables e below (s₁.setTop (entryFrame m #[(.int p0), (.int p1)] maxLocals)) t := fun t k => pre80 t (by
    show Steps p.tables e below (T79.setTop (mkF m 80 #[.val (.int p0), .val (.int p1), .val (.ref b2), .unset, .unset, .unset, .unset] [(.ref b49)])) t
    refine XS.dup X79.here hx rfl (hb hby at_80) rfl rfl ?_
    show Steps p.tables e below (T79.setTop (mkF m 81 #[.val (.int p0), .val (.int p1), .val (.ref b2), .unset, .unset, .unset, .unset] [(.ref b49), (.ref b49)])) _
    refine XS.bipush X79.here hx rfl (hb hby at_81) ?_
    show Steps p.tables e below (T79.setTop (mkF m 83 #[.val (.int p0), .val (.int p1), .val (.ref b2), .unset, .unset, .unset, .unset] [(.int (7 : Int32)), (.ref b49), (.ref b49)])) _
    refine XS.iconst X79.here hx rfl (hb hby at_83) ?_
    show Steps p.tables e below (T79.setTop (mkF m 84 #[.val (.int p0), .val (.int p1), .val (.ref b2), .unset, .unset, .unset, .unset] [(.int (0 : Int32)), (.int (7 : Int32)), (.ref b49), (.ref b49)])) _
    exact k)
  obtain ⟨cl84, Ar84, qc84, Sz84, Nn84, Hs84, Gs84⟩ := V_b49_79
  have hin84 : ¬ ((7 : Int32) < 0 ∨ cl84.slots.size ≤ ((7 : Int32)).toNatClampNeg) := inb_of Sz84 ⟨by decide, by decide⟩
  obtain ⟨T84, h84, X84, e84, W84, st84⟩ := stZ X79 hx hZ e79 Ar84 (j := (7 : Int32)) hin84 (g := (mkF m 84 #[.val (.int p0), .val (.int p1), .val (.ref b2), .unset, .unset, .unset, .unset] [(.int (0 : Int32)), (.int (7 : Int32)), (.ref b49), (.ref b49)])) rfl rfl (hb hby at_84)
  have V_b2_45_c84 := Arv.other V_b2_45_c79 W84 ne_b2_b49
  have V_b49_84 : Arv Z h84 b49 k49 .boolean (8 : Int32) [(.int (1 : Int32)), (.int (1 : Int32)), (.int (1 : Int32)), (.int (1 : Int32)), (.int (0 : Int32)), (.int (0 : Int32)), (.int (0 : Int32)), (.int (0 : Int32))] (.int (0 : Int32)) := Arv.set Ar84 qc84 Sz84 Nn84 Hs84 Gs84 (fits_nar_bool _) W84 7 rfl (Nat.le_of_ble_eq_true rfl)
  have N84 := Fr.snoc X84 N79 g_b49
  have ZS84 : n0 ≤ h84.size := Nat.le_trans ZS79 (Keep.of_wr W84).1
  have pre85 : ∀ t, Steps p.tables e below (T84.setTop (mkF m 85 #[.val (.int p0), .val (.int p1), .val (.ref b2), .unset, .unset, .unset, .unset] [(.ref b49)])) t → Steps p.tables e below (s₁.setTop (entryFrame m #[(.int p0), (.int p1)] maxLocals)) t := fun t k => pre84 t (st84 _ k)
  obtain ⟨x90, hx90⟩ : ∃ z : Int32, z = (p1 &&& (7 : Int32)) := ⟨_, rfl⟩
  have pre92 : ∀ t, Steps p.tables e below (T84.setTop (mkF m 92 #[.val (.int p0), .val (.int p1), .val (.ref b2), .val (.ref b49), .val (.int x90), .unset, .unset] [])) t → Steps p.tables e below (s₁.setTop (entryFrame m #[(.int p0), (.int p1)] maxLocals)) t := fun t k => pre85 t (by
    show Steps p.tables e below (T84.setTop (mkF m 85 #[.val (.int p0), .val (.int p1), .val (.ref b2), .unset, .unset, .unset, .unset] [(.ref b49)])) t
    refine XS.astoreN X84.here hx rfl (hb hby at_85) rfl rfl (l' := #[.val (.int p0), .val (.int p1), .val (.ref b2), .val (.ref b49), .unset, .unset, .unset]) rfl ?_
    show Steps p.tables e below (T84.setTop (mkF m 86 #[.val (.int p0), .val (.int p1), .val (.ref b2), .val (.ref b49), .unset, .unset, .unset] [])) _
    refine XS.iloadN X84.here hx rfl (hb hby at_86) rfl ?_
    show Steps p.tables e below (T84.setTop (mkF m 87 #[.val (.int p0), .val (.int p1), .val (.ref b2), .val (.ref b49), .unset, .unset, .unset] [(.int p1)])) _
    refine XS.bipush X84.here hx rfl (hb hby at_87) ?_
    show Steps p.tables e below (T84.setTop (mkF m 89 #[.val (.int p0), .val (.int p1), .val (.ref b2), .val (.ref b49), .unset, .unset, .unset] [(.int (7 : Int32)), (.int p1)])) _
    refine XS.iand X84.here hx rfl (hb hby at_89) rfl ?_
    show Steps p.tables e below (T84.setTop (mkF m 90 #[.val (.int p0), .val (.int p1), .val (.ref b2), .val (.ref b49), .unset, .unset, .unset] [(.int (p1 &&& (7 : Int32)))])) _
    refine XS.istore X84.here hx rfl (hb hby at_90) rfl (l' := #[.val (.int p0), .val (.int p1), .val (.ref b2), .val (.ref b49), .val (.int (p1 &&& (7 : Int32))), .unset, .unset]) rfl ?_
    show Steps p.tables e below (T84.setTop (mkF m 92 #[.val (.int p0), .val (.int p1), .val (.ref b2), .val (.ref b49), .val (.int (p1 &&& (7 : Int32))), .unset, .unset] [])) _
    subst hx90
    exact k)
  have pre95 : ∀ t, Steps p.tables e below (T84.setTop (mkF m 95 #[.val (.int p0), .val (.int p1), .val (.ref b2), .val (.ref b49), .val (.int x90), .unset, .unset] [(.int x90), (.ref b2)])) t → Steps p.tables e below (s₁.setTop (entryFrame m #[(.int p0), (.int p1)] maxLocals)) t := fun t k => pre92 t (by
    show Steps p.tables e below (T84.setTop (mkF m 92 #[.val (.int p0), .val (.int p1), .val (.ref b2), .val (.ref b49), .val (.int x90), .unset, .unset] [])) t
    refine XS.aloadN X84.here hx rfl (hb hby at_92) rfl rfl ?_
    show Steps p.tables e below (T84.setTop (mkF m 93 #[.val (.int p0), .val (.int p1), .val (.ref b2), .val (.ref b49), .val (.int x90), .unset, .unset] [(.ref b2)])) _
    refine XS.iload X84.here hx rfl (hb hby at_93) rfl ?_
    show Steps p.tables e below (T84.setTop (mkF m 95 #[.val (.int p0), .val (.int p1), .val (.ref b2), .val (.ref b49), .val (.int x90), .unset, .unset] [(.int x90), (.ref b2)])) _
    exact k)
  obtain ⟨cl95, Ar95, qc95, Sz95, Nn95, Hs95, Gs95⟩ := V_b2_45_c84
  have hin95 : ¬ (x90 < 0 ∨ cl95.slots.size ≤ (x90).toNatClampNeg) := inb_of Sz95 (own_in hx90)
  have hat95 : cl95.slots[(x90).toNatClampNeg]? = some (.int (own_pt x90)) := Has.at Hs95 hin95 (own_gp hx90)
  have st95 : ∀ t, Steps p.tables e below (T84.setTop (mkF m 96 #[.val (.int p0), .val (.int p1), .val (.ref b2), .val (.ref b49), .val (.int x90), .unset, .unset] [(.int (own_pt x90))])) t → Steps p.tables e below (T84.setTop (mkF m 95 #[.val (.int p0), .val (.int p1), .val (.ref b2), .val (.ref b49), .val (.int x90), .unset, .unset] [(.int x90), (.ref b2)])) t := fun t k => X84.iaload hx (j := x90) (v := (.int (own_pt x90))) (by rw [e84]; exact Ar95.1) (State.isArrayOf_alike hZ.alike Ar95.2.1) Ar95.2.2 hin95 hat95 (g := (mkF m 95 #[.val (.int p0), .val (.int p1), .val (.ref b2), .val (.ref b49), .val (.int x90), .unset, .unset] [(.int x90), (.ref b2)])) rfl rfl (hb hby at_95) _ k
  have pre96 : ∀ t, Steps p.tables e below (T84.setTop (mkF m 96 #[.val (.int p0), .val (.int p1), .val (.ref b2), .val (.ref b49), .val (.int x90), .unset, .unset] [(.int (own_pt x90))])) t → Steps p.tables e below (s₁.setTop (entryFrame m #[(.int p0), (.int p1)] maxLocals)) t := fun t k => pre95 t (st95 _ k)
  obtain ⟨_, _, ⟨T96, L96, k96, n96⟩, -, X96, ⟨Lc96, hQ96, l96, y96, z96⟩, st96⟩ := Jvm.LawKit.callS X84 hx (y := (⟨"com/example/hatua/hatua/Tokens", "isBlank", "(I)Z"⟩ : MethodName)) hown (mvT hZ (hw _ (List.mem_of_getElem? (i := 2) rfl))) (mvT hZ (hw _ (List.mem_of_getElem? (i := 3) rfl))) (mvT hZ (hw _ (List.mem_of_getElem? (i := 4) rfl))) (mvT hZ (hw _ (List.mem_of_getElem? (i := 5) rfl))) (by decide) (backOf (W := 0) (rmB l Z a0 hw [] (own_pt x90)  h84 n0 ZS84 ) hZ (hw _ (List.mem_of_getElem? (i := 5) rfl)) (hw _ (List.mem_of_getElem? (i := 4) rfl)) (by decide) (by decide)) (g := (mkF m 96 #[.val (.int p0), .val (.int p1), .val (.ref b2), .val (.ref b49), .val (.int x90), .unset, .unset] [(.int (own_pt x90))])) rfl (by rw [hml]; rfl) (argsL := [(.int (own_pt x90))]) (rest := []) (lenOf pd0_0 rfl) rfl (by show 2 * 0 + _ ≤ _; exact Nat.le_of_eq rfl) (hb hby at_96) (fun _ _ => ⟨rfl, e84, (by decide : 2 + 0 ≤ _), (by decide : 16 + 0 ≤ _)⟩)
  dsimp only [Pt.U, Pt.locs, Pt.cells, Pt.slots] at X96 l96 y96 z96 st96 hQ96
  subst l96 y96 z96
  obtain ⟨rfl, N96q, e96⟩ := hQ96
  have N96 := Fr.app N84 N96q
  have pre99 : ∀ t, Steps p.tables e below (T96.setTop (mkF m 99 #[.val (.int p0), .val (.int p1), .val (.ref b2), .val (.ref b49), .val (.int x90), .unset, .unset] [(.int (own_fB (own_pt x90)))])) t → Steps p.tables e below (s₁.setTop (entryFrame m #[(.int p0), (.int p1)] maxLocals)) t := fun t k => pre96 t (st96 _ k)
  have pre102 : ∀ t, Steps p.tables e below (T96.setTop (mkF m 102 #[.val (.int p0), .val (.int p1), .val (.ref b2), .val (.ref b49), .val (.int x90), .unset, .unset] [(.int x90), (.ref b49), (.int (own_fB (own_pt x90)))])) t → Steps p.tables e below (s₁.setTop (entryFrame m #[(.int p0), (.int p1)] maxLocals)) t := fun t k => pre99 t (by
    show Steps p.tables e below (T96.setTop (mkF m 99 #[.val (.int p0), .val (.int p1), .val (.ref b2), .val (.ref b49), .val (.int x90), .unset, .unset] [(.int (own_fB (own_pt x90)))])) t
    refine XS.aloadN X96.here hx rfl (hb hby at_99) rfl rfl ?_
    show Steps p.tables e below (T96.setTop (mkF m 100 #[.val (.int p0), .val (.int p1), .val (.ref b2), .val (.ref b49), .val (.int x90), .unset, .unset] [(.ref b49), (.int (own_fB (own_pt x90)))])) _
    refine XS.iload X96.here hx rfl (hb hby at_100) rfl ?_
    show Steps p.tables e below (T96.setTop (mkF m 102 #[.val (.int p0), .val (.int p1), .val (.ref b2), .val (.ref b49), .val (.int x90), .unset, .unset] [(.int x90), (.ref b49), (.int (own_fB (own_pt x90)))])) _
    exact k)
  obtain ⟨cl102, Ar102, qc102, Sz102, Nn102, Hs102, Gs102⟩ := V_b49_84
  have hin102 : ¬ (x90 < 0 ∨ cl102.slots.size ≤ (x90).toNatClampNeg) := inb_of Sz102 (own_in hx90)
  have hat102 : cl102.slots[(x90).toNatClampNeg]? = some (.int (own_bl x90)) := Has.at Hs102 hin102 (own_gb hx90)
  have st102 : ∀ t, Steps p.tables e below (T96.setTop (mkF m 103 #[.val (.int p0), .val (.int p1), .val (.ref b2), .val (.ref b49), .val (.int x90), .unset, .unset] [(.int (own_bl x90)), (.int (own_fB (own_pt x90)))])) t → Steps p.tables e below (T96.setTop (mkF m 102 #[.val (.int p0), .val (.int p1), .val (.ref b2), .val (.ref b49), .val (.int x90), .unset, .unset] [(.int x90), (.ref b49), (.int (own_fB (own_pt x90)))])) t := fun t k => X96.baloadBooleans hx (j := x90) (v := (.int (own_bl x90))) (by rw [e96]; exact Ar102.1) (State.isArrayOf_alike hZ.alike Ar102.2.1) Ar102.2.2 hin102 hat102 (g := (mkF m 102 #[.val (.int p0), .val (.int p1), .val (.ref b2), .val (.ref b49), .val (.int x90), .unset, .unset] [(.int x90), (.ref b49), (.int (own_fB (own_pt x90)))])) rfl rfl (hb hby at_102) _ k
  have pre103 : ∀ t, Steps p.tables e below (T96.setTop (mkF m 103 #[.val (.int p0), .val (.int p1), .val (.ref b2), .val (.ref b49), .val (.int x90), .unset, .unset] [(.int (own_bl x90)), (.int (own_fB (own_pt x90)))])) t → Steps p.tables e below (s₁.setTop (entryFrame m #[(.int p0), (.int p1)] maxLocals)) t := fun t k => pre102 t (st102 _ k)
  obtain ⟨v111_s0, hv111_s0⟩ : ∃ z : Int32, z = if ((own_fB (own_pt x90)) = (own_bl x90)) then (1 : Int32) else 0 := ⟨_, rfl⟩
  have pre111 : ∀ t, Steps p.tables e below (T96.setTop (mkF m 111 #[.val (.int p0), .val (.int p1), .val (.ref b2), .val (.ref b49), .val (.int x90), .unset, .unset] [(.int v111_s0)])) t → Steps p.tables e below (s₁.setTop (entryFrame m #[(.int p0), (.int p1)] maxLocals)) t := by
    by_cases hc103 : (own_fB (own_pt x90)) = (own_bl x90)
    · -- (own_fB (own_pt x90)) = (own_bl x90)
      have pre106 : ∀ t, Steps p.tables e below (T96.setTop (mkF m 106 #[.val (.int p0), .val (.int p1), .val (.ref b2), .val (.ref b49), .val (.int x90), .unset, .unset] [])) t → Steps p.tables e below (s₁.setTop (entryFrame m #[(.int p0), (.int p1)] maxLocals)) t := fun t k => pre103 t (by
        show Steps p.tables e below (T96.setTop (mkF m 103 #[.val (.int p0), .val (.int p1), .val (.ref b2), .val (.ref b49), .val (.int x90), .unset, .unset] [(.int (own_bl x90)), (.int (own_fB (own_pt x90)))])) t
        refine XS.icmpNo X96.here hx rfl (hb hby at_103) rfl (teq hc103).2 ?_
        exact k)
      have pre111 : ∀ t, Steps p.tables e below (T96.setTop (mkF m 111 #[.val (.int p0), .val (.int p1), .val (.ref b2), .val (.ref b49), .val (.int x90), .unset, .unset] [(.int (1 : Int32))])) t → Steps p.tables e below (s₁.setTop (entryFrame m #[(.int p0), (.int p1)] maxLocals)) t := fun t k => pre106 t (by
        show Steps p.tables e below (T96.setTop (mkF m 106 #[.val (.int p0), .val (.int p1), .val (.ref b2), .val (.ref b49), .val (.int x90), .unset, .unset] [])) t
        refine XS.iconst X96.here hx rfl (hb hby at_106) ?_
        show Steps p.tables e below (T96.setTop (mkF m 107 #[.val (.int p0), .val (.int p1), .val (.ref b2), .val (.ref b49), .val (.int x90), .unset, .unset] [(.int (1 : Int32))])) _
        refine XS.goto X96.here hx rfl (pc0 := 107) (pc' := 111) rfl (hb hby at_107) (by decide) (by decide) ?_
        show Steps p.tables e below (T96.setTop (mkF m 111 #[.val (.int p0), .val (.int p1), .val (.ref b2), .val (.ref b49), .val (.int x90), .unset, .unset] [(.int (1 : Int32))])) _
        exact k)
      have ehv111_s0 := hv111_s0.trans (if_pos hc103)
      exact fun t k => pre111 t (by subst ehv111_s0; exact k)
    · -- not (own_fB (own_pt x90)) = (own_bl x90)
      have pre110 : ∀ t, Steps p.tables e below (T96.setTop (mkF m 110 #[.val (.int p0), .val (.int p1), .val (.ref b2), .val (.ref b49), .val (.int x90), .unset, .unset] [])) t → Steps p.tables e below (s₁.setTop (entryFrame m #[(.int p0), (.int p1)] maxLocals)) t := fun t k => pre103 t (by
        show Steps p.tables e below (T96.setTop (mkF m 103 #[.val (.int p0), .val (.int p1), .val (.ref b2), .val (.ref b49), .val (.int x90), .unset, .unset] [(.int (own_bl x90)), (.int (own_fB (own_pt x90)))])) t
        refine XS.icmpYes X96.here hx rfl (pc0 := 103) (pc' := 110) rfl (hb hby at_103) rfl (feq hc103).2 (by decide) (by decide) ?_
        exact k)
      have pre111 : ∀ t, Steps p.tables e below (T96.setTop (mkF m 111 #[.val (.int p0), .val (.int p1), .val (.ref b2), .val (.ref b49), .val (.int x90), .unset, .unset] [(.int (0 : Int32))])) t → Steps p.tables e below (s₁.setTop (entryFrame m #[(.int p0), (.int p1)] maxLocals)) t := fun t k => pre110 t (by
        show Steps p.tables e below (T96.setTop (mkF m 110 #[.val (.int p0), .val (.int p1), .val (.ref b2), .val (.ref b49), .val (.int x90), .unset, .unset] [])) t
        refine XS.iconst X96.here hx rfl (hb hby at_110) ?_
        show Steps p.tables e below (T96.setTop (mkF m 111 #[.val (.int p0), .val (.int p1), .val (.ref b2), .val (.ref b49), .val (.int x90), .unset, .unset] [(.int (0 : Int32))])) _
        exact k)
      have ehv111_s0 := hv111_s0.trans (if_neg hc103)
      exact fun t k => pre111 t (by subst ehv111_s0; exact k)
  have pre114 : ∀ t, Steps p.tables e below (T96.setTop (mkF m 114 #[.val (.int p0), .val (.int p1), .val (.ref b2), .val (.ref b49), .val (.int x90), .val (.int v111_s0), .unset] [(.int p0)])) t → Steps p.tables e below (s₁.setTop (entryFrame m #[(.int p0), (.int p1)] maxLocals)) t := fun t k => pre111 t (by
    show Steps p.tables e below (T96.setTop (mkF m 111 #[.val (.int p0), .val (.int p1), .val (.ref b2), .val (.ref b49), .val (.int x90), .unset, .unset] [(.int v111_s0)])) t
    refine XS.istore X96.here hx rfl (hb hby at_111) rfl (l' := #[.val (.int p0), .val (.int p1), .val (.ref b2), .val (.ref b49), .val (.int x90), .val (.int v111_s0), .unset]) rfl ?_
    show Steps p.tables e below (T96.setTop (mkF m 113 #[.val (.int p0), .val (.int p1), .val (.ref b2), .val (.ref b49), .val (.int x90), .val (.int v111_s0), .unset] [])) _
    refine XS.iloadN X96.here hx rfl (hb hby at_113) rfl ?_
    show Steps p.tables e below (T96.setTop (mkF m 114 #[.val (.int p0), .val (.int p1), .val (.ref b2), .val (.ref b49), .val (.int x90), .val (.int v111_s0), .unset] [(.int p0)])) _
    exact k)
  obtain ⟨_, _, ⟨T114, L114, k114, n114⟩, -, X114, ⟨Lc114, hQ114, l114, y114, z114⟩, st114⟩ := Jvm.LawKit.callS X96 hx (y := (⟨"com/example/hatua/hatua/Tokens", "isBlank", "(I)Z"⟩ : MethodName)) hown (mvT hZ (hw _ (List.mem_of_getElem? (i := 2) rfl))) (mvT hZ (hw _ (List.mem_of_getElem? (i := 3) rfl))) (mvT hZ (hw _ (List.mem_of_getElem? (i := 4) rfl))) (mvT hZ (hw _ (List.mem_of_getElem? (i := 5) rfl))) (by decide) (backOf (W := 0) (rmB l Z a0 hw [] p0  h84 n0 ZS84 ) hZ (hw _ (List.mem_of_getElem? (i := 5) rfl)) (hw _ (List.mem_of_getElem? (i := 4) rfl)) (by decide) (by decide)) (g := (mkF m 114 #[.val (.int p0), .val (.int p1), .val (.ref b2), .val (.ref b49), .val (.int x90), .val (.int v111_s0), .unset] [(.int p0)])) rfl (by rw [hml]; rfl) (argsL := [(.int p0)]) (rest := []) (lenOf pd0_0 rfl) rfl (by show 2 * 0 + _ ≤ _; exact Nat.le_of_eq rfl) (hb hby at_114) (fun _ _ => ⟨rfl, e96, (by decide : 2 + 0 ≤ _), (by decide : 16 + 0 ≤ _)⟩)
  dsimp only [Pt.U, Pt.locs, Pt.cells, Pt.slots] at X114 l114 y114 z114 st114 hQ114
  subst l114 y114 z114
  obtain ⟨rfl, N114q, e114⟩ := hQ114
  have N114 := Fr.app N96 N114q
  have pre117 : ∀ t, Steps p.tables e below (T114.setTop (mkF m 117 #[.val (.int p0), .val (.int p1), .val (.ref b2), .val (.ref b49), .val (.int x90), .val (.int v111_s0), .unset] [(.int (own_fB p0))])) t → Steps p.tables e below (s₁.setTop (entryFrame m #[(.int p0), (.int p1)] maxLocals)) t := fun t k => pre114 t (st114 _ k)
  have pre118 : ∀ t, Steps p.tables e below (T114.setTop (mkF m 118 #[.val (.int p0), .val (.int p1), .val (.ref b2), .val (.ref b49), .val (.int x90), .val (.int v111_s0), .unset] [(.int p0), (.int (own_fB p0))])) t → Steps p.tables e below (s₁.setTop (entryFrame m #[(.int p0), (.int p1)] maxLocals)) t := fun t k => pre117 t (by
    show Steps p.tables e below (T114.setTop (mkF m 117 #[.val (.int p0), .val (.int p1), .val (.ref b2), .val (.ref b49), .val (.int x90), .val (.int v111_s0), .unset] [(.int (own_fB p0))])) t
    refine XS.iloadN X114.here hx rfl (hb hby at_117) rfl ?_
    show Steps p.tables e below (T114.setTop (mkF m 118 #[.val (.int p0), .val (.int p1), .val (.ref b2), .val (.ref b49), .val (.int x90), .val (.int v111_s0), .unset] [(.int p0), (.int (own_fB p0))])) _
    exact k)
  obtain ⟨_, _, ⟨T118, L118, k118, n118⟩, -, X118, ⟨Lc118, hQ118, l118, y118, z118⟩, st118⟩ := Jvm.LawKit.callS X114 hx (y := (⟨"com/example/hatua/hatua/TokensIsBlankPinLaw", "expected", "(I)Z"⟩ : MethodName)) hown (mvT hZ (hw _ (List.mem_of_getElem? (i := 6) rfl))) (mvT hZ (hw _ (List.mem_of_getElem? (i := 7) rfl))) (mvT hZ (hw _ (List.mem_of_getElem? (i := 8) rfl))) (mvT hZ (hw _ (List.mem_of_getElem? (i := 9) rfl))) (by decide) (backOf (W := 1) (rmE l Z a0 hw [] p0  h84 n0 ZS84 ) hZ (hw _ (List.mem_of_getElem? (i := 9) rfl)) (hw _ (List.mem_of_getElem? (i := 8) rfl)) (by decide) (by decide)) (g := (mkF m 118 #[.val (.int p0), .val (.int p1), .val (.ref b2), .val (.ref b49), .val (.int x90), .val (.int v111_s0), .unset] [(.int p0), (.int (own_fB p0))])) rfl (by rw [hml]; rfl) (argsL := [(.int p0)]) (rest := [(.int (own_fB p0))]) (lenOf pd0_0 rfl) rfl (by show 2 * 0 + _ ≤ _; exact Nat.le_of_eq rfl) (hb hby at_118) (fun _ _ => ⟨rfl, e114, (by decide : 2 + 0 ≤ _), (by decide : 16 + 0 ≤ _)⟩)
  dsimp only [Pt.U, Pt.locs, Pt.cells, Pt.slots] at X118 l118 y118 z118 st118 hQ118
  subst l118 y118 z118
  obtain ⟨rfl, N118q, e118⟩ := hQ118
  have N118 := Fr.app N114 N118q
  have pre121 : ∀ t, Steps p.tables e below (T118.setTop (mkF m 121 #[.val (.int p0), .val (.int p1), .val (.ref b2), .val (.ref b49), .val (.int x90), .val (.int v111_s0), .unset] [(.int (own_fE p0)), (.int (own_fB p0))])) t → Steps p.tables e below (s₁.setTop (entryFrame m #[(.int p0), (.int p1)] maxLocals)) t := fun t k => pre118 t (st118 _ k)
  obtain ⟨v129_s0, hv129_s0⟩ : ∃ z : Int32, z = if ((own_fB p0) = (own_fE p0)) then (1 : Int32) else 0 := ⟨_, rfl⟩
  have pre129 : ∀ t, Steps p.tables e below (T118.setTop (mkF m 129 #[.val (.int p0), .val (.int p1), .val (.ref b2), .val (.ref b49), .val (.int x90), .val (.int v111_s0), .unset] [(.int v129_s0)])) t → Steps p.tables e below (s₁.setTop (entryFrame m #[(.int p0), (.int p1)] maxLocals)) t := by
    by_cases hc121 : (own_fB p0) = (own_fE p0)
    · -- (own_fB p0) = (own_fE p0)
      have pre124 : ∀ t, Steps p.tables e below (T118.setTop (mkF m 124 #[.val (.int p0), .val (.int p1), .val (.ref b2), .val (.ref b49), .val (.int x90), .val (.int v111_s0), .unset] [])) t → Steps p.tables e below (s₁.setTop (entryFrame m #[(.int p0), (.int p1)] maxLocals)) t := fun t k => pre121 t (by
        show Steps p.tables e below (T118.setTop (mkF m 121 #[.val (.int p0), .val (.int p1), .val (.ref b2), .val (.ref b49), .val (.int x90), .val (.int v111_s0), .unset] [(.int (own_fE p0)), (.int (own_fB p0))])) t
        refine XS.icmpNo X118.here hx rfl (hb hby at_121) rfl (teq hc121).2 ?_
        exact k)
      have pre129 : ∀ t, Steps p.tables e below (T118.setTop (mkF m 129 #[.val (.int p0), .val (.int p1), .val (.ref b2), .val (.ref b49), .val (.int x90), .val (.int v111_s0), .unset] [(.int (1 : Int32))])) t → Steps p.tables e below (s₁.setTop (entryFrame m #[(.int p0), (.int p1)] maxLocals)) t := fun t k => pre124 t (by
        show Steps p.tables e below (T118.setTop (mkF m 124 #[.val (.int p0), .val (.int p1), .val (.ref b2), .val (.ref b49), .val (.int x90), .val (.int v111_s0), .unset] [])) t
        refine XS.iconst X118.here hx rfl (hb hby at_124) ?_
        show Steps p.tables e below (T118.setTop (mkF m 125 #[.val (.int p0), .val (.int p1), .val (.ref b2), .val (.ref b49), .val (.int x90), .val (.int v111_s0), .unset] [(.int (1 : Int32))])) _
        refine XS.goto X118.here hx rfl (pc0 := 125) (pc' := 129) rfl (hb hby at_125) (by decide) (by decide) ?_
        show Steps p.tables e below (T118.setTop (mkF m 129 #[.val (.int p0), .val (.int p1), .val (.ref b2), .val (.ref b49), .val (.int x90), .val (.int v111_s0), .unset] [(.int (1 : Int32))])) _
        exact k)
      have ehv129_s0 := hv129_s0.trans (if_pos hc121)
      exact fun t k => pre129 t (by subst ehv129_s0; exact k)
    · -- not (own_fB p0) = (own_fE p0)
      have pre128 : ∀ t, Steps p.tables e below (T118.setTop (mkF m 128 #[.val (.int p0), .val (.int p1), .val (.ref b2), .val (.ref b49), .val (.int x90), .val (.int v111_s0), .unset] [])) t → Steps p.tables e below (s₁.setTop (entryFrame m #[(.int p0), (.int p1)] maxLocals)) t := fun t k => pre121 t (by
        show Steps p.tables e below (T118.setTop (mkF m 121 #[.val (.int p0), .val (.int p1), .val (.ref b2), .val (.ref b49), .val (.int x90), .val (.int v111_s0), .unset] [(.int (own_fE p0)), (.int (own_fB p0))])) t
        refine XS.icmpYes X118.here hx rfl (pc0 := 121) (pc' := 128) rfl (hb hby at_121) rfl (feq hc121).2 (by decide) (by decide) ?_
        exact k)
      have pre129 : ∀ t, Steps p.tables e below (T118.setTop (mkF m 129 #[.val (.int p0), .val (.int p1), .val (.ref b2), .val (.ref b49), .val (.int x90), .val (.int v111_s0), .unset] [(.int (0 : Int32))])) t → Steps p.tables e below (s₁.setTop (entryFrame m #[(.int p0), (.int p1)] maxLocals)) t := fun t k => pre128 t (by
        show Steps p.tables e below (T118.setTop (mkF m 128 #[.val (.int p0), .val (.int p1), .val (.ref b2), .val (.ref b49), .val (.int x90), .val (.int v111_s0), .unset] [])) t
        refine XS.iconst X118.here hx rfl (hb hby at_128) ?_
        show Steps p.tables e below (T118.setTop (mkF m 129 #[.val (.int p0), .val (.int p1), .val (.ref b2), .val (.ref b49), .val (.int x90), .val (.int v111_s0), .unset] [(.int (0 : Int32))])) _
        exact k)
      have ehv129_s0 := hv129_s0.trans (if_neg hc121)
      exact fun t k => pre129 t (by subst ehv129_s0; exact k)
  have pre133 : ∀ t, Steps p.tables e below (T118.setTop (mkF m 133 #[.val (.int p0), .val (.int p1), .val (.ref b2), .val (.ref b49), .val (.int x90), .val (.int v111_s0), .val (.int v129_s0)] [(.int v111_s0)])) t → Steps p.tables e below (s₁.setTop (entryFrame m #[(.int p0), (.int p1)] maxLocals)) t := fun t k => pre129 t (by
    show Steps p.tables e below (T118.setTop (mkF m 129 #[.val (.int p0), .val (.int p1), .val (.ref b2), .val (.ref b49), .val (.int x90), .val (.int v111_s0), .unset] [(.int v129_s0)])) t
    refine XS.istore X118.here hx rfl (hb hby at_129) rfl (l' := #[.val (.int p0), .val (.int p1), .val (.ref b2), .val (.ref b49), .val (.int x90), .val (.int v111_s0), .val (.int v129_s0)]) rfl ?_
    show Steps p.tables e below (T118.setTop (mkF m 131 #[.val (.int p0), .val (.int p1), .val (.ref b2), .val (.ref b49), .val (.int x90), .val (.int v111_s0), .val (.int v129_s0)] [])) _
    refine XS.iload X118.here hx rfl (hb hby at_131) rfl ?_
    show Steps p.tables e below (T118.setTop (mkF m 133 #[.val (.int p0), .val (.int p1), .val (.ref b2), .val (.ref b49), .val (.int x90), .val (.int v111_s0), .val (.int v129_s0)] [(.int v111_s0)])) _
    exact k)
  obtain ⟨v146_s0, hv146_s0⟩ : ∃ z : Int32, z = if ((((own_fB (own_pt x90)) = (own_bl x90))) ∧ (((own_fB p0) = (own_fE p0)))) then (1 : Int32) else 0 := ⟨_, rfl⟩
  have pre146 : ∀ t, Steps p.tables e below (T118.setTop (mkF m 146 #[.val (.int p0), .val (.int p1), .val (.ref b2), .val (.ref b49), .val (.int x90), .val (.int v111_s0), .val (.int v129_s0)] [(.int v146_s0)])) t → Steps p.tables e below (s₁.setTop (entryFrame m #[(.int p0), (.int p1)] maxLocals)) t := by
    by_cases hc133 : ((own_fB (own_pt x90)) = (own_bl x90))
    · -- ((own_fB (own_pt x90)) = (own_bl x90))
      have pre136 : ∀ t, Steps p.tables e below (T118.setTop (mkF m 136 #[.val (.int p0), .val (.int p1), .val (.ref b2), .val (.ref b49), .val (.int x90), .val (.int v111_s0), .val (.int v129_s0)] [])) t → Steps p.tables e below (s₁.setTop (entryFrame m #[(.int p0), (.int p1)] maxLocals)) t := fun t k => pre133 t (by
        show Steps p.tables e below (T118.setTop (mkF m 133 #[.val (.int p0), .val (.int p1), .val (.ref b2), .val (.ref b49), .val (.int x90), .val (.int v111_s0), .val (.int v129_s0)] [(.int v111_s0)])) t
        refine XS.ifNo X118.here hx rfl (hb hby at_133) rfl ((if0 _ _).trans (feq (by rw [hv111_s0, if_pos hc133]; decide)).1) ?_
        exact k)
      have pre138 : ∀ t, Steps p.tables e below (T118.setTop (mkF m 138 #[.val (.int p0), .val (.int p1), .val (.ref b2), .val (.ref b49), .val (.int x90), .val (.int v111_s0), .val (.int v129_s0)] [(.int v129_s0)])) t → Steps p.tables e below (s₁.setTop (entryFrame m #[(.int p0), (.int p1)] maxLocals)) t := fun t k => pre136 t (by
        show Steps p.tables e below (T118.setTop (mkF m 136 #[.val (.int p0), .val (.int p1), .val (.ref b2), .val (.ref b49), .val (.int x90), .val (.int v111_s0), .val (.int v129_s0)] [])) t
        refine XS.iload X118.here hx rfl (hb hby at_136) rfl ?_
        show Steps p.tables e below (T118.setTop (mkF m 138 #[.val (.int p0), .val (.int p1), .val (.ref b2), .val (.ref b49), .val (.int x90), .val (.int v111_s0), .val (.int v129_s0)] [(.int v129_s0)])) _
        exact k)
      by_cases hc138 : ((own_fB p0) = (own_fE p0))
      · -- ((own_fB p0) = (own_fE p0))
        have pre141 : ∀ t, Steps p.tables e below (T118.setTop (mkF m 141 #[.val (.int p0), .val (.int p1), .val (.ref b2), .val (.ref b49), .val (.int x90), .val (.int v111_s0), .val (.int v129_s0)] [])) t → Steps p.tables e below (s₁.setTop (entryFrame m #[(.int p0), (.int p1)] maxLocals)) t := fun t k => pre138 t (by
          show Steps p.tables e below (T118.setTop (mkF m 138 #[.val (.int p0), .val (.int p1), .val (.ref b2), .val (.ref b49), .val (.int x90), .val (.int v111_s0), .val (.int v129_s0)] [(.int v129_s0)])) t
          refine XS.ifNo X118.here hx rfl (hb hby at_138) rfl ((if0 _ _).trans (feq (by rw [hv129_s0, if_pos hc138]; decide)).1) ?_
          exact k)
        have pre146 : ∀ t, Steps p.tables e below (T118.setTop (mkF m 146 #[.val (.int p0), .val (.int p1), .val (.ref b2), .val (.ref b49), .val (.int x90), .val (.int v111_s0), .val (.int v129_s0)] [(.int (1 : Int32))])) t → Steps p.tables e below (s₁.setTop (entryFrame m #[(.int p0), (.int p1)] maxLocals)) t := fun t k => pre141 t (by
          show Steps p.tables e below (T118.setTop (mkF m 141 #[.val (.int p0), .val (.int p1), .val (.ref b2), .val (.ref b49), .val (.int x90), .val (.int v111_s0), .val (.int v129_s0)] [])) t
          refine XS.iconst X118.here hx rfl (hb hby at_141) ?_
          show Steps p.tables e below (T118.setTop (mkF m 142 #[.val (.int p0), .val (.int p1), .val (.ref b2), .val (.ref b49), .val (.int x90), .val (.int v111_s0), .val (.int v129_s0)] [(.int (1 : Int32))])) _
          refine XS.goto X118.here hx rfl (pc0 := 142) (pc' := 146) rfl (hb hby at_142) (by decide) (by decide) ?_
          show Steps p.tables e below (T118.setTop (mkF m 146 #[.val (.int p0), .val (.int p1), .val (.ref b2), .val (.ref b49), .val (.int x90), .val (.int v111_s0), .val (.int v129_s0)] [(.int (1 : Int32))])) _
          exact k)
        have ehv146_s0 := hv146_s0.trans (if_pos ⟨hc133, hc138⟩)
        exact fun t k => pre146 t (by subst ehv146_s0; exact k)
      · -- not ((own_fB p0) = (own_fE p0))
        have pre145 : ∀ t, Steps p.tables e below (T118.setTop (mkF m 145 #[.val (.int p0), .val (.int p1), .val (.ref b2), .val (.ref b49), .val (.int x90), .val (.int v111_s0), .val (.int v129_s0)] [])) t → Steps p.tables e below (s₁.setTop (entryFrame m #[(.int p0), (.int p1)] maxLocals)) t := fun t k => pre138 t (by
          show Steps p.tables e below (T118.setTop (mkF m 138 #[.val (.int p0), .val (.int p1), .val (.ref b2), .val (.ref b49), .val (.int x90), .val (.int v111_s0), .val (.int v129_s0)] [(.int v129_s0)])) t
          refine XS.ifYes X118.here hx rfl (pc0 := 138) (pc' := 145) rfl (hb hby at_138) rfl ((if0 _ _).trans (teq (by rw [hv129_s0, if_neg hc138])).1) (by decide) (by decide) ?_
          exact k)
        have pre146 : ∀ t, Steps p.tables e below (T118.setTop (mkF m 146 #[.val (.int p0), .val (.int p1), .val (.ref b2), .val (.ref b49), .val (.int x90), .val (.int v111_s0), .val (.int v129_s0)] [(.int (0 : Int32))])) t → Steps p.tables e below (s₁.setTop (entryFrame m #[(.int p0), (.int p1)] maxLocals)) t := fun t k => pre145 t (by
          show Steps p.tables e below (T118.setTop (mkF m 145 #[.val (.int p0), .val (.int p1), .val (.ref b2), .val (.ref b49), .val (.int x90), .val (.int v111_s0), .val (.int v129_s0)] [])) t
          refine XS.iconst X118.here hx rfl (hb hby at_145) ?_
          show Steps p.tables e below (T118.setTop (mkF m 146 #[.val (.int p0), .val (.int p1), .val (.ref b2), .val (.ref b49), .val (.int x90), .val (.int v111_s0), .val (.int v129_s0)] [(.int (0 : Int32))])) _
          exact k)
        have ehv146_s0 := hv146_s0.trans (if_neg (fun r => hc138 r.2))
        exact fun t k => pre146 t (by subst ehv146_s0; exact k)
    · -- not ((own_fB (own_pt x90)) = (own_bl x90))
      have pre145 : ∀ t, Steps p.tables e below (T118.setTop (mkF m 145 #[.val (.int p0), .val (.int p1), .val (.ref b2), .val (.ref b49), .val (.int x90), .val (.int v111_s0), .val (.int v129_s0)] [])) t → Steps p.tables e below (s₁.setTop (entryFrame m #[(.int p0), (.int p1)] maxLocals)) t := fun t k => pre133 t (by
        show Steps p.tables e below (T118.setTop (mkF m 133 #[.val (.int p0), .val (.int p1), .val (.ref b2), .val (.ref b49), .val (.int x90), .val (.int v111_s0), .val (.int v129_s0)] [(.int v111_s0)])) t
        refine XS.ifYes X118.here hx rfl (pc0 := 133) (pc' := 145) rfl (hb hby at_133) rfl ((if0 _ _).trans (teq (by rw [hv111_s0, if_neg hc133])).1) (by decide) (by decide) ?_
        exact k)
      have pre146 : ∀ t, Steps p.tables e below (T118.setTop (mkF m 146 #[.val (.int p0), .val (.int p1), .val (.ref b2), .val (.ref b49), .val (.int x90), .val (.int v111_s0), .val (.int v129_s0)] [(.int (0 : Int32))])) t → Steps p.tables e below (s₁.setTop (entryFrame m #[(.int p0), (.int p1)] maxLocals)) t := fun t k => pre145 t (by
        show Steps p.tables e below (T118.setTop (mkF m 145 #[.val (.int p0), .val (.int p1), .val (.ref b2), .val (.ref b49), .val (.int x90), .val (.int v111_s0), .val (.int v129_s0)] [])) t
        refine XS.iconst X118.here hx rfl (hb hby at_145) ?_
        show Steps p.tables e below (T118.setTop (mkF m 146 #[.val (.int p0), .val (.int p1), .val (.ref b2), .val (.ref b49), .val (.int x90), .val (.int v111_s0), .val (.int v129_s0)] [(.int (0 : Int32))])) _
        exact k)
      have ehv146_s0 := hv146_s0.trans (if_neg (fun q => hc133 q.1))
      exact fun t k => pre146 t (by subst ehv146_s0; exact k)
  obtain ⟨fs, hr, hrun, hended, hW, hsame⟩ := X118.leave (v := some (.int (nar .boolean v146_s0))) (fun h => by rw [Bd.returns] at h; cases h)
  refine ⟨_, _, pre146 _ ?_, hrun, hended, _, _, rfl, ?_, ⟨_, rfl⟩, hW, hsame.mono (by decide) (by decide)⟩
  · show Steps p.tables e below (T118.setTop (mkF m 146 #[.val (.int p0), .val (.int p1), .val (.ref b2), .val (.ref b49), .val (.int x90), .val (.int v111_s0), .val (.int v129_s0)] [(.int v146_s0)])) _
    exact retN X118 hx (t := .boolean) Bd.returns (by simp) (hb hby at_146) hr
  · show Q0 Z p0 p1 h0 n0 _ T118.heap _
    rw [e118]
    have hres : (nar .boolean v146_s0) = (1 : Int32) := by
      rw [hv146_s0, own_narB]; exact if_pos ⟨own_anch hx90, own_same p0⟩
    exact ⟨congrArg (fun q => some (Value.int q)) hres, N118⟩
set_option maxRecDepth 65536 in
set_option maxHeartbeats 40000000 in
theorem comes_1 {Post : Tables → Env → Array Value → State → Outcome → State → Prop} (hpost : ∀ tb e args s v u, (limb_1_1.after args s (.returned v) u = true ∧ limb_1_2.after args s (.returned v) u = true ∧ True) → FrameEnd s (.returned v) u (Jvm.fieldLocs frame_1_writes args s ++ Jvm.arrayLocs frame_1_arrays args s ++ Jvm.staticLocs frame_1_statics s) 16 128 → Post tb e args s (.returned v) u) :
    ArmFor flags0 classFile x code maxLocals ret World_1 tables_1 room_1 Calls_1 rest_1 Pre_1 Post := by
  intro l hfl _ _ p e ha hc hk s m args below hf hA hF happ hP
  obtain ⟨hcalls, hrest, hpre⟩ := hP
  obtain ⟨-, -, -, hnamed, -, -, -, hat⟩ := (Spec.applies_iff hf).mp happ
  obtain ⟨hg, hn⟩ := and_e (Cond.before_iff.mp (show (Jvm.Cond.and given_1 narrow_1).before args s = true from hpre))
  obtain ⟨gc, g0⟩ := and_e hg
  obtain ⟨ga0, g1⟩ := and_e g0
  obtain ⟨w0, w1, rfl⟩ : ∃ w0 w1 : Value, args = #[w0, w1] := by
    have hs : args.size = 2 := by simpa [Cond.value, given_1] using gc
    obtain ⟨L⟩ := args
    match L, hs with
    | [w0, w1], _ => exact ⟨w0, w1, rfl⟩
  have hw := fun d (hd : d ∈ tables_1) => atoms_spec (ws := Jvm.Cond.code x code maxLocals ret :: tables_1) hat d (List.mem_cons_of_mem _ hd)
  have hfit : Fit s := fun {y c} hc i hi => by
    obtain ⟨ha, rfl⟩ := Array.getElem?_eq_some_iff.mp hc
    have q := List.all_eq_true.mp ((Array.all_eq_true_iff_forall_mem.mp hF) _ (Array.getElem_mem ha)) i (List.mem_range.mpr hi)
    simpa [Array.getElem?_eq_getElem hi] using q
  obtain ⟨i0, ei0⟩ := is_v ga0
  obtain rfl : w0 = (.int i0) := Option.some.inj ei0
  obtain ⟨i1, ei1⟩ := is_v g1
  obtain rfl : w1 = (.int i1) := Option.some.inj ei1
  obtain ⟨n, o, h1, h2, h3, _, L, rfl, ⟨rfl, N⟩, hq⟩ := rm0 l s _ hw tables_1 i0 i1 s.heap s.heap.size (Nat.le_refl _)  p e ha hc hk s m _ below hf ((Spec.applies_iff_loose hf).mp happ).1 ⟨rfl, State.Warmed39.refl s, rfl⟩ trivial
  refine ⟨n, _, h1, h2, h3, hpost _ _ _ _ _ _ ⟨Cond.after_iff.mpr rfl, Cond.after_iff.mpr (eq_i res_at (Term.int_eval (1)) rfl), trivial⟩ ⟨hq.1, hq.2.1, (hq.2.2.sift fun y hy => Or.inr (N y hy)).mono (by decide) (by decide)⟩⟩
theorem main_1_1 : Claimed_1_1 := comes_1 fun _ _ _ _ _ _ h hF => ⟨h.1, hF⟩
theorem main_1_2 : Claimed_1_2 := comes_1 fun _ _ _ _ _ _ h hF => ⟨h.2.1, hF⟩
end Jvm.Pilot.@@N@@
namespace Jvm.Pilot.@@N@@
open Jvm Jvm.ClassFile Sem Op Lib Jvm.Free Jvm.Stand Jvm.Pilot.@@N@@.Jvm.D
/-! MADE BY PROGRAM (witnessworld.py) out of the Statement's table words and the real class files: 11 classes; the members and pool entries that the words name. The judged class is class 1, her method 2. -/
namespace start1
open Jvm.ClassFile
def u (s : String) : CpInfo := .utf8 (stringToUtf16 s)
/-- a pool by its gaps: so many unusable entries, then the entry; so many at the end -/
def gap : Nat → List CpInfo → List CpInfo
  | 0, r => r
  | n + 1, r => .unusable :: gap n r
def poolList (es : List (Nat × CpInfo)) (last : Nat) : List CpInfo := es.foldr (fun e r => gap e.1 (e.2 :: r)) (gap last [])
def pool (es : List (Nat × CpInfo)) (last : Nat) : Array CpInfo := ⟨poolList es last⟩
def fileOf (pool : Array CpInfo) (this : Nat) (attrs : Array Attribute := #[]) (ms : Array MethodInfo := #[]) (fl : Nat := 33) (sup : Nat := 0) (ifs : Array Nat := #[]) (fds : Array FieldInfo := #[]) : ClassFile where
  minorVersion := 0
  majorVersion := 65
  constantPool := pool
  accessFlags := fl
  thisClass := this
  superClass := sup
  interfaces := ifs
  fields := fds
  methods := ms
  attributes := attrs
def plain (name : String) (sup : Option ClassId) : Class where
  name := name
  kind := .ordinary
  loader := none
  accessFlags := 33
  super := sup
  interfaces := #[]
  cf := none
  fields := #[]
  methods := #[]
  instanceTypes := #[]
  staticTypes := #[]
  resolved := #[]
  callSites := []
  init := .initialized
  statics := none
  mirror := none

def pool0 : Array CpInfo := pool [(5, u "<init>"), (0, u "()V"), (1, .class_ 10), (1, u "java/lang/Object")] 113

def k0m0 : Method := { name := "<init>", desc := "()V", sig := { parameters := [], returnType := none }, accessFlags := 1, code := none }
/-- java/lang/Object -/
def k0 : Class := { plain "java/lang/Object" none with
  accessFlags := 33
  interfaces := #[]
  cf := some (fileOf pool0 8 #[] #[{ accessFlags := 1, nameIndex := 5, descriptorIndex := 6, attributes := #[] }] 33 0 #[] #[])
  fields := #[]
  methods := #[k0m0]
  instanceTypes := #[]
  staticTypes := #[]
  resolved := Array.replicate 124 none
  statics := none }

def pool1 : Array CpInfo := pool [(2, .class_ 4), (1, u "java/lang/Object"), (0, u "<init>"), (0, u "()V"), (0, .methodref 8 9), (0, .class_ 10), (0, .nameAndType 11 12), (0, u "com/example/hatua/hatua/Tokens"), (0, u "isBlank"), (0, u "(I)Z"), (0, .methodref 14 15), (0, .class_ 16), (0, .nameAndType 17 12), (0, u "com/example/hatua/hatua/TokensIsBlankPinLaw"), (0, u "expected"), (3, u "law"), (0, u "(II)Z")] 6

def k1m0 : Method := { name := "<init>", desc := "()V", sig := { parameters := [], returnType := none }, accessFlags := 2, code := none }
def k1c1 : Code := { maxStack := 2, maxLocals := 1, code := method_2_code, exceptionTable := #[], attributes := #[] }
def k1m1 : Method := { name := "expected", desc := "(I)Z", sig := { parameters := [.int], returnType := some .boolean }, accessFlags := 10, code := some k1c1 }
def k1c2 : Code := { maxStack := 4, maxLocals := 7, code := code, exceptionTable := #[], attributes := #[] }
def k1m2 : Method := { name := "law", desc := "(II)Z", sig := { parameters := [.int, .int], returnType := some .boolean }, accessFlags := 9, code := some k1c2 }
/-- com/example/hatua/hatua/TokensIsBlankPinLaw -/
def k1 : Class := { plain "com/example/hatua/hatua/TokensIsBlankPinLaw" (some 0) with
  accessFlags := 49
  interfaces := #[]
  cf := some (fileOf pool1 14 #[] #[{ accessFlags := 2, nameIndex := 5, descriptorIndex := 6, attributes := #[] }, { accessFlags := 10, nameIndex := 17, descriptorIndex := 12, attributes := #[] }, { accessFlags := 9, nameIndex := 21, descriptorIndex := 22, attributes := #[] }] 49 2 #[] #[])
  fields := #[]
  methods := #[k1m0, k1m1, k1m2]
  instanceTypes := #[]
  staticTypes := #[]
  resolved := Array.replicate 29 none
  statics := none }

def pool2 : Array CpInfo := pool [(2, .class_ 4), (1, u "java/lang/Object"), (3, .class_ 10), (1, u "com/example/hatua/hatua/Tokens"), (0, u "source"), (0, u "Lcom/example/hatua/hatua/Source;"), (2, u "tokens"), (0, u "Ljava/util/List;"), (6, u "position"), (0, u "I"), (68, u "isBlank"), (0, u "(I)Z")] 20

def k2c0 : Code := { maxStack := 2, maxLocals := 1, code := prog_120_method_6_code, exceptionTable := #[], attributes := #[] }
def k2m0 : Method := { name := "isBlank", desc := "(I)Z", sig := { parameters := [.int], returnType := some .boolean }, accessFlags := 8, code := some k2c0 }
/-- com/example/hatua/hatua/Tokens -/
def k2 : Class := { plain "com/example/hatua/hatua/Tokens" (some 0) with
  accessFlags := 32
  interfaces := #[]
  cf := some (fileOf pool2 8 #[] #[{ accessFlags := 8, nameIndex := 93, descriptorIndex := 94, attributes := #[] }] 32 2 #[] #[{ accessFlags := 18, nameIndex := 11, descriptorIndex := 12, attributes := #[] }, { accessFlags := 18, nameIndex := 15, descriptorIndex := 16, attributes := #[] }, { accessFlags := 2, nameIndex := 23, descriptorIndex := 24, attributes := #[] }])
  fields := #[{ name := "source", type := (.object "com/example/hatua/hatua/Source"), accessFlags := 18, slot := 0, constantValue := 0 }, { name := "tokens", type := (.object "java/util/List"), accessFlags := 18, slot := 1, constantValue := 0 }, { name := "position", type := .int, accessFlags := 2, slot := 2, constantValue := 0 }]
  methods := #[k2m0]
  instanceTypes := #[(.object "com/example/hatua/hatua/Source"), (.object "java/util/List"), .int]
  staticTypes := #[]
  resolved := Array.replicate 115 none
  statics := none }

def pool3 : Array CpInfo := pool [(1, u "java/lang/Cloneable"), (0, .class_ 1), (0, u "java/lang/Object"), (0, .class_ 3)] 3

/-- java/lang/Cloneable -/
def k3 : Class := { plain "java/lang/Cloneable" (some 0) with
  accessFlags := 1537
  interfaces := #[]
  cf := some (fileOf pool3 2 #[] #[] 1537 4 #[] #[])
  fields := #[]
  methods := #[]
  instanceTypes := #[]
  staticTypes := #[]
  resolved := Array.replicate 8 none
  statics := none }

def pool4 : Array CpInfo := pool [(1, u "java/io/Serializable"), (0, .class_ 1), (0, u "java/lang/Object"), (0, .class_ 3)] 3

/-- java/io/Serializable -/
def k4 : Class := { plain "java/io/Serializable" (some 0) with
  accessFlags := 1537
  interfaces := #[]
  cf := some (fileOf pool4 2 #[] #[] 1537 4 #[] #[])
  fields := #[]
  methods := #[]
  instanceTypes := #[]
  staticTypes := #[]
  resolved := Array.replicate 8 none
  statics := none }

/-- the primitive boolean -/
def k5 : Class := { plain "boolean" none with kind := .primitive 'Z', accessFlags := 0x411 }
/-- [Z -/
def k6 : Class := { plain "[Z" (some 0) with kind := .array 5 .boolean, interfaces := #[3, 4], accessFlags := 1041 }

/-- the primitive byte -/
def k7 : Class := { plain "byte" none with kind := .primitive 'B', accessFlags := 0x411 }
/-- [B -/
def k8 : Class := { plain "[B" (some 0) with kind := .array 7 .byte, interfaces := #[3, 4], accessFlags := 1041 }

/-- the primitive int -/
def k9 : Class := { plain "int" none with kind := .primitive 'I', accessFlags := 0x411 }
/-- [I -/
def k10 : Class := { plain "[I" (some 0) with kind := .array 9 .int, interfaces := #[3, 4], accessFlags := 1041 }

def heap : Heap := #[]
def classes : Array Class := #[k0, k1, k2, k3, k4, k5, k6, k7, k8, k9, k10]
def interned : List (Array UInt16 × Addr) := []
def slotsUsed : Nat := 0
def theMethod : MethodId := ⟨1, 2⟩
def args0 : Array Value := #[.int 5, .int 7]
def aboutOver (below : List Frame) : State where
  vm := { classes := classes, interned := interned.toArray }
  heap := heap
  slotsUsed := slotsUsed
  threads := #[{ frames := .invoking theMethod args0 :: below }]
def below0 : List Frame := [.native { method := ⟨0, 0⟩, args := #[] }]
def about1 : State := aboutOver below0
def p0 : Program := .bare "" "" ""
def e0 : Env := launch0.env 0 0 0
theorem w_frames : about1.frames = Frame.invoking theMethod args0 :: below0 := rfl
set_option maxRecDepth 65536 in
theorem w_args : argsFit about1.vm theMethod args0 = true := by decide +kernel
set_option maxRecDepth 65536 in
theorem w_heap : heapFits about1 = true := by decide +kernel
set_option maxRecDepth 65536 in
theorem w_runnable : about1.curStatus? = some .runnable := by decide +kernel
set_option maxRecDepth 65536 in
theorem w_alone : about1.alone = true := by decide +kernel
set_option maxRecDepth 65536 in
theorem w_named : about1.methodNamed? x = some theMethod := by decide +kernel
set_option maxRecDepth 65536 in
theorem w_hears : about1.hears theMethod below0 = true := by decide +kernel
set_option maxRecDepth 65536 in
theorem w_ripe : about1.ripe theMethod args0 below0 = true := by decide +kernel
theorem w_running : about1.status = .running := rfl
set_option maxRecDepth 65536 in
theorem w_room : about1.hasRoom e0.platform room_1 = true :=
  launch0.hasRoom_least _ room_1 (by decide +kernel) (by decide +kernel) (by decide +kernel) (by decide +kernel) (by decide +kernel) (by decide +kernel)
theorem allAtoms_all (ts : List Jvm.Cond) (a : Array Jvm.Value) (st : Jvm.State) : (allAtoms ts).before a st = ts.all (fun c => c.before a st) := by
  induction ts with
  | nil => rfl
  | cons c t ih =>
    show (Jvm.Cond.and c (allAtoms t)).before a st = _
    rw [Jvm.Cond.before_and, ih, List.all_cons]
def words1 : List Jvm.Cond := Jvm.Cond.code x code maxLocals ret :: tables_1
/-- a 'code' word, met by the world's own term for the bytes: nothing is compared byte by byte -/
theorem code_word {y : MethodName} {bytes : ByteArray} {mx : Nat} {rt : Option FieldType} {a : Array Value} {s : State} {m : MethodId} {meth : Method} {c : Code} (h1 : s.methodNamed? y = some m) (h2 : s.vm.method? m = some meth) (h3 : meth.code = some c) (h4 : c.code = bytes)
    (h5 : (c.maxLocals == mx && c.exceptionTable.isEmpty && decide (c.maxStack ≤ mostOperands) && decide (meth.sig.returnType = rt) && !meth.locks && decide (parseMethodDescriptor y.desc = some meth.sig)) = true) : (Jvm.Cond.code y bytes mx rt).before a s = true := by
  simp only [Bool.and_eq_true, beq_iff_eq, Bool.not_eq_true', decide_eq_true_eq] at h5
  obtain ⟨⟨⟨⟨⟨g1, g2⟩, g3⟩, g4⟩, g5⟩, g6⟩ := h5
  simp [Cond.before, Cond.holds, Cond.value, h1, h2, h3, h4, g1, g2, g3, g4, g5, g6]
def isCode : Jvm.Cond → Bool
  | .code _ _ _ _ => true
  | _ => false
theorem all_split {L : List Jvm.Cond} {P : Jvm.Cond → Bool} (h1 : L.all (fun c => isCode c || P c) = true) (h2 : ∀ c ∈ L.filter isCode, P c = true) : L.all P = true := by
  refine List.all_eq_true.mpr fun c hc => ?_
  have h := List.all_eq_true.mp h1 c hc
  rcases Bool.eq_false_or_eq_true (isCode c) with hi | hi
  · exact h2 c (List.mem_filter.mpr ⟨hc, hi⟩)
  · simpa [hi] using h
set_option maxRecDepth 65536 in
theorem w_c0 : (Jvm.Cond.code x code maxLocals ret).before args0 about1 = true := code_word (m := ⟨1, 2⟩) (meth := k1m2) (c := k1c2) (by decide +kernel) rfl rfl rfl (by decide +kernel)
set_option maxRecDepth 65536 in
theorem w_c1 : (Jvm.Cond.code ({ cls := "com/example/hatua/hatua/Tokens", name := "isBlank", desc := "(I)Z" } : Jvm.MethodName) prog_120_method_6_code (1 : Nat) (Option.some Jvm.ClassFile.FieldType.boolean)).before args0 about1 = true := code_word (m := ⟨2, 0⟩) (meth := k2m0) (c := k2c0) (by decide +kernel) rfl rfl rfl (by decide +kernel)
set_option maxRecDepth 65536 in
theorem w_c2 : (Jvm.Cond.code ({ cls := "com/example/hatua/hatua/TokensIsBlankPinLaw", name := "expected", desc := "(I)Z" } : Jvm.MethodName) method_2_code (1 : Nat) (Option.some Jvm.ClassFile.FieldType.boolean)).before args0 about1 = true := code_word (m := ⟨1, 1⟩) (meth := k1m1) (c := k1c1) (by decide +kernel) rfl rfl rfl (by decide +kernel)
def codes1 : List Jvm.Cond := [Jvm.Cond.code x code maxLocals ret, Jvm.Cond.code ({ cls := "com/example/hatua/hatua/Tokens", name := "isBlank", desc := "(I)Z" } : Jvm.MethodName) prog_120_method_6_code (1 : Nat) (Option.some Jvm.ClassFile.FieldType.boolean), Jvm.Cond.code ({ cls := "com/example/hatua/hatua/TokensIsBlankPinLaw", name := "expected", desc := "(I)Z" } : Jvm.MethodName) method_2_code (1 : Nat) (Option.some Jvm.ClassFile.FieldType.boolean)]
set_option maxRecDepth 65536 in
theorem codes_eq : words1.filter isCode = codes1 := rfl
theorem w_codes : ∀ c ∈ words1.filter isCode, c.before args0 about1 = true := by
  rw [codes_eq]
  intro c hc
  simp only [codes1, List.mem_cons, List.not_mem_nil, or_false] at hc
  rcases hc with rfl | rfl | rfl
  · exact w_c0
  · exact w_c1
  · exact w_c2
set_option maxRecDepth 65536 in
theorem w_t1 : words1.all (fun c => isCode c || c.before args0 about1) = true := by decide +kernel
theorem w_tables : (allAtoms (Jvm.Cond.code x code maxLocals ret :: tables_1)).before args0 about1 = true := by
  rw [allAtoms_all]
  show words1.all (fun c => c.before args0 about1) = true
  refine all_split ?_ w_codes
  rw [w_t1]
set_option maxRecDepth 65536 in
theorem w_case : (Jvm.Cond.and given_1 narrow_1).before args0 about1 = true := by decide +kernel
theorem w_applies : (headSpec (Jvm.Cond.code x code maxLocals ret :: tables_1) room_1).applies x e0.platform about1 = true :=
  (Spec.applies_iff w_frames).mpr ⟨w_running, w_runnable, w_alone, w_named, w_hears, w_ripe, w_room, w_tables⟩
theorem atStart : AtStart classFile x code maxLocals ret World_1 tables_1 room_1 Calls_1 rest_1 Pre_1 launch0 p0 e0 about1 theMethod args0 below0 :=
  ⟨lists_1, trivial, launch0.admits_env _ _ _, launch0.least_env, fairChoices_fair.cas, fairChoices_fair.clock, w_frames, w_args, w_heap, w_applies, trivial, trivial, w_case⟩
end start1
theorem witness_1 : WitnessClaimed_1 := ⟨start1.p0, start1.e0, start1.about1, start1.theMethod, start1.args0, start1.below0, start1.atStart⟩
end Jvm.Pilot.@@N@@
