import JvmDerived
import JvmDerived.Pilot.@@N@@Statement
import JvmDerived.Pilot.@@N@@Code
set_option linter.unusedVariables false
set_option linter.unusedSimpArgs false
namespace Jvm.RoadKit
open Sem ClassFile Op Lib Jvm.Stand Jvm.Free Jvm.LawKit
section New
variable {p : Program} {l : Launch} {e : Env} {R : Room} {s : State} {m : MethodId} {args : Array Value} {below : List Frame} {meth : Method} {c : Code} {T : State} {locs : List Loc} {cells slots : Nat}
theorem retI (X : Stand p l e R s m args below meth c T locs cells slots) (hx : p.tables.exec = Jvm.exec) {pc : Nat} {Ls : Array Slot} {z : Int32} {rest : List Value} (hret : meth.sig.returnType = some .int) (hd : decode c.code pc = .ok (.ireturn, 1)) {fs : List Frame}
    (hl : ∀ (f : JFrame) (acts : List Action), f.method = m → f.locked = none → f.entered = [] → (doReturn e (T.setTop f) acts (some (.int z))).1 = T.setFrames fs) : Steps p.tables e below (T.setTop (mkF m pc Ls (.int z :: rest))) (T.setFrames fs) := by
  have hm' : T.vm.method? m = some meth := X.method'
  have hn : narrow .int (.int z) = .int z := rfl
  show Steps p.tables e below (T.setTop { method := m, pc := pc, locals := Ls, stack := _ :: rest, locked := none }) _
  jvm_step X.here [X.here.top, hx, hd, hm', hret, hn]
  first | (intro acts; rw [hl _ acts rfl rfl rfl]) | rw [hl _ _ rfl rfl rfl]
  exact Steps.refl _
theorem own_lremM {g : JFrame} {target : State} (X : Stand p l e R s m args below meth c T locs cells slots) (hx : p.tables.exec = Jvm.exec) (hg : g.method = m) {x y : Int64} {rest : List Value} (hd : decode c.code g.pc = .ok (.lrem, 1)) (hs : g.stack = .long y :: .long x :: rest) (hy : y ≠ 0)
    (hr : Steps p.tables e below (T.setTop { g with pc := g.pc + 1, stack := .long (x % y) :: rest }) target) : Steps p.tables e below (T.setTop g) target := by
  have q : x - x / y * y = x % y := lrem_mod x y
  exact XS.lrem X.here hx hg hd hs hy (by rw [q]; exact hr)
theorem own_narB (P : Prop) [Decidable P] : nar .boolean (if P then (1 : Int32) else 0) = if P then (1 : Int32) else 0 := by split <;> rfl
end New
end Jvm.RoadKit
namespace Jvm.Pilot.@@N@@
open Jvm Jvm.ClassFile Sem Op Lib Jvm.Free Jvm.Stand Jvm.LawKit Jvm.RoadKit Bundle Jvm.Pilot.@@N@@.Jvm.D
theorem own_ne (q v : Int64) (hv : v = if q = (-9223372036854775808 : Int64) then (9223372036854775807 : Int64) else q) : ¬ v = (-9223372036854775808 : Int64) := by
  subst hv
  split
  · decide
  · assumption
theorem own_plain (q v r : Int64) (hv : v = if q = (-9223372036854775808 : Int64) then (9223372036854775807 : Int64) else q) (hr : r = -v) : ((r + v = (0 : Int64)) ∧ (((0 : Int64) < v ∧ r < (0 : Int64)) ∨ (¬ (0 : Int64) < v ∧ ((v < (0 : Int64) ∧ (0 : Int64) < r) ∨ (¬ v < (0 : Int64) ∧ r = (0 : Int64)))))) := by
  have hne := own_ne q v hv
  have h1 : v.toInt ≠ -9223372036854775808 := fun h => hne (Int64.toInt_inj.mp h)
  have h2 := rng64 v
  have h3 : r.toInt = -v.toInt := by
    have := c_lneg v
    rw [← hr] at this
    have h4 := rng64 r
    omega
  have h5 : r + v = 0 := by rw [hr]; exact Int64.add_left_neg v
  refine ⟨h5, ?_⟩
  rw [Int64.lt_iff_toInt_lt, Int64.lt_iff_toInt_lt, Int64.lt_iff_toInt_lt, Int64.lt_iff_toInt_lt, ← Int64.toInt_inj (x := r), Int64.toInt_zero]
  omega
theorem d1_0 : decode prog_14_method_5_code 0 = .ok (.lload_n 0, 1) := by decide +kernel
theorem d1_1 : decode prog_14_method_5_code 1 = .ok (.ldc2_w 30, 3) := by decide +kernel
theorem d1_4 : decode prog_14_method_5_code 4 = .ok (.lcmp, 1) := by decide +kernel
theorem d1_5 : decode prog_14_method_5_code 5 = .ok (.ifCond .ne 13, 3) := by decide +kernel
theorem d1_18 : decode prog_14_method_5_code 18 = .ok (.lload_n 0, 1) := by decide +kernel
theorem d1_19 : decode prog_14_method_5_code 19 = .ok (.lneg, 1) := by decide +kernel
theorem d1_20 : decode prog_14_method_5_code 20 = .ok (.lreturn, 1) := by decide +kernel
theorem pn1 : plainName "com/example/abrupt/abrupt/compiler/Arithmetic" = true := by first | (simp [plainName, overriddenIn]; done) | decide +kernel
theorem ef1 (m : MethodId) (q0 : Int64) : entryFrame m #[(.long q0)] 2 = mkF m 0 #[.val (.long q0), .second] [] := by first | (simp [entryFrame, mkF, argsToLocals, Value.category]; done) | rfl
abbrev own_room1 : Room := { frames := 0, cells := 0, slots := 0, locals := 0 }
def Q1 (Z : State) (q0 : Int64) (h0 : Heap) (n0 : Nat) (v : Option Value) (h : Heap) (L : List Loc) : Prop := v = some (.long (-q0)) ∧ Fr n0 L ∧ h = h0
set_option maxRecDepth 65536 in
set_option maxHeartbeats 40000000 in
theorem rm1 (l : Launch) (Z : State) (a0 : Array Value) (hw : ∀ d ∈ tables_1, d.before a0 Z = true) (ws : List Jvm.Cond) (q0 : Int64) (h0 : Heap) (n0 : Nat) (Z0 : n0 ≤ h0.size) (hne : ¬ (q0 = (-9223372036854775808 : Int64))) :
    MetFree l (⟨"com/example/abrupt/abrupt/compiler/Arithmetic", "negate", "(J)J"⟩ : MethodName) (head1 (Jvm.Cond.code (⟨"com/example/abrupt/abrupt/compiler/Arithmetic", "negate", "(J)J"⟩ : MethodName) prog_14_method_5_code 2 (some .long) :: ws) own_room1) (fun a U => a = #[(.long q0)] ∧ Z.Warmed39 U.vm ∧ U.heap = h0) (fun _ _ _ _ _ => True) (fun _ U o U' => ∃ v L, o = .returned v ∧ Q1 Z q0 h0 n0 v U'.heap L ∧ FrameEnd U o U' L own_room1.cells own_room1.slots) := by
  refine MetFree.of_bodySF (plainFor_of_name pn1) hisR ?_
  intro p e s m args below meth c s₁ Bd hml0 hP hK
  obtain ⟨rfl, hZ, hh⟩ := hP
  have hx := Bd.exec
  have hby := Bd.bytes
  have hml : c.maxLocals = 2 := hml0
  have hown : s.vm.findClass "com/example/abrupt/abrupt/compiler/Arithmetic" = some m.cls := findClass_of_methodNamed Bd.named
  have hnm := (name_of_methodNamed Bd.named Bd.method).1
  have X0 : Stand p l e own_room1 s m #[(.long q0)] below meth c s₁ [] 0 0 := Stand.of_body Bd
  have e0 : s₁.heap = h0 := by rw [← hh, Bd.state]; rfl
  have N0 := Fr.nil n0
  have pre0 : ∀ t, Steps p.tables e below (s₁.setTop (mkF m 0 #[.val (.long q0), .second] [])) t → Steps p.tables e below (s₁.setTop (entryFrame m #[(.long q0)] 2)) t := fun t k => castTop (ef1 m q0) k
  have pre20 : ∀ t, Steps p.tables e below (s₁.setTop (mkF m 20 #[.val (.long q0), .second] [(.long (-q0))])) t → Steps p.tables e below (s₁.setTop (entryFrame m #[(.long q0)] 2)) t := fun t k => pre0 t (by
    show Steps p.tables e below (s₁.setTop (mkF m 0 #[.val (.long q0), .second] [])) t
    refine XS.lloadN X0.here hx rfl (hb hby d1_0) rfl ?_
    show Steps p.tables e below (s₁.setTop (mkF m 1 #[.val (.long q0), .second] [(.long q0)])) _
    refine X0.ldc2Long hx hown (mvT hZ (hw _ (List.mem_of_getElem? (i := 5) rfl))) (g := (mkF m 1 #[.val (.long q0), .second] [(.long q0)])) rfl (hb hby d1_1) _ ?_
    show Steps p.tables e below (s₁.setTop (mkF m 4 #[.val (.long q0), .second] [(.long (-9223372036854775808 : Int64)), (.long q0)])) _
    refine XS.lcmp X0.here hx rfl (hb hby d1_4) rfl ?_
    show Steps p.tables e below (s₁.setTop (mkF m 5 #[.val (.long q0), .second] [(.int (lcmpW q0 (-9223372036854775808 : Int64)))])) _
    refine XS.ifYes X0.here hx rfl (pc0 := 5) (pc' := 18) rfl (hb hby d1_5) rfl ((if0 _ _).trans (feq (fun q => hne ((lw_eq _ _).mp q))).2) (by decide) (by decide) ?_
    show Steps p.tables e below (s₁.setTop (mkF m 18 #[.val (.long q0), .second] [])) _
    refine XS.lloadN X0.here hx rfl (hb hby d1_18) rfl ?_
    show Steps p.tables e below (s₁.setTop (mkF m 19 #[.val (.long q0), .second] [(.long q0)])) _
    refine XS.lneg X0.here hx rfl (hb hby d1_19) rfl ?_
    show Steps p.tables e below (s₁.setTop (mkF m 20 #[.val (.long q0), .second] [(.long (-q0))])) _
    exact k)
  obtain ⟨fs, hr, hrun, hended, hW, hsame⟩ := X0.leave (v := some (.long (-q0))) (fun h => by rw [Bd.returns] at h; cases h)
  refine ⟨_, _, pre20 _ ?_, hrun, hended, _, _, rfl, ?_, ⟨_, rfl⟩, hW, hsame.mono (by decide) (by decide)⟩
  · show Steps p.tables e below (s₁.setTop (mkF m 20 #[.val (.long q0), .second] [(.long (-q0))])) _
    exact retOut X0 hx Bd.returns rfl (Or.inr (Or.inl ⟨rfl, rfl, _, rfl⟩)) (hb hby d1_20) hr
  · show Q1 Z q0 h0 n0 _ s₁.heap _
    rw [e0]
    have hres : (-q0) = (-q0) := by
      rfl
    exact ⟨congrArg (fun q => some (Value.long q)) hres, N0, rfl⟩
theorem pn0 : plainName "com/example/abrupt/abrupt/compiler/ArithmeticNegatePinLaw" = true := by first | (simp [plainName, overriddenIn]; done) | decide +kernel
theorem pd0_0 : parseMethodDescriptor "(J)J" = some ⟨[.long], some .long⟩ := by decide +kernel
theorem ef0 (m : MethodId) (q0 : Int64) : entryFrame m #[(.long q0)] maxLocals = mkF m 0 #[.val (.long q0), .second, .unset, .unset, .unset, .unset, .unset, .unset] [] := by first | (simp [entryFrame, mkF, argsToLocals, Value.category, maxLocals]; done) | rfl
def Q0 (Z : State) (q0 : Int64) (h0 : Heap) (n0 : Nat) (v : Option Value) (h : Heap) (L : List Loc) : Prop := v = some (.int (1 : Int32)) ∧ Fr n0 L
set_option maxRecDepth 65536 in
set_option maxHeartbeats 40000000 in
theorem rm0 (l : Launch) (Z : State) (a0 : Array Value) (hw : ∀ d ∈ tables_1, d.before a0 Z = true) (ws : List Jvm.Cond) (q0 : Int64) (h0 : Heap) (n0 : Nat) (Z0 : n0 ≤ h0.size) :
    MetFree l x (head1 (Jvm.Cond.code x code maxLocals ret :: ws) room_1) (fun a U => a = #[(.long q0)] ∧ Z.Warmed39 U.vm ∧ U.heap = h0) (fun _ _ _ _ _ => True) (fun _ U o U' => ∃ v L, o = .returned v ∧ Q0 Z q0 h0 n0 v U'.heap L ∧ FrameEnd U o U' L room_1.cells room_1.slots) := by
  refine MetFree.of_bodySF (plainFor_of_name pn0) hisR ?_
  intro p e s m args below meth c s₁ Bd hml0 hP hK
  obtain ⟨rfl, hZ, hh⟩ := hP
  have hx := Bd.exec
  have hby := Bd.bytes
  have hml : c.maxLocals = 8 := hml0
  have hown : s.vm.findClass "com/example/abrupt/abrupt/compiler/ArithmeticNegatePinLaw" = some m.cls := findClass_of_methodNamed Bd.named
  have hnm := (name_of_methodNamed Bd.named Bd.method).1
  have X0 : Stand p l e room_1 s m #[(.long q0)] below meth c s₁ [] 0 0 := Stand.of_body Bd
  have e0 : s₁.heap = h0 := by rw [← hh, Bd.state]; rfl
  have N0 := Fr.nil n0
  have pre0 : ∀ t, Steps p.tables e below (s₁.setTop (mkF m 0 #[.val (.long q0), .second, .unset, .unset, .unset, .unset, .unset, .unset] [])) t → Steps p.tables e below (s₁.setTop (entryFrame m #[(.long q0)] maxLocals)) t := fun t k => castTop (ef0 m q0) k
  have pre5 : ∀ t, Steps p.tables e below (s₁.setTop (mkF m 5 #[.val (.long q0), .second, .unset, .unset, .unset, .unset, .unset, .unset] [(.int (lcmpW q0 (-9223372036854775808 : Int64)))])) t → Steps p.tables e below (s₁.setTop (entryFrame m #[(.long q0)] maxLocals)) t := fun t k => pre0 t (by
    show Steps p.tables e below (s₁.setTop (mkF m 0 #[.val (.long q0), .second, .unset, .unset, .unset, .unset, .unset, .unset] [])) t
    refine XS.lloadN X0.here hx rfl (hb hby at_0) rfl ?_
    show Steps p.tables e below (s₁.setTop (mkF m 1 #[.val (.long q0), .second, .unset, .unset, .unset, .unset, .unset, .unset] [(.long q0)])) _
    refine X0.ldc2Long hx hown (mvT hZ (hw _ (List.mem_of_getElem? (i := 0) rfl))) (g := (mkF m 1 #[.val (.long q0), .second, .unset, .unset, .unset, .unset, .unset, .unset] [(.long q0)])) rfl (hb hby at_1) _ ?_
    show Steps p.tables e below (s₁.setTop (mkF m 4 #[.val (.long q0), .second, .unset, .unset, .unset, .unset, .unset, .unset] [(.long (-9223372036854775808 : Int64)), (.long q0)])) _
    refine XS.lcmp X0.here hx rfl (hb hby at_4) rfl ?_
    show Steps p.tables e below (s₁.setTop (mkF m 5 #[.val (.long q0), .second, .unset, .unset, .unset, .unset, .unset, .unset] [(.int (lcmpW q0 (-9223372036854775808 : Int64)))])) _
    exact k)
  obtain ⟨v15_s0, hv15_s0⟩ : ∃ z : Int64, z = (if q0 = (-9223372036854775808 : Int64) then (9223372036854775807 : Int64) else q0) := ⟨_, rfl⟩
  have pre15 : ∀ t, Steps p.tables e below (s₁.setTop (mkF m 15 #[.val (.long q0), .second, .unset, .unset, .unset, .unset, .unset, .unset] [(.long v15_s0)])) t → Steps p.tables e below (s₁.setTop (entryFrame m #[(.long q0)] maxLocals)) t := by
    by_cases hc5 : q0 = (-9223372036854775808 : Int64)
    · -- q0 = (-9223372036854775808 : Int64)
      have pre8 : ∀ t, Steps p.tables e below (s₁.setTop (mkF m 8 #[.val (.long q0), .second, .unset, .unset, .unset, .unset, .unset, .unset] [])) t → Steps p.tables e below (s₁.setTop (entryFrame m #[(.long q0)] maxLocals)) t := fun t k => pre5 t (by
        show Steps p.tables e below (s₁.setTop (mkF m 5 #[.val (.long q0), .second, .unset, .unset, .unset, .unset, .unset, .unset] [(.int (lcmpW q0 (-9223372036854775808 : Int64)))])) t
        refine XS.ifNo X0.here hx rfl (hb hby at_5) rfl ((if0 _ _).trans (teq ((lw_eq _ _).mpr hc5)).2) ?_
        exact k)
      have pre15 : ∀ t, Steps p.tables e below (s₁.setTop (mkF m 15 #[.val (.long q0), .second, .unset, .unset, .unset, .unset, .unset, .unset] [(.long (9223372036854775807 : Int64))])) t → Steps p.tables e below (s₁.setTop (entryFrame m #[(.long q0)] maxLocals)) t := fun t k => pre8 t (by
        show Steps p.tables e below (s₁.setTop (mkF m 8 #[.val (.long q0), .second, .unset, .unset, .unset, .unset, .unset, .unset] [])) t
        refine X0.ldc2Long hx hown (mvT hZ (hw _ (List.mem_of_getElem? (i := 6) rfl))) (g := (mkF m 8 #[.val (.long q0), .second, .unset, .unset, .unset, .unset, .unset, .unset] [])) rfl (hb hby at_8) _ ?_
        show Steps p.tables e below (s₁.setTop (mkF m 11 #[.val (.long q0), .second, .unset, .unset, .unset, .unset, .unset, .unset] [(.long (9223372036854775807 : Int64))])) _
        refine XS.goto X0.here hx rfl (pc0 := 11) (pc' := 15) rfl (hb hby at_11) (by decide) (by decide) ?_
        show Steps p.tables e below (s₁.setTop (mkF m 15 #[.val (.long q0), .second, .unset, .unset, .unset, .unset, .unset, .unset] [(.long (9223372036854775807 : Int64))])) _
        exact k)
      have ehv15_s0 := hv15_s0.trans (if_pos hc5)
      exact fun t k => pre15 t (by subst ehv15_s0; exact k)
    · -- not q0 = (-9223372036854775808 : Int64)
      have pre14 : ∀ t, Steps p.tables e below (s₁.setTop (mkF m 14 #[.val (.long q0), .second, .unset, .unset, .unset, .unset, .unset, .unset] [])) t → Steps p.tables e below (s₁.setTop (entryFrame m #[(.long q0)] maxLocals)) t := fun t k => pre5 t (by
        show Steps p.tables e below (s₁.setTop (mkF m 5 #[.val (.long q0), .second, .unset, .unset, .unset, .unset, .unset, .unset] [(.int (lcmpW q0 (-9223372036854775808 : Int64)))])) t
        refine XS.ifYes X0.here hx rfl (pc0 := 5) (pc' := 14) rfl (hb hby at_5) rfl ((if0 _ _).trans (feq (fun q => hc5 ((lw_eq _ _).mp q))).2) (by decide) (by decide) ?_
        exact k)
      have pre15 : ∀ t, Steps p.tables e below (s₁.setTop (mkF m 15 #[.val (.long q0), .second, .unset, .unset, .unset, .unset, .unset, .unset] [(.long q0)])) t → Steps p.tables e below (s₁.setTop (entryFrame m #[(.long q0)] maxLocals)) t := fun t k => pre14 t (by
        show Steps p.tables e below (s₁.setTop (mkF m 14 #[.val (.long q0), .second, .unset, .unset, .unset, .unset, .unset, .unset] [])) t
        refine XS.lloadN X0.here hx rfl (hb hby at_14) rfl ?_
        show Steps p.tables e below (s₁.setTop (mkF m 15 #[.val (.long q0), .second, .unset, .unset, .unset, .unset, .unset, .unset] [(.long q0)])) _
        exact k)
      have ehv15_s0 := hv15_s0.trans (if_neg hc5)
      exact fun t k => pre15 t (by subst ehv15_s0; exact k)
  have pre17 : ∀ t, Steps p.tables e below (s₁.setTop (mkF m 17 #[.val (.long q0), .second, .val (.long v15_s0), .second, .unset, .unset, .unset, .unset] [(.long v15_s0)])) t → Steps p.tables e below (s₁.setTop (entryFrame m #[(.long q0)] maxLocals)) t := fun t k => pre15 t (by
    show Steps p.tables e below (s₁.setTop (mkF m 15 #[.val (.long q0), .second, .unset, .unset, .unset, .unset, .unset, .unset] [(.long v15_s0)])) t
    refine XS.lstoreN X0.here hx rfl (hb hby at_15) rfl (l' := #[.val (.long q0), .second, .val (.long v15_s0), .second, .unset, .unset, .unset, .unset]) rfl ?_
    show Steps p.tables e below (s₁.setTop (mkF m 16 #[.val (.long q0), .second, .val (.long v15_s0), .second, .unset, .unset, .unset, .unset] [])) _
    refine XS.lloadN X0.here hx rfl (hb hby at_16) rfl ?_
    show Steps p.tables e below (s₁.setTop (mkF m 17 #[.val (.long q0), .second, .val (.long v15_s0), .second, .unset, .unset, .unset, .unset] [(.long v15_s0)])) _
    exact k)
  obtain ⟨_, _, ⟨T17, L17, k17, n17⟩, -, X17, ⟨Lc17, hQ17, l17, y17, z17⟩, st17⟩ := Jvm.LawKit.callS X0 hx (y := (⟨"com/example/abrupt/abrupt/compiler/Arithmetic", "negate", "(J)J"⟩ : MethodName)) hown (mvT hZ (hw _ (List.mem_of_getElem? (i := 1) rfl))) (mvT hZ (hw _ (List.mem_of_getElem? (i := 2) rfl))) (mvT hZ (hw _ (List.mem_of_getElem? (i := 3) rfl))) (mvT hZ (hw _ (List.mem_of_getElem? (i := 4) rfl))) (by decide) (backOf (W := 0) (rm1 l Z a0 hw [] v15_s0  h0 n0 Z0 (own_ne q0 v15_s0 hv15_s0)) hZ (hw _ (List.mem_of_getElem? (i := 4) rfl)) (hw _ (List.mem_of_getElem? (i := 3) rfl)) (by decide) (by decide)) (g := (mkF m 17 #[.val (.long q0), .second, .val (.long v15_s0), .second, .unset, .unset, .unset, .unset] [(.long v15_s0)])) rfl (by rw [hml]; rfl) (argsL := [(.long v15_s0)]) (rest := []) (lenOf pd0_0 rfl) rfl (by show 2 * 0 + _ ≤ _; exact Nat.le_of_eq rfl) (hb hby at_17) (fun _ _ => ⟨rfl, e0, (by decide : 0 + 0 ≤ _), (by decide : 0 + 0 ≤ _)⟩)
  dsimp only [Pt.U, Pt.locs, Pt.cells, Pt.slots] at X17 l17 y17 z17 st17 hQ17
  subst l17 y17 z17
  obtain ⟨rfl, N17q, e17⟩ := hQ17
  have N17 := Fr.app N0 N17q
  have pre20 : ∀ t, Steps p.tables e below (T17.setTop (mkF m 20 #[.val (.long q0), .second, .val (.long v15_s0), .second, .unset, .unset, .unset, .unset] [(.long (-v15_s0))])) t → Steps p.tables e below (s₁.setTop (entryFrame m #[(.long q0)] maxLocals)) t := fun t k => pre17 t (st17 _ k)
  obtain ⟨x20, hx20⟩ : ∃ z : Int64, z = (-v15_s0) := ⟨_, rfl⟩
  have pre22 : ∀ t, Steps p.tables e below (T17.setTop (mkF m 22 #[.val (.long q0), .second, .val (.long v15_s0), .second, .val (.long x20), .second, .unset, .unset] [])) t → Steps p.tables e below (s₁.setTop (entryFrame m #[(.long q0)] maxLocals)) t := fun t k => pre20 t (by
    show Steps p.tables e below (T17.setTop (mkF m 20 #[.val (.long q0), .second, .val (.long v15_s0), .second, .unset, .unset, .unset, .unset] [(.long (-v15_s0))])) t
    refine XS.lstore X17.here hx rfl (hb hby at_20) rfl (l' := #[.val (.long q0), .second, .val (.long v15_s0), .second, .val (.long (-v15_s0)), .second, .unset, .unset]) rfl ?_
    show Steps p.tables e below (T17.setTop (mkF m 22 #[.val (.long q0), .second, .val (.long v15_s0), .second, .val (.long (-v15_s0)), .second, .unset, .unset] [])) _
    subst hx20
    exact k)
  have pre28 : ∀ t, Steps p.tables e below (T17.setTop (mkF m 28 #[.val (.long q0), .second, .val (.long v15_s0), .second, .val (.long x20), .second, .unset, .unset] [(.int (lcmpW (x20 + v15_s0) (0 : Int64)))])) t → Steps p.tables e below (s₁.setTop (entryFrame m #[(.long q0)] maxLocals)) t := fun t k => pre22 t (by
    show Steps p.tables e below (T17.setTop (mkF m 22 #[.val (.long q0), .second, .val (.long v15_s0), .second, .val (.long x20), .second, .unset, .unset] [])) t
    refine XS.lload X17.here hx rfl (hb hby at_22) rfl ?_
    show Steps p.tables e below (T17.setTop (mkF m 24 #[.val (.long q0), .second, .val (.long v15_s0), .second, .val (.long x20), .second, .unset, .unset] [(.long x20)])) _
    refine XS.lloadN X17.here hx rfl (hb hby at_24) rfl ?_
    show Steps p.tables e below (T17.setTop (mkF m 25 #[.val (.long q0), .second, .val (.long v15_s0), .second, .val (.long x20), .second, .unset, .unset] [(.long v15_s0), (.long x20)])) _
    refine XS.ladd X17.here hx rfl (hb hby at_25) rfl ?_
    show Steps p.tables e below (T17.setTop (mkF m 26 #[.val (.long q0), .second, .val (.long v15_s0), .second, .val (.long x20), .second, .unset, .unset] [(.long (x20 + v15_s0))])) _
    refine XS.lconst X17.here hx rfl (hb hby at_26) ?_
    show Steps p.tables e below (T17.setTop (mkF m 27 #[.val (.long q0), .second, .val (.long v15_s0), .second, .val (.long x20), .second, .unset, .unset] [(.long (0 : Int64)), (.long (x20 + v15_s0))])) _
    refine XS.lcmp X17.here hx rfl (hb hby at_27) rfl ?_
    show Steps p.tables e below (T17.setTop (mkF m 28 #[.val (.long q0), .second, .val (.long v15_s0), .second, .val (.long x20), .second, .unset, .unset] [(.int (lcmpW (x20 + v15_s0) (0 : Int64)))])) _
    exact k)
  obtain ⟨v36_s0, hv36_s0⟩ : ∃ z : Int32, z = if ((x20 + v15_s0) = (0 : Int64)) then (1 : Int32) else 0 := ⟨_, rfl⟩
  have pre36 : ∀ t, Steps p.tables e below (T17.setTop (mkF m 36 #[.val (.long q0), .second, .val (.long v15_s0), .second, .val (.long x20), .second, .unset, .unset] [(.int v36_s0)])) t → Steps p.tables e below (s₁.setTop (entryFrame m #[(.long q0)] maxLocals)) t := by
    by_cases hc28 : (x20 + v15_s0) = (0 : Int64)
    · -- (x20 + v15_s0) = (0 : Int64)
      have pre31 : ∀ t, Steps p.tables e below (T17.setTop (mkF m 31 #[.val (.long q0), .second, .val (.long v15_s0), .second, .val (.long x20), .second, .unset, .unset] [])) t → Steps p.tables e below (s₁.setTop (entryFrame m #[(.long q0)] maxLocals)) t := fun t k => pre28 t (by
        show Steps p.tables e below (T17.setTop (mkF m 28 #[.val (.long q0), .second, .val (.long v15_s0), .second, .val (.long x20), .second, .unset, .unset] [(.int (lcmpW (x20 + v15_s0) (0 : Int64)))])) t
        refine XS.ifNo X17.here hx rfl (hb hby at_28) rfl ((if0 _ _).trans (teq ((lw_eq _ _).mpr hc28)).2) ?_
        exact k)
      have pre36 : ∀ t, Steps p.tables e below (T17.setTop (mkF m 36 #[.val (.long q0), .second, .val (.long v15_s0), .second, .val (.long x20), .second, .unset, .unset] [(.int (1 : Int32))])) t → Steps p.tables e below (s₁.setTop (entryFrame m #[(.long q0)] maxLocals)) t := fun t k => pre31 t (by
        show Steps p.tables e below (T17.setTop (mkF m 31 #[.val (.long q0), .second, .val (.long v15_s0), .second, .val (.long x20), .second, .unset, .unset] [])) t
        refine XS.iconst X17.here hx rfl (hb hby at_31) ?_
        show Steps p.tables e below (T17.setTop (mkF m 32 #[.val (.long q0), .second, .val (.long v15_s0), .second, .val (.long x20), .second, .unset, .unset] [(.int (1 : Int32))])) _
        refine XS.goto X17.here hx rfl (pc0 := 32) (pc' := 36) rfl (hb hby at_32) (by decide) (by decide) ?_
        show Steps p.tables e below (T17.setTop (mkF m 36 #[.val (.long q0), .second, .val (.long v15_s0), .second, .val (.long x20), .second, .unset, .unset] [(.int (1 : Int32))])) _
        exact k)
      have ehv36_s0 := hv36_s0.trans (if_pos hc28)
      exact fun t k => pre36 t (by subst ehv36_s0; exact k)
    · -- not (x20 + v15_s0) = (0 : Int64)
      have pre35 : ∀ t, Steps p.tables e below (T17.setTop (mkF m 35 #[.val (.long q0), .second, .val (.long v15_s0), .second, .val (.long x20), .second, .unset, .unset] [])) t → Steps p.tables e below (s₁.setTop (entryFrame m #[(.long q0)] maxLocals)) t := fun t k => pre28 t (by
        show Steps p.tables e below (T17.setTop (mkF m 28 #[.val (.long q0), .second, .val (.long v15_s0), .second, .val (.long x20), .second, .unset, .unset] [(.int (lcmpW (x20 + v15_s0) (0 : Int64)))])) t
        refine XS.ifYes X17.here hx rfl (pc0 := 28) (pc' := 35) rfl (hb hby at_28) rfl ((if0 _ _).trans (feq (fun q => hc28 ((lw_eq _ _).mp q))).2) (by decide) (by decide) ?_
        exact k)
      have pre36 : ∀ t, Steps p.tables e below (T17.setTop (mkF m 36 #[.val (.long q0), .second, .val (.long v15_s0), .second, .val (.long x20), .second, .unset, .unset] [(.int (0 : Int32))])) t → Steps p.tables e below (s₁.setTop (entryFrame m #[(.long q0)] maxLocals)) t := fun t k => pre35 t (by
        show Steps p.tables e below (T17.setTop (mkF m 35 #[.val (.long q0), .second, .val (.long v15_s0), .second, .val (.long x20), .second, .unset, .unset] [])) t
        refine XS.iconst X17.here hx rfl (hb hby at_35) ?_
        show Steps p.tables e below (T17.setTop (mkF m 36 #[.val (.long q0), .second, .val (.long v15_s0), .second, .val (.long x20), .second, .unset, .unset] [(.int (0 : Int32))])) _
        exact k)
      have ehv36_s0 := hv36_s0.trans (if_neg hc28)
      exact fun t k => pre36 t (by subst ehv36_s0; exact k)
  have pre41 : ∀ t, Steps p.tables e below (T17.setTop (mkF m 41 #[.val (.long q0), .second, .val (.long v15_s0), .second, .val (.long x20), .second, .val (.int v36_s0), .unset] [(.int (lcmpW v15_s0 (0 : Int64)))])) t → Steps p.tables e below (s₁.setTop (entryFrame m #[(.long q0)] maxLocals)) t := fun t k => pre36 t (by
    show Steps p.tables e below (T17.setTop (mkF m 36 #[.val (.long q0), .second, .val (.long v15_s0), .second, .val (.long x20), .second, .unset, .unset] [(.int v36_s0)])) t
    refine XS.istore X17.here hx rfl (hb hby at_36) rfl (l' := #[.val (.long q0), .second, .val (.long v15_s0), .second, .val (.long x20), .second, .val (.int v36_s0), .unset]) rfl ?_
    show Steps p.tables e below (T17.setTop (mkF m 38 #[.val (.long q0), .second, .val (.long v15_s0), .second, .val (.long x20), .second, .val (.int v36_s0), .unset] [])) _
    refine XS.lloadN X17.here hx rfl (hb hby at_38) rfl ?_
    show Steps p.tables e below (T17.setTop (mkF m 39 #[.val (.long q0), .second, .val (.long v15_s0), .second, .val (.long x20), .second, .val (.int v36_s0), .unset] [(.long v15_s0)])) _
    refine XS.lconst X17.here hx rfl (hb hby at_39) ?_
    show Steps p.tables e below (T17.setTop (mkF m 40 #[.val (.long q0), .second, .val (.long v15_s0), .second, .val (.long x20), .second, .val (.int v36_s0), .unset] [(.long (0 : Int64)), (.long v15_s0)])) _
    refine XS.lcmp X17.here hx rfl (hb hby at_40) rfl ?_
    show Steps p.tables e below (T17.setTop (mkF m 41 #[.val (.long q0), .second, .val (.long v15_s0), .second, .val (.long x20), .second, .val (.int v36_s0), .unset] [(.int (lcmpW v15_s0 (0 : Int64)))])) _
    exact k)
  obtain ⟨v92_s0, hv92_s0⟩ : ∃ z : Int32, z = if ((((0 : Int64) < v15_s0) ∧ (x20 < (0 : Int64))) ∨ ((¬ ((0 : Int64) < v15_s0)) ∧ (((v15_s0 < (0 : Int64)) ∧ ((0 : Int64) < x20)) ∨ ((¬ (v15_s0 < (0 : Int64))) ∧ (x20 = (0 : Int64)))))) then (1 : Int32) else 0 := ⟨_, rfl⟩
  have pre92 : ∀ t, Steps p.tables e below (T17.setTop (mkF m 92 #[.val (.long q0), .second, .val (.long v15_s0), .second, .val (.long x20), .second, .val (.int v36_s0), .unset] [(.int v92_s0)])) t → Steps p.tables e below (s₁.setTop (entryFrame m #[(.long q0)] maxLocals)) t := by
    by_cases hc41 : (0 : Int64) < v15_s0
    · -- (0 : Int64) < v15_s0
      have pre44 : ∀ t, Steps p.tables e below (T17.setTop (mkF m 44 #[.val (.long q0), .second, .val (.long v15_s0), .second, .val (.long x20), .second, .val (.int v36_s0), .unset] [])) t → Steps p.tables e below (s₁.setTop (entryFrame m #[(.long q0)] maxLocals)) t := fun t k => pre41 t (by
        show Steps p.tables e below (T17.setTop (mkF m 41 #[.val (.long q0), .second, .val (.long v15_s0), .second, .val (.long x20), .second, .val (.int v36_s0), .unset] [(.int (lcmpW v15_s0 (0 : Int64)))])) t
        refine XS.ifNo X17.here hx rfl (hb hby at_41) rfl ((if0 _ _).trans (tlt ((lw_gt _ _).mpr hc41)).2.2.2) ?_
        exact k)
      have pre48 : ∀ t, Steps p.tables e below (T17.setTop (mkF m 48 #[.val (.long q0), .second, .val (.long v15_s0), .second, .val (.long x20), .second, .val (.int v36_s0), .unset] [(.int (lcmpW x20 (0 : Int64)))])) t → Steps p.tables e below (s₁.setTop (entryFrame m #[(.long q0)] maxLocals)) t := fun t k => pre44 t (by
        show Steps p.tables e below (T17.setTop (mkF m 44 #[.val (.long q0), .second, .val (.long v15_s0), .second, .val (.long x20), .second, .val (.int v36_s0), .unset] [])) t
        refine XS.lload X17.here hx rfl (hb hby at_44) rfl ?_
        show Steps p.tables e below (T17.setTop (mkF m 46 #[.val (.long q0), .second, .val (.long v15_s0), .second, .val (.long x20), .second, .val (.int v36_s0), .unset] [(.long x20)])) _
        refine XS.lconst X17.here hx rfl (hb hby at_46) ?_
        show Steps p.tables e below (T17.setTop (mkF m 47 #[.val (.long q0), .second, .val (.long v15_s0), .second, .val (.long x20), .second, .val (.int v36_s0), .unset] [(.long (0 : Int64)), (.long x20)])) _
        refine XS.lcmp X17.here hx rfl (hb hby at_47) rfl ?_
        show Steps p.tables e below (T17.setTop (mkF m 48 #[.val (.long q0), .second, .val (.long v15_s0), .second, .val (.long x20), .second, .val (.int v36_s0), .unset] [(.int (lcmpW x20 (0 : Int64)))])) _
        exact k)
      by_cases hc48 : x20 < (0 : Int64)
      · -- x20 < (0 : Int64)
        have pre51 : ∀ t, Steps p.tables e below (T17.setTop (mkF m 51 #[.val (.long q0), .second, .val (.long v15_s0), .second, .val (.long x20), .second, .val (.int v36_s0), .unset] [])) t → Steps p.tables e below (s₁.setTop (entryFrame m #[(.long q0)] maxLocals)) t := fun t k => pre48 t (by
          show Steps p.tables e below (T17.setTop (mkF m 48 #[.val (.long q0), .second, .val (.long v15_s0), .second, .val (.long x20), .second, .val (.int v36_s0), .unset] [(.int (lcmpW x20 (0 : Int64)))])) t
          refine XS.ifNo X17.here hx rfl (hb hby at_48) rfl ((if0 _ _).trans (tlt ((lw_lt _ _).mpr hc48)).2.1) ?_
          exact k)
        have pre92 : ∀ t, Steps p.tables e below (T17.setTop (mkF m 92 #[.val (.long q0), .second, .val (.long v15_s0), .second, .val (.long x20), .second, .val (.int v36_s0), .unset] [(.int (1 : Int32))])) t → Steps p.tables e below (s₁.setTop (entryFrame m #[(.long q0)] maxLocals)) t := fun t k => pre51 t (by
          show Steps p.tables e below (T17.setTop (mkF m 51 #[.val (.long q0), .second, .val (.long v15_s0), .second, .val (.long x20), .second, .val (.int v36_s0), .unset] [])) t
          refine XS.iconst X17.here hx rfl (hb hby at_51) ?_
          show Steps p.tables e below (T17.setTop (mkF m 52 #[.val (.long q0), .second, .val (.long v15_s0), .second, .val (.long x20), .second, .val (.int v36_s0), .unset] [(.int (1 : Int32))])) _
          refine XS.goto X17.here hx rfl (pc0 := 52) (pc' := 92) rfl (hb hby at_52) (by decide) (by decide) ?_
          show Steps p.tables e below (T17.setTop (mkF m 92 #[.val (.long q0), .second, .val (.long v15_s0), .second, .val (.long x20), .second, .val (.int v36_s0), .unset] [(.int (1 : Int32))])) _
          exact k)
        have ehv92_s0 := hv92_s0.trans (if_pos (Or.inl ⟨hc41, hc48⟩))
        exact fun t k => pre92 t (by subst ehv92_s0; exact k)
      · -- not x20 < (0 : Int64)
        have pre55 : ∀ t, Steps p.tables e below (T17.setTop (mkF m 55 #[.val (.long q0), .second, .val (.long v15_s0), .second, .val (.long x20), .second, .val (.int v36_s0), .unset] [])) t → Steps p.tables e below (s₁.setTop (entryFrame m #[(.long q0)] maxLocals)) t := fun t k => pre48 t (by
          show Steps p.tables e below (T17.setTop (mkF m 48 #[.val (.long q0), .second, .val (.long v15_s0), .second, .val (.long x20), .second, .val (.int v36_s0), .unset] [(.int (lcmpW x20 (0 : Int64)))])) t
          refine XS.ifYes X17.here hx rfl (pc0 := 48) (pc' := 55) rfl (hb hby at_48) rfl ((if0 _ _).trans (flt (fun q => hc48 ((lw_lt _ _).mp q))).2.1) (by decide) (by decide) ?_
          exact k)
        have pre92 : ∀ t, Steps p.tables e below (T17.setTop (mkF m 92 #[.val (.long q0), .second, .val (.long v15_s0), .second, .val (.long x20), .second, .val (.int v36_s0), .unset] [(.int (0 : Int32))])) t → Steps p.tables e below (s₁.setTop (entryFrame m #[(.long q0)] maxLocals)) t := fun t k => pre55 t (by
          show Steps p.tables e below (T17.setTop (mkF m 55 #[.val (.long q0), .second, .val (.long v15_s0), .second, .val (.long x20), .second, .val (.int v36_s0), .unset] [])) t
          refine XS.iconst X17.here hx rfl (hb hby at_55) ?_
          show Steps p.tables e below (T17.setTop (mkF m 56 #[.val (.long q0), .second, .val (.long v15_s0), .second, .val (.long x20), .second, .val (.int v36_s0), .unset] [(.int (0 : Int32))])) _
          refine XS.goto X17.here hx rfl (pc0 := 56) (pc' := 92) rfl (hb hby at_56) (by decide) (by decide) ?_
          show Steps p.tables e below (T17.setTop (mkF m 92 #[.val (.long q0), .second, .val (.long v15_s0), .second, .val (.long x20), .second, .val (.int v36_s0), .unset] [(.int (0 : Int32))])) _
          exact k)
        have ehv92_s0 := hv92_s0.trans (if_neg (fun r => r.elim (fun a => hc48 a.2) (fun a => a.1 hc41)))
        exact fun t k => pre92 t (by subst ehv92_s0; exact k)
    · -- not (0 : Int64) < v15_s0
      have pre59 : ∀ t, Steps p.tables e below (T17.setTop (mkF m 59 #[.val (.long q0), .second, .val (.long v15_s0), .second, .val (.long x20), .second, .val (.int v36_s0), .unset] [])) t → Steps p.tables e below (s₁.setTop (entryFrame m #[(.long q0)] maxLocals)) t := fun t k => pre41 t (by
        show Steps p.tables e below (T17.setTop (mkF m 41 #[.val (.long q0), .second, .val (.long v15_s0), .second, .val (.long x20), .second, .val (.int v36_s0), .unset] [(.int (lcmpW v15_s0 (0 : Int64)))])) t
        refine XS.ifYes X17.here hx rfl (pc0 := 41) (pc' := 59) rfl (hb hby at_41) rfl ((if0 _ _).trans (flt (fun q => hc41 ((lw_gt _ _).mp q))).2.2.2) (by decide) (by decide) ?_
        exact k)
      have pre62 : ∀ t, Steps p.tables e below (T17.setTop (mkF m 62 #[.val (.long q0), .second, .val (.long v15_s0), .second, .val (.long x20), .second, .val (.int v36_s0), .unset] [(.int (lcmpW v15_s0 (0 : Int64)))])) t → Steps p.tables e below (s₁.setTop (entryFrame m #[(.long q0)] maxLocals)) t := fun t k => pre59 t (by
        show Steps p.tables e below (T17.setTop (mkF m 59 #[.val (.long q0), .second, .val (.long v15_s0), .second, .val (.long x20), .second, .val (.int v36_s0), .unset] [])) t
        refine XS.lloadN X17.here hx rfl (hb hby at_59) rfl ?_
        show Steps p.tables e below (T17.setTop (mkF m 60 #[.val (.long q0), .second, .val (.long v15_s0), .second, .val (.long x20), .second, .val (.int v36_s0), .unset] [(.long v15_s0)])) _
        refine XS.lconst X17.here hx rfl (hb hby at_60) ?_
        show Steps p.tables e below (T17.setTop (mkF m 61 #[.val (.long q0), .second, .val (.long v15_s0), .second, .val (.long x20), .second, .val (.int v36_s0), .unset] [(.long (0 : Int64)), (.long v15_s0)])) _
        refine XS.lcmp X17.here hx rfl (hb hby at_61) rfl ?_
        show Steps p.tables e below (T17.setTop (mkF m 62 #[.val (.long q0), .second, .val (.long v15_s0), .second, .val (.long x20), .second, .val (.int v36_s0), .unset] [(.int (lcmpW v15_s0 (0 : Int64)))])) _
        exact k)
      by_cases hc62 : v15_s0 < (0 : Int64)
      · -- v15_s0 < (0 : Int64)
        have pre65 : ∀ t, Steps p.tables e below (T17.setTop (mkF m 65 #[.val (.long q0), .second, .val (.long v15_s0), .second, .val (.long x20), .second, .val (.int v36_s0), .unset] [])) t → Steps p.tables e below (s₁.setTop (entryFrame m #[(.long q0)] maxLocals)) t := fun t k => pre62 t (by
          show Steps p.tables e below (T17.setTop (mkF m 62 #[.val (.long q0), .second, .val (.long v15_s0), .second, .val (.long x20), .second, .val (.int v36_s0), .unset] [(.int (lcmpW v15_s0 (0 : Int64)))])) t
          refine XS.ifNo X17.here hx rfl (hb hby at_62) rfl ((if0 _ _).trans (tlt ((lw_lt _ _).mpr hc62)).2.1) ?_
          exact k)
        have pre69 : ∀ t, Steps p.tables e below (T17.setTop (mkF m 69 #[.val (.long q0), .second, .val (.long v15_s0), .second, .val (.long x20), .second, .val (.int v36_s0), .unset] [(.int (lcmpW x20 (0 : Int64)))])) t → Steps p.tables e below (s₁.setTop (entryFrame m #[(.long q0)] maxLocals)) t := fun t k => pre65 t (by
          show Steps p.tables e below (T17.setTop (mkF m 65 #[.val (.long q0), .second, .val (.long v15_s0), .second, .val (.long x20), .second, .val (.int v36_s0), .unset] [])) t
          refine XS.lload X17.here hx rfl (hb hby at_65) rfl ?_
          show Steps p.tables e below (T17.setTop (mkF m 67 #[.val (.long q0), .second, .val (.long v15_s0), .second, .val (.long x20), .second, .val (.int v36_s0), .unset] [(.long x20)])) _
          refine XS.lconst X17.here hx rfl (hb hby at_67) ?_
          show Steps p.tables e below (T17.setTop (mkF m 68 #[.val (.long q0), .second, .val (.long v15_s0), .second, .val (.long x20), .second, .val (.int v36_s0), .unset] [(.long (0 : Int64)), (.long x20)])) _
          refine XS.lcmp X17.here hx rfl (hb hby at_68) rfl ?_
          show Steps p.tables e below (T17.setTop (mkF m 69 #[.val (.long q0), .second, .val (.long v15_s0), .second, .val (.long x20), .second, .val (.int v36_s0), .unset] [(.int (lcmpW x20 (0 : Int64)))])) _
          exact k)
        by_cases hc69 : (0 : Int64) < x20
        · -- (0 : Int64) < x20
          have pre72 : ∀ t, Steps p.tables e below (T17.setTop (mkF m 72 #[.val (.long q0), .second, .val (.long v15_s0), .second, .val (.long x20), .second, .val (.int v36_s0), .unset] [])) t → Steps p.tables e below (s₁.setTop (entryFrame m #[(.long q0)] maxLocals)) t := fun t k => pre69 t (by
            show Steps p.tables e below (T17.setTop (mkF m 69 #[.val (.long q0), .second, .val (.long v15_s0), .second, .val (.long x20), .second, .val (.int v36_s0), .unset] [(.int (lcmpW x20 (0 : Int64)))])) t
            refine XS.ifNo X17.here hx rfl (hb hby at_69) rfl ((if0 _ _).trans (tlt ((lw_gt _ _).mpr hc69)).2.2.2) ?_
            exact k)
          have pre92 : ∀ t, Steps p.tables e below (T17.setTop (mkF m 92 #[.val (.long q0), .second, .val (.long v15_s0), .second, .val (.long x20), .second, .val (.int v36_s0), .unset] [(.int (1 : Int32))])) t → Steps p.tables e below (s₁.setTop (entryFrame m #[(.long q0)] maxLocals)) t := fun t k => pre72 t (by
            show Steps p.tables e below (T17.setTop (mkF m 72 #[.val (.long q0), .second, .val (.long v15_s0), .second, .val (.long x20), .second, .val (.int v36_s0), .unset] [])) t
            refine XS.iconst X17.here hx rfl (hb hby at_72) ?_
            show Steps p.tables e below (T17.setTop (mkF m 73 #[.val (.long q0), .second, .val (.long v15_s0), .second, .val (.long x20), .second, .val (.int v36_s0), .unset] [(.int (1 : Int32))])) _
            refine XS.goto X17.here hx rfl (pc0 := 73) (pc' := 92) rfl (hb hby at_73) (by decide) (by decide) ?_
            show Steps p.tables e below (T17.setTop (mkF m 92 #[.val (.long q0), .second, .val (.long v15_s0), .second, .val (.long x20), .second, .val (.int v36_s0), .unset] [(.int (1 : Int32))])) _
            exact k)
          have ehv92_s0 := hv92_s0.trans (if_pos (Or.inr ⟨hc41, (Or.inl ⟨hc62, hc69⟩)⟩))
          exact fun t k => pre92 t (by subst ehv92_s0; exact k)
        · -- not (0 : Int64) < x20
          have pre76 : ∀ t, Steps p.tables e below (T17.setTop (mkF m 76 #[.val (.long q0), .second, .val (.long v15_s0), .second, .val (.long x20), .second, .val (.int v36_s0), .unset] [])) t → Steps p.tables e below (s₁.setTop (entryFrame m #[(.long q0)] maxLocals)) t := fun t k => pre69 t (by
            show Steps p.tables e below (T17.setTop (mkF m 69 #[.val (.long q0), .second, .val (.long v15_s0), .second, .val (.long x20), .second, .val (.int v36_s0), .unset] [(.int (lcmpW x20 (0 : Int64)))])) t
            refine XS.ifYes X17.here hx rfl (pc0 := 69) (pc' := 76) rfl (hb hby at_69) rfl ((if0 _ _).trans (flt (fun q => hc69 ((lw_gt _ _).mp q))).2.2.2) (by decide) (by decide) ?_
            exact k)
          have pre92 : ∀ t, Steps p.tables e below (T17.setTop (mkF m 92 #[.val (.long q0), .second, .val (.long v15_s0), .second, .val (.long x20), .second, .val (.int v36_s0), .unset] [(.int (0 : Int32))])) t → Steps p.tables e below (s₁.setTop (entryFrame m #[(.long q0)] maxLocals)) t := fun t k => pre76 t (by
            show Steps p.tables e below (T17.setTop (mkF m 76 #[.val (.long q0), .second, .val (.long v15_s0), .second, .val (.long x20), .second, .val (.int v36_s0), .unset] [])) t
            refine XS.iconst X17.here hx rfl (hb hby at_76) ?_
            show Steps p.tables e below (T17.setTop (mkF m 77 #[.val (.long q0), .second, .val (.long v15_s0), .second, .val (.long x20), .second, .val (.int v36_s0), .unset] [(.int (0 : Int32))])) _
            refine XS.goto X17.here hx rfl (pc0 := 77) (pc' := 92) rfl (hb hby at_77) (by decide) (by decide) ?_
            show Steps p.tables e below (T17.setTop (mkF m 92 #[.val (.long q0), .second, .val (.long v15_s0), .second, .val (.long x20), .second, .val (.int v36_s0), .unset] [(.int (0 : Int32))])) _
            exact k)
          have ehv92_s0 := hv92_s0.trans (if_neg (fun r => r.elim (fun a => hc41 a.1) (fun a => (fun r => r.elim (fun a => hc69 a.2) (fun a => a.1 hc62)) a.2)))
          exact fun t k => pre92 t (by subst ehv92_s0; exact k)
      · -- not v15_s0 < (0 : Int64)
        have pre80 : ∀ t, Steps p.tables e below (T17.setTop (mkF m 80 #[.val (.long q0), .second, .val (.long v15_s0), .second, .val (.long x20), .second, .val (.int v36_s0), .unset] [])) t → Steps p.tables e below (s₁.setTop (entryFrame m #[(.long q0)] maxLocals)) t := fun t k => pre62 t (by
          show Steps p.tables e below (T17.setTop (mkF m 62 #[.val (.long q0), .second, .val (.long v15_s0), .second, .val (.long x20), .second, .val (.int v36_s0), .unset] [(.int (lcmpW v15_s0 (0 : Int64)))])) t
          refine XS.ifYes X17.here hx rfl (pc0 := 62) (pc' := 80) rfl (hb hby at_62) rfl ((if0 _ _).trans (flt (fun q => hc62 ((lw_lt _ _).mp q))).2.1) (by decide) (by decide) ?_
          exact k)
        have pre84 : ∀ t, Steps p.tables e below (T17.setTop (mkF m 84 #[.val (.long q0), .second, .val (.long v15_s0), .second, .val (.long x20), .second, .val (.int v36_s0), .unset] [(.int (lcmpW x20 (0 : Int64)))])) t → Steps p.tables e below (s₁.setTop (entryFrame m #[(.long q0)] maxLocals)) t := fun t k => pre80 t (by
          show Steps p.tables e below (T17.setTop (mkF m 80 #[.val (.long q0), .second, .val (.long v15_s0), .second, .val (.long x20), .second, .val (.int v36_s0), .unset] [])) t
          refine XS.lload X17.here hx rfl (hb hby at_80) rfl ?_
          show Steps p.tables e below (T17.setTop (mkF m 82 #[.val (.long q0), .second, .val (.long v15_s0), .second, .val (.long x20), .second, .val (.int v36_s0), .unset] [(.long x20)])) _
          refine XS.lconst X17.here hx rfl (hb hby at_82) ?_
          show Steps p.tables e below (T17.setTop (mkF m 83 #[.val (.long q0), .second, .val (.long v15_s0), .second, .val (.long x20), .second, .val (.int v36_s0), .unset] [(.long (0 : Int64)), (.long x20)])) _
          refine XS.lcmp X17.here hx rfl (hb hby at_83) rfl ?_
          show Steps p.tables e below (T17.setTop (mkF m 84 #[.val (.long q0), .second, .val (.long v15_s0), .second, .val (.long x20), .second, .val (.int v36_s0), .unset] [(.int (lcmpW x20 (0 : Int64)))])) _
          exact k)
        by_cases hc84 : x20 = (0 : Int64)
        · -- x20 = (0 : Int64)
          have pre87 : ∀ t, Steps p.tables e below (T17.setTop (mkF m 87 #[.val (.long q0), .second, .val (.long v15_s0), .second, .val (.long x20), .second, .val (.int v36_s0), .unset] [])) t → Steps p.tables e below (s₁.setTop (entryFrame m #[(.long q0)] maxLocals)) t := fun t k => pre84 t (by
            show Steps p.tables e below (T17.setTop (mkF m 84 #[.val (.long q0), .second, .val (.long v15_s0), .second, .val (.long x20), .second, .val (.int v36_s0), .unset] [(.int (lcmpW x20 (0 : Int64)))])) t
            refine XS.ifNo X17.here hx rfl (hb hby at_84) rfl ((if0 _ _).trans (teq ((lw_eq _ _).mpr hc84)).2) ?_
            exact k)
          have pre92 : ∀ t, Steps p.tables e below (T17.setTop (mkF m 92 #[.val (.long q0), .second, .val (.long v15_s0), .second, .val (.long x20), .second, .val (.int v36_s0), .unset] [(.int (1 : Int32))])) t → Steps p.tables e below (s₁.setTop (entryFrame m #[(.long q0)] maxLocals)) t := fun t k => pre87 t (by
            show Steps p.tables e below (T17.setTop (mkF m 87 #[.val (.long q0), .second, .val (.long v15_s0), .second, .val (.long x20), .second, .val (.int v36_s0), .unset] [])) t
            refine XS.iconst X17.here hx rfl (hb hby at_87) ?_
            show Steps p.tables e below (T17.setTop (mkF m 88 #[.val (.long q0), .second, .val (.long v15_s0), .second, .val (.long x20), .second, .val (.int v36_s0), .unset] [(.int (1 : Int32))])) _
            refine XS.goto X17.here hx rfl (pc0 := 88) (pc' := 92) rfl (hb hby at_88) (by decide) (by decide) ?_
            show Steps p.tables e below (T17.setTop (mkF m 92 #[.val (.long q0), .second, .val (.long v15_s0), .second, .val (.long x20), .second, .val (.int v36_s0), .unset] [(.int (1 : Int32))])) _
            exact k)
          have ehv92_s0 := hv92_s0.trans (if_pos (Or.inr ⟨hc41, (Or.inr ⟨hc62, hc84⟩)⟩))
          exact fun t k => pre92 t (by subst ehv92_s0; exact k)
        · -- not x20 = (0 : Int64)
          have pre91 : ∀ t, Steps p.tables e below (T17.setTop (mkF m 91 #[.val (.long q0), .second, .val (.long v15_s0), .second, .val (.long x20), .second, .val (.int v36_s0), .unset] [])) t → Steps p.tables e below (s₁.setTop (entryFrame m #[(.long q0)] maxLocals)) t := fun t k => pre84 t (by
            show Steps p.tables e below (T17.setTop (mkF m 84 #[.val (.long q0), .second, .val (.long v15_s0), .second, .val (.long x20), .second, .val (.int v36_s0), .unset] [(.int (lcmpW x20 (0 : Int64)))])) t
            refine XS.ifYes X17.here hx rfl (pc0 := 84) (pc' := 91) rfl (hb hby at_84) rfl ((if0 _ _).trans (feq (fun q => hc84 ((lw_eq _ _).mp q))).2) (by decide) (by decide) ?_
            exact k)
          have pre92 : ∀ t, Steps p.tables e below (T17.setTop (mkF m 92 #[.val (.long q0), .second, .val (.long v15_s0), .second, .val (.long x20), .second, .val (.int v36_s0), .unset] [(.int (0 : Int32))])) t → Steps p.tables e below (s₁.setTop (entryFrame m #[(.long q0)] maxLocals)) t := fun t k => pre91 t (by
            show Steps p.tables e below (T17.setTop (mkF m 91 #[.val (.long q0), .second, .val (.long v15_s0), .second, .val (.long x20), .second, .val (.int v36_s0), .unset] [])) t
            refine XS.iconst X17.here hx rfl (hb hby at_91) ?_
            show Steps p.tables e below (T17.setTop (mkF m 92 #[.val (.long q0), .second, .val (.long v15_s0), .second, .val (.long x20), .second, .val (.int v36_s0), .unset] [(.int (0 : Int32))])) _
            exact k)
          have ehv92_s0 := hv92_s0.trans (if_neg (fun r => r.elim (fun a => hc41 a.1) (fun a => (fun r => r.elim (fun a => hc62 a.1) (fun a => hc84 a.2)) a.2)))
          exact fun t k => pre92 t (by subst ehv92_s0; exact k)
  have pre96 : ∀ t, Steps p.tables e below (T17.setTop (mkF m 96 #[.val (.long q0), .second, .val (.long v15_s0), .second, .val (.long x20), .second, .val (.int v36_s0), .val (.int v92_s0)] [(.int v36_s0)])) t → Steps p.tables e below (s₁.setTop (entryFrame m #[(.long q0)] maxLocals)) t := fun t k => pre92 t (by
    show Steps p.tables e below (T17.setTop (mkF m 92 #[.val (.long q0), .second, .val (.long v15_s0), .second, .val (.long x20), .second, .val (.int v36_s0), .unset] [(.int v92_s0)])) t
    refine XS.istore X17.here hx rfl (hb hby at_92) rfl (l' := #[.val (.long q0), .second, .val (.long v15_s0), .second, .val (.long x20), .second, .val (.int v36_s0), .val (.int v92_s0)]) rfl ?_
    show Steps p.tables e below (T17.setTop (mkF m 94 #[.val (.long q0), .second, .val (.long v15_s0), .second, .val (.long x20), .second, .val (.int v36_s0), .val (.int v92_s0)] [])) _
    refine XS.iload X17.here hx rfl (hb hby at_94) rfl ?_
    show Steps p.tables e below (T17.setTop (mkF m 96 #[.val (.long q0), .second, .val (.long v15_s0), .second, .val (.long x20), .second, .val (.int v36_s0), .val (.int v92_s0)] [(.int v36_s0)])) _
    exact k)
  obtain ⟨v109_s0, hv109_s0⟩ : ∃ z : Int32, z = if ((((x20 + v15_s0) = (0 : Int64))) ∧ (((((0 : Int64) < v15_s0) ∧ (x20 < (0 : Int64))) ∨ ((¬ ((0 : Int64) < v15_s0)) ∧ (((v15_s0 < (0 : Int64)) ∧ ((0 : Int64) < x20)) ∨ ((¬ (v15_s0 < (0 : Int64))) ∧ (x20 = (0 : Int64)))))))) then (1 : Int32) else 0 := ⟨_, rfl⟩
  have pre109 : ∀ t, Steps p.tables e below (T17.setTop (mkF m 109 #[.val (.long q0), .second, .val (.long v15_s0), .second, .val (.long x20), .second, .val (.int v36_s0), .val (.int v92_s0)] [(.int v109_s0)])) t → Steps p.tables e below (s₁.setTop (entryFrame m #[(.long q0)] maxLocals)) t := by
    by_cases hc96 : ((x20 + v15_s0) = (0 : Int64))
    · -- ((x20 + v15_s0) = (0 : Int64))
      have pre99 : ∀ t, Steps p.tables e below (T17.setTop (mkF m 99 #[.val (.long q0), .second, .val (.long v15_s0), .second, .val (.long x20), .second, .val (.int v36_s0), .val (.int v92_s0)] [])) t → Steps p.tables e below (s₁.setTop (entryFrame m #[(.long q0)] maxLocals)) t := fun t k => pre96 t (by
        show Steps p.tables e below (T17.setTop (mkF m 96 #[.val (.long q0), .second, .val (.long v15_s0), .second, .val (.long x20), .second, .val (.int v36_s0), .val (.int v92_s0)] [(.int v36_s0)])) t
        refine XS.ifNo X17.here hx rfl (hb hby at_96) rfl ((if0 _ _).trans (feq (by rw [hv36_s0, if_pos hc96]; decide)).1) ?_
        exact k)
      have pre101 : ∀ t, Steps p.tables e below (T17.setTop (mkF m 101 #[.val (.long q0), .second, .val (.long v15_s0), .second, .val (.long x20), .second, .val (.int v36_s0), .val (.int v92_s0)] [(.int v92_s0)])) t → Steps p.tables e below (s₁.setTop (entryFrame m #[(.long q0)] maxLocals)) t := fun t k => pre99 t (by
        show Steps p.tables e below (T17.setTop (mkF m 99 #[.val (.long q0), .second, .val (.long v15_s0), .second, .val (.long x20), .second, .val (.int v36_s0), .val (.int v92_s0)] [])) t
        refine XS.iload X17.here hx rfl (hb hby at_99) rfl ?_
        show Steps p.tables e below (T17.setTop (mkF m 101 #[.val (.long q0), .second, .val (.long v15_s0), .second, .val (.long x20), .second, .val (.int v36_s0), .val (.int v92_s0)] [(.int v92_s0)])) _
        exact k)
      by_cases hc101 : ((((0 : Int64) < v15_s0) ∧ (x20 < (0 : Int64))) ∨ ((¬ ((0 : Int64) < v15_s0)) ∧ (((v15_s0 < (0 : Int64)) ∧ ((0 : Int64) < x20)) ∨ ((¬ (v15_s0 < (0 : Int64))) ∧ (x20 = (0 : Int64))))))
      · -- ((((0 : Int64) < v15_s0) ∧ (x20 < (0 : Int64))) ∨ ((¬ ((0 : Int64) < v15_s0)) ∧ (((v15_s0 < (0 : Int64)) ∧ ((0 : Int64) < x20)) ∨ ((¬ (v15_s0 < (0 : Int64))) ∧ (x20 = (0 : Int64))))))
        have pre104 : ∀ t, Steps p.tables e below (T17.setTop (mkF m 104 #[.val (.long q0), .second, .val (.long v15_s0), .second, .val (.long x20), .second, .val (.int v36_s0), .val (.int v92_s0)] [])) t → Steps p.tables e below (s₁.setTop (entryFrame m #[(.long q0)] maxLocals)) t := fun t k => pre101 t (by
          show Steps p.tables e below (T17.setTop (mkF m 101 #[.val (.long q0), .second, .val (.long v15_s0), .second, .val (.long x20), .second, .val (.int v36_s0), .val (.int v92_s0)] [(.int v92_s0)])) t
          refine XS.ifNo X17.here hx rfl (hb hby at_101) rfl ((if0 _ _).trans (feq (by rw [hv92_s0, if_pos hc101]; decide)).1) ?_
          exact k)
        have pre109 : ∀ t, Steps p.tables e below (T17.setTop (mkF m 109 #[.val (.long q0), .second, .val (.long v15_s0), .second, .val (.long x20), .second, .val (.int v36_s0), .val (.int v92_s0)] [(.int (1 : Int32))])) t → Steps p.tables e below (s₁.setTop (entryFrame m #[(.long q0)] maxLocals)) t := fun t k => pre104 t (by
          show Steps p.tables e below (T17.setTop (mkF m 104 #[.val (.long q0), .second, .val (.long v15_s0), .second, .val (.long x20), .second, .val (.int v36_s0), .val (.int v92_s0)] [])) t
          refine XS.iconst X17.here hx rfl (hb hby at_104) ?_
          show Steps p.tables e below (T17.setTop (mkF m 105 #[.val (.long q0), .second, .val (.long v15_s0), .second, .val (.long x20), .second, .val (.int v36_s0), .val (.int v92_s0)] [(.int (1 : Int32))])) _
          refine XS.goto X17.here hx rfl (pc0 := 105) (pc' := 109) rfl (hb hby at_105) (by decide) (by decide) ?_
          show Steps p.tables e below (T17.setTop (mkF m 109 #[.val (.long q0), .second, .val (.long v15_s0), .second, .val (.long x20), .second, .val (.int v36_s0), .val (.int v92_s0)] [(.int (1 : Int32))])) _
          exact k)
        have ehv109_s0 := hv109_s0.trans (if_pos ⟨hc96, hc101⟩)
        exact fun t k => pre109 t (by subst ehv109_s0; exact k)
      · -- not ((((0 : Int64) < v15_s0) ∧ (x20 < (0 : Int64))) ∨ ((¬ ((0 : Int64) < v15_s0)) ∧ (((v15_s0 < (0 : Int64)) ∧ ((0 : Int64) < x20)) ∨ ((¬ (v15_s0 < (0 : Int64))) ∧ (x20 = (0 : Int64))))))
        have pre108 : ∀ t, Steps p.tables e below (T17.setTop (mkF m 108 #[.val (.long q0), .second, .val (.long v15_s0), .second, .val (.long x20), .second, .val (.int v36_s0), .val (.int v92_s0)] [])) t → Steps p.tables e below (s₁.setTop (entryFrame m #[(.long q0)] maxLocals)) t := fun t k => pre101 t (by
          show Steps p.tables e below (T17.setTop (mkF m 101 #[.val (.long q0), .second, .val (.long v15_s0), .second, .val (.long x20), .second, .val (.int v36_s0), .val (.int v92_s0)] [(.int v92_s0)])) t
          refine XS.ifYes X17.here hx rfl (pc0 := 101) (pc' := 108) rfl (hb hby at_101) rfl ((if0 _ _).trans (teq (by rw [hv92_s0, if_neg hc101])).1) (by decide) (by decide) ?_
          exact k)
        have pre109 : ∀ t, Steps p.tables e below (T17.setTop (mkF m 109 #[.val (.long q0), .second, .val (.long v15_s0), .second, .val (.long x20), .second, .val (.int v36_s0), .val (.int v92_s0)] [(.int (0 : Int32))])) t → Steps p.tables e below (s₁.setTop (entryFrame m #[(.long q0)] maxLocals)) t := fun t k => pre108 t (by
          show Steps p.tables e below (T17.setTop (mkF m 108 #[.val (.long q0), .second, .val (.long v15_s0), .second, .val (.long x20), .second, .val (.int v36_s0), .val (.int v92_s0)] [])) t
          refine XS.iconst X17.here hx rfl (hb hby at_108) ?_
          show Steps p.tables e below (T17.setTop (mkF m 109 #[.val (.long q0), .second, .val (.long v15_s0), .second, .val (.long x20), .second, .val (.int v36_s0), .val (.int v92_s0)] [(.int (0 : Int32))])) _
          exact k)
        have ehv109_s0 := hv109_s0.trans (if_neg (fun r => hc101 r.2))
        exact fun t k => pre109 t (by subst ehv109_s0; exact k)
    · -- not ((x20 + v15_s0) = (0 : Int64))
      have pre108 : ∀ t, Steps p.tables e below (T17.setTop (mkF m 108 #[.val (.long q0), .second, .val (.long v15_s0), .second, .val (.long x20), .second, .val (.int v36_s0), .val (.int v92_s0)] [])) t → Steps p.tables e below (s₁.setTop (entryFrame m #[(.long q0)] maxLocals)) t := fun t k => pre96 t (by
        show Steps p.tables e below (T17.setTop (mkF m 96 #[.val (.long q0), .second, .val (.long v15_s0), .second, .val (.long x20), .second, .val (.int v36_s0), .val (.int v92_s0)] [(.int v36_s0)])) t
        refine XS.ifYes X17.here hx rfl (pc0 := 96) (pc' := 108) rfl (hb hby at_96) rfl ((if0 _ _).trans (teq (by rw [hv36_s0, if_neg hc96])).1) (by decide) (by decide) ?_
        exact k)
      have pre109 : ∀ t, Steps p.tables e below (T17.setTop (mkF m 109 #[.val (.long q0), .second, .val (.long v15_s0), .second, .val (.long x20), .second, .val (.int v36_s0), .val (.int v92_s0)] [(.int (0 : Int32))])) t → Steps p.tables e below (s₁.setTop (entryFrame m #[(.long q0)] maxLocals)) t := fun t k => pre108 t (by
        show Steps p.tables e below (T17.setTop (mkF m 108 #[.val (.long q0), .second, .val (.long v15_s0), .second, .val (.long x20), .second, .val (.int v36_s0), .val (.int v92_s0)] [])) t
        refine XS.iconst X17.here hx rfl (hb hby at_108) ?_
        show Steps p.tables e below (T17.setTop (mkF m 109 #[.val (.long q0), .second, .val (.long v15_s0), .second, .val (.long x20), .second, .val (.int v36_s0), .val (.int v92_s0)] [(.int (0 : Int32))])) _
        exact k)
      have ehv109_s0 := hv109_s0.trans (if_neg (fun q => hc96 q.1))
      exact fun t k => pre109 t (by subst ehv109_s0; exact k)
  obtain ⟨fs, hr, hrun, hended, hW, hsame⟩ := X17.leave (v := some (.int (nar .boolean v109_s0))) (fun h => by rw [Bd.returns] at h; cases h)
  refine ⟨_, _, pre109 _ ?_, hrun, hended, _, _, rfl, ?_, ⟨_, rfl⟩, hW, hsame.mono (by decide) (by decide)⟩
  · show Steps p.tables e below (T17.setTop (mkF m 109 #[.val (.long q0), .second, .val (.long v15_s0), .second, .val (.long x20), .second, .val (.int v36_s0), .val (.int v92_s0)] [(.int v109_s0)])) _
    exact retN X17 hx (t := .boolean) Bd.returns (by simp) (hb hby at_109) hr
  · show Q0 Z q0 h0 n0 _ T17.heap _
    rw [e17]
    have hres : (nar .boolean v109_s0) = (1 : Int32) := by
      rw [hv109_s0, own_narB]; exact if_pos (own_plain q0 v15_s0 x20 hv15_s0 hx20)
    exact ⟨congrArg (fun q => some (Value.int q)) hres, N17⟩
set_option maxRecDepth 65536 in
set_option maxHeartbeats 40000000 in
theorem comes_1 {Post : Tables → Env → Array Value → State → Outcome → State → Prop} (hpost : ∀ tb e args s v u, (limb_1_1.after args s (.returned v) u = true ∧ limb_1_2.after args s (.returned v) u = true ∧ True) → FrameEnd s (.returned v) u (Jvm.fieldLocs frame_1_writes args s ++ Jvm.arrayLocs frame_1_arrays args s ++ Jvm.staticLocs frame_1_statics s) 0 0 → Post tb e args s (.returned v) u) :
    ArmFor flags0 classFile x code maxLocals ret World_1 tables_1 room_1 Calls_1 rest_1 Pre_1 Post := by
  intro l hfl _ _ p e ha hc hk s m args below hf hA hF happ hP
  obtain ⟨hcalls, hrest, hpre⟩ := hP
  obtain ⟨-, -, -, hnamed, -, -, -, hat⟩ := (Spec.applies_iff hf).mp happ
  obtain ⟨hg, hn⟩ := and_e (Cond.before_iff.mp (show (Jvm.Cond.and given_1 narrow_1).before args s = true from hpre))
  obtain ⟨gc, g0⟩ := and_e hg
  obtain ⟨w0, rfl⟩ : ∃ w0 : Value, args = #[w0] := by
    have hs : args.size = 1 := by simpa [Cond.value, given_1] using gc
    obtain ⟨L⟩ := args
    match L, hs with
    | [w0], _ => exact ⟨w0, rfl⟩
  have hw := fun d (hd : d ∈ tables_1) => atoms_spec (ws := Jvm.Cond.code x code maxLocals ret :: tables_1) hat d (List.mem_cons_of_mem _ hd)
  have hfit : Fit s := fun {y c} hc i hi => by
    obtain ⟨ha, rfl⟩ := Array.getElem?_eq_some_iff.mp hc
    have q := List.all_eq_true.mp ((Array.all_eq_true_iff_forall_mem.mp hF) _ (Array.getElem_mem ha)) i (List.mem_range.mpr hi)
    simpa [Array.getElem?_eq_getElem hi] using q
  obtain ⟨i0, ei0⟩ := isL_v g0
  obtain rfl : w0 = (.long i0) := Option.some.inj ei0
  obtain ⟨n, o, h1, h2, h3, _, L, rfl, ⟨rfl, N⟩, hq⟩ := rm0 l s _ hw tables_1 i0 s.heap s.heap.size (Nat.le_refl _)  p e ha hc hk s m _ below hf ((Spec.applies_iff_loose hf).mp happ).1 ⟨rfl, State.Warmed39.refl s, rfl⟩ trivial
  refine ⟨n, _, h1, h2, h3, hpost _ _ _ _ _ _ ⟨Cond.after_iff.mpr rfl, Cond.after_iff.mpr (eq_i res_at (Term.int_eval (1)) rfl), trivial⟩ ⟨hq.1, hq.2.1, (hq.2.2.sift fun y hy => Or.inr (N y hy)).mono (by decide) (by decide)⟩⟩
theorem main_1_1 : Claimed_1_1 := comes_1 fun _ _ _ _ _ _ h hF => ⟨h.1, hF⟩
theorem main_1_2 : Claimed_1_2 := comes_1 fun _ _ _ _ _ _ h hF => ⟨h.2.1, hF⟩
end Jvm.Pilot.@@N@@
namespace Jvm.Pilot.@@N@@
open Jvm Jvm.ClassFile Sem Op Lib Jvm.Free Jvm.Stand Jvm.Pilot.@@N@@.Jvm.D
/-! MADE BY PROGRAM (witnessworld.py) out of the Statement's table words and the real class files: 9 classes; the members and pool entries that the words name. The judged class is class 1, her method 1. -/
namespace start1
open Jvm.ClassFile
def u (s : String) : CpInfo := .utf8 (stringToUtf16 s)
/-- a pool by its gaps: so many unusable entries, then the entry; so many at the end -/
def gap : Nat → List CpInfo → List CpInfo
  | 0, r => r
  | n + 1, r => .unusable :: gap n r
def poolList (es : List (Nat × CpInfo)) (last : Nat) : List CpInfo := es.foldr (fun e r => gap e.1 (e.2 :: r)) (gap last [])
def pool (es : List (Nat × CpInfo)) (last : Nat) : Array CpInfo := ⟨poolList es last⟩
def fileOf (pool : Array CpInfo) (this : Nat) (attrs : Array Attribute := #[]) (ms : Array MethodInfo := #[]) (fl : Nat := 33) (sup : Nat := 0) (ifs : Array Nat := #[]) (fds : Array FieldInfo := #[]) : ClassFile where
  minorVersion := 0
  majorVersion := 65
  constantPool := pool
  accessFlags := fl
  thisClass := this
  superClass := sup
  interfaces := ifs
  fields := fds
  methods := ms
  attributes := attrs
def plain (name : String) (sup : Option ClassId) : Class where
  name := name
  kind := .ordinary
  loader := none
  accessFlags := 33
  super := sup
  interfaces := #[]
  cf := none
  fields := #[]
  methods := #[]
  instanceTypes := #[]
  staticTypes := #[]
  resolved := #[]
  callSites := []
  init := .initialized
  statics := none
  mirror := none

def pool0 : Array CpInfo := pool [(5, u "<init>"), (0, u "()V"), (1, .class_ 10), (1, u "java/lang/Object")] 113

def k0m0 : Method := { name := "<init>", desc := "()V", sig := { parameters := [], returnType := none }, accessFlags := 1, code := none }
/-- java/lang/Object -/
def k0 : Class := { plain "java/lang/Object" none with
  accessFlags := 33
  interfaces := #[]
  cf := some (fileOf pool0 8 #[] #[{ accessFlags := 1, nameIndex := 5, descriptorIndex := 6, attributes := #[] }] 33 0 #[] #[])
  fields := #[]
  methods := #[k0m0]
  instanceTypes := #[]
  staticTypes := #[]
  resolved := Array.replicate 124 none
  statics := none }

def pool1 : Array CpInfo := pool [(2, .class_ 4), (1, u "java/lang/Object"), (0, u "<init>"), (0, u "()V"), (2, .long 9223372036854775808), (1, .long 9223372036854775807), (1, .methodref 14 15), (0, .class_ 16), (0, .nameAndType 17 18), (0, u "com/example/abrupt/abrupt/compiler/Arithmetic"), (0, u "negate"), (0, u "(J)J"), (0, .class_ 20), (0, u "com/example/abrupt/abrupt/compiler/ArithmeticNegatePinLaw"), (2, u "law"), (0, u "(J)Z")] 3

def k1m0 : Method := { name := "<init>", desc := "()V", sig := { parameters := [], returnType := none }, accessFlags := 2, code := none }
def k1c1 : Code := { maxStack := 4, maxLocals := 8, code := code, exceptionTable := #[], attributes := #[] }
def k1m1 : Method := { name := "law", desc := "(J)Z", sig := { parameters := [.long], returnType := some .boolean }, accessFlags := 9, code := some k1c1 }
/-- com/example/abrupt/abrupt/compiler/ArithmeticNegatePinLaw -/
def k1 : Class := { plain "com/example/abrupt/abrupt/compiler/ArithmeticNegatePinLaw" (some 0) with
  accessFlags := 49
  interfaces := #[]
  cf := some (fileOf pool1 19 #[] #[{ accessFlags := 2, nameIndex := 5, descriptorIndex := 6, attributes := #[] }, { accessFlags := 9, nameIndex := 23, descriptorIndex := 24, attributes := #[] }] 49 2 #[] #[])
  fields := #[]
  methods := #[k1m0, k1m1]
  instanceTypes := #[]
  staticTypes := #[]
  resolved := Array.replicate 28 none
  statics := none }

def pool2 : Array CpInfo := pool [(2, .class_ 4), (1, u "java/lang/Object"), (0, u "<init>"), (0, u "()V"), (8, .class_ 16), (0, u "com/example/abrupt/abrupt/compiler/Arithmetic"), (13, .long 9223372036854775808), (5, u "OVERFLOW"), (0, u "Ljava/lang/String;"), (1, u "DIVISION_BY_ZERO"), (6, u "negate"), (0, u "(J)J")] 4

def k2m0 : Method := { name := "<init>", desc := "()V", sig := { parameters := [], returnType := none }, accessFlags := 2, code := none }
def k2c1 : Code := { maxStack := 4, maxLocals := 2, code := prog_14_method_5_code, exceptionTable := #[], attributes := #[] }
def k2m1 : Method := { name := "negate", desc := "(J)J", sig := { parameters := [.long], returnType := some .long }, accessFlags := 9, code := some k2c1 }
/-- com/example/abrupt/abrupt/compiler/Arithmetic -/
def k2 : Class := { plain "com/example/abrupt/abrupt/compiler/Arithmetic" (some 0) with
  accessFlags := 48
  interfaces := #[]
  cf := some (fileOf pool2 15 #[] #[{ accessFlags := 2, nameIndex := 5, descriptorIndex := 6, attributes := #[] }, { accessFlags := 9, nameIndex := 46, descriptorIndex := 47, attributes := #[] }] 48 2 #[] #[{ accessFlags := 26, nameIndex := 36, descriptorIndex := 37, attributes := #[] }, { accessFlags := 26, nameIndex := 39, descriptorIndex := 37, attributes := #[] }])
  fields := #[{ name := "OVERFLOW", type := (.object "java/lang/String"), accessFlags := 26, slot := 0, constantValue := 0 }, { name := "DIVISION_BY_ZERO", type := (.object "java/lang/String"), accessFlags := 26, slot := 1, constantValue := 0 }]
  methods := #[k2m0, k2m1]
  instanceTypes := #[]
  staticTypes := #[(.object "java/lang/String"), (.object "java/lang/String")]
  resolved := Array.replicate 52 none
  statics := none }

def pool3 : Array CpInfo := pool [(1, u "java/lang/Cloneable"), (0, .class_ 1), (0, u "java/lang/Object"), (0, .class_ 3)] 3

/-- java/lang/Cloneable -/
def k3 : Class := { plain "java/lang/Cloneable" (some 0) with
  accessFlags := 1537
  interfaces := #[]
  cf := some (fileOf pool3 2 #[] #[] 1537 4 #[] #[])
  fields := #[]
  methods := #[]
  instanceTypes := #[]
  staticTypes := #[]
  resolved := Array.replicate 8 none
  statics := none }

def pool4 : Array CpInfo := pool [(1, u "java/io/Serializable"), (0, .class_ 1), (0, u "java/lang/Object"), (0, .class_ 3)] 3

/-- java/io/Serializable -/
def k4 : Class := { plain "java/io/Serializable" (some 0) with
  accessFlags := 1537
  interfaces := #[]
  cf := some (fileOf pool4 2 #[] #[] 1537 4 #[] #[])
  fields := #[]
  methods := #[]
  instanceTypes := #[]
  staticTypes := #[]
  resolved := Array.replicate 8 none
  statics := none }

/-- the primitive byte -/
def k5 : Class := { plain "byte" none with kind := .primitive 'B', accessFlags := 0x411 }
/-- [B -/
def k6 : Class := { plain "[B" (some 0) with kind := .array 5 .byte, interfaces := #[3, 4], accessFlags := 1041 }

/-- the primitive int -/
def k7 : Class := { plain "int" none with kind := .primitive 'I', accessFlags := 0x411 }
/-- [I -/
def k8 : Class := { plain "[I" (some 0) with kind := .array 7 .int, interfaces := #[3, 4], accessFlags := 1041 }

def heap : Heap := #[]
def classes : Array Class := #[k0, k1, k2, k3, k4, k5, k6, k7, k8]
def interned : List (Array UInt16 × Addr) := []
def slotsUsed : Nat := 0
def theMethod : MethodId := ⟨1, 1⟩
def args0 : Array Value := #[.long 5]
def aboutOver (below : List Frame) : State where
  vm := { classes := classes, interned := interned.toArray }
  heap := heap
  slotsUsed := slotsUsed
  threads := #[{ frames := .invoking theMethod args0 :: below }]
def below0 : List Frame := [.native { method := ⟨0, 0⟩, args := #[] }]
def about1 : State := aboutOver below0
def p0 : Program := .bare "" "" ""
def e0 : Env := launch0.env 0 0 0
theorem w_frames : about1.frames = Frame.invoking theMethod args0 :: below0 := rfl
set_option maxRecDepth 65536 in
theorem w_args : argsFit about1.vm theMethod args0 = true := by decide +kernel
set_option maxRecDepth 65536 in
theorem w_heap : heapFits about1 = true := by decide +kernel
set_option maxRecDepth 65536 in
theorem w_runnable : about1.curStatus? = some .runnable := by decide +kernel
set_option maxRecDepth 65536 in
theorem w_alone : about1.alone = true := by decide +kernel
set_option maxRecDepth 65536 in
theorem w_named : about1.methodNamed? x = some theMethod := by decide +kernel
set_option maxRecDepth 65536 in
theorem w_hears : about1.hears theMethod below0 = true := by decide +kernel
set_option maxRecDepth 65536 in
theorem w_ripe : about1.ripe theMethod args0 below0 = true := by decide +kernel
theorem w_running : about1.status = .running := rfl
set_option maxRecDepth 65536 in
theorem w_room : about1.hasRoom e0.platform room_1 = true :=
  launch0.hasRoom_least _ room_1 (by decide +kernel) (by decide +kernel) (by decide +kernel) (by decide +kernel) (by decide +kernel) (by decide +kernel)
theorem allAtoms_all (ts : List Jvm.Cond) (a : Array Jvm.Value) (st : Jvm.State) : (allAtoms ts).before a st = ts.all (fun c => c.before a st) := by
  induction ts with
  | nil => rfl
  | cons c t ih =>
    show (Jvm.Cond.and c (allAtoms t)).before a st = _
    rw [Jvm.Cond.before_and, ih, List.all_cons]
def words1 : List Jvm.Cond := Jvm.Cond.code x code maxLocals ret :: tables_1
/-- a 'code' word, met by the world's own term for the bytes: nothing is compared byte by byte -/
theorem code_word {y : MethodName} {bytes : ByteArray} {mx : Nat} {rt : Option FieldType} {a : Array Value} {s : State} {m : MethodId} {meth : Method} {c : Code} (h1 : s.methodNamed? y = some m) (h2 : s.vm.method? m = some meth) (h3 : meth.code = some c) (h4 : c.code = bytes)
    (h5 : (c.maxLocals == mx && c.exceptionTable.isEmpty && decide (c.maxStack ≤ mostOperands) && decide (meth.sig.returnType = rt) && !meth.locks && decide (parseMethodDescriptor y.desc = some meth.sig)) = true) : (Jvm.Cond.code y bytes mx rt).before a s = true := by
  simp only [Bool.and_eq_true, beq_iff_eq, Bool.not_eq_true', decide_eq_true_eq] at h5
  obtain ⟨⟨⟨⟨⟨g1, g2⟩, g3⟩, g4⟩, g5⟩, g6⟩ := h5
  simp [Cond.before, Cond.holds, Cond.value, h1, h2, h3, h4, g1, g2, g3, g4, g5, g6]
def isCode : Jvm.Cond → Bool
  | .code _ _ _ _ => true
  | _ => false
theorem all_split {L : List Jvm.Cond} {P : Jvm.Cond → Bool} (h1 : L.all (fun c => isCode c || P c) = true) (h2 : ∀ c ∈ L.filter isCode, P c = true) : L.all P = true := by
  refine List.all_eq_true.mpr fun c hc => ?_
  have h := List.all_eq_true.mp h1 c hc
  rcases Bool.eq_false_or_eq_true (isCode c) with hi | hi
  · exact h2 c (List.mem_filter.mpr ⟨hc, hi⟩)
  · simpa [hi] using h
set_option maxRecDepth 65536 in
theorem w_c0 : (Jvm.Cond.code x code maxLocals ret).before args0 about1 = true := code_word (m := ⟨1, 1⟩) (meth := k1m1) (c := k1c1) (by decide +kernel) rfl rfl rfl (by decide +kernel)
set_option maxRecDepth 65536 in
theorem w_c1 : (Jvm.Cond.code ({ cls := "com/example/abrupt/abrupt/compiler/Arithmetic", name := "negate", desc := "(J)J" } : Jvm.MethodName) prog_14_method_5_code (2 : Nat) (Option.some Jvm.ClassFile.FieldType.long)).before args0 about1 = true := code_word (m := ⟨2, 1⟩) (meth := k2m1) (c := k2c1) (by decide +kernel) rfl rfl rfl (by decide +kernel)
def codes1 : List Jvm.Cond := [Jvm.Cond.code x code maxLocals ret, Jvm.Cond.code ({ cls := "com/example/abrupt/abrupt/compiler/Arithmetic", name := "negate", desc := "(J)J" } : Jvm.MethodName) prog_14_method_5_code (2 : Nat) (Option.some Jvm.ClassFile.FieldType.long)]
set_option maxRecDepth 65536 in
theorem codes_eq : words1.filter isCode = codes1 := rfl
theorem w_codes : ∀ c ∈ words1.filter isCode, c.before args0 about1 = true := by
  rw [codes_eq]
  intro c hc
  simp only [codes1, List.mem_cons, List.not_mem_nil, or_false] at hc
  rcases hc with rfl | rfl
  · exact w_c0
  · exact w_c1
set_option maxRecDepth 65536 in
theorem w_t1 : words1.all (fun c => isCode c || c.before args0 about1) = true := by decide +kernel
theorem w_tables : (allAtoms (Jvm.Cond.code x code maxLocals ret :: tables_1)).before args0 about1 = true := by
  rw [allAtoms_all]
  show words1.all (fun c => c.before args0 about1) = true
  refine all_split ?_ w_codes
  rw [w_t1]
set_option maxRecDepth 65536 in
theorem w_case : (Jvm.Cond.and given_1 narrow_1).before args0 about1 = true := by decide +kernel
theorem w_applies : (headSpec (Jvm.Cond.code x code maxLocals ret :: tables_1) room_1).applies x e0.platform about1 = true :=
  (Spec.applies_iff w_frames).mpr ⟨w_running, w_runnable, w_alone, w_named, w_hears, w_ripe, w_room, w_tables⟩
theorem atStart : AtStart classFile x code maxLocals ret World_1 tables_1 room_1 Calls_1 rest_1 Pre_1 launch0 p0 e0 about1 theMethod args0 below0 :=
  ⟨lists_1, trivial, launch0.admits_env _ _ _, launch0.least_env, fairChoices_fair.cas, fairChoices_fair.clock, w_frames, w_args, w_heap, w_applies, trivial, trivial, w_case⟩
end start1
theorem witness_1 : WitnessClaimed_1 := ⟨start1.p0, start1.e0, start1.about1, start1.theMethod, start1.args0, start1.below0, start1.atStart⟩
end Jvm.Pilot.@@N@@
