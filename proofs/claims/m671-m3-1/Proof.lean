import JvmDerived
import JvmDerived.Pilot.@@N@@Statement
import JvmDerived.Pilot.@@N@@Code
set_option linter.unusedVariables false
set_option linter.unusedSimpArgs false
namespace Jvm.RoadKit
open Sem ClassFile Op Lib Jvm.Stand Jvm.Free Jvm.LawKit
section New
variable {p : Program} {l : Launch} {e : Env} {R : Room} {s : State} {m : MethodId} {args : Array Value} {below : List Frame} {meth : Method} {c : Code} {T : State} {locs : List Loc} {cells slots : Nat}
theorem retI (X : Stand p l e R s m args below meth c T locs cells slots) (hx : p.tables.exec = Jvm.exec) {pc : Nat} {Ls : Array Slot} {z : Int32} {rest : List Value} (hret : meth.sig.returnType = some .int) (hd : decode c.code pc = .ok (.ireturn, 1)) {fs : List Frame}
    (hl : ∀ (f : JFrame) (acts : List Action), f.method = m → f.locked = none → f.entered = [] → (doReturn e (T.setTop f) acts (some (.int z))).1 = T.setFrames fs) : Steps p.tables e below (T.setTop (mkF m pc Ls (.int z :: rest))) (T.setFrames fs) := by
  have hm' : T.vm.method? m = some meth := X.method'
  have hn : narrow .int (.int z) = .int z := rfl
  show Steps p.tables e below (T.setTop { method := m, pc := pc, locals := Ls, stack := _ :: rest, locked := none }) _
  jvm_step X.here [X.here.top, hx, hd, hm', hret, hn]
  first | (intro acts; rw [hl _ acts rfl rfl rfl]) | rw [hl _ _ rfl rfl rfl]
  exact Steps.refl _
theorem own_lremM {g : JFrame} {target : State} (X : Stand p l e R s m args below meth c T locs cells slots) (hx : p.tables.exec = Jvm.exec) (hg : g.method = m) {x y : Int64} {rest : List Value} (hd : decode c.code g.pc = .ok (.lrem, 1)) (hs : g.stack = .long y :: .long x :: rest) (hy : y ≠ 0)
    (hr : Steps p.tables e below (T.setTop { g with pc := g.pc + 1, stack := .long (x % y) :: rest }) target) : Steps p.tables e below (T.setTop g) target := by
  have q : x - x / y * y = x % y := lrem_mod x y
  exact XS.lrem X.here hx hg hd hs hy (by rw [q]; exact hr)
theorem own_narB (P : Prop) [Decidable P] : nar .boolean (if P then (1 : Int32) else 0) = if P then (1 : Int32) else 0 := by split <;> rfl
end New
end Jvm.RoadKit
namespace Jvm.Pilot.@@N@@
open Jvm Jvm.ClassFile Sem Op Lib Jvm.Free Jvm.Stand Jvm.LawKit Jvm.RoadKit Bundle Jvm.Pilot.@@N@@.Jvm.D
theorem own_ordv {s : State} {args : Array Value} {C f d E o I : String} {k : Int32} {a : Addr} (ev : (Term.static C f d).eval args s none [] s = some (.ref a)) (h : (Jvm.Cond.eq (Term.field (Term.static C f d) E o I) (Term.int k)).value args s none s [] = some true) : s.fieldOf? a E o I = some (.int k) := by
  have h1 : (Term.field (Term.static C f d) E o I).eval args s none [] s = s.fieldOf? a E o I := fld_at ev
  have h2 : (Term.int k).eval args s none [] s = some (.int k) := rfl
  simp only [Jvm.Cond.value, h1, h2] at h
  cases hv : s.fieldOf? a E o I with
  | none => rw [hv] at h; simp at h
  | some v =>
    rw [hv] at h
    cases v <;> simp at h ⊢ <;> exact h
def own_ordOf (s : State) (a : Addr) : Int32 := match s.fieldOf? a "java/lang/Enum" "ordinal" "I" with
  | some (.int k) => k
  | _ => -1
theorem own_ordAt {s : State} {a : Addr} {k : Int32} (h : s.fieldOf? a "java/lang/Enum" "ordinal" "I" = some (.int k)) : own_ordOf s a = k := by simp [own_ordOf, h]
def own_kind (w : Nat → Addr) (p : Int32) : Addr := if p = (0 : Int32) then w 0 else (if p = (1 : Int32) then w 1 else (if p = (2 : Int32) then w 2 else (if p = (3 : Int32) then w 3 else (if p = (4 : Int32) then w 4 else (if p = (5 : Int32) then w 5 else (if p = (6 : Int32) then w 6 else (if p = (7 : Int32) then w 7 else (w 8))))))))
def own_modal (w : Nat → Addr) (r : Addr) : Int32 := if ((r = (w 5)) ∨ ((r = (w 6)) ∨ (r = (w 7)))) then (1 : Int32) else 0
theorem dK_0 : decode method_3_code 0 = .ok (.iload_n 0, 1) := by decide +kernel
theorem dK_1 : decode method_3_code 1 = .ok (.ifCond .ne 7, 3) := by decide +kernel
theorem dK_4 : decode method_3_code 4 = .ok (.getstatic 20, 3) := by decide +kernel
theorem dK_7 : decode method_3_code 7 = .ok (.areturn, 1) := by decide +kernel
theorem dK_8 : decode method_3_code 8 = .ok (.iload_n 0, 1) := by decide +kernel
theorem dK_9 : decode method_3_code 9 = .ok (.iconst 1, 1) := by decide +kernel
theorem dK_10 : decode method_3_code 10 = .ok (.if_icmp .ne 7, 3) := by decide +kernel
theorem dK_13 : decode method_3_code 13 = .ok (.getstatic 24, 3) := by decide +kernel
theorem dK_16 : decode method_3_code 16 = .ok (.areturn, 1) := by decide +kernel
theorem dK_17 : decode method_3_code 17 = .ok (.iload_n 0, 1) := by decide +kernel
theorem dK_18 : decode method_3_code 18 = .ok (.iconst 2, 1) := by decide +kernel
theorem dK_19 : decode method_3_code 19 = .ok (.if_icmp .ne 7, 3) := by decide +kernel
theorem dK_22 : decode method_3_code 22 = .ok (.getstatic 27, 3) := by decide +kernel
theorem dK_25 : decode method_3_code 25 = .ok (.areturn, 1) := by decide +kernel
theorem dK_26 : decode method_3_code 26 = .ok (.iload_n 0, 1) := by decide +kernel
theorem dK_27 : decode method_3_code 27 = .ok (.iconst 3, 1) := by decide +kernel
theorem dK_28 : decode method_3_code 28 = .ok (.if_icmp .ne 7, 3) := by decide +kernel
theorem dK_31 : decode method_3_code 31 = .ok (.getstatic 30, 3) := by decide +kernel
theorem dK_34 : decode method_3_code 34 = .ok (.areturn, 1) := by decide +kernel
theorem dK_35 : decode method_3_code 35 = .ok (.iload_n 0, 1) := by decide +kernel
theorem dK_36 : decode method_3_code 36 = .ok (.iconst 4, 1) := by decide +kernel
theorem dK_37 : decode method_3_code 37 = .ok (.if_icmp .ne 7, 3) := by decide +kernel
theorem dK_40 : decode method_3_code 40 = .ok (.getstatic 33, 3) := by decide +kernel
theorem dK_43 : decode method_3_code 43 = .ok (.areturn, 1) := by decide +kernel
theorem dK_44 : decode method_3_code 44 = .ok (.iload_n 0, 1) := by decide +kernel
theorem dK_45 : decode method_3_code 45 = .ok (.iconst 5, 1) := by decide +kernel
theorem dK_46 : decode method_3_code 46 = .ok (.if_icmp .ne 7, 3) := by decide +kernel
theorem dK_49 : decode method_3_code 49 = .ok (.getstatic 36, 3) := by decide +kernel
theorem dK_52 : decode method_3_code 52 = .ok (.areturn, 1) := by decide +kernel
theorem dK_53 : decode method_3_code 53 = .ok (.iload_n 0, 1) := by decide +kernel
theorem dK_54 : decode method_3_code 54 = .ok (.bipush 6, 2) := by decide +kernel
theorem dK_56 : decode method_3_code 56 = .ok (.if_icmp .ne 7, 3) := by decide +kernel
theorem dK_59 : decode method_3_code 59 = .ok (.getstatic 39, 3) := by decide +kernel
theorem dK_62 : decode method_3_code 62 = .ok (.areturn, 1) := by decide +kernel
theorem dK_63 : decode method_3_code 63 = .ok (.iload_n 0, 1) := by decide +kernel
theorem dK_64 : decode method_3_code 64 = .ok (.bipush 7, 2) := by decide +kernel
theorem dK_66 : decode method_3_code 66 = .ok (.if_icmp .ne 7, 3) := by decide +kernel
theorem dK_69 : decode method_3_code 69 = .ok (.getstatic 42, 3) := by decide +kernel
theorem dK_72 : decode method_3_code 72 = .ok (.areturn, 1) := by decide +kernel
theorem dK_73 : decode method_3_code 73 = .ok (.getstatic 45, 3) := by decide +kernel
theorem dK_76 : decode method_3_code 76 = .ok (.areturn, 1) := by decide +kernel
theorem pnK : plainName "com/example/hatua/hatua/KindIsModalPinLaw" = true := by first | (simp [plainName, overriddenIn]; done) | decide +kernel
theorem efK (m : MethodId) (p0 : Int32) : entryFrame m #[(.int p0)] 1 = mkF m 0 #[.val (.int p0)] [] := by first | (simp [entryFrame, mkF, argsToLocals, Value.category]; done) | rfl
abbrev own_roomK : Room := { frames := 0, cells := 0, slots := 0, locals := 0 }
def QK (Z : State) (p0 : Int32) (w : Nat → Addr) (h0 : Heap) (n0 : Nat) (v : Option Value) (h : Heap) (L : List Loc) : Prop := v = some (.ref (own_kind w p0)) ∧ Fr n0 L ∧ h = h0
set_option maxRecDepth 65536 in
set_option maxHeartbeats 40000000 in
theorem rmK (l : Launch) (Z : State) (a0 : Array Value) (hw : ∀ d ∈ tables_1, d.before a0 Z = true) (ws : List Jvm.Cond) (p0 : Int32) (w : Nat → Addr) (h0 : Heap) (n0 : Nat) (Z0 : n0 ≤ h0.size) (S0 : Sta Z h0 "com/example/hatua/hatua/Formula$Kind" "ATOM" "Lcom/example/hatua/hatua/Formula$Kind;" (.ref (w 0))) (S1 : Sta Z h0 "com/example/hatua/hatua/Formula$Kind" "NOT" "Lcom/example/hatua/hatua/Formula$Kind;" (.ref (w 1))) (S2 : Sta Z h0 "com/example/hatua/hatua/Formula$Kind" "ALL" "Lcom/example/hatua/hatua/Formula$Kind;" (.ref (w 2))) (S3 : Sta Z h0 "com/example/hatua/hatua/Formula$Kind" "ANY" "Lcom/example/hatua/hatua/Formula$Kind;" (.ref (w 3))) (S4 : Sta Z h0 "com/example/hatua/hatua/Formula$Kind" "EXACTLY_ONE" "Lcom/example/hatua/hatua/Formula$Kind;" (.ref (w 4))) (S5 : Sta Z h0 "com/example/hatua/hatua/Formula$Kind" "BELIEVES" "Lcom/example/hatua/hatua/Formula$Kind;" (.ref (w 5))) (S6 : Sta Z h0 "com/example/hatua/hatua/Formula$Kind" "KNOWS" "Lcom/example/hatua/hatua/Formula$Kind;" (.ref (w 6))) (S7 : Sta Z h0 "com/example/hatua/hatua/Formula$Kind" "ALL_BELIEVE" "Lcom/example/hatua/hatua/Formula$Kind;" (.ref (w 7))) (S8 : Sta Z h0 "com/example/hatua/hatua/Formula$Kind" "TIMESTEP_AT_LEAST" "Lcom/example/hatua/hatua/Formula$Kind;" (.ref (w 8))) :
    MetFree l (⟨"com/example/hatua/hatua/KindIsModalPinLaw", "kindOf", "(I)Lcom/example/hatua/hatua/Formula$Kind;"⟩ : MethodName) (head1 (Jvm.Cond.code (⟨"com/example/hatua/hatua/KindIsModalPinLaw", "kindOf", "(I)Lcom/example/hatua/hatua/Formula$Kind;"⟩ : MethodName) method_3_code 1 (some (.object "com/example/hatua/hatua/Formula$Kind")) :: ws) own_roomK) (fun a U => a = #[(.int p0)] ∧ Z.Warmed39 U.vm ∧ U.heap = h0) (fun _ _ _ _ _ => True) (fun _ U o U' => ∃ v L, o = .returned v ∧ QK Z p0 w h0 n0 v U'.heap L ∧ FrameEnd U o U' L own_roomK.cells own_roomK.slots) := by
  refine MetFree.of_bodySF (plainFor_of_name pnK) hisR ?_
  intro p e s m args below meth c s₁ Bd hml0 hP hK
  obtain ⟨rfl, hZ, hh⟩ := hP
  have hx := Bd.exec
  have hby := Bd.bytes
  have hml : c.maxLocals = 1 := hml0
  have hown : s.vm.findClass "com/example/hatua/hatua/KindIsModalPinLaw" = some m.cls := findClass_of_methodNamed Bd.named
  have hnm := (name_of_methodNamed Bd.named Bd.method).1
  have X0 : Stand p l e own_roomK s m #[(.int p0)] below meth c s₁ [] 0 0 := Stand.of_body Bd
  have e0 : s₁.heap = h0 := by rw [← hh, Bd.state]; rfl
  have N0 := Fr.nil n0
  have pre0 : ∀ t, Steps p.tables e below (s₁.setTop (mkF m 0 #[.val (.int p0)] [])) t → Steps p.tables e below (s₁.setTop (entryFrame m #[(.int p0)] 1)) t := fun t k => castTop (efK m p0) k
  have pre1 : ∀ t, Steps p.tables e below (s₁.setTop (mkF m 1 #[.val (.int p0)] [(.int p0)])) t → Steps p.tables e below (s₁.setTop (entryFrame m #[(.int p0)] 1)) t := fun t k => pre0 t (by
    show Steps p.tables e below (s₁.setTop (mkF m 0 #[.val (.int p0)] [])) t
    refine XS.iloadN X0.here hx rfl (hb hby dK_0) rfl ?_
    show Steps p.tables e below (s₁.setTop (mkF m 1 #[.val (.int p0)] [(.int p0)])) _
    exact k)
  by_cases hc1 : p0 = (0 : Int32)
  · -- p0 = (0 : Int32)
    have pre4 : ∀ t, Steps p.tables e below (s₁.setTop (mkF m 4 #[.val (.int p0)] [])) t → Steps p.tables e below (s₁.setTop (entryFrame m #[(.int p0)] 1)) t := fun t k => pre1 t (by
      show Steps p.tables e below (s₁.setTop (mkF m 1 #[.val (.int p0)] [(.int p0)])) t
      refine XS.ifNo X0.here hx rfl (hb hby dK_1) rfl ((if0 _ _).trans (teq hc1).2) ?_
      exact k)
    obtain ⟨T4, X4, e4, st4⟩ := getS2 X0 hx hZ hown (host := "") (Or.inl (hw _ (List.mem_of_getElem? (i := 5) rfl))) Via.refl e0 S0 (g := (mkF m 4 #[.val (.int p0)] [])) rfl (hb hby dK_4)
    have pre7 : ∀ t, Steps p.tables e below (T4.setTop (mkF m 7 #[.val (.int p0)] [(.ref (w 0))])) t → Steps p.tables e below (s₁.setTop (entryFrame m #[(.int p0)] 1)) t := fun t k => pre4 t (st4 _ k)
    obtain ⟨fs, hr, hrun, hended, hW, hsame⟩ := X4.leave (v := some (.ref (w 0))) (fun h => by rw [Bd.returns] at h; cases h)
    refine ⟨_, _, pre7 _ ?_, hrun, hended, _, _, rfl, ?_, ⟨_, rfl⟩, hW, hsame.mono (by decide) (by decide)⟩
    · show Steps p.tables e below (T4.setTop (mkF m 7 #[.val (.int p0)] [(.ref (w 0))])) _
      exact retOut X4 hx Bd.returns rfl (Or.inr (Or.inr (Or.inr (Or.inr ⟨rfl, rfl, rfl⟩)))) (hb hby dK_7) hr
    · show QK Z p0 w h0 n0 _ T4.heap _
      rw [e4]
      have hres : (w 0) = (own_kind w p0) := by
        rw [own_kind, if_pos hc1]
      exact ⟨congrArg (fun q => some (Value.ref q)) hres, N0, rfl⟩
  · -- not p0 = (0 : Int32)
    have pre8 : ∀ t, Steps p.tables e below (s₁.setTop (mkF m 8 #[.val (.int p0)] [])) t → Steps p.tables e below (s₁.setTop (entryFrame m #[(.int p0)] 1)) t := fun t k => pre1 t (by
      show Steps p.tables e below (s₁.setTop (mkF m 1 #[.val (.int p0)] [(.int p0)])) t
      refine XS.ifYes X0.here hx rfl (pc0 := 1) (pc' := 8) rfl (hb hby dK_1) rfl ((if0 _ _).trans (feq hc1).2) (by decide) (by decide) ?_
      exact k)
    have pre10 : ∀ t, Steps p.tables e below (s₁.setTop (mkF m 10 #[.val (.int p0)] [(.int (1 : Int32)), (.int p0)])) t → Steps p.tables e below (s₁.setTop (entryFrame m #[(.int p0)] 1)) t := fun t k => pre8 t (by
      show Steps p.tables e below (s₁.setTop (mkF m 8 #[.val (.int p0)] [])) t
      refine XS.iloadN X0.here hx rfl (hb hby dK_8) rfl ?_
      show Steps p.tables e below (s₁.setTop (mkF m 9 #[.val (.int p0)] [(.int p0)])) _
      refine XS.iconst X0.here hx rfl (hb hby dK_9) ?_
      show Steps p.tables e below (s₁.setTop (mkF m 10 #[.val (.int p0)] [(.int (1 : Int32)), (.int p0)])) _
      exact k)
    by_cases hc10 : p0 = (1 : Int32)
    · -- p0 = (1 : Int32)
      have pre13 : ∀ t, Steps p.tables e below (s₁.setTop (mkF m 13 #[.val (.int p0)] [])) t → Steps p.tables e below (s₁.setTop (entryFrame m #[(.int p0)] 1)) t := fun t k => pre10 t (by
        show Steps p.tables e below (s₁.setTop (mkF m 10 #[.val (.int p0)] [(.int (1 : Int32)), (.int p0)])) t
        refine XS.icmpNo X0.here hx rfl (hb hby dK_10) rfl (teq hc10).2 ?_
        exact k)
      obtain ⟨T13, X13, e13, st13⟩ := getS2 X0 hx hZ hown (host := "") (Or.inl (hw _ (List.mem_of_getElem? (i := 23) rfl))) Via.refl e0 S1 (g := (mkF m 13 #[.val (.int p0)] [])) rfl (hb hby dK_13)
      have pre16 : ∀ t, Steps p.tables e below (T13.setTop (mkF m 16 #[.val (.int p0)] [(.ref (w 1))])) t → Steps p.tables e below (s₁.setTop (entryFrame m #[(.int p0)] 1)) t := fun t k => pre13 t (st13 _ k)
      obtain ⟨fs, hr, hrun, hended, hW, hsame⟩ := X13.leave (v := some (.ref (w 1))) (fun h => by rw [Bd.returns] at h; cases h)
      refine ⟨_, _, pre16 _ ?_, hrun, hended, _, _, rfl, ?_, ⟨_, rfl⟩, hW, hsame.mono (by decide) (by decide)⟩
      · show Steps p.tables e below (T13.setTop (mkF m 16 #[.val (.int p0)] [(.ref (w 1))])) _
        exact retOut X13 hx Bd.returns rfl (Or.inr (Or.inr (Or.inr (Or.inr ⟨rfl, rfl, rfl⟩)))) (hb hby dK_16) hr
      · show QK Z p0 w h0 n0 _ T13.heap _
        rw [e13]
        have hres : (w 1) = (own_kind w p0) := by
          rw [own_kind, if_neg hc1, if_pos hc10]
        exact ⟨congrArg (fun q => some (Value.ref q)) hres, N0, rfl⟩
    · -- not p0 = (1 : Int32)
      have pre17 : ∀ t, Steps p.tables e below (s₁.setTop (mkF m 17 #[.val (.int p0)] [])) t → Steps p.tables e below (s₁.setTop (entryFrame m #[(.int p0)] 1)) t := fun t k => pre10 t (by
        show Steps p.tables e below (s₁.setTop (mkF m 10 #[.val (.int p0)] [(.int (1 : Int32)), (.int p0)])) t
        refine XS.icmpYes X0.here hx rfl (pc0 := 10) (pc' := 17) rfl (hb hby dK_10) rfl (feq hc10).2 (by decide) (by decide) ?_
        exact k)
      have pre19 : ∀ t, Steps p.tables e below (s₁.setTop (mkF m 19 #[.val (.int p0)] [(.int (2 : Int32)), (.int p0)])) t → Steps p.tables e below (s₁.setTop (entryFrame m #[(.int p0)] 1)) t := fun t k => pre17 t (by
        show Steps p.tables e below (s₁.setTop (mkF m 17 #[.val (.int p0)] [])) t
        refine XS.iloadN X0.here hx rfl (hb hby dK_17) rfl ?_
        show Steps p.tables e below (s₁.setTop (mkF m 18 #[.val (.int p0)] [(.int p0)])) _
        refine XS.iconst X0.here hx rfl (hb hby dK_18) ?_
        show Steps p.tables e below (s₁.setTop (mkF m 19 #[.val (.int p0)] [(.int (2 : Int32)), (.int p0)])) _
        exact k)
      by_cases hc19 : p0 = (2 : Int32)
      · -- p0 = (2 : Int32)
        have pre22 : ∀ t, Steps p.tables e below (s₁.setTop (mkF m 22 #[.val (.int p0)] [])) t → Steps p.tables e below (s₁.setTop (entryFrame m #[(.int p0)] 1)) t := fun t k => pre19 t (by
          show Steps p.tables e below (s₁.setTop (mkF m 19 #[.val (.int p0)] [(.int (2 : Int32)), (.int p0)])) t
          refine XS.icmpNo X0.here hx rfl (hb hby dK_19) rfl (teq hc19).2 ?_
          exact k)
        obtain ⟨T22, X22, e22, st22⟩ := getS2 X0 hx hZ hown (host := "") (Or.inl (hw _ (List.mem_of_getElem? (i := 21) rfl))) Via.refl e0 S2 (g := (mkF m 22 #[.val (.int p0)] [])) rfl (hb hby dK_22)
        have pre25 : ∀ t, Steps p.tables e below (T22.setTop (mkF m 25 #[.val (.int p0)] [(.ref (w 2))])) t → Steps p.tables e below (s₁.setTop (entryFrame m #[(.int p0)] 1)) t := fun t k => pre22 t (st22 _ k)
        obtain ⟨fs, hr, hrun, hended, hW, hsame⟩ := X22.leave (v := some (.ref (w 2))) (fun h => by rw [Bd.returns] at h; cases h)
        refine ⟨_, _, pre25 _ ?_, hrun, hended, _, _, rfl, ?_, ⟨_, rfl⟩, hW, hsame.mono (by decide) (by decide)⟩
        · show Steps p.tables e below (T22.setTop (mkF m 25 #[.val (.int p0)] [(.ref (w 2))])) _
          exact retOut X22 hx Bd.returns rfl (Or.inr (Or.inr (Or.inr (Or.inr ⟨rfl, rfl, rfl⟩)))) (hb hby dK_25) hr
        · show QK Z p0 w h0 n0 _ T22.heap _
          rw [e22]
          have hres : (w 2) = (own_kind w p0) := by
            rw [own_kind, if_neg hc1, if_neg hc10, if_pos hc19]
          exact ⟨congrArg (fun q => some (Value.ref q)) hres, N0, rfl⟩
      · -- not p0 = (2 : Int32)
        have pre26 : ∀ t, Steps p.tables e below (s₁.setTop (mkF m 26 #[.val (.int p0)] [])) t → Steps p.tables e below (s₁.setTop (entryFrame m #[(.int p0)] 1)) t := fun t k => pre19 t (by
          show Steps p.tables e below (s₁.setTop (mkF m 19 #[.val (.int p0)] [(.int (2 : Int32)), (.int p0)])) t
          refine XS.icmpYes X0.here hx rfl (pc0 := 19) (pc' := 26) rfl (hb hby dK_19) rfl (feq hc19).2 (by decide) (by decide) ?_
          exact k)
        have pre28 : ∀ t, Steps p.tables e below (s₁.setTop (mkF m 28 #[.val (.int p0)] [(.int (3 : Int32)), (.int p0)])) t → Steps p.tables e below (s₁.setTop (entryFrame m #[(.int p0)] 1)) t := fun t k => pre26 t (by
          show Steps p.tables e below (s₁.setTop (mkF m 26 #[.val (.int p0)] [])) t
          refine XS.iloadN X0.here hx rfl (hb hby dK_26) rfl ?_
          show Steps p.tables e below (s₁.setTop (mkF m 27 #[.val (.int p0)] [(.int p0)])) _
          refine XS.iconst X0.here hx rfl (hb hby dK_27) ?_
          show Steps p.tables e below (s₁.setTop (mkF m 28 #[.val (.int p0)] [(.int (3 : Int32)), (.int p0)])) _
          exact k)
        by_cases hc28 : p0 = (3 : Int32)
        · -- p0 = (3 : Int32)
          have pre31 : ∀ t, Steps p.tables e below (s₁.setTop (mkF m 31 #[.val (.int p0)] [])) t → Steps p.tables e below (s₁.setTop (entryFrame m #[(.int p0)] 1)) t := fun t k => pre28 t (by
            show Steps p.tables e below (s₁.setTop (mkF m 28 #[.val (.int p0)] [(.int (3 : Int32)), (.int p0)])) t
            refine XS.icmpNo X0.here hx rfl (hb hby dK_28) rfl (teq hc28).2 ?_
            exact k)
          obtain ⟨T31, X31, e31, st31⟩ := getS2 X0 hx hZ hown (host := "") (Or.inl (hw _ (List.mem_of_getElem? (i := 19) rfl))) Via.refl e0 S3 (g := (mkF m 31 #[.val (.int p0)] [])) rfl (hb hby dK_31)
          have pre34 : ∀ t, Steps p.tables e below (T31.setTop (mkF m 34 #[.val (.int p0)] [(.ref (w 3))])) t → Steps p.tables e below (s₁.setTop (entryFrame m #[(.int p0)] 1)) t := fun t k => pre31 t (st31 _ k)
          obtain ⟨fs, hr, hrun, hended, hW, hsame⟩ := X31.leave (v := some (.ref (w 3))) (fun h => by rw [Bd.returns] at h; cases h)
          refine ⟨_, _, pre34 _ ?_, hrun, hended, _, _, rfl, ?_, ⟨_, rfl⟩, hW, hsame.mono (by decide) (by decide)⟩
          · show Steps p.tables e below (T31.setTop (mkF m 34 #[.val (.int p0)] [(.ref (w 3))])) _
            exact retOut X31 hx Bd.returns rfl (Or.inr (Or.inr (Or.inr (Or.inr ⟨rfl, rfl, rfl⟩)))) (hb hby dK_34) hr
          · show QK Z p0 w h0 n0 _ T31.heap _
            rw [e31]
            have hres : (w 3) = (own_kind w p0) := by
              rw [own_kind, if_neg hc1, if_neg hc10, if_neg hc19, if_pos hc28]
            exact ⟨congrArg (fun q => some (Value.ref q)) hres, N0, rfl⟩
        · -- not p0 = (3 : Int32)
          have pre35 : ∀ t, Steps p.tables e below (s₁.setTop (mkF m 35 #[.val (.int p0)] [])) t → Steps p.tables e below (s₁.setTop (entryFrame m #[(.int p0)] 1)) t := fun t k => pre28 t (by
            show Steps p.tables e below (s₁.setTop (mkF m 28 #[.val (.int p0)] [(.int (3 : Int32)), (.int p0)])) t
            refine XS.icmpYes X0.here hx rfl (pc0 := 28) (pc' := 35) rfl (hb hby dK_28) rfl (feq hc28).2 (by decide) (by decide) ?_
            exact k)
          have pre37 : ∀ t, Steps p.tables e below (s₁.setTop (mkF m 37 #[.val (.int p0)] [(.int (4 : Int32)), (.int p0)])) t → Steps p.tables e below (s₁.setTop (entryFrame m #[(.int p0)] 1)) t := fun t k => pre35 t (by
            show Steps p.tables e below (s₁.setTop (mkF m 35 #[.val (.int p0)] [])) t
            refine XS.iloadN X0.here hx rfl (hb hby dK_35) rfl ?_
            show Steps p.tables e below (s₁.setTop (mkF m 36 #[.val (.int p0)] [(.int p0)])) _
            refine XS.iconst X0.here hx rfl (hb hby dK_36) ?_
            show Steps p.tables e below (s₁.setTop (mkF m 37 #[.val (.int p0)] [(.int (4 : Int32)), (.int p0)])) _
            exact k)
          by_cases hc37 : p0 = (4 : Int32)
          · -- p0 = (4 : Int32)
            have pre40 : ∀ t, Steps p.tables e below (s₁.setTop (mkF m 40 #[.val (.int p0)] [])) t → Steps p.tables e below (s₁.setTop (entryFrame m #[(.int p0)] 1)) t := fun t k => pre37 t (by
              show Steps p.tables e below (s₁.setTop (mkF m 37 #[.val (.int p0)] [(.int (4 : Int32)), (.int p0)])) t
              refine XS.icmpNo X0.here hx rfl (hb hby dK_37) rfl (teq hc37).2 ?_
              exact k)
            obtain ⟨T40, X40, e40, st40⟩ := getS2 X0 hx hZ hown (host := "") (Or.inl (hw _ (List.mem_of_getElem? (i := 26) rfl))) Via.refl e0 S4 (g := (mkF m 40 #[.val (.int p0)] [])) rfl (hb hby dK_40)
            have pre43 : ∀ t, Steps p.tables e below (T40.setTop (mkF m 43 #[.val (.int p0)] [(.ref (w 4))])) t → Steps p.tables e below (s₁.setTop (entryFrame m #[(.int p0)] 1)) t := fun t k => pre40 t (st40 _ k)
            obtain ⟨fs, hr, hrun, hended, hW, hsame⟩ := X40.leave (v := some (.ref (w 4))) (fun h => by rw [Bd.returns] at h; cases h)
            refine ⟨_, _, pre43 _ ?_, hrun, hended, _, _, rfl, ?_, ⟨_, rfl⟩, hW, hsame.mono (by decide) (by decide)⟩
            · show Steps p.tables e below (T40.setTop (mkF m 43 #[.val (.int p0)] [(.ref (w 4))])) _
              exact retOut X40 hx Bd.returns rfl (Or.inr (Or.inr (Or.inr (Or.inr ⟨rfl, rfl, rfl⟩)))) (hb hby dK_43) hr
            · show QK Z p0 w h0 n0 _ T40.heap _
              rw [e40]
              have hres : (w 4) = (own_kind w p0) := by
                rw [own_kind, if_neg hc1, if_neg hc10, if_neg hc19, if_neg hc28, if_pos hc37]
              exact ⟨congrArg (fun q => some (Value.ref q)) hres, N0, rfl⟩
          · -- not p0 = (4 : Int32)
            have pre44 : ∀ t, Steps p.tables e below (s₁.setTop (mkF m 44 #[.val (.int p0)] [])) t → Steps p.tables e below (s₁.setTop (entryFrame m #[(.int p0)] 1)) t := fun t k => pre37 t (by
              show Steps p.tables e below (s₁.setTop (mkF m 37 #[.val (.int p0)] [(.int (4 : Int32)), (.int p0)])) t
              refine XS.icmpYes X0.here hx rfl (pc0 := 37) (pc' := 44) rfl (hb hby dK_37) rfl (feq hc37).2 (by decide) (by decide) ?_
              exact k)
            have pre46 : ∀ t, Steps p.tables e below (s₁.setTop (mkF m 46 #[.val (.int p0)] [(.int (5 : Int32)), (.int p0)])) t → Steps p.tables e below (s₁.setTop (entryFrame m #[(.int p0)] 1)) t := fun t k => pre44 t (by
              show Steps p.tables e below (s₁.setTop (mkF m 44 #[.val (.int p0)] [])) t
              refine XS.iloadN X0.here hx rfl (hb hby dK_44) rfl ?_
              show Steps p.tables e below (s₁.setTop (mkF m 45 #[.val (.int p0)] [(.int p0)])) _
              refine XS.iconst X0.here hx rfl (hb hby dK_45) ?_
              show Steps p.tables e below (s₁.setTop (mkF m 46 #[.val (.int p0)] [(.int (5 : Int32)), (.int p0)])) _
              exact k)
            by_cases hc46 : p0 = (5 : Int32)
            · -- p0 = (5 : Int32)
              have pre49 : ∀ t, Steps p.tables e below (s₁.setTop (mkF m 49 #[.val (.int p0)] [])) t → Steps p.tables e below (s₁.setTop (entryFrame m #[(.int p0)] 1)) t := fun t k => pre46 t (by
                show Steps p.tables e below (s₁.setTop (mkF m 46 #[.val (.int p0)] [(.int (5 : Int32)), (.int p0)])) t
                refine XS.icmpNo X0.here hx rfl (hb hby dK_46) rfl (teq hc46).2 ?_
                exact k)
              obtain ⟨T49, X49, e49, st49⟩ := getS2 X0 hx hZ hown (host := "") (Or.inl (hw _ (List.mem_of_getElem? (i := 31) rfl))) Via.refl e0 S5 (g := (mkF m 49 #[.val (.int p0)] [])) rfl (hb hby dK_49)
              have pre52 : ∀ t, Steps p.tables e below (T49.setTop (mkF m 52 #[.val (.int p0)] [(.ref (w 5))])) t → Steps p.tables e below (s₁.setTop (entryFrame m #[(.int p0)] 1)) t := fun t k => pre49 t (st49 _ k)
              obtain ⟨fs, hr, hrun, hended, hW, hsame⟩ := X49.leave (v := some (.ref (w 5))) (fun h => by rw [Bd.returns] at h; cases h)
              refine ⟨_, _, pre52 _ ?_, hrun, hended, _, _, rfl, ?_, ⟨_, rfl⟩, hW, hsame.mono (by decide) (by decide)⟩
              · show Steps p.tables e below (T49.setTop (mkF m 52 #[.val (.int p0)] [(.ref (w 5))])) _
                exact retOut X49 hx Bd.returns rfl (Or.inr (Or.inr (Or.inr (Or.inr ⟨rfl, rfl, rfl⟩)))) (hb hby dK_52) hr
              · show QK Z p0 w h0 n0 _ T49.heap _
                rw [e49]
                have hres : (w 5) = (own_kind w p0) := by
                  rw [own_kind, if_neg hc1, if_neg hc10, if_neg hc19, if_neg hc28, if_neg hc37, if_pos hc46]
                exact ⟨congrArg (fun q => some (Value.ref q)) hres, N0, rfl⟩
            · -- not p0 = (5 : Int32)
              have pre53 : ∀ t, Steps p.tables e below (s₁.setTop (mkF m 53 #[.val (.int p0)] [])) t → Steps p.tables e below (s₁.setTop (entryFrame m #[(.int p0)] 1)) t := fun t k => pre46 t (by
                show Steps p.tables e below (s₁.setTop (mkF m 46 #[.val (.int p0)] [(.int (5 : Int32)), (.int p0)])) t
                refine XS.icmpYes X0.here hx rfl (pc0 := 46) (pc' := 53) rfl (hb hby dK_46) rfl (feq hc46).2 (by decide) (by decide) ?_
                exact k)
              have pre56 : ∀ t, Steps p.tables e below (s₁.setTop (mkF m 56 #[.val (.int p0)] [(.int (6 : Int32)), (.int p0)])) t → Steps p.tables e below (s₁.setTop (entryFrame m #[(.int p0)] 1)) t := fun t k => pre53 t (by
                show Steps p.tables e below (s₁.setTop (mkF m 53 #[.val (.int p0)] [])) t
                refine XS.iloadN X0.here hx rfl (hb hby dK_53) rfl ?_
                show Steps p.tables e below (s₁.setTop (mkF m 54 #[.val (.int p0)] [(.int p0)])) _
                refine XS.bipush X0.here hx rfl (hb hby dK_54) ?_
                show Steps p.tables e below (s₁.setTop (mkF m 56 #[.val (.int p0)] [(.int (6 : Int32)), (.int p0)])) _
                exact k)
              by_cases hc56 : p0 = (6 : Int32)
              · -- p0 = (6 : Int32)
                have pre59 : ∀ t, Steps p.tables e below (s₁.setTop (mkF m 59 #[.val (.int p0)] [])) t → Steps p.tables e below (s₁.setTop (entryFrame m #[(.int p0)] 1)) t := fun t k => pre56 t (by
                  show Steps p.tables e below (s₁.setTop (mkF m 56 #[.val (.int p0)] [(.int (6 : Int32)), (.int p0)])) t
                  refine XS.icmpNo X0.here hx rfl (hb hby dK_56) rfl (teq hc56).2 ?_
                  exact k)
                obtain ⟨T59, X59, e59, st59⟩ := getS2 X0 hx hZ hown (host := "") (Or.inl (hw _ (List.mem_of_getElem? (i := 30) rfl))) Via.refl e0 S6 (g := (mkF m 59 #[.val (.int p0)] [])) rfl (hb hby dK_59)
                have pre62 : ∀ t, Steps p.tables e below (T59.setTop (mkF m 62 #[.val (.int p0)] [(.ref (w 6))])) t → Steps p.tables e below (s₁.setTop (entryFrame m #[(.int p0)] 1)) t := fun t k => pre59 t (st59 _ k)
                obtain ⟨fs, hr, hrun, hended, hW, hsame⟩ := X59.leave (v := some (.ref (w 6))) (fun h => by rw [Bd.returns] at h; cases h)
                refine ⟨_, _, pre62 _ ?_, hrun, hended, _, _, rfl, ?_, ⟨_, rfl⟩, hW, hsame.mono (by decide) (by decide)⟩
                · show Steps p.tables e below (T59.setTop (mkF m 62 #[.val (.int p0)] [(.ref (w 6))])) _
                  exact retOut X59 hx Bd.returns rfl (Or.inr (Or.inr (Or.inr (Or.inr ⟨rfl, rfl, rfl⟩)))) (hb hby dK_62) hr
                · show QK Z p0 w h0 n0 _ T59.heap _
                  rw [e59]
                  have hres : (w 6) = (own_kind w p0) := by
                    rw [own_kind, if_neg hc1, if_neg hc10, if_neg hc19, if_neg hc28, if_neg hc37, if_neg hc46, if_pos hc56]
                  exact ⟨congrArg (fun q => some (Value.ref q)) hres, N0, rfl⟩
              · -- not p0 = (6 : Int32)
                have pre63 : ∀ t, Steps p.tables e below (s₁.setTop (mkF m 63 #[.val (.int p0)] [])) t → Steps p.tables e below (s₁.setTop (entryFrame m #[(.int p0)] 1)) t := fun t k => pre56 t (by
                  show Steps p.tables e below (s₁.setTop (mkF m 56 #[.val (.int p0)] [(.int (6 : Int32)), (.int p0)])) t
                  refine XS.icmpYes X0.here hx rfl (pc0 := 56) (pc' := 63) rfl (hb hby dK_56) rfl (feq hc56).2 (by decide) (by decide) ?_
                  exact k)
                have pre66 : ∀ t, Steps p.tables e below (s₁.setTop (mkF m 66 #[.val (.int p0)] [(.int (7 : Int32)), (.int p0)])) t → Steps p.tables e below (s₁.setTop (entryFrame m #[(.int p0)] 1)) t := fun t k => pre63 t (by
                  show Steps p.tables e below (s₁.setTop (mkF m 63 #[.val (.int p0)] [])) t
                  refine XS.iloadN X0.here hx rfl (hb hby dK_63) rfl ?_
                  show Steps p.tables e below (s₁.setTop (mkF m 64 #[.val (.int p0)] [(.int p0)])) _
                  refine XS.bipush X0.here hx rfl (hb hby dK_64) ?_
                  show Steps p.tables e below (s₁.setTop (mkF m 66 #[.val (.int p0)] [(.int (7 : Int32)), (.int p0)])) _
                  exact k)
                by_cases hc66 : p0 = (7 : Int32)
                · -- p0 = (7 : Int32)
                  have pre69 : ∀ t, Steps p.tables e below (s₁.setTop (mkF m 69 #[.val (.int p0)] [])) t → Steps p.tables e below (s₁.setTop (entryFrame m #[(.int p0)] 1)) t := fun t k => pre66 t (by
                    show Steps p.tables e below (s₁.setTop (mkF m 66 #[.val (.int p0)] [(.int (7 : Int32)), (.int p0)])) t
                    refine XS.icmpNo X0.here hx rfl (hb hby dK_66) rfl (teq hc66).2 ?_
                    exact k)
                  obtain ⟨T69, X69, e69, st69⟩ := getS2 X0 hx hZ hown (host := "") (Or.inl (hw _ (List.mem_of_getElem? (i := 25) rfl))) Via.refl e0 S7 (g := (mkF m 69 #[.val (.int p0)] [])) rfl (hb hby dK_69)
                  have pre72 : ∀ t, Steps p.tables e below (T69.setTop (mkF m 72 #[.val (.int p0)] [(.ref (w 7))])) t → Steps p.tables e below (s₁.setTop (entryFrame m #[(.int p0)] 1)) t := fun t k => pre69 t (st69 _ k)
                  obtain ⟨fs, hr, hrun, hended, hW, hsame⟩ := X69.leave (v := some (.ref (w 7))) (fun h => by rw [Bd.returns] at h; cases h)
                  refine ⟨_, _, pre72 _ ?_, hrun, hended, _, _, rfl, ?_, ⟨_, rfl⟩, hW, hsame.mono (by decide) (by decide)⟩
                  · show Steps p.tables e below (T69.setTop (mkF m 72 #[.val (.int p0)] [(.ref (w 7))])) _
                    exact retOut X69 hx Bd.returns rfl (Or.inr (Or.inr (Or.inr (Or.inr ⟨rfl, rfl, rfl⟩)))) (hb hby dK_72) hr
                  · show QK Z p0 w h0 n0 _ T69.heap _
                    rw [e69]
                    have hres : (w 7) = (own_kind w p0) := by
                      rw [own_kind, if_neg hc1, if_neg hc10, if_neg hc19, if_neg hc28, if_neg hc37, if_neg hc46, if_neg hc56, if_pos hc66]
                    exact ⟨congrArg (fun q => some (Value.ref q)) hres, N0, rfl⟩
                · -- not p0 = (7 : Int32)
                  have pre73 : ∀ t, Steps p.tables e below (s₁.setTop (mkF m 73 #[.val (.int p0)] [])) t → Steps p.tables e below (s₁.setTop (entryFrame m #[(.int p0)] 1)) t := fun t k => pre66 t (by
                    show Steps p.tables e below (s₁.setTop (mkF m 66 #[.val (.int p0)] [(.int (7 : Int32)), (.int p0)])) t
                    refine XS.icmpYes X0.here hx rfl (pc0 := 66) (pc' := 73) rfl (hb hby dK_66) rfl (feq hc66).2 (by decide) (by decide) ?_
                    exact k)
                  obtain ⟨T73, X73, e73, st73⟩ := getS2 X0 hx hZ hown (host := "") (Or.inl (hw _ (List.mem_of_getElem? (i := 28) rfl))) Via.refl e0 S8 (g := (mkF m 73 #[.val (.int p0)] [])) rfl (hb hby dK_73)
                  have pre76 : ∀ t, Steps p.tables e below (T73.setTop (mkF m 76 #[.val (.int p0)] [(.ref (w 8))])) t → Steps p.tables e below (s₁.setTop (entryFrame m #[(.int p0)] 1)) t := fun t k => pre73 t (st73 _ k)
                  obtain ⟨fs, hr, hrun, hended, hW, hsame⟩ := X73.leave (v := some (.ref (w 8))) (fun h => by rw [Bd.returns] at h; cases h)
                  refine ⟨_, _, pre76 _ ?_, hrun, hended, _, _, rfl, ?_, ⟨_, rfl⟩, hW, hsame.mono (by decide) (by decide)⟩
                  · show Steps p.tables e below (T73.setTop (mkF m 76 #[.val (.int p0)] [(.ref (w 8))])) _
                    exact retOut X73 hx Bd.returns rfl (Or.inr (Or.inr (Or.inr (Or.inr ⟨rfl, rfl, rfl⟩)))) (hb hby dK_76) hr
                  · show QK Z p0 w h0 n0 _ T73.heap _
                    rw [e73]
                    have hres : (w 8) = (own_kind w p0) := by
                      rw [own_kind, if_neg hc1, if_neg hc10, if_neg hc19, if_neg hc28, if_neg hc37, if_neg hc46, if_neg hc56, if_neg hc66]
                    exact ⟨congrArg (fun q => some (Value.ref q)) hres, N0, rfl⟩
theorem dM_0 : decode prog_64_method_5_code 0 = .ok (.aload_n 0, 1) := by decide +kernel
theorem dM_1 : decode prog_64_method_5_code 1 = .ok (.getstatic 19, 3) := by decide +kernel
theorem dM_4 : decode prog_64_method_5_code 4 = .ok (.if_acmp .eq 17, 3) := by decide +kernel
theorem dM_7 : decode prog_64_method_5_code 7 = .ok (.aload_n 0, 1) := by decide +kernel
theorem dM_8 : decode prog_64_method_5_code 8 = .ok (.getstatic 22, 3) := by decide +kernel
theorem dM_11 : decode prog_64_method_5_code 11 = .ok (.if_acmp .eq 10, 3) := by decide +kernel
theorem dM_14 : decode prog_64_method_5_code 14 = .ok (.aload_n 0, 1) := by decide +kernel
theorem dM_15 : decode prog_64_method_5_code 15 = .ok (.getstatic 25, 3) := by decide +kernel
theorem dM_18 : decode prog_64_method_5_code 18 = .ok (.if_acmp .ne 7, 3) := by decide +kernel
theorem dM_21 : decode prog_64_method_5_code 21 = .ok (.iconst 1, 1) := by decide +kernel
theorem dM_22 : decode prog_64_method_5_code 22 = .ok (.goto 4, 3) := by decide +kernel
theorem dM_25 : decode prog_64_method_5_code 25 = .ok (.iconst 0, 1) := by decide +kernel
theorem dM_26 : decode prog_64_method_5_code 26 = .ok (.ireturn, 1) := by decide +kernel
theorem pnM : plainName "com/example/hatua/hatua/Formula$Kind" = true := by first | (simp [plainName, overriddenIn]; done) | decide +kernel
theorem efM (m : MethodId) (r0 : Addr) : entryFrame m #[(.ref r0)] 1 = mkF m 0 #[.val (.ref r0)] [] := by first | (simp [entryFrame, mkF, argsToLocals, Value.category]; done) | rfl
abbrev own_roomM : Room := { frames := 0, cells := 0, slots := 0, locals := 0 }
def QM (Z : State) (r0 : Addr) (w : Nat → Addr) (h0 : Heap) (n0 : Nat) (v : Option Value) (h : Heap) (L : List Loc) : Prop := v = some (.int (own_modal w r0)) ∧ Fr n0 L ∧ h = h0
set_option maxRecDepth 65536 in
set_option maxHeartbeats 40000000 in
theorem rmM (l : Launch) (Z : State) (a0 : Array Value) (hw : ∀ d ∈ tables_1, d.before a0 Z = true) (ws : List Jvm.Cond) (r0 : Addr) (w : Nat → Addr) (h0 : Heap) (n0 : Nat) (Z0 : n0 ≤ h0.size) (S5 : Sta Z h0 "com/example/hatua/hatua/Formula$Kind" "BELIEVES" "Lcom/example/hatua/hatua/Formula$Kind;" (.ref (w 5))) (S6 : Sta Z h0 "com/example/hatua/hatua/Formula$Kind" "KNOWS" "Lcom/example/hatua/hatua/Formula$Kind;" (.ref (w 6))) (S7 : Sta Z h0 "com/example/hatua/hatua/Formula$Kind" "ALL_BELIEVE" "Lcom/example/hatua/hatua/Formula$Kind;" (.ref (w 7))) :
    MetFree l (⟨"com/example/hatua/hatua/Formula$Kind", "isModal", "()Z"⟩ : MethodName) (head1 (Jvm.Cond.code (⟨"com/example/hatua/hatua/Formula$Kind", "isModal", "()Z"⟩ : MethodName) prog_64_method_5_code 1 (some .boolean) :: ws) own_roomM) (fun a U => a = #[(.ref r0)] ∧ Z.Warmed39 U.vm ∧ U.heap = h0) (fun _ _ _ _ _ => True) (fun _ U o U' => ∃ v L, o = .returned v ∧ QM Z r0 w h0 n0 v U'.heap L ∧ FrameEnd U o U' L own_roomM.cells own_roomM.slots) := by
  refine MetFree.of_bodySF (plainFor_of_name pnM) hisR ?_
  intro p e s m args below meth c s₁ Bd hml0 hP hK
  obtain ⟨rfl, hZ, hh⟩ := hP
  have hx := Bd.exec
  have hby := Bd.bytes
  have hml : c.maxLocals = 1 := hml0
  have hown : s.vm.findClass "com/example/hatua/hatua/Formula$Kind" = some m.cls := findClass_of_methodNamed Bd.named
  have hnm := (name_of_methodNamed Bd.named Bd.method).1
  have X0 : Stand p l e own_roomM s m #[(.ref r0)] below meth c s₁ [] 0 0 := Stand.of_body Bd
  have e0 : s₁.heap = h0 := by rw [← hh, Bd.state]; rfl
  have N0 := Fr.nil n0
  have pre0 : ∀ t, Steps p.tables e below (s₁.setTop (mkF m 0 #[.val (.ref r0)] [])) t → Steps p.tables e below (s₁.setTop (entryFrame m #[(.ref r0)] 1)) t := fun t k => castTop (efM m r0) k
  have pre1 : ∀ t, Steps p.tables e below (s₁.setTop (mkF m 1 #[.val (.ref r0)] [(.ref r0)])) t → Steps p.tables e below (s₁.setTop (entryFrame m #[(.ref r0)] 1)) t := fun t k => pre0 t (by
    show Steps p.tables e below (s₁.setTop (mkF m 0 #[.val (.ref r0)] [])) t
    refine XS.aloadN X0.here hx rfl (hb hby dM_0) rfl rfl ?_
    show Steps p.tables e below (s₁.setTop (mkF m 1 #[.val (.ref r0)] [(.ref r0)])) _
    exact k)
  obtain ⟨T1, X1, e1, st1⟩ := getS2 X0 hx hZ hown (host := "") (Or.inl (hw _ (List.mem_of_getElem? (i := 13) rfl))) Via.refl e0 S5 (g := (mkF m 1 #[.val (.ref r0)] [(.ref r0)])) rfl (hb hby dM_1)
  have pre4 : ∀ t, Steps p.tables e below (T1.setTop (mkF m 4 #[.val (.ref r0)] [(.ref (w 5)), (.ref r0)])) t → Steps p.tables e below (s₁.setTop (entryFrame m #[(.ref r0)] 1)) t := fun t k => pre1 t (st1 _ k)
  obtain ⟨v26_s0, hv26_s0⟩ : ∃ z : Int32, z = if ((r0 = (w 5)) ∨ ((r0 = (w 6)) ∨ (r0 = (w 7)))) then (1 : Int32) else 0 := ⟨_, rfl⟩
  obtain ⟨T26j, L26j, X26j, e26j, N26j, st26j⟩ : ∃ (T' : State) (L' : List Loc), Stand p l e own_roomM s m #[(.ref r0)] below meth c T' L' 0 0 ∧ T'.heap = h0 ∧ Fr n0 L' ∧ ∀ t, Steps p.tables e below (T'.setTop (mkF m 26 #[.val (.ref r0)] [(.int v26_s0)])) t → Steps p.tables e below (T1.setTop (mkF m 4 #[.val (.ref r0)] [(.ref (w 5)), (.ref r0)])) t := by
    have pre4 : ∀ t, Steps p.tables e below (T1.setTop (mkF m 4 #[.val (.ref r0)] [(.ref (w 5)), (.ref r0)])) t → Steps p.tables e below (T1.setTop (mkF m 4 #[.val (.ref r0)] [(.ref (w 5)), (.ref r0)])) t := fun t k => k
    by_cases hc4 : r0 = (w 5)
    · -- r0 = (w 5)
      have pre21 : ∀ t, Steps p.tables e below (T1.setTop (mkF m 21 #[.val (.ref r0)] [])) t → Steps p.tables e below (T1.setTop (mkF m 4 #[.val (.ref r0)] [(.ref (w 5)), (.ref r0)])) t := fun t k => pre4 t (by
        show Steps p.tables e below (T1.setTop (mkF m 4 #[.val (.ref r0)] [(.ref (w 5)), (.ref r0)])) t
        refine Jvm.RoadKit.acmp (g := (mkF m 4 #[.val (.ref r0)] [(.ref (w 5)), (.ref r0)])) X1 hx rfl rfl rfl (pc0 := 4) (pc' := 21) (same := true) rfl (hb hby dM_4) rfl (decide_eq_true (congrArg Value.ref hc4)) (by decide) (by decide) ?_
        exact k)
      have pre26 : ∀ t, Steps p.tables e below (T1.setTop (mkF m 26 #[.val (.ref r0)] [(.int (1 : Int32))])) t → Steps p.tables e below (T1.setTop (mkF m 4 #[.val (.ref r0)] [(.ref (w 5)), (.ref r0)])) t := fun t k => pre21 t (by
        show Steps p.tables e below (T1.setTop (mkF m 21 #[.val (.ref r0)] [])) t
        refine XS.iconst X1.here hx rfl (hb hby dM_21) ?_
        show Steps p.tables e below (T1.setTop (mkF m 22 #[.val (.ref r0)] [(.int (1 : Int32))])) _
        refine XS.goto X1.here hx rfl (pc0 := 22) (pc' := 26) rfl (hb hby dM_22) (by decide) (by decide) ?_
        show Steps p.tables e below (T1.setTop (mkF m 26 #[.val (.ref r0)] [(.int (1 : Int32))])) _
        exact k)
      have ehv26_s0 := hv26_s0.trans (if_pos (Or.inl hc4))
      exact ⟨T1, _, X1, e1, N0, fun t k => pre26 t (by subst ehv26_s0; exact k)⟩
    · -- not r0 = (w 5)
      have pre7 : ∀ t, Steps p.tables e below (T1.setTop (mkF m 7 #[.val (.ref r0)] [])) t → Steps p.tables e below (T1.setTop (mkF m 4 #[.val (.ref r0)] [(.ref (w 5)), (.ref r0)])) t := fun t k => pre4 t (by
        show Steps p.tables e below (T1.setTop (mkF m 4 #[.val (.ref r0)] [(.ref (w 5)), (.ref r0)])) t
        refine Jvm.RoadKit.acmp (g := (mkF m 4 #[.val (.ref r0)] [(.ref (w 5)), (.ref r0)])) X1 hx rfl rfl rfl (pc0 := 4) (pc' := 7) (same := false) rfl (hb hby dM_4) rfl (decide_eq_false fun q => hc4 (Value.ref.inj q)) (by decide) (by decide) ?_
        exact k)
      have pre8 : ∀ t, Steps p.tables e below (T1.setTop (mkF m 8 #[.val (.ref r0)] [(.ref r0)])) t → Steps p.tables e below (T1.setTop (mkF m 4 #[.val (.ref r0)] [(.ref (w 5)), (.ref r0)])) t := fun t k => pre7 t (by
        show Steps p.tables e below (T1.setTop (mkF m 7 #[.val (.ref r0)] [])) t
        refine XS.aloadN X1.here hx rfl (hb hby dM_7) rfl rfl ?_
        show Steps p.tables e below (T1.setTop (mkF m 8 #[.val (.ref r0)] [(.ref r0)])) _
        exact k)
      obtain ⟨T8, X8, e8, st8⟩ := getS2 X1 hx hZ hown (host := "") (Or.inl (hw _ (List.mem_of_getElem? (i := 15) rfl))) Via.refl e1 S6 (g := (mkF m 8 #[.val (.ref r0)] [(.ref r0)])) rfl (hb hby dM_8)
      have pre11 : ∀ t, Steps p.tables e below (T8.setTop (mkF m 11 #[.val (.ref r0)] [(.ref (w 6)), (.ref r0)])) t → Steps p.tables e below (T1.setTop (mkF m 4 #[.val (.ref r0)] [(.ref (w 5)), (.ref r0)])) t := fun t k => pre8 t (st8 _ k)
      by_cases hc11 : r0 = (w 6)
      · -- r0 = (w 6)
        have pre21 : ∀ t, Steps p.tables e below (T8.setTop (mkF m 21 #[.val (.ref r0)] [])) t → Steps p.tables e below (T1.setTop (mkF m 4 #[.val (.ref r0)] [(.ref (w 5)), (.ref r0)])) t := fun t k => pre11 t (by
          show Steps p.tables e below (T8.setTop (mkF m 11 #[.val (.ref r0)] [(.ref (w 6)), (.ref r0)])) t
          refine Jvm.RoadKit.acmp (g := (mkF m 11 #[.val (.ref r0)] [(.ref (w 6)), (.ref r0)])) X8 hx rfl rfl rfl (pc0 := 11) (pc' := 21) (same := true) rfl (hb hby dM_11) rfl (decide_eq_true (congrArg Value.ref hc11)) (by decide) (by decide) ?_
          exact k)
        have pre26 : ∀ t, Steps p.tables e below (T8.setTop (mkF m 26 #[.val (.ref r0)] [(.int (1 : Int32))])) t → Steps p.tables e below (T1.setTop (mkF m 4 #[.val (.ref r0)] [(.ref (w 5)), (.ref r0)])) t := fun t k => pre21 t (by
          show Steps p.tables e below (T8.setTop (mkF m 21 #[.val (.ref r0)] [])) t
          refine XS.iconst X8.here hx rfl (hb hby dM_21) ?_
          show Steps p.tables e below (T8.setTop (mkF m 22 #[.val (.ref r0)] [(.int (1 : Int32))])) _
          refine XS.goto X8.here hx rfl (pc0 := 22) (pc' := 26) rfl (hb hby dM_22) (by decide) (by decide) ?_
          show Steps p.tables e below (T8.setTop (mkF m 26 #[.val (.ref r0)] [(.int (1 : Int32))])) _
          exact k)
        have ehv26_s0 := hv26_s0.trans (if_pos (Or.inr (Or.inl hc11)))
        exact ⟨T8, _, X8, e8, N0, fun t k => pre26 t (by subst ehv26_s0; exact k)⟩
      · -- not r0 = (w 6)
        have pre14 : ∀ t, Steps p.tables e below (T8.setTop (mkF m 14 #[.val (.ref r0)] [])) t → Steps p.tables e below (T1.setTop (mkF m 4 #[.val (.ref r0)] [(.ref (w 5)), (.ref r0)])) t := fun t k => pre11 t (by
          show Steps p.tables e below (T8.setTop (mkF m 11 #[.val (.ref r0)] [(.ref (w 6)), (.ref r0)])) t
          refine Jvm.RoadKit.acmp (g := (mkF m 11 #[.val (.ref r0)] [(.ref (w 6)), (.ref r0)])) X8 hx rfl rfl rfl (pc0 := 11) (pc' := 14) (same := false) rfl (hb hby dM_11) rfl (decide_eq_false fun q => hc11 (Value.ref.inj q)) (by decide) (by decide) ?_
          exact k)
        have pre15 : ∀ t, Steps p.tables e below (T8.setTop (mkF m 15 #[.val (.ref r0)] [(.ref r0)])) t → Steps p.tables e below (T1.setTop (mkF m 4 #[.val (.ref r0)] [(.ref (w 5)), (.ref r0)])) t := fun t k => pre14 t (by
          show Steps p.tables e below (T8.setTop (mkF m 14 #[.val (.ref r0)] [])) t
          refine XS.aloadN X8.here hx rfl (hb hby dM_14) rfl rfl ?_
          show Steps p.tables e below (T8.setTop (mkF m 15 #[.val (.ref r0)] [(.ref r0)])) _
          exact k)
        obtain ⟨T15, X15, e15, st15⟩ := getS2 X8 hx hZ hown (host := "") (Or.inl (hw _ (List.mem_of_getElem? (i := 17) rfl))) Via.refl e8 S7 (g := (mkF m 15 #[.val (.ref r0)] [(.ref r0)])) rfl (hb hby dM_15)
        have pre18 : ∀ t, Steps p.tables e below (T15.setTop (mkF m 18 #[.val (.ref r0)] [(.ref (w 7)), (.ref r0)])) t → Steps p.tables e below (T1.setTop (mkF m 4 #[.val (.ref r0)] [(.ref (w 5)), (.ref r0)])) t := fun t k => pre15 t (st15 _ k)
        by_cases hc18 : r0 = (w 7)
        · -- r0 = (w 7)
          have pre21 : ∀ t, Steps p.tables e below (T15.setTop (mkF m 21 #[.val (.ref r0)] [])) t → Steps p.tables e below (T1.setTop (mkF m 4 #[.val (.ref r0)] [(.ref (w 5)), (.ref r0)])) t := fun t k => pre18 t (by
            show Steps p.tables e below (T15.setTop (mkF m 18 #[.val (.ref r0)] [(.ref (w 7)), (.ref r0)])) t
            refine Jvm.RoadKit.acmp (g := (mkF m 18 #[.val (.ref r0)] [(.ref (w 7)), (.ref r0)])) X15 hx rfl rfl rfl (pc0 := 18) (pc' := 21) (same := true) rfl (hb hby dM_18) rfl (decide_eq_true (congrArg Value.ref hc18)) (by decide) (by decide) ?_
            exact k)
          have pre26 : ∀ t, Steps p.tables e below (T15.setTop (mkF m 26 #[.val (.ref r0)] [(.int (1 : Int32))])) t → Steps p.tables e below (T1.setTop (mkF m 4 #[.val (.ref r0)] [(.ref (w 5)), (.ref r0)])) t := fun t k => pre21 t (by
            show Steps p.tables e below (T15.setTop (mkF m 21 #[.val (.ref r0)] [])) t
            refine XS.iconst X15.here hx rfl (hb hby dM_21) ?_
            show Steps p.tables e below (T15.setTop (mkF m 22 #[.val (.ref r0)] [(.int (1 : Int32))])) _
            refine XS.goto X15.here hx rfl (pc0 := 22) (pc' := 26) rfl (hb hby dM_22) (by decide) (by decide) ?_
            show Steps p.tables e below (T15.setTop (mkF m 26 #[.val (.ref r0)] [(.int (1 : Int32))])) _
            exact k)
          have ehv26_s0 := hv26_s0.trans (if_pos (Or.inr (Or.inr hc18)))
          exact ⟨T15, _, X15, e15, N0, fun t k => pre26 t (by subst ehv26_s0; exact k)⟩
        · -- not r0 = (w 7)
          have pre25 : ∀ t, Steps p.tables e below (T15.setTop (mkF m 25 #[.val (.ref r0)] [])) t → Steps p.tables e below (T1.setTop (mkF m 4 #[.val (.ref r0)] [(.ref (w 5)), (.ref r0)])) t := fun t k => pre18 t (by
            show Steps p.tables e below (T15.setTop (mkF m 18 #[.val (.ref r0)] [(.ref (w 7)), (.ref r0)])) t
            refine Jvm.RoadKit.acmp (g := (mkF m 18 #[.val (.ref r0)] [(.ref (w 7)), (.ref r0)])) X15 hx rfl rfl rfl (pc0 := 18) (pc' := 25) (same := false) rfl (hb hby dM_18) rfl (decide_eq_false fun q => hc18 (Value.ref.inj q)) (by decide) (by decide) ?_
            exact k)
          have pre26 : ∀ t, Steps p.tables e below (T15.setTop (mkF m 26 #[.val (.ref r0)] [(.int (0 : Int32))])) t → Steps p.tables e below (T1.setTop (mkF m 4 #[.val (.ref r0)] [(.ref (w 5)), (.ref r0)])) t := fun t k => pre25 t (by
            show Steps p.tables e below (T15.setTop (mkF m 25 #[.val (.ref r0)] [])) t
            refine XS.iconst X15.here hx rfl (hb hby dM_25) ?_
            show Steps p.tables e below (T15.setTop (mkF m 26 #[.val (.ref r0)] [(.int (0 : Int32))])) _
            exact k)
          have ehv26_s0 := hv26_s0.trans (if_neg (fun r => r.elim hc4 (fun r => r.elim hc11 hc18)))
          exact ⟨T15, _, X15, e15, N0, fun t k => pre26 t (by subst ehv26_s0; exact k)⟩
  have pre26 : ∀ t, Steps p.tables e below (T26j.setTop (mkF m 26 #[.val (.ref r0)] [(.int v26_s0)])) t → Steps p.tables e below (s₁.setTop (entryFrame m #[(.ref r0)] 1)) t := fun t k => pre4 t (st26j t k)
  obtain ⟨fs, hr, hrun, hended, hW, hsame⟩ := X26j.leave (v := some (.int (nar .boolean v26_s0))) (fun h => by rw [Bd.returns] at h; cases h)
  refine ⟨_, _, pre26 _ ?_, hrun, hended, _, _, rfl, ?_, ⟨_, rfl⟩, hW, hsame.mono (by decide) (by decide)⟩
  · show Steps p.tables e below (T26j.setTop (mkF m 26 #[.val (.ref r0)] [(.int v26_s0)])) _
    exact retN X26j hx (t := .boolean) Bd.returns (by simp) (hb hby dM_26) hr
  · show QM Z r0 w h0 n0 _ T26j.heap _
    rw [e26j]
    have hres : (nar .boolean v26_s0) = (own_modal w r0) := by
      rw [hv26_s0, own_narB]; rfl
    exact ⟨congrArg (fun q => some (Value.int q)) hres, N26j, rfl⟩
theorem own_nine (p k : Int32) (h : k = (p &&& (2147483647 : Int32)) % (9 : Int32)) : k = 0 ∨ k = 1 ∨ k = 2 ∨ k = 3 ∨ k = 4 ∨ k = 5 ∨ k = 6 ∨ k = 7 ∨ k = 8 := by
  have h1 := c_mask p (2147483647 : Int32) 31 (by decide) (by decide)
  have h2 := c_irem (p &&& (2147483647 : Int32)) (9 : Int32) 9 (by decide)
  have h3 : (0 : Int) ≤ (p &&& (2147483647 : Int32)).toInt := by rw [h1]; omega
  have h4 := h2.1 h3
  rw [← h] at h4
  have h5 : k.toInt = 0 ∨ k.toInt = 1 ∨ k.toInt = 2 ∨ k.toInt = 3 ∨ k.toInt = 4 ∨ k.toInt = 5 ∨ k.toInt = 6 ∨ k.toInt = 7 ∨ k.toInt = 8 := by omega
  have q : ∀ z : Int32, k.toInt = z.toInt → k = z := fun z e => Int32.toInt_inj.mp e
  rcases h5 with e | e | e | e | e | e | e | e | e
  · exact Or.inl (q 0 e)
  · exact Or.inr (Or.inl (q 1 e))
  · exact Or.inr (Or.inr (Or.inl (q 2 e)))
  · exact Or.inr (Or.inr (Or.inr (Or.inl (q 3 e))))
  · exact Or.inr (Or.inr (Or.inr (Or.inr (Or.inl (q 4 e)))))
  · exact Or.inr (Or.inr (Or.inr (Or.inr (Or.inr (Or.inl (q 5 e))))))
  · exact Or.inr (Or.inr (Or.inr (Or.inr (Or.inr (Or.inr (Or.inl (q 6 e)))))))
  · exact Or.inr (Or.inr (Or.inr (Or.inr (Or.inr (Or.inr (Or.inr (Or.inl (q 7 e))))))))
  · exact Or.inr (Or.inr (Or.inr (Or.inr (Or.inr (Or.inr (Or.inr (Or.inr (q 8 e))))))))
theorem own_exa {Z : State} {h0 : Heap} (w : Nat → Addr) (hE : ∀ i, i < 9 → Exa Z h0 (w i) "com/example/hatua/hatua/Formula$Kind") (p k : Int32) (h : k = (p &&& (2147483647 : Int32)) % (9 : Int32)) (x : Addr) (hx : x = own_kind w k) : Exa Z h0 x "com/example/hatua/hatua/Formula$Kind" := by
  rw [hx]
  rcases own_nine p k h with e | e | e | e | e | e | e | e | e <;> rw [e]
  · exact hE 0 (by decide)
  · exact hE 1 (by decide)
  · exact hE 2 (by decide)
  · exact hE 3 (by decide)
  · exact hE 4 (by decide)
  · exact hE 5 (by decide)
  · exact hE 6 (by decide)
  · exact hE 7 (by decide)
  · exact hE 8 (by decide)
theorem own_plain (w : Nat → Addr) (o : Addr → Int32) (ho : ∀ i, i < 9 → o (w i) = Int32.ofNat i) (p k v : Int32) (h : k = (p &&& (2147483647 : Int32)) % (9 : Int32)) (x : Addr) (hx : x = own_kind w k)
    (hv : v = if ((¬ (k < (5 : Int32))) ∧ (¬ ((7 : Int32) < k))) then (1 : Int32) else 0) : own_modal w x = v := by
  have ne : ∀ i j, i < 9 → j < 9 → Int32.ofNat i ≠ Int32.ofNat j → ¬ (w i = w j) := fun i j hi hj hd e => hd (by rw [← ho i hi, ← ho j hj, e])
  have no : ∀ i, i < 9 → Int32.ofNat i ≠ Int32.ofNat 5 → Int32.ofNat i ≠ Int32.ofNat 6 → Int32.ofNat i ≠ Int32.ofNat 7 → own_modal w (w i) = 0 := fun i hi h5 h6 h7 => by
    rw [own_modal]
    exact if_neg (fun q => q.elim (ne i 5 hi (by decide) h5) (fun q => q.elim (ne i 6 hi (by decide) h6) (ne i 7 hi (by decide) h7)))
  rw [hx, hv]
  rcases own_nine p k h with e | e | e | e | e | e | e | e | e <;> rw [e]
  · exact no 0 (by decide) (by decide) (by decide) (by decide)
  · exact no 1 (by decide) (by decide) (by decide) (by decide)
  · exact no 2 (by decide) (by decide) (by decide) (by decide)
  · exact no 3 (by decide) (by decide) (by decide) (by decide)
  · exact no 4 (by decide) (by decide) (by decide) (by decide)
  · exact if_pos (Or.inl rfl)
  · exact if_pos (Or.inr (Or.inl rfl))
  · exact if_pos (Or.inr (Or.inr rfl))
  · exact no 8 (by decide) (by decide) (by decide) (by decide)
theorem pn0 : plainName "com/example/hatua/hatua/KindIsModalPinLaw" = true := by first | (simp [plainName, overriddenIn]; done) | decide +kernel
theorem pd0_0 : parseMethodDescriptor "(I)Lcom/example/hatua/hatua/Formula$Kind;" = some ⟨[.int], some (.object "com/example/hatua/hatua/Formula$Kind")⟩ := by decide +kernel
theorem pd0_1 : parseMethodDescriptor "()Z" = some ⟨[], some .boolean⟩ := by decide +kernel
theorem ef0 (m : MethodId) (p0 : Int32) : entryFrame m #[(.int p0)] maxLocals = mkF m 0 #[.val (.int p0), .unset, .unset, .unset] [] := by first | (simp [entryFrame, mkF, argsToLocals, Value.category, maxLocals]; done) | rfl
def Q0 (Z : State) (p0 : Int32) (w : Nat → Addr) (od : Addr → Int32) (h0 : Heap) (n0 : Nat) (v : Option Value) (h : Heap) (L : List Loc) : Prop := v = some (.int (1 : Int32)) ∧ Fr n0 L
set_option maxRecDepth 65536 in
set_option maxHeartbeats 40000000 in
theorem rm0 (l : Launch) (Z : State) (a0 : Array Value) (hw : ∀ d ∈ tables_1, d.before a0 Z = true) (ws : List Jvm.Cond) (p0 : Int32) (w : Nat → Addr) (od : Addr → Int32) (h0 : Heap) (n0 : Nat) (Z0 : n0 ≤ h0.size) (S0 : Sta Z h0 "com/example/hatua/hatua/Formula$Kind" "ATOM" "Lcom/example/hatua/hatua/Formula$Kind;" (.ref (w 0))) (S1 : Sta Z h0 "com/example/hatua/hatua/Formula$Kind" "NOT" "Lcom/example/hatua/hatua/Formula$Kind;" (.ref (w 1))) (S2 : Sta Z h0 "com/example/hatua/hatua/Formula$Kind" "ALL" "Lcom/example/hatua/hatua/Formula$Kind;" (.ref (w 2))) (S3 : Sta Z h0 "com/example/hatua/hatua/Formula$Kind" "ANY" "Lcom/example/hatua/hatua/Formula$Kind;" (.ref (w 3))) (S4 : Sta Z h0 "com/example/hatua/hatua/Formula$Kind" "EXACTLY_ONE" "Lcom/example/hatua/hatua/Formula$Kind;" (.ref (w 4))) (S5 : Sta Z h0 "com/example/hatua/hatua/Formula$Kind" "BELIEVES" "Lcom/example/hatua/hatua/Formula$Kind;" (.ref (w 5))) (S6 : Sta Z h0 "com/example/hatua/hatua/Formula$Kind" "KNOWS" "Lcom/example/hatua/hatua/Formula$Kind;" (.ref (w 6))) (S7 : Sta Z h0 "com/example/hatua/hatua/Formula$Kind" "ALL_BELIEVE" "Lcom/example/hatua/hatua/Formula$Kind;" (.ref (w 7))) (S8 : Sta Z h0 "com/example/hatua/hatua/Formula$Kind" "TIMESTEP_AT_LEAST" "Lcom/example/hatua/hatua/Formula$Kind;" (.ref (w 8))) (hE : ∀ i, i < 9 → Exa Z h0 (w i) "com/example/hatua/hatua/Formula$Kind") (ho : ∀ i, i < 9 → od (w i) = Int32.ofNat i) :
    MetFree l x (head1 (Jvm.Cond.code x code maxLocals ret :: ws) room_1) (fun a U => a = #[(.int p0)] ∧ Z.Warmed39 U.vm ∧ U.heap = h0) (fun _ _ _ _ _ => True) (fun _ U o U' => ∃ v L, o = .returned v ∧ Q0 Z p0 w od h0 n0 v U'.heap L ∧ FrameEnd U o U' L room_1.cells room_1.slots) := by
  refine MetFree.of_bodySF (plainFor_of_name pn0) hisR ?_
  intro p e s m args below meth c s₁ Bd hml0 hP hK
  obtain ⟨rfl, hZ, hh⟩ := hP
  have hx := Bd.exec
  have hby := Bd.bytes
  have hml : c.maxLocals = 4 := hml0
  have hown : s.vm.findClass "com/example/hatua/hatua/KindIsModalPinLaw" = some m.cls := findClass_of_methodNamed Bd.named
  have hnm := (name_of_methodNamed Bd.named Bd.method).1
  have X0 : Stand p l e room_1 s m #[(.int p0)] below meth c s₁ [] 0 0 := Stand.of_body Bd
  have e0 : s₁.heap = h0 := by rw [← hh, Bd.state]; rfl
  have N0 := Fr.nil n0
  have pre0 : ∀ t, Steps p.tables e below (s₁.setTop (mkF m 0 #[.val (.int p0), .unset, .unset, .unset] [])) t → Steps p.tables e below (s₁.setTop (entryFrame m #[(.int p0)] maxLocals)) t := fun t k => castTop (ef0 m p0) k
  obtain ⟨x7, hx7⟩ : ∃ z : Int32, z = ((p0 &&& (2147483647 : Int32)) % (9 : Int32)) := ⟨_, rfl⟩
  have pre8 : ∀ t, Steps p.tables e below (s₁.setTop (mkF m 8 #[.val (.int p0), .val (.int x7), .unset, .unset] [])) t → Steps p.tables e below (s₁.setTop (entryFrame m #[(.int p0)] maxLocals)) t := fun t k => pre0 t (by
    show Steps p.tables e below (s₁.setTop (mkF m 0 #[.val (.int p0), .unset, .unset, .unset] [])) t
    refine XS.iloadN X0.here hx rfl (hb hby at_0) rfl ?_
    show Steps p.tables e below (s₁.setTop (mkF m 1 #[.val (.int p0), .unset, .unset, .unset] [(.int p0)])) _
    refine X0.ldcInt hx hown (mvT hZ (hw _ (List.mem_of_getElem? (i := 0) rfl))) (g := (mkF m 1 #[.val (.int p0), .unset, .unset, .unset] [(.int p0)])) rfl (hb hby at_1) _ ?_
    show Steps p.tables e below (s₁.setTop (mkF m 3 #[.val (.int p0), .unset, .unset, .unset] [(.int (2147483647 : Int32)), (.int p0)])) _
    refine XS.iand X0.here hx rfl (hb hby at_3) rfl ?_
    show Steps p.tables e below (s₁.setTop (mkF m 4 #[.val (.int p0), .unset, .unset, .unset] [(.int (p0 &&& (2147483647 : Int32)))])) _
    refine XS.bipush X0.here hx rfl (hb hby at_4) ?_
    show Steps p.tables e below (s₁.setTop (mkF m 6 #[.val (.int p0), .unset, .unset, .unset] [(.int (9 : Int32)), (.int (p0 &&& (2147483647 : Int32)))])) _
    refine iremM X0 hx rfl (hb hby at_6) rfl (by decide) ?_
    show Steps p.tables e below (s₁.setTop (mkF m 7 #[.val (.int p0), .unset, .unset, .unset] [(.int ((p0 &&& (2147483647 : Int32)) % (9 : Int32)))])) _
    refine XS.istoreN X0.here hx rfl (hb hby at_7) rfl (l' := #[.val (.int p0), .val (.int ((p0 &&& (2147483647 : Int32)) % (9 : Int32))), .unset, .unset]) rfl ?_
    show Steps p.tables e below (s₁.setTop (mkF m 8 #[.val (.int p0), .val (.int ((p0 &&& (2147483647 : Int32)) % (9 : Int32))), .unset, .unset] [])) _
    subst hx7
    exact k)
  have pre9 : ∀ t, Steps p.tables e below (s₁.setTop (mkF m 9 #[.val (.int p0), .val (.int x7), .unset, .unset] [(.int x7)])) t → Steps p.tables e below (s₁.setTop (entryFrame m #[(.int p0)] maxLocals)) t := fun t k => pre8 t (by
    show Steps p.tables e below (s₁.setTop (mkF m 8 #[.val (.int p0), .val (.int x7), .unset, .unset] [])) t
    refine XS.iloadN X0.here hx rfl (hb hby at_8) rfl ?_
    show Steps p.tables e below (s₁.setTop (mkF m 9 #[.val (.int p0), .val (.int x7), .unset, .unset] [(.int x7)])) _
    exact k)
  obtain ⟨_, _, ⟨T9, L9, k9, n9⟩, -, X9, ⟨Lc9, hQ9, l9, y9, z9⟩, st9⟩ := Jvm.LawKit.callS X0 hx (y := (⟨"com/example/hatua/hatua/KindIsModalPinLaw", "kindOf", "(I)Lcom/example/hatua/hatua/Formula$Kind;"⟩ : MethodName)) hown (mvT hZ (hw _ (List.mem_of_getElem? (i := 1) rfl))) (mvT hZ (hw _ (List.mem_of_getElem? (i := 2) rfl))) (mvT hZ (hw _ (List.mem_of_getElem? (i := 3) rfl))) (mvT hZ (hw _ (List.mem_of_getElem? (i := 4) rfl))) (by decide) (backOf (W := 0) (rmK l Z a0 hw [] x7 w h0 n0 Z0 S0 S1 S2 S3 S4 S5 S6 S7 S8) hZ (hw _ (List.mem_of_getElem? (i := 4) rfl)) (hw _ (List.mem_of_getElem? (i := 3) rfl)) (by decide) (by decide)) (g := (mkF m 9 #[.val (.int p0), .val (.int x7), .unset, .unset] [(.int x7)])) rfl (by rw [hml]; rfl) (argsL := [(.int x7)]) (rest := []) (lenOf pd0_0 rfl) rfl (by show 2 * 0 + _ ≤ _; exact Nat.le_of_eq rfl) (hb hby at_9) (fun _ _ => ⟨rfl, e0, (by decide : 0 + 0 ≤ _), (by decide : 0 + 0 ≤ _)⟩)
  dsimp only [Pt.U, Pt.locs, Pt.cells, Pt.slots] at X9 l9 y9 z9 st9 hQ9
  subst l9 y9 z9
  obtain ⟨rfl, N9q, e9⟩ := hQ9
  have N9 := Fr.app N0 N9q
  have pre12 : ∀ t, Steps p.tables e below (T9.setTop (mkF m 12 #[.val (.int p0), .val (.int x7), .unset, .unset] [(.ref (own_kind w x7))])) t → Steps p.tables e below (s₁.setTop (entryFrame m #[(.int p0)] maxLocals)) t := fun t k => pre9 t (st9 _ k)
  obtain ⟨x12, hx12⟩ : ∃ z : Addr, z = (own_kind w x7) := ⟨_, rfl⟩
  have pre13 : ∀ t, Steps p.tables e below (T9.setTop (mkF m 13 #[.val (.int p0), .val (.int x7), .val (.ref x12), .unset] [])) t → Steps p.tables e below (s₁.setTop (entryFrame m #[(.int p0)] maxLocals)) t := fun t k => pre12 t (by
    show Steps p.tables e below (T9.setTop (mkF m 12 #[.val (.int p0), .val (.int x7), .unset, .unset] [(.ref (own_kind w x7))])) t
    refine XS.astoreN X9.here hx rfl (hb hby at_12) rfl rfl (l' := #[.val (.int p0), .val (.int x7), .val (.ref (own_kind w x7)), .unset]) rfl ?_
    show Steps p.tables e below (T9.setTop (mkF m 13 #[.val (.int p0), .val (.int x7), .val (.ref (own_kind w x7)), .unset] [])) _
    subst hx12
    exact k)
  have Ex12 := own_exa w hE p0 x7 hx7 x12 hx12
  have pre15 : ∀ t, Steps p.tables e below (T9.setTop (mkF m 15 #[.val (.int p0), .val (.int x7), .val (.ref x12), .unset] [(.int (5 : Int32)), (.int x7)])) t → Steps p.tables e below (s₁.setTop (entryFrame m #[(.int p0)] maxLocals)) t := fun t k => pre13 t (by
    show Steps p.tables e below (T9.setTop (mkF m 13 #[.val (.int p0), .val (.int x7), .val (.ref x12), .unset] [])) t
    refine XS.iloadN X9.here hx rfl (hb hby at_13) rfl ?_
    show Steps p.tables e below (T9.setTop (mkF m 14 #[.val (.int p0), .val (.int x7), .val (.ref x12), .unset] [(.int x7)])) _
    refine XS.iconst X9.here hx rfl (hb hby at_14) ?_
    show Steps p.tables e below (T9.setTop (mkF m 15 #[.val (.int p0), .val (.int x7), .val (.ref x12), .unset] [(.int (5 : Int32)), (.int x7)])) _
    exact k)
  obtain ⟨v29_s0, hv29_s0⟩ : ∃ z : Int32, z = if ((¬ (x7 < (5 : Int32))) ∧ (¬ ((7 : Int32) < x7))) then (1 : Int32) else 0 := ⟨_, rfl⟩
  have pre29 : ∀ t, Steps p.tables e below (T9.setTop (mkF m 29 #[.val (.int p0), .val (.int x7), .val (.ref x12), .unset] [(.int v29_s0)])) t → Steps p.tables e below (s₁.setTop (entryFrame m #[(.int p0)] maxLocals)) t := by
    by_cases hc15 : x7 < (5 : Int32)
    · -- x7 < (5 : Int32)
      have pre28 : ∀ t, Steps p.tables e below (T9.setTop (mkF m 28 #[.val (.int p0), .val (.int x7), .val (.ref x12), .unset] [])) t → Steps p.tables e below (s₁.setTop (entryFrame m #[(.int p0)] maxLocals)) t := fun t k => pre15 t (by
        show Steps p.tables e below (T9.setTop (mkF m 15 #[.val (.int p0), .val (.int x7), .val (.ref x12), .unset] [(.int (5 : Int32)), (.int x7)])) t
        refine XS.icmpYes X9.here hx rfl (pc0 := 15) (pc' := 28) rfl (hb hby at_15) rfl (tlt hc15).1 (by decide) (by decide) ?_
        exact k)
      have pre29 : ∀ t, Steps p.tables e below (T9.setTop (mkF m 29 #[.val (.int p0), .val (.int x7), .val (.ref x12), .unset] [(.int (0 : Int32))])) t → Steps p.tables e below (s₁.setTop (entryFrame m #[(.int p0)] maxLocals)) t := fun t k => pre28 t (by
        show Steps p.tables e below (T9.setTop (mkF m 28 #[.val (.int p0), .val (.int x7), .val (.ref x12), .unset] [])) t
        refine XS.iconst X9.here hx rfl (hb hby at_28) ?_
        show Steps p.tables e below (T9.setTop (mkF m 29 #[.val (.int p0), .val (.int x7), .val (.ref x12), .unset] [(.int (0 : Int32))])) _
        exact k)
      have ehv29_s0 := hv29_s0.trans (if_neg (fun q => q.1 hc15))
      exact fun t k => pre29 t (by subst ehv29_s0; exact k)
    · -- not x7 < (5 : Int32)
      have pre18 : ∀ t, Steps p.tables e below (T9.setTop (mkF m 18 #[.val (.int p0), .val (.int x7), .val (.ref x12), .unset] [])) t → Steps p.tables e below (s₁.setTop (entryFrame m #[(.int p0)] maxLocals)) t := fun t k => pre15 t (by
        show Steps p.tables e below (T9.setTop (mkF m 15 #[.val (.int p0), .val (.int x7), .val (.ref x12), .unset] [(.int (5 : Int32)), (.int x7)])) t
        refine XS.icmpNo X9.here hx rfl (hb hby at_15) rfl (flt hc15).1 ?_
        exact k)
      have pre21 : ∀ t, Steps p.tables e below (T9.setTop (mkF m 21 #[.val (.int p0), .val (.int x7), .val (.ref x12), .unset] [(.int (7 : Int32)), (.int x7)])) t → Steps p.tables e below (s₁.setTop (entryFrame m #[(.int p0)] maxLocals)) t := fun t k => pre18 t (by
        show Steps p.tables e below (T9.setTop (mkF m 18 #[.val (.int p0), .val (.int x7), .val (.ref x12), .unset] [])) t
        refine XS.iloadN X9.here hx rfl (hb hby at_18) rfl ?_
        show Steps p.tables e below (T9.setTop (mkF m 19 #[.val (.int p0), .val (.int x7), .val (.ref x12), .unset] [(.int x7)])) _
        refine XS.bipush X9.here hx rfl (hb hby at_19) ?_
        show Steps p.tables e below (T9.setTop (mkF m 21 #[.val (.int p0), .val (.int x7), .val (.ref x12), .unset] [(.int (7 : Int32)), (.int x7)])) _
        exact k)
      by_cases hc21 : (7 : Int32) < x7
      · -- (7 : Int32) < x7
        have pre28 : ∀ t, Steps p.tables e below (T9.setTop (mkF m 28 #[.val (.int p0), .val (.int x7), .val (.ref x12), .unset] [])) t → Steps p.tables e below (s₁.setTop (entryFrame m #[(.int p0)] maxLocals)) t := fun t k => pre21 t (by
          show Steps p.tables e below (T9.setTop (mkF m 21 #[.val (.int p0), .val (.int x7), .val (.ref x12), .unset] [(.int (7 : Int32)), (.int x7)])) t
          refine XS.icmpYes X9.here hx rfl (pc0 := 21) (pc' := 28) rfl (hb hby at_21) rfl (tlt hc21).2.2.1 (by decide) (by decide) ?_
          exact k)
        have pre29 : ∀ t, Steps p.tables e below (T9.setTop (mkF m 29 #[.val (.int p0), .val (.int x7), .val (.ref x12), .unset] [(.int (0 : Int32))])) t → Steps p.tables e below (s₁.setTop (entryFrame m #[(.int p0)] maxLocals)) t := fun t k => pre28 t (by
          show Steps p.tables e below (T9.setTop (mkF m 28 #[.val (.int p0), .val (.int x7), .val (.ref x12), .unset] [])) t
          refine XS.iconst X9.here hx rfl (hb hby at_28) ?_
          show Steps p.tables e below (T9.setTop (mkF m 29 #[.val (.int p0), .val (.int x7), .val (.ref x12), .unset] [(.int (0 : Int32))])) _
          exact k)
        have ehv29_s0 := hv29_s0.trans (if_neg (fun r => (fun q => q hc21) r.2))
        exact fun t k => pre29 t (by subst ehv29_s0; exact k)
      · -- not (7 : Int32) < x7
        have pre24 : ∀ t, Steps p.tables e below (T9.setTop (mkF m 24 #[.val (.int p0), .val (.int x7), .val (.ref x12), .unset] [])) t → Steps p.tables e below (s₁.setTop (entryFrame m #[(.int p0)] maxLocals)) t := fun t k => pre21 t (by
          show Steps p.tables e below (T9.setTop (mkF m 21 #[.val (.int p0), .val (.int x7), .val (.ref x12), .unset] [(.int (7 : Int32)), (.int x7)])) t
          refine XS.icmpNo X9.here hx rfl (hb hby at_21) rfl (flt hc21).2.2.1 ?_
          exact k)
        have pre29 : ∀ t, Steps p.tables e below (T9.setTop (mkF m 29 #[.val (.int p0), .val (.int x7), .val (.ref x12), .unset] [(.int (1 : Int32))])) t → Steps p.tables e below (s₁.setTop (entryFrame m #[(.int p0)] maxLocals)) t := fun t k => pre24 t (by
          show Steps p.tables e below (T9.setTop (mkF m 24 #[.val (.int p0), .val (.int x7), .val (.ref x12), .unset] [])) t
          refine XS.iconst X9.here hx rfl (hb hby at_24) ?_
          show Steps p.tables e below (T9.setTop (mkF m 25 #[.val (.int p0), .val (.int x7), .val (.ref x12), .unset] [(.int (1 : Int32))])) _
          refine XS.goto X9.here hx rfl (pc0 := 25) (pc' := 29) rfl (hb hby at_25) (by decide) (by decide) ?_
          show Steps p.tables e below (T9.setTop (mkF m 29 #[.val (.int p0), .val (.int x7), .val (.ref x12), .unset] [(.int (1 : Int32))])) _
          exact k)
        have ehv29_s0 := hv29_s0.trans (if_pos ⟨hc15, hc21⟩)
        exact fun t k => pre29 t (by subst ehv29_s0; exact k)
  have pre31 : ∀ t, Steps p.tables e below (T9.setTop (mkF m 31 #[.val (.int p0), .val (.int x7), .val (.ref x12), .val (.int v29_s0)] [(.ref x12)])) t → Steps p.tables e below (s₁.setTop (entryFrame m #[(.int p0)] maxLocals)) t := fun t k => pre29 t (by
    show Steps p.tables e below (T9.setTop (mkF m 29 #[.val (.int p0), .val (.int x7), .val (.ref x12), .unset] [(.int v29_s0)])) t
    refine XS.istoreN X9.here hx rfl (hb hby at_29) rfl (l' := #[.val (.int p0), .val (.int x7), .val (.ref x12), .val (.int v29_s0)]) rfl ?_
    show Steps p.tables e below (T9.setTop (mkF m 30 #[.val (.int p0), .val (.int x7), .val (.ref x12), .val (.int v29_s0)] [])) _
    refine XS.aloadN X9.here hx rfl (hb hby at_30) rfl rfl ?_
    show Steps p.tables e below (T9.setTop (mkF m 31 #[.val (.int p0), .val (.int x7), .val (.ref x12), .val (.int v29_s0)] [(.ref x12)])) _
    exact k)
  obtain ⟨cq31, kq31, q31a, q31b, q31c⟩ := isOf hZ e9 Ex12
  obtain ⟨_, _, ⟨T31, L31, k31, n31⟩, -, X31, ⟨Lc31, hQ31, l31, y31, z31⟩, st31⟩ := X9.virtualBack hx (y := (⟨"com/example/hatua/hatua/Formula$Kind", "isModal", "()Z"⟩ : MethodName)) (z := (⟨"com/example/hatua/hatua/Formula$Kind", "isModal", "()Z"⟩ : MethodName)) hown (mvT hZ (hw _ (List.mem_of_getElem? (i := 8) rfl))) (mvT hZ (hw _ (List.mem_of_getElem? (i := 9) rfl))) (notFace_of_selects (args := #[]) (mvT hZ (hw _ (List.mem_of_getElem? (i := 11) rfl)))) (mvT hZ (hw _ (List.mem_of_getElem? (i := 11) rfl))) (mvT hZ (hw _ (List.mem_of_getElem? (i := 10) rfl))) (by decide) (backOf (W := 0) (rmM l Z a0 hw [] x12 w h0 n0 Z0 S5 S6 S7) hZ (hw _ (List.mem_of_getElem? (i := 12) rfl)) (hw _ (List.mem_of_getElem? (i := 6) rfl)) (by decide) (by decide)) q31a q31c (g := (mkF m 31 #[.val (.int p0), .val (.int x7), .val (.ref x12), .val (.int v29_s0)] [(.ref x12)])) rfl (by rw [hml]; rfl) (Steps.refl _) (argsL := []) (rest := []) (lenOf pd0_1 rfl) rfl (by show 2 * 0 + _ ≤ _; exact Nat.le_of_eq rfl) (hb hby at_31) (fun _ _ => ⟨rfl, e9, (by decide : 0 + 0 ≤ _), (by decide : 0 + 0 ≤ _)⟩)
  dsimp only [Pt.U, Pt.locs, Pt.cells, Pt.slots] at X31 l31 y31 z31 st31 hQ31
  subst l31 y31 z31
  obtain ⟨rfl, N31q, e31⟩ := hQ31
  have N31 := Fr.app N9 N31q
  have pre34 : ∀ t, Steps p.tables e below (T31.setTop (mkF m 34 #[.val (.int p0), .val (.int x7), .val (.ref x12), .val (.int v29_s0)] [(.int (own_modal w x12))])) t → Steps p.tables e below (s₁.setTop (entryFrame m #[(.int p0)] maxLocals)) t := fun t k => pre31 t (st31.trans k)
  have pre35 : ∀ t, Steps p.tables e below (T31.setTop (mkF m 35 #[.val (.int p0), .val (.int x7), .val (.ref x12), .val (.int v29_s0)] [(.int v29_s0), (.int (own_modal w x12))])) t → Steps p.tables e below (s₁.setTop (entryFrame m #[(.int p0)] maxLocals)) t := fun t k => pre34 t (by
    show Steps p.tables e below (T31.setTop (mkF m 34 #[.val (.int p0), .val (.int x7), .val (.ref x12), .val (.int v29_s0)] [(.int (own_modal w x12))])) t
    refine XS.iloadN X31.here hx rfl (hb hby at_34) rfl ?_
    show Steps p.tables e below (T31.setTop (mkF m 35 #[.val (.int p0), .val (.int x7), .val (.ref x12), .val (.int v29_s0)] [(.int v29_s0), (.int (own_modal w x12))])) _
    exact k)
  obtain ⟨v43_s0, hv43_s0⟩ : ∃ z : Int32, z = if ((own_modal w x12) = v29_s0) then (1 : Int32) else 0 := ⟨_, rfl⟩
  have pre43 : ∀ t, Steps p.tables e below (T31.setTop (mkF m 43 #[.val (.int p0), .val (.int x7), .val (.ref x12), .val (.int v29_s0)] [(.int v43_s0)])) t → Steps p.tables e below (s₁.setTop (entryFrame m #[(.int p0)] maxLocals)) t := by
    by_cases hc35 : (own_modal w x12) = v29_s0
    · -- (own_modal w x12) = v29_s0
      have pre38 : ∀ t, Steps p.tables e below (T31.setTop (mkF m 38 #[.val (.int p0), .val (.int x7), .val (.ref x12), .val (.int v29_s0)] [])) t → Steps p.tables e below (s₁.setTop (entryFrame m #[(.int p0)] maxLocals)) t := fun t k => pre35 t (by
        show Steps p.tables e below (T31.setTop (mkF m 35 #[.val (.int p0), .val (.int x7), .val (.ref x12), .val (.int v29_s0)] [(.int v29_s0), (.int (own_modal w x12))])) t
        refine XS.icmpNo X31.here hx rfl (hb hby at_35) rfl (teq hc35).2 ?_
        exact k)
      have pre43 : ∀ t, Steps p.tables e below (T31.setTop (mkF m 43 #[.val (.int p0), .val (.int x7), .val (.ref x12), .val (.int v29_s0)] [(.int (1 : Int32))])) t → Steps p.tables e below (s₁.setTop (entryFrame m #[(.int p0)] maxLocals)) t := fun t k => pre38 t (by
        show Steps p.tables e below (T31.setTop (mkF m 38 #[.val (.int p0), .val (.int x7), .val (.ref x12), .val (.int v29_s0)] [])) t
        refine XS.iconst X31.here hx rfl (hb hby at_38) ?_
        show Steps p.tables e below (T31.setTop (mkF m 39 #[.val (.int p0), .val (.int x7), .val (.ref x12), .val (.int v29_s0)] [(.int (1 : Int32))])) _
        refine XS.goto X31.here hx rfl (pc0 := 39) (pc' := 43) rfl (hb hby at_39) (by decide) (by decide) ?_
        show Steps p.tables e below (T31.setTop (mkF m 43 #[.val (.int p0), .val (.int x7), .val (.ref x12), .val (.int v29_s0)] [(.int (1 : Int32))])) _
        exact k)
      have ehv43_s0 := hv43_s0.trans (if_pos hc35)
      exact fun t k => pre43 t (by subst ehv43_s0; exact k)
    · -- not (own_modal w x12) = v29_s0
      have pre42 : ∀ t, Steps p.tables e below (T31.setTop (mkF m 42 #[.val (.int p0), .val (.int x7), .val (.ref x12), .val (.int v29_s0)] [])) t → Steps p.tables e below (s₁.setTop (entryFrame m #[(.int p0)] maxLocals)) t := fun t k => pre35 t (by
        show Steps p.tables e below (T31.setTop (mkF m 35 #[.val (.int p0), .val (.int x7), .val (.ref x12), .val (.int v29_s0)] [(.int v29_s0), (.int (own_modal w x12))])) t
        refine XS.icmpYes X31.here hx rfl (pc0 := 35) (pc' := 42) rfl (hb hby at_35) rfl (feq hc35).2 (by decide) (by decide) ?_
        exact k)
      have pre43 : ∀ t, Steps p.tables e below (T31.setTop (mkF m 43 #[.val (.int p0), .val (.int x7), .val (.ref x12), .val (.int v29_s0)] [(.int (0 : Int32))])) t → Steps p.tables e below (s₁.setTop (entryFrame m #[(.int p0)] maxLocals)) t := fun t k => pre42 t (by
        show Steps p.tables e below (T31.setTop (mkF m 42 #[.val (.int p0), .val (.int x7), .val (.ref x12), .val (.int v29_s0)] [])) t
        refine XS.iconst X31.here hx rfl (hb hby at_42) ?_
        show Steps p.tables e below (T31.setTop (mkF m 43 #[.val (.int p0), .val (.int x7), .val (.ref x12), .val (.int v29_s0)] [(.int (0 : Int32))])) _
        exact k)
      have ehv43_s0 := hv43_s0.trans (if_neg hc35)
      exact fun t k => pre43 t (by subst ehv43_s0; exact k)
  obtain ⟨fs, hr, hrun, hended, hW, hsame⟩ := X31.leave (v := some (.int (nar .boolean v43_s0))) (fun h => by rw [Bd.returns] at h; cases h)
  refine ⟨_, _, pre43 _ ?_, hrun, hended, _, _, rfl, ?_, ⟨_, rfl⟩, hW, hsame.mono (by decide) (by decide)⟩
  · show Steps p.tables e below (T31.setTop (mkF m 43 #[.val (.int p0), .val (.int x7), .val (.ref x12), .val (.int v29_s0)] [(.int v43_s0)])) _
    exact retN X31 hx (t := .boolean) Bd.returns (by simp) (hb hby at_43) hr
  · show Q0 Z p0 w od h0 n0 _ T31.heap _
    rw [e31]
    have hres : (nar .boolean v43_s0) = (1 : Int32) := by
      rw [hv43_s0, own_narB]; exact if_pos (own_plain w od ho p0 x7 v29_s0 hx7 x12 hx12 hv29_s0)
    exact ⟨congrArg (fun q => some (Value.int q)) hres, N31⟩
set_option maxRecDepth 65536 in
set_option maxHeartbeats 40000000 in
theorem comes_1 {Post : Tables → Env → Array Value → State → Outcome → State → Prop} (hpost : ∀ tb e args s v u, (limb_1_1.after args s (.returned v) u = true ∧ limb_1_2.after args s (.returned v) u = true ∧ True) → FrameEnd s (.returned v) u (Jvm.fieldLocs frame_1_writes args s ++ Jvm.arrayLocs frame_1_arrays args s ++ Jvm.staticLocs frame_1_statics s) 0 0 → Post tb e args s (.returned v) u) :
    ArmFor flags0 classFile x code maxLocals ret World_1 tables_1 room_1 Calls_1 rest_1 Pre_1 Post := by
  intro l hfl _ _ p e ha hc hk s m args below hf hA hF happ hP
  obtain ⟨hcalls, hrest, hpre⟩ := hP
  obtain ⟨-, -, -, hnamed, -, -, -, hat⟩ := (Spec.applies_iff hf).mp happ
  obtain ⟨hg, hn⟩ := and_e (Cond.before_iff.mp (show (Jvm.Cond.and given_1 narrow_1).before args s = true from hpre))
  obtain ⟨gc, g0⟩ := and_e hg
  obtain ⟨w0, rfl⟩ : ∃ w0 : Value, args = #[w0] := by
    have hs : args.size = 1 := by simpa [Cond.value, given_1] using gc
    obtain ⟨L⟩ := args
    match L, hs with
    | [w0], _ => exact ⟨w0, rfl⟩
  have hw := fun d (hd : d ∈ tables_1) => atoms_spec (ws := Jvm.Cond.code x code maxLocals ret :: tables_1) hat d (List.mem_cons_of_mem _ hd)
  have hfit : Fit s := fun {y c} hc i hi => by
    obtain ⟨ha, rfl⟩ := Array.getElem?_eq_some_iff.mp hc
    have q := List.all_eq_true.mp ((Array.all_eq_true_iff_forall_mem.mp hF) _ (Array.getElem_mem ha)) i (List.mem_range.mpr hi)
    simpa [Array.getElem?_eq_getElem hi] using q
  obtain ⟨i0, ei0⟩ := is_v g0
  obtain rfl : w0 = (.int i0) := Option.some.inj ei0
  obtain ⟨nc0, nr0⟩ := and_e hn
  obtain ⟨nc1, nr1⟩ := and_e nr0
  obtain ⟨nc2, nr2⟩ := and_e nr1
  obtain ⟨nc3, nr3⟩ := and_e nr2
  obtain ⟨nc4, nr4⟩ := and_e nr3
  obtain ⟨nc5, nr5⟩ := and_e nr4
  obtain ⟨nc6, nr6⟩ := and_e nr5
  obtain ⟨nc7, nr7⟩ := and_e nr6
  obtain ⟨nc8, nr8⟩ := and_e nr7
  obtain ⟨nc9, nr9⟩ := and_e nr8
  obtain ⟨nc10, nr10⟩ := and_e nr9
  obtain ⟨nc11, nr11⟩ := and_e nr10
  obtain ⟨nc12, nr12⟩ := and_e nr11
  obtain ⟨nc13, nr13⟩ := and_e nr12
  obtain ⟨nc14, nr14⟩ := and_e nr13
  obtain ⟨nc15, nr15⟩ := and_e nr14
  obtain ⟨nc16, nr16⟩ := and_e nr15
  have nc17 := nr16
  obtain ⟨u0, eu0⟩ := exa_v nc0
  have S0 := Sta.start eu0 (Or.inr ⟨(hw _ (List.mem_of_getElem? (i := 6) rfl)), (hw _ (List.mem_of_getElem? (i := 7) rfl))⟩)
  have E0 := Exa.start eu0 nc0
  have O0 := own_ordAt (own_ordv eu0 nc2)
  obtain ⟨u1, eu1⟩ := exa_v nc12
  have S1 := Sta.start eu1 (Or.inr ⟨(hw _ (List.mem_of_getElem? (i := 6) rfl)), (hw _ (List.mem_of_getElem? (i := 24) rfl))⟩)
  have E1 := Exa.start eu1 nc12
  have O1 := own_ordAt (own_ordv eu1 nc13)
  obtain ⟨u2, eu2⟩ := exa_v nc10
  have S2 := Sta.start eu2 (Or.inr ⟨(hw _ (List.mem_of_getElem? (i := 6) rfl)), (hw _ (List.mem_of_getElem? (i := 22) rfl))⟩)
  have E2 := Exa.start eu2 nc10
  have O2 := own_ordAt (own_ordv eu2 nc11)
  obtain ⟨u3, eu3⟩ := exa_v nc8
  have S3 := Sta.start eu3 (Or.inr ⟨(hw _ (List.mem_of_getElem? (i := 6) rfl)), (hw _ (List.mem_of_getElem? (i := 20) rfl))⟩)
  have E3 := Exa.start eu3 nc8
  have O3 := own_ordAt (own_ordv eu3 nc9)
  obtain ⟨u4, eu4⟩ := exa_v nc14
  have S4 := Sta.start eu4 (Or.inr ⟨(hw _ (List.mem_of_getElem? (i := 6) rfl)), (hw _ (List.mem_of_getElem? (i := 27) rfl))⟩)
  have E4 := Exa.start eu4 nc14
  have O4 := own_ordAt (own_ordv eu4 nc15)
  obtain ⟨u5, eu5⟩ := exa_v nc1
  have S5 := Sta.start eu5 (Or.inr ⟨(hw _ (List.mem_of_getElem? (i := 6) rfl)), (hw _ (List.mem_of_getElem? (i := 14) rfl))⟩)
  have E5 := Exa.start eu5 nc1
  have O5 := own_ordAt (own_ordv eu5 nc3)
  obtain ⟨u6, eu6⟩ := exa_v nc4
  have S6 := Sta.start eu6 (Or.inr ⟨(hw _ (List.mem_of_getElem? (i := 6) rfl)), (hw _ (List.mem_of_getElem? (i := 16) rfl))⟩)
  have E6 := Exa.start eu6 nc4
  have O6 := own_ordAt (own_ordv eu6 nc5)
  obtain ⟨u7, eu7⟩ := exa_v nc6
  have S7 := Sta.start eu7 (Or.inr ⟨(hw _ (List.mem_of_getElem? (i := 6) rfl)), (hw _ (List.mem_of_getElem? (i := 18) rfl))⟩)
  have E7 := Exa.start eu7 nc6
  have O7 := own_ordAt (own_ordv eu7 nc7)
  obtain ⟨u8, eu8⟩ := exa_v nc16
  have S8 := Sta.start eu8 (Or.inr ⟨(hw _ (List.mem_of_getElem? (i := 6) rfl)), (hw _ (List.mem_of_getElem? (i := 29) rfl))⟩)
  have E8 := Exa.start eu8 nc16
  have O8 := own_ordAt (own_ordv eu8 nc17)
  have hE9 : ∀ i, i < 9 → Exa s s.heap ((fun i => [u0, u1, u2, u3, u4, u5, u6, u7, u8].getD i 0) i) "com/example/hatua/hatua/Formula$Kind" := fun i hi => by
    match i, hi with
    | 0, _ => exact E0
    | 1, _ => exact E1
    | 2, _ => exact E2
    | 3, _ => exact E3
    | 4, _ => exact E4
    | 5, _ => exact E5
    | 6, _ => exact E6
    | 7, _ => exact E7
    | 8, _ => exact E8
  have hO9 : ∀ i, i < 9 → own_ordOf s ((fun i => [u0, u1, u2, u3, u4, u5, u6, u7, u8].getD i 0) i) = Int32.ofNat i := fun i hi => by
    match i, hi with
    | 0, _ => exact O0
    | 1, _ => exact O1
    | 2, _ => exact O2
    | 3, _ => exact O3
    | 4, _ => exact O4
    | 5, _ => exact O5
    | 6, _ => exact O6
    | 7, _ => exact O7
    | 8, _ => exact O8
  obtain ⟨n, o, h1, h2, h3, _, L, rfl, ⟨rfl, N⟩, hq⟩ := rm0 l s _ hw tables_1 i0 (fun i => [u0, u1, u2, u3, u4, u5, u6, u7, u8].getD i 0) (own_ordOf s) s.heap s.heap.size (Nat.le_refl _) S0 S1 S2 S3 S4 S5 S6 S7 S8 hE9 hO9 p e ha hc hk s m _ below hf ((Spec.applies_iff_loose hf).mp happ).1 ⟨rfl, State.Warmed39.refl s, rfl⟩ trivial
  refine ⟨n, _, h1, h2, h3, hpost _ _ _ _ _ _ ⟨Cond.after_iff.mpr rfl, Cond.after_iff.mpr (eq_i res_at (Term.int_eval (1)) rfl), trivial⟩ ⟨hq.1, hq.2.1, (hq.2.2.sift fun y hy => Or.inr (N y hy)).mono (by decide) (by decide)⟩⟩
theorem main_1_1 : Claimed_1_1 := comes_1 fun _ _ _ _ _ _ h hF => ⟨h.1, hF⟩
theorem main_1_2 : Claimed_1_2 := comes_1 fun _ _ _ _ _ _ h hF => ⟨h.2.1, hF⟩
end Jvm.Pilot.@@N@@
namespace Jvm.Pilot.@@N@@
open Jvm Jvm.ClassFile Sem Op Lib Jvm.Free Jvm.Stand Jvm.Pilot.@@N@@.Jvm.D
/-! MADE BY PROGRAM (witnessworld.py) out of the Statement's table words and the real class files: 12 classes; the members and pool entries that the words name. The judged class is class 1, her method 1. -/
namespace start1
open Jvm.ClassFile
def u (s : String) : CpInfo := .utf8 (stringToUtf16 s)
/-- a pool by its gaps: so many unusable entries, then the entry; so many at the end -/
def gap : Nat → List CpInfo → List CpInfo
  | 0, r => r
  | n + 1, r => .unusable :: gap n r
def poolList (es : List (Nat × CpInfo)) (last : Nat) : List CpInfo := es.foldr (fun e r => gap e.1 (e.2 :: r)) (gap last [])
def pool (es : List (Nat × CpInfo)) (last : Nat) : Array CpInfo := ⟨poolList es last⟩
def fileOf (pool : Array CpInfo) (this : Nat) (attrs : Array Attribute := #[]) (ms : Array MethodInfo := #[]) (fl : Nat := 33) (sup : Nat := 0) (ifs : Array Nat := #[]) (fds : Array FieldInfo := #[]) : ClassFile where
  minorVersion := 0
  majorVersion := 65
  constantPool := pool
  accessFlags := fl
  thisClass := this
  superClass := sup
  interfaces := ifs
  fields := fds
  methods := ms
  attributes := attrs
def plain (name : String) (sup : Option ClassId) : Class where
  name := name
  kind := .ordinary
  loader := none
  accessFlags := 33
  super := sup
  interfaces := #[]
  cf := none
  fields := #[]
  methods := #[]
  instanceTypes := #[]
  staticTypes := #[]
  resolved := #[]
  callSites := []
  init := .initialized
  statics := none
  mirror := none

def pool0 : Array CpInfo := pool [(5, u "<init>"), (0, u "()V"), (1, .class_ 10), (1, u "java/lang/Object")] 113

def k0m0 : Method := { name := "<init>", desc := "()V", sig := { parameters := [], returnType := none }, accessFlags := 1, code := none }
/-- java/lang/Object -/
def k0 : Class := { plain "java/lang/Object" none with
  accessFlags := 33
  interfaces := #[]
  cf := some (fileOf pool0 8 #[] #[{ accessFlags := 1, nameIndex := 5, descriptorIndex := 6, attributes := #[] }] 33 0 #[] #[])
  fields := #[]
  methods := #[k0m0]
  instanceTypes := #[]
  staticTypes := #[]
  resolved := Array.replicate 124 none
  statics := none }

def pool1 : Array CpInfo := pool [(2, .class_ 4), (1, u "java/lang/Object"), (0, u "<init>"), (0, u "()V"), (0, .integer 2147483647), (0, .methodref 9 10), (0, .class_ 11), (0, .nameAndType 12 13), (0, u "com/example/hatua/hatua/KindIsModalPinLaw"), (0, u "kindOf"), (0, u "(I)Lcom/example/hatua/hatua/Formula$Kind;"), (0, .methodref 15 16), (0, .class_ 17), (0, .nameAndType 18 19), (0, u "com/example/hatua/hatua/Formula$Kind"), (0, u "isModal"), (0, u "()Z"), (0, .fieldref 15 21), (0, .nameAndType 22 23), (0, u "ATOM"), (0, u "Lcom/example/hatua/hatua/Formula$Kind;"), (0, .fieldref 15 25), (0, .nameAndType 26 23), (0, u "NOT"), (0, .fieldref 15 28), (0, .nameAndType 29 23), (0, u "ALL"), (0, .fieldref 15 31), (0, .nameAndType 32 23), (0, u "ANY"), (0, .fieldref 15 34), (0, .nameAndType 35 23), (0, u "EXACTLY_ONE"), (0, .fieldref 15 37), (0, .nameAndType 38 23), (0, u "BELIEVES"), (0, .fieldref 15 40), (0, .nameAndType 41 23), (0, u "KNOWS"), (0, .fieldref 15 43), (0, .nameAndType 44 23), (0, u "ALL_BELIEVE"), (0, .fieldref 15 46), (0, .nameAndType 47 23), (0, u "TIMESTEP_AT_LEAST"), (2, u "law"), (0, u "(I)Z")] 7

def k1m0 : Method := { name := "<init>", desc := "()V", sig := { parameters := [], returnType := none }, accessFlags := 1, code := none }
def k1c1 : Code := { maxStack := 2, maxLocals := 4, code := code, exceptionTable := #[], attributes := #[] }
def k1m1 : Method := { name := "law", desc := "(I)Z", sig := { parameters := [.int], returnType := some .boolean }, accessFlags := 9, code := some k1c1 }
def k1c2 : Code := { maxStack := 2, maxLocals := 1, code := method_3_code, exceptionTable := #[], attributes := #[] }
def k1m2 : Method := { name := "kindOf", desc := "(I)Lcom/example/hatua/hatua/Formula$Kind;", sig := { parameters := [.int], returnType := some (.object "com/example/hatua/hatua/Formula$Kind") }, accessFlags := 10, code := some k1c2 }
/-- com/example/hatua/hatua/KindIsModalPinLaw -/
def k1 : Class := { plain "com/example/hatua/hatua/KindIsModalPinLaw" (some 0) with
  accessFlags := 49
  interfaces := #[]
  cf := some (fileOf pool1 9 #[] #[{ accessFlags := 1, nameIndex := 5, descriptorIndex := 6, attributes := #[] }, { accessFlags := 9, nameIndex := 50, descriptorIndex := 51, attributes := #[] }, { accessFlags := 10, nameIndex := 12, descriptorIndex := 13, attributes := #[] }] 49 2 #[] #[])
  fields := #[]
  methods := #[k1m0, k1m1, k1m2]
  instanceTypes := #[]
  staticTypes := #[]
  resolved := Array.replicate 59 none
  statics := none }

def pool2 : Array CpInfo := pool [(1, .class_ 2), (0, u "java/lang/constant/Constable"), (0, .class_ 4), (0, u "java/lang/Object")] 6

/-- java/lang/constant/Constable -/
def k2 : Class := { plain "java/lang/constant/Constable" (some 0) with
  accessFlags := 1537
  interfaces := #[]
  cf := some (fileOf pool2 1 #[] #[] 1537 3 #[] #[])
  fields := #[]
  methods := #[]
  instanceTypes := #[]
  staticTypes := #[]
  resolved := Array.replicate 11 none
  statics := none }

def pool3 : Array CpInfo := pool [(1, .class_ 2), (0, u "java/lang/Comparable"), (0, .class_ 4), (0, u "java/lang/Object")] 7

/-- java/lang/Comparable -/
def k3 : Class := { plain "java/lang/Comparable" (some 0) with
  accessFlags := 1537
  interfaces := #[]
  cf := some (fileOf pool3 1 #[] #[] 1537 3 #[] #[])
  fields := #[]
  methods := #[]
  instanceTypes := #[]
  staticTypes := #[]
  resolved := Array.replicate 12 none
  statics := none }

def pool4 : Array CpInfo := pool [(1, .class_ 2), (0, u "java/io/Serializable"), (0, .class_ 4), (0, u "java/lang/Object")] 2

/-- java/io/Serializable -/
def k4 : Class := { plain "java/io/Serializable" (some 0) with
  accessFlags := 1537
  interfaces := #[]
  cf := some (fileOf pool4 1 #[] #[] 1537 3 #[] #[])
  fields := #[]
  methods := #[]
  instanceTypes := #[]
  staticTypes := #[]
  resolved := Array.replicate 7 none
  statics := none }

def pool5 : Array CpInfo := pool [(2, .class_ 4), (1, u "java/lang/Enum"), (0, u "name"), (0, u "Ljava/lang/String;"), (2, u "ordinal"), (0, u "I"), (1, .class_ 14), (1, u "java/lang/Object"), (4, u "hash"), (86, .class_ 108), (1, u "java/lang/Enum$EnumDesc"), (2, .class_ 112), (0, u "java/lang/constant/Constable"), (0, .class_ 114), (0, u "java/lang/Comparable"), (0, .class_ 116), (0, u "java/io/Serializable")] 87

/-- java/lang/Enum -/
def k5 : Class := { plain "java/lang/Enum" (some 0) with
  accessFlags := 1057
  interfaces := #[2, 3, 4]
  cf := some (fileOf pool5 2 #[.nestMembers #[106]] #[] 1057 12 #[111, 113, 115] #[{ accessFlags := 18, nameIndex := 5, descriptorIndex := 6, attributes := #[] }, { accessFlags := 18, nameIndex := 9, descriptorIndex := 10, attributes := #[] }, { accessFlags := 2, nameIndex := 19, descriptorIndex := 10, attributes := #[] }])
  fields := #[{ name := "name", type := (.object "java/lang/String"), accessFlags := 18, slot := 0, constantValue := 0 }, { name := "ordinal", type := .int, accessFlags := 18, slot := 1, constantValue := 0 }, { name := "hash", type := .int, accessFlags := 2, slot := 2, constantValue := 0 }]
  methods := #[]
  instanceTypes := #[(.object "java/lang/String"), .int, .int]
  staticTypes := #[]
  resolved := Array.replicate 204 none
  statics := none }

def pool6 : Array CpInfo := pool [(1, .class_ 2), (0, u "com/example/hatua/hatua/Formula$Kind"), (2, u "ATOM"), (0, u "Lcom/example/hatua/hatua/Formula$Kind;"), (2, u "NOT"), (2, u "ALL"), (2, u "ANY"), (2, u "EXACTLY_ONE"), (0, .fieldref 1 20), (0, .nameAndType 21 6), (0, u "BELIEVES"), (0, .fieldref 1 23), (0, .nameAndType 24 6), (0, u "KNOWS"), (0, .fieldref 1 26), (0, .nameAndType 27 6), (0, u "ALL_BELIEVE"), (2, u "TIMESTEP_AT_LEAST"), (2, u "$VALUES"), (0, u "[Lcom/example/hatua/hatua/Formula$Kind;"), (6, .class_ 43), (1, u "java/lang/Enum"), (8, u "isModal"), (0, u "()Z"), (28, .class_ 83), (0, u "com/example/hatua/hatua/Formula")] 2

def k6c0 : Code := { maxStack := 2, maxLocals := 1, code := prog_64_method_5_code, exceptionTable := #[], attributes := #[] }
def k6m0 : Method := { name := "isModal", desc := "()Z", sig := { parameters := [], returnType := some .boolean }, accessFlags := 0, code := some k6c0 }
/-- com/example/hatua/hatua/Formula$Kind -/
def k6 : Class := { plain "com/example/hatua/hatua/Formula$Kind" (some 5) with
  accessFlags := 16432
  interfaces := #[]
  cf := some (fileOf pool6 1 #[.nestHost 82] #[{ accessFlags := 0, nameIndex := 52, descriptorIndex := 53, attributes := #[] }] 16432 41 #[] #[{ accessFlags := 16409, nameIndex := 5, descriptorIndex := 6, attributes := #[] }, { accessFlags := 16409, nameIndex := 9, descriptorIndex := 6, attributes := #[] }, { accessFlags := 16409, nameIndex := 12, descriptorIndex := 6, attributes := #[] }, { accessFlags := 16409, nameIndex := 15, descriptorIndex := 6, attributes := #[] }, { accessFlags := 16409, nameIndex := 18, descriptorIndex := 6, attributes := #[] }, { accessFlags := 16409, nameIndex := 21, descriptorIndex := 6, attributes := #[] }, { accessFlags := 16409, nameIndex := 24, descriptorIndex := 6, attributes := #[] }, { accessFlags := 16409, nameIndex := 27, descriptorIndex := 6, attributes := #[] }, { accessFlags := 16409, nameIndex := 30, descriptorIndex := 6, attributes := #[] }, { accessFlags := 4122, nameIndex := 33, descriptorIndex := 34, attributes := #[] }])
  fields := #[{ name := "ATOM", type := (.object "com/example/hatua/hatua/Formula$Kind"), accessFlags := 16409, slot := 0, constantValue := 0 }, { name := "NOT", type := (.object "com/example/hatua/hatua/Formula$Kind"), accessFlags := 16409, slot := 1, constantValue := 0 }, { name := "ALL", type := (.object "com/example/hatua/hatua/Formula$Kind"), accessFlags := 16409, slot := 2, constantValue := 0 }, { name := "ANY", type := (.object "com/example/hatua/hatua/Formula$Kind"), accessFlags := 16409, slot := 3, constantValue := 0 }, { name := "EXACTLY_ONE", type := (.object "com/example/hatua/hatua/Formula$Kind"), accessFlags := 16409, slot := 4, constantValue := 0 }, { name := "BELIEVES", type := (.object "com/example/hatua/hatua/Formula$Kind"), accessFlags := 16409, slot := 5, constantValue := 0 }, { name := "KNOWS", type := (.object "com/example/hatua/hatua/Formula$Kind"), accessFlags := 16409, slot := 6, constantValue := 0 }, { name := "ALL_BELIEVE", type := (.object "com/example/hatua/hatua/Formula$Kind"), accessFlags := 16409, slot := 7, constantValue := 0 }, { name := "TIMESTEP_AT_LEAST", type := (.object "com/example/hatua/hatua/Formula$Kind"), accessFlags := 16409, slot := 8, constantValue := 0 }, { name := "$VALUES", type := (.array (.object "com/example/hatua/hatua/Formula$Kind")), accessFlags := 4122, slot := 9, constantValue := 0 }]
  methods := #[k6m0]
  instanceTypes := #[(.object "java/lang/String"), .int, .int]
  staticTypes := #[(.object "com/example/hatua/hatua/Formula$Kind"), (.object "com/example/hatua/hatua/Formula$Kind"), (.object "com/example/hatua/hatua/Formula$Kind"), (.object "com/example/hatua/hatua/Formula$Kind"), (.object "com/example/hatua/hatua/Formula$Kind"), (.object "com/example/hatua/hatua/Formula$Kind"), (.object "com/example/hatua/hatua/Formula$Kind"), (.object "com/example/hatua/hatua/Formula$Kind"), (.object "com/example/hatua/hatua/Formula$Kind"), (.array (.object "com/example/hatua/hatua/Formula$Kind"))]
  resolved := Array.replicate 86 none
  statics := some 0 }

def pool7 : Array CpInfo := pool [(1, u "java/lang/Cloneable"), (0, .class_ 1), (0, u "java/lang/Object"), (0, .class_ 3)] 3

/-- java/lang/Cloneable -/
def k7 : Class := { plain "java/lang/Cloneable" (some 0) with
  accessFlags := 1537
  interfaces := #[]
  cf := some (fileOf pool7 2 #[] #[] 1537 4 #[] #[])
  fields := #[]
  methods := #[]
  instanceTypes := #[]
  staticTypes := #[]
  resolved := Array.replicate 8 none
  statics := none }

/-- the primitive byte -/
def k8 : Class := { plain "byte" none with kind := .primitive 'B', accessFlags := 0x411 }
/-- [B -/
def k9 : Class := { plain "[B" (some 0) with kind := .array 8 .byte, interfaces := #[7, 4], accessFlags := 1041 }

/-- the primitive int -/
def k10 : Class := { plain "int" none with kind := .primitive 'I', accessFlags := 0x411 }
/-- [I -/
def k11 : Class := { plain "[I" (some 0) with kind := .array 10 .int, interfaces := #[7, 4], accessFlags := 1041 }

def heap : Heap := #[{ cls := 6, slots := #[.ref 1, .ref 2, .ref 3, .ref 4, .ref 5, .ref 6, .ref 7, .ref 8, .ref 9, .null], vm := .statics 6 },
  { cls := 6, slots := #[.null, .int 0, .int 0], vm := .none },
  { cls := 6, slots := #[.null, .int 1, .int 0], vm := .none },
  { cls := 6, slots := #[.null, .int 2, .int 0], vm := .none },
  { cls := 6, slots := #[.null, .int 3, .int 0], vm := .none },
  { cls := 6, slots := #[.null, .int 4, .int 0], vm := .none },
  { cls := 6, slots := #[.null, .int 5, .int 0], vm := .none },
  { cls := 6, slots := #[.null, .int 6, .int 0], vm := .none },
  { cls := 6, slots := #[.null, .int 7, .int 0], vm := .none },
  { cls := 6, slots := #[.null, .int 8, .int 0], vm := .none }]
def classes : Array Class := #[k0, k1, k2, k3, k4, k5, k6, k7, k8, k9, k10, k11]
def interned : List (Array UInt16 × Addr) := []
def slotsUsed : Nat := 37
def theMethod : MethodId := ⟨1, 1⟩
def args0 : Array Value := #[.int 5]
def aboutOver (below : List Frame) : State where
  vm := { classes := classes, interned := interned.toArray }
  heap := heap
  slotsUsed := slotsUsed
  threads := #[{ frames := .invoking theMethod args0 :: below }]
def below0 : List Frame := [.native { method := ⟨0, 0⟩, args := #[] }]
def about1 : State := aboutOver below0
def p0 : Program := .bare "" "" ""
def e0 : Env := launch0.env 0 0 0
theorem w_frames : about1.frames = Frame.invoking theMethod args0 :: below0 := rfl
set_option maxRecDepth 65536 in
theorem w_args : argsFit about1.vm theMethod args0 = true := by decide +kernel
set_option maxRecDepth 65536 in
theorem w_heap : heapFits about1 = true := by decide +kernel
set_option maxRecDepth 65536 in
theorem w_runnable : about1.curStatus? = some .runnable := by decide +kernel
set_option maxRecDepth 65536 in
theorem w_alone : about1.alone = true := by decide +kernel
set_option maxRecDepth 65536 in
theorem w_named : about1.methodNamed? x = some theMethod := by decide +kernel
set_option maxRecDepth 65536 in
theorem w_hears : about1.hears theMethod below0 = true := by decide +kernel
set_option maxRecDepth 65536 in
theorem w_ripe : about1.ripe theMethod args0 below0 = true := by decide +kernel
theorem w_running : about1.status = .running := rfl
set_option maxRecDepth 65536 in
theorem w_room : about1.hasRoom e0.platform room_1 = true :=
  launch0.hasRoom_least _ room_1 (by decide +kernel) (by decide +kernel) (by decide +kernel) (by decide +kernel) (by decide +kernel) (by decide +kernel)
theorem allAtoms_all (ts : List Jvm.Cond) (a : Array Jvm.Value) (st : Jvm.State) : (allAtoms ts).before a st = ts.all (fun c => c.before a st) := by
  induction ts with
  | nil => rfl
  | cons c t ih =>
    show (Jvm.Cond.and c (allAtoms t)).before a st = _
    rw [Jvm.Cond.before_and, ih, List.all_cons]
def words1 : List Jvm.Cond := Jvm.Cond.code x code maxLocals ret :: tables_1
/-- a 'code' word, met by the world's own term for the bytes: nothing is compared byte by byte -/
theorem code_word {y : MethodName} {bytes : ByteArray} {mx : Nat} {rt : Option FieldType} {a : Array Value} {s : State} {m : MethodId} {meth : Method} {c : Code} (h1 : s.methodNamed? y = some m) (h2 : s.vm.method? m = some meth) (h3 : meth.code = some c) (h4 : c.code = bytes)
    (h5 : (c.maxLocals == mx && c.exceptionTable.isEmpty && decide (c.maxStack ≤ mostOperands) && decide (meth.sig.returnType = rt) && !meth.locks && decide (parseMethodDescriptor y.desc = some meth.sig)) = true) : (Jvm.Cond.code y bytes mx rt).before a s = true := by
  simp only [Bool.and_eq_true, beq_iff_eq, Bool.not_eq_true', decide_eq_true_eq] at h5
  obtain ⟨⟨⟨⟨⟨g1, g2⟩, g3⟩, g4⟩, g5⟩, g6⟩ := h5
  simp [Cond.before, Cond.holds, Cond.value, h1, h2, h3, h4, g1, g2, g3, g4, g5, g6]
def isCode : Jvm.Cond → Bool
  | .code _ _ _ _ => true
  | _ => false
theorem all_split {L : List Jvm.Cond} {P : Jvm.Cond → Bool} (h1 : L.all (fun c => isCode c || P c) = true) (h2 : ∀ c ∈ L.filter isCode, P c = true) : L.all P = true := by
  refine List.all_eq_true.mpr fun c hc => ?_
  have h := List.all_eq_true.mp h1 c hc
  rcases Bool.eq_false_or_eq_true (isCode c) with hi | hi
  · exact h2 c (List.mem_filter.mpr ⟨hc, hi⟩)
  · simpa [hi] using h
set_option maxRecDepth 65536 in
theorem w_c0 : (Jvm.Cond.code x code maxLocals ret).before args0 about1 = true := code_word (m := ⟨1, 1⟩) (meth := k1m1) (c := k1c1) (by decide +kernel) rfl rfl rfl (by decide +kernel)
set_option maxRecDepth 65536 in
theorem w_c1 : (Jvm.Cond.code ({ cls := "com/example/hatua/hatua/KindIsModalPinLaw", name := "kindOf", desc := "(I)Lcom/example/hatua/hatua/Formula$Kind;" } : Jvm.MethodName) method_3_code (1 : Nat) (Option.some (Jvm.ClassFile.FieldType.object "com/example/hatua/hatua/Formula$Kind"))).before args0 about1 = true := code_word (m := ⟨1, 2⟩) (meth := k1m2) (c := k1c2) (by decide +kernel) rfl rfl rfl (by decide +kernel)
set_option maxRecDepth 65536 in
theorem w_c2 : (Jvm.Cond.code ({ cls := "com/example/hatua/hatua/Formula$Kind", name := "isModal", desc := "()Z" } : Jvm.MethodName) prog_64_method_5_code (1 : Nat) (Option.some Jvm.ClassFile.FieldType.boolean)).before args0 about1 = true := code_word (m := ⟨6, 0⟩) (meth := k6m0) (c := k6c0) (by decide +kernel) rfl rfl rfl (by decide +kernel)
def codes1 : List Jvm.Cond := [Jvm.Cond.code x code maxLocals ret, Jvm.Cond.code ({ cls := "com/example/hatua/hatua/KindIsModalPinLaw", name := "kindOf", desc := "(I)Lcom/example/hatua/hatua/Formula$Kind;" } : Jvm.MethodName) method_3_code (1 : Nat) (Option.some (Jvm.ClassFile.FieldType.object "com/example/hatua/hatua/Formula$Kind")), Jvm.Cond.code ({ cls := "com/example/hatua/hatua/Formula$Kind", name := "isModal", desc := "()Z" } : Jvm.MethodName) prog_64_method_5_code (1 : Nat) (Option.some Jvm.ClassFile.FieldType.boolean)]
set_option maxRecDepth 65536 in
theorem codes_eq : words1.filter isCode = codes1 := rfl
theorem w_codes : ∀ c ∈ words1.filter isCode, c.before args0 about1 = true := by
  rw [codes_eq]
  intro c hc
  simp only [codes1, List.mem_cons, List.not_mem_nil, or_false] at hc
  rcases hc with rfl | rfl | rfl
  · exact w_c0
  · exact w_c1
  · exact w_c2
set_option maxRecDepth 65536 in
theorem w_t1 : (words1.take 24).all (fun c => isCode c || c.before args0 about1) = true := by decide +kernel
set_option maxRecDepth 65536 in
theorem w_t2 : (words1.drop 24).all (fun c => isCode c || c.before args0 about1) = true := by decide +kernel
theorem w_tables : (allAtoms (Jvm.Cond.code x code maxLocals ret :: tables_1)).before args0 about1 = true := by
  rw [allAtoms_all]
  show words1.all (fun c => c.before args0 about1) = true
  refine all_split ?_ w_codes
  rw [← List.take_append_drop 24 words1, List.all_append, w_t1, w_t2]
  rfl
set_option maxRecDepth 65536 in
theorem w_case : (Jvm.Cond.and given_1 narrow_1).before args0 about1 = true := by decide +kernel
theorem w_applies : (headSpec (Jvm.Cond.code x code maxLocals ret :: tables_1) room_1).applies x e0.platform about1 = true :=
  (Spec.applies_iff w_frames).mpr ⟨w_running, w_runnable, w_alone, w_named, w_hears, w_ripe, w_room, w_tables⟩
theorem atStart : AtStart classFile x code maxLocals ret World_1 tables_1 room_1 Calls_1 rest_1 Pre_1 launch0 p0 e0 about1 theMethod args0 below0 :=
  ⟨lists_1, trivial, launch0.admits_env _ _ _, launch0.least_env, fairChoices_fair.cas, fairChoices_fair.clock, w_frames, w_args, w_heap, w_applies, trivial, trivial, w_case⟩
end start1
theorem witness_1 : WitnessClaimed_1 := ⟨start1.p0, start1.e0, start1.about1, start1.theMethod, start1.args0, start1.below0, start1.atStart⟩
end Jvm.Pilot.@@N@@
